/- Numbers of bytes: what the plain functions of the laws on rows of three compute. -/
import Derived.Test.YtckdpckdabfkbabDoorPAx
import Derived.Test.YtckdpckdabfkbabDoorRow16
import Derived.Test.YtckdpckdabfkbabDoorMorph
namespace Go.Proofs.YtckdpckdabfkbabDoor.Num
open Go.RowKit Go.Proofs.YtckdpckdabfkbabDoorW.PrintWords Go.Proofs.YtckdpckdabfkbabDoor.Plain Go.Proofs.YtckdpckdabfkbabDoor.PA
set_option linter.unusedVariables false

theorem valb_app : ∀ (a b : List Int), valb (a ++ b) = valb a + valb b * 256 ^ a.length
  | [], b => by simp [valb]
  | x :: a, b => by
    simp only [List.cons_append, valb, valb_app a b, List.length_cons, Int.pow_succ]
    rw [Int.mul_add, ← Int.add_assoc, Int.mul_left_comm, Int.mul_comm 256 (256 ^ _)]
theorem valb_lt : ∀ l : List Int, (∀ x ∈ l, 0 ≤ x ∧ x < 256) → 0 ≤ valb l ∧ valb l < 256 ^ l.length
  | [], _ => by simp [valb]
  | x :: l, h => by
    have h1 := valb_lt l (fun y hy => h y (List.mem_cons_of_mem _ hy))
    have h2 := h x List.mem_cons_self
    simp only [valb, List.length_cons, Int.pow_succ]
    omega
theorem rd_get (l : List Int) (i : Nat) (h : i < l.length) : rd l (i : Int) = l[i] := by simp [rd, h]
theorem Int.pow_le_pow_right' {i j : Nat} (h : i ≤ j) : (256 : Int) ^ i ≤ 256 ^ j := by
  obtain ⟨k, rfl⟩ : ∃ k, j = i + k := ⟨j - i, by omega⟩
  rw [Int.pow_add]
  have h1 : (0 : Int) < 256 ^ i := Int.pow_pos (by decide)
  have h2 : (0 : Int) < 256 ^ k := Int.pow_pos (by decide)
  have := Int.mul_le_mul_of_nonneg_left (show (1 : Int) ≤ 256 ^ k by omega) (show (0 : Int) ≤ 256 ^ i by omega)
  omega
theorem pow_eq (i : Nat) : (2 : Int) ^ (8 * i) = 256 ^ i := by
  rw [Int.pow_mul]; rfl
theorem or_low (i : Nat) (y x : Int) (hi : 8 * i + 8 ≤ 64) (h0 : 0 ≤ y) (h1 : y < 256 ^ i) (g0 : 0 ≤ x) (g1 : x < 256) : bits .or .u64 y (x * 256 ^ i) = y + x * 256 ^ i := by
  have hp : (256 : Int) ^ i * 256 ≤ 18446744073709551616 := by
    have : (256 : Int) ^ i * 256 = 2 ^ (8 * i + 8) := by rw [Int.pow_add, pow_eq]; rfl
    rw [this]
    have : (18446744073709551616 : Int) = 2 ^ 64 := by decide
    rw [this]
    exact_mod_cast Nat.pow_le_pow_right (by decide) hi
  have hp0 : (0 : Int) < 256 ^ i := Int.pow_pos (by decide)
  have hm : x * 256 ^ i ≤ 255 * 256 ^ i := Int.mul_le_mul_of_nonneg_right (by omega) (by omega)
  have hm0 : 0 ≤ x * 256 ^ i := Int.mul_nonneg g0 (by omega)
  refine bits_join_low .u64 64 (by decide) (fun n h0 h1 => wraps_u64 n h0 h1) (8 * i) y (x * 256 ^ i) h0 (by rw [pow_eq]; exact h1) ?_ hm0 (by rw [pow_eq]; exact Int.mul_emod_left _ _) ?_
  · have : (2 : Int) ^ 64 = 18446744073709551616 := by decide
    rw [this]; omega
  · have : (2 : Int) ^ 64 = 18446744073709551616 := by decide
    rw [this]; omega
/-- Is the number that stands ahead not larger than what there is? -/
def sizedB (data : List Int) : Bool := decide (data.length < 8) || decide (valb (data.take 8) ≤ data.length)
theorem sized_ev (data : List Int) (hb : ∀ x ∈ data, 0 ≤ x ∧ x < 256) (hn : data.length ≤ 1000000000000) : Ev (fun k => impl_sized.f k data) (sizedB data) := by
  by_cases h8 : (data.length : Int) < 8
  · refine Ev.congr (f := fun _ => some true) (fun k => by unfold impl_sized.f; rw [if_pos h8]) ?_
    have : sizedB data = true := by
      unfold sizedB
      rw [decide_eq_true (show data.length < 8 by omega), Bool.true_or]
    rw [this]
    exact Ev.now _
  · have loop : ∀ (d i : Nat), 8 - i = d → i ≤ 8 → Ev (fun k => impl_sized.l0 k data (valb (data.take i)) (i : Int)) (sizedB data) := by
      intro d
      induction d with
      | zero =>
        intro i hd hi
        obtain rfl : i = 8 := by omega
        refine Ev.step (f := fun _ => some (sizedB data)) (fun k => ?_) (Ev.now _)
        simp only [impl_sized.l0]
        rw [if_neg (by omega)]
        have : IntKind.u64.wrap (data.length : Int) = data.length := by rw [wrapu]; omega
        rw [this]
        unfold sizedB
        have h1 : decide (data.length < 8) = false := decide_eq_false (by omega)
        rw [h1, Bool.false_or]
      | succ d ih =>
        intro i hd hi
        have hlt : i < data.length := by omega
        have hx := hb _ (List.getElem_mem hlt)
        have hv := valb_lt (data.take i) (fun x hx => hb x (List.mem_of_mem_take hx))
        rw [List.length_take, Nat.min_eq_left (by omega)] at hv
        have e1 : wrap64 ((i : Int) + 1) = ((i + 1 : Nat) : Int) := by rw [wrap_ok (by omega) (by omega)]; omega
        have e2 : wrap64 (8 * (i : Int)) = ((8 * i : Nat) : Int) := by rw [wrap_ok (by omega) (by omega)]; omega
        have e3 : IntKind.u64.wrap data[i] = data[i] := by rw [wrapu]; omega
        have e4 : shl .u64 data[i] ((8 * i : Nat) : Int) = data[i] * 256 ^ i := by
          unfold shl
          rw [Int.toNat_natCast, show min (8 * i) (IntKind.u64.bits) = 8 * i from Nat.min_eq_left (by simp [IntKind.bits]; omega), pow_eq, wrapu]
          have hp : (256 : Int) ^ i ≤ 72057594037927936 := by
            have : (72057594037927936 : Int) = 256 ^ 7 := by decide
            rw [this]
            exact Int.pow_le_pow_right' (by omega)
          have hp0 : (0 : Int) < 256 ^ i := Int.pow_pos (by decide)
          have hm : data[i] * 256 ^ i ≤ 255 * 256 ^ i := Int.mul_le_mul_of_nonneg_right (by omega) (by omega)
          have hm0 : 0 ≤ data[i] * 256 ^ i := Int.mul_nonneg (by omega) (by omega)
          omega
        have e5 : valb (data.take (i + 1)) = valb (data.take i) + data[i] * 256 ^ i := by
          rw [List.take_succ_eq_append_getElem hlt, valb_app, List.length_take, Nat.min_eq_left (by omega)]
          simp [valb]
        refine Ev.step (fun k => ?_) (ih (i + 1) (by omega) (by omega))
        simp only [impl_sized.l0]
        rw [if_pos (by omega), if_pos (by omega), if_pos (by omega), e2, if_pos (by omega), rd_get _ _ hlt, e3, e4, or_low i _ _ (by omega) hv.1 hv.2 hx.1 hx.2, e1, e5]
    refine Ev.congr (f := fun k => impl_sized.l0 k data (valb (data.take 0)) ((0 : Nat) : Int)) (fun k => by unfold impl_sized.f; rw [if_neg h8]; rfl) (loop 8 0 rfl (by omega))

theorem take_ev (l : List Int) (hb : ∀ x ∈ l, 0 ≤ x ∧ x < 256) (hn : l.length = 8) : Ev (fun k => spec_dTake.f k l) (valb l) := by
  have loop : ∀ (i : Nat), i ≤ 8 → Ev (fun k => spec_dTake.l0 k l (valb (l.drop i)) ((i : Int) - 1)) (valb l) := by
    intro i
    induction i with
    | zero =>
      intro _
      refine Ev.step (f := fun _ => some (valb l)) (fun k => ?_) (Ev.now _)
      simp only [spec_dTake.l0]
      rw [if_neg (by omega)]
      simp
    | succ i ih =>
      intro hi
      have hlt : i < l.length := by omega
      have hx := hb _ (List.getElem_mem hlt)
      have hv := valb_lt (l.drop (i + 1)) (fun x hx => hb x (List.mem_of_mem_drop hx))
      have hp := Int.pow_le_pow_right' (show (l.drop (i + 1)).length ≤ 7 by simp; omega)
      have hp7 : (256 : Int) ^ 7 = 72057594037927936 := by decide
      rw [hp7] at hp
      have e0 : (((i + 1 : Nat) : Int) - 1) = (i : Int) := by omega
      have e1 : wrap64 ((i : Int) - 1) = (i : Int) - 1 := by rw [wrap_ok (by omega) (by omega)]
      have e2 : IntKind.u64.wrap (valb (l.drop (i + 1)) * 256) = valb (l.drop (i + 1)) * 256 := by rw [wrapu]; omega
      have e3 : IntKind.u64.wrap l[i] = l[i] := by rw [wrapu]; omega
      have e4 : bits .or .u64 (valb (l.drop (i + 1)) * 256) l[i] = valb (l.drop (i + 1)) * 256 + l[i] := by
        refine bits_join .u64 64 (by decide) (fun n h0 h1 => wraps_u64 n h0 h1) 8 _ _ (by omega) ?_ ?_ hx.1 ?_ ?_
        · have : (2 : Int) ^ 8 = 256 := by decide
          rw [this]; omega
        · have : (2 : Int) ^ 64 = 18446744073709551616 := by decide
          rw [this]; omega
        · have : (2 : Int) ^ 8 = 256 := by decide
          rw [this]; omega
        · have : (2 : Int) ^ 64 = 18446744073709551616 := by decide
          rw [this]; omega
      have e5 : valb (l.drop i) = valb (l.drop (i + 1)) * 256 + l[i] := by
        rw [List.drop_eq_getElem_cons hlt, valb]; omega
      rw [e0]
      refine Ev.step (fun k => ?_) (ih (by omega))
      simp only [spec_dTake.l0]
      rw [if_pos (by omega), if_pos (by omega), if_pos (by omega), rd_get _ _ hlt, e2, e3, e4, e1, e5]
  refine Ev.congr (f := fun k => spec_dTake.l0 k l (valb (l.drop 8)) (((8 : Nat) : Int) - 1)) (fun k => ?_) (loop 8 (Nat.le_refl _))
  unfold spec_dTake.f
  rw [hn, List.drop_eq_nil_of_le (by omega), wrap_ok (by omega) (by omega)]
  rfl
theorem i16_wrap (n : Int) : IntKind.i16.wrap n = (n + 32768) % 65536 - 32768 := by
  simp [IntKind.wrap, IntKind.bits, IntKind.signed]
  omega
theorem short_eq (l : List Int) (hb : ∀ x ∈ l, 0 ≤ x ∧ x < 256) (hn : 2 ≤ l.length) : spec_dShort.f l = some (IntKind.i16.wrap (valb (l.take 2))) := by
  match l, hn with
  | x :: y :: r, _ =>
    have hx := hb x (by simp)
    have hy := hb y (by simp)
    have r0 : rd (x :: y :: r) 0 = x := rfl
    have r1 : rd (x :: y :: r) 1 = y := rfl
    have ev : valb ((x :: y :: r).take 2) = x + 256 * y := by simp [valb]
    have e : bits .or .i64 x (y * 256) = x + y * 256 := by
      refine bits_join_low .i64 63 (by decide) (fun n h0 h1 => ?_) 8 x (y * 256) hx.1 ?_ ?_ (by omega) ?_ ?_
      · have : (2 : Int) ^ 63 = 9223372036854775808 := by decide
        rw [this] at h1
        rw [IntKind.wrap_i64]; omega
      · have : (2 : Int) ^ 8 = 256 := by decide
        rw [this]; omega
      · have : (2 : Int) ^ 63 = 9223372036854775808 := by decide
        rw [this]; omega
      · have : (2 : Int) ^ 8 = 256 := by decide
        rw [this]; omega
      · have : (2 : Int) ^ 63 = 9223372036854775808 := by decide
        rw [this]; omega
    unfold spec_dShort.f
    rw [if_pos (by simp; omega), if_pos (by simp; omega), r0, r1, wrap_ok (i := x) (by omega) (by omega), wrap_ok (i := y) (by omega) (by omega), wrap_ok (i := y * 256) (by omega) (by omega), e, ev, i16_wrap]
    by_cases h : x + y * 256 ≥ 32768
    · rw [if_pos h, wrap_ok (by omega) (by omega)]
      congr 1; omega
    · rw [if_neg h]
      congr 1; omega
end Go.Proofs.YtckdpckdabfkbabDoor.Num
