/- What the reference says of a table of costs. -/
import Derived.Test.YtckdpckdabfkbaaDoorConnV
namespace Go.Proofs.YtckdpckdabfkbaaDoor.Num
open Go.RowKit Go.Proofs.YtckdpckdabfkbaaDoorW.PrintWords Go.Proofs.YtckdpckdabfkbaaDoor.Plain Go.Proofs.YtckdpckdabfkbaaDoor.PA
set_option linter.unusedVariables false
set_option linter.unusedSimpArgs false

theorem dBytes_ev (n : Nat) (hn : n ≤ 8) (u : Int) : Ev (fun k => spec_dBytes.f k u (n : Int)) (leb n u) := by
  have loop : ∀ (d i : Nat) (x : Int) (acc : List Int), n - i = d → i ≤ n → acc.length = i → Ev (fun k => spec_dBytes.l0 k x acc (n : Int) (i : Int)) (acc ++ leb (n - i) x) := by
    intro d
    induction d with
    | zero =>
      intro i x acc hd hi ha
      obtain rfl : i = n := by omega
      refine Ev.step (f := fun _ => some acc) (fun k => by simp only [spec_dBytes.l0]; rw [if_neg (by omega)]) ?_
      rw [Nat.sub_self]
      simp only [leb, List.append_nil]
      exact Ev.now _
    | succ d ih =>
      intro i x acc hd hi ha
      have h1 := ih (i + 1) (x / 256) (acc ++ [x % 256]) (by omega) (by omega) (by simp [ha])
      have e1 : wrap64 ((i : Int) + 1) = ((i + 1 : Nat) : Int) := by rw [wrap_ok (by omega) (by omega)]; omega
      have e2 : acc ++ leb (n - i) x = acc ++ [x % 256] ++ leb (n - (i + 1)) (x / 256) := by
        rw [show n - i = (n - (i + 1)) + 1 by omega]
        simp [leb]
      rw [e2]
      refine Ev.step (fun k => ?_) h1
      simp only [spec_dBytes.l0]
      rw [if_pos (by omega), if_pos (by omega), e1]
  have := loop n 0 u [] rfl (by omega) rfl
  simpa [spec_dBytes.f] using this
def sm (x : Int) : Prop := -32768 ≤ x ∧ x < 32768
def tl (a0 a1 : Int) (l : List Int) (a3 a4 : Int) : Option (Int × List Int × Int × Bool) :=
  if a3 < 0 then some (0, [], 1, true) else if a3 ≥ a0 then some (0, [], 1, true) else if a4 < 0 then some (0, [], 1, true) else if a4 ≥ a1 then some (0, [], 1, true) else
  if 0 ≤ wrap64 (wrap64 (a0 * a4) + a3) then if wrap64 (wrap64 (a0 * a4) + a3) < (l.length : Int) then some (rd l (wrap64 (wrap64 (a0 * a4) + a3)), wct a0 a1 l l.length, 0, true) else none else none
theorem conn_loop (a0 a1 : Int) (l : List Int) (a3 a4 : Int) (hl : l.length ≤ 100000) : ∀ (d i : Nat), l.length - i = d → i ≤ l.length → (∀ x ∈ l.take i, sm x) →
    Ev (fun k => spec_ConnectionAt.l0 k a0 a1 l a3 a4 (wct a0 a1 l i) l (l.length : Int) (i : Int)) (0, [], 0, false) ∨
    ((∀ x ∈ l, sm x) ∧ ∀ r, tl a0 a1 l a3 a4 = some r → Ev (fun k => spec_ConnectionAt.l0 k a0 a1 l a3 a4 (wct a0 a1 l i) l (l.length : Int) (i : Int)) r) := by
  intro d
  induction d with
  | zero =>
    intro i hd hi hs
    obtain rfl : i = l.length := by omega
    rw [List.take_of_length_le (Nat.le_refl _)] at hs
    refine .inr ⟨hs, fun r hr => Ev.step (f := fun _ => tl a0 a1 l a3 a4) (fun k => ?_) (by rw [hr]; exact Ev.now _)⟩
    simp only [spec_ConnectionAt.l0]
    rw [if_neg (by omega)]
    rfl
  | succ d ih =>
    intro i hd hi hs
    have hlt : i < l.length := by omega
    have er : rd l (i : Int) = l[i] := by simp [rd, hlt]
    have e1 : wrap64 ((i : Int) + 1) = ((i + 1 : Nat) : Int) := by rw [wrap_ok (by omega) (by omega)]; omega
    by_cases hx : sm l[i]
    · have hd16 : spec_d16.f l[i] = some true := by
        unfold spec_d16.f
        rw [if_pos (by have := hx.1; omega)]
        rw [decide_eq_true (by have := hx.2; omega)]
      have hB := dBytes_ev 2 (by decide) (l[i] % 18446744073709551616)
      have hw : wct a0 a1 l i ++ leb 2 (l[i] % 18446744073709551616) = wct a0 a1 l (i + 1) := (wct_succ a0 a1 l i _ (List.getElem?_eq_getElem hlt)).symm
      have st : ∀ k, spec_ConnectionAt.l0 (k + 1) a0 a1 l a3 a4 (wct a0 a1 l i) l (l.length : Int) (i : Int) =
          (spec_dBytes.f k (l[i] % 18446744073709551616) ((2 : Nat) : Int)).bind fun t => if (wct a0 a1 l i).length + t.length < 140737488355328 then spec_ConnectionAt.l0 k a0 a1 l a3 a4 (wct a0 a1 l i ++ t) l (l.length : Int) ((i + 1 : Nat) : Int) else none := fun k => by
        simp only [spec_ConnectionAt.l0]
        rw [if_pos (by omega), if_pos (by omega), if_pos (by omega), er, hd16, Option.bind_some, if_pos rfl, wrapu, e1]
        rfl
      have hlen : (wct a0 a1 l i).length + (leb 2 (l[i] % 18446744073709551616)).length < 140737488355328 := by rw [wct_len, leb_length]; omega
      rcases ih (i + 1) (by omega) (by omega) (fun x hx' => by
        rw [List.take_succ_eq_append_getElem hlt] at hx'
        rcases List.mem_append.1 hx' with h | h
        · exact hs x h
        · rw [List.mem_singleton] at h; rw [h]; exact hx) with h | ⟨h1, h2⟩
      · exact .inl (Ev.step st (Ev.bind hB (evp hlen (by rw [hw]; exact h))))
      · exact .inr ⟨h1, fun r hr => Ev.step st (Ev.bind hB (evp hlen (by rw [hw]; exact h2 r hr)))⟩
    · have hd16 : spec_d16.f l[i] = some false := by
        unfold spec_d16.f
        by_cases h : l[i] ≥ -32768
        · rw [if_pos h, decide_eq_false (fun h2 => hx ⟨by omega, h2⟩)]
        · rw [if_neg h]
      refine .inl (Ev.step (f := fun _ => some (0, [], 0, false)) (fun k => ?_) (Ev.now _))
      simp only [spec_ConnectionAt.l0]
      rw [if_pos (by omega), if_pos (by omega), if_pos (by omega), er, hd16, Option.bind_some, if_neg (by decide)]

/-- What the reference answers. -/
def SC (a0 a1 : Int) (l : List Int) (a3 a4 : Int) (r : Int × List Int × Int × Bool) : Prop :=
  (r.2.2.2 = false) ∨ (r.2.2 = (1, true) ∧ Bad a0 a1 l.length a3 a4) ∨
  (∃ R C p q : Nat, a0 = R ∧ a1 = C ∧ a3 = p ∧ a4 = q ∧ 1 ≤ R ∧ R ≤ 64 ∧ 1 ≤ C ∧ C ≤ 64 ∧ l.length = R * C ∧ p < R ∧ q < C ∧ ∃ h : R * q + p < l.length, r = ((w16 l)[R * q + p]'(by rw [w16_len]; exact h), wct R C (w16 l) l.length, 0, true))
theorem sm_w16 {l : List Int} (h : ∀ x ∈ l, sm x) : w16 l = l := by
  unfold w16
  conv => rhs; rw [← List.map_id l]
  exact List.map_congr_left fun x hx => by
    have := h x hx
    rw [i16_wrap']
    unfold sm at this
    show _ = x
    omega
theorem place_lt {R C p q : Nat} (hp : p < R) (hq : q < C) : R * q + p < R * C := by
  have : R * (q + 1) ≤ R * C := Nat.mul_le_mul_left R hq
  rw [Nat.mul_add, Nat.mul_one] at this
  omega
section
variable (k : Nat) (x0 x1 : Int) (x2 : List Int) (x3 x4 : Int)
theorem j0_true : spec_ConnectionAt.j0 (k + 1) x0 x1 x2 x3 x4 true = some (0, ([] : List Int), 0, false) := by
  simp only [spec_ConnectionAt.j0, if_true]
theorem j1_true : spec_ConnectionAt.j1 (k + 1) x0 x1 x2 x3 x4 true = some (0, ([] : List Int), 1, true) := by
  simp only [spec_ConnectionAt.j1, if_true]
theorem j0_false : spec_ConnectionAt.j0 (k + 1) x0 x1 x2 x3 x4 false = if x0 > 64 then spec_ConnectionAt.j1 k x0 x1 x2 x3 x4 true else spec_ConnectionAt.j1 k x0 x1 x2 x3 x4 (decide (x1 > 64)) := by
  simp only [spec_ConnectionAt.j0, Bool.false_eq_true, if_false]
theorem j1_false : spec_ConnectionAt.j1 (k + 1) x0 x1 x2 x3 x4 false = (spec_dBytes.f k (IntKind.u64.wrap x0) 8).bind fun t => (spec_dBytes.f k (IntKind.u64.wrap x1) 8).bind fun s =>
    if t.length + s.length < 140737488355328 then spec_ConnectionAt.l0 k x0 x1 x2 x3 x4 (t ++ s) x2 (x2.length : Int) 0 else none := by
  simp only [spec_ConnectionAt.j1, Bool.false_eq_true, if_false]
end
theorem tl_ok (R C p q : Nat) (l : List Int) (hl : l.length ≤ 400) (hp : p < R) (hq : q < C) (hi : R * q + p < l.length) : tl R C l p q = some (l[R * q + p], wct R C l l.length, 0, true) := by
  obtain ⟨m, hm⟩ : ∃ m, m = R * q := ⟨_, rfl⟩
  have e : (R : Int) * (q : Int) = (m : Int) := by rw [hm]; simp
  simp only [← hm] at hi ⊢
  have m1 : wrap64 (m : Int) = m := wrap_ok (by omega) (by omega)
  have m2 : wrap64 ((m : Int) + (p : Int)) = ((m + p : Nat) : Int) := by rw [wrap_ok (by omega) (by omega)]; omega
  have er : rd l ((m + p : Nat) : Int) = l[m + p] := by
    simp only [rd, Int.toNat_natCast]; rw [List.getD_eq_getElem?_getD, List.getElem?_eq_getElem hi]; rfl
  unfold tl
  rw [if_neg (by omega), if_neg (by omega), if_neg (by omega), if_neg (by omega), e, m1, m2, if_pos (by omega), if_pos (by omega), er]
theorem tup_eq (R C : Int) (l l' : List Int) (h : l' = l) (i : Nat) (hi : i < l.length) (hi' : i < l'.length) : (l[i], wct R C l l.length, (0 : Int), true) = (l'[i], wct R C l' l.length, (0 : Int), true) := by
  subst h
  rfl
set_option maxHeartbeats 2000000 in
theorem conn_ev (a0 a1 : Int) (l : List Int) (a3 a4 : Int) (hl : l.length ≤ 400) : ∃ r, Ev (fun k => spec_ConnectionAt.f k a0 a1 l a3 a4) r ∧ SC a0 a1 l a3 a4 r := by
  have no : ∀ (f : Nat → Option (Int × List Int × Int × Bool)), (∀ k, f (k + 1) = some (0, [], 0, false)) → ∃ r, Ev f r ∧ SC a0 a1 l a3 a4 r := fun f h =>
    ⟨(0, [], 0, false), Ev.step (f := fun _ => some (0, [], 0, false)) h (Ev.now _), .inl rfl⟩
  by_cases b0 : a0 < 1
  · exact no _ fun k => by unfold spec_ConnectionAt.f; rw [if_pos b0]; exact j0_true _ _ _ _ _ _
  by_cases b1 : a1 < 1
  · exact no _ fun k => by unfold spec_ConnectionAt.f; rw [if_neg b0, if_pos b1]; exact j0_true _ _ _ _ _ _
  by_cases b2 : a0 > 300
  · exact no _ fun k => by unfold spec_ConnectionAt.f; rw [if_neg b0, if_neg b1, if_pos b2]; exact j0_true _ _ _ _ _ _
  by_cases b3 : a1 > 300
  · exact no _ fun k => by unfold spec_ConnectionAt.f; rw [if_neg b0, if_neg b1, if_neg b2, if_pos b3]; exact j0_true _ _ _ _ _ _
  obtain ⟨R, rfl⟩ := Int.eq_ofNat_of_zero_le (show 0 ≤ a0 by omega)
  obtain ⟨C, rfl⟩ := Int.eq_ofNat_of_zero_le (show 0 ≤ a1 by omega)
  have hmul : R * C ≤ 300 * 300 := Nat.mul_le_mul (by omega) (by omega)
  have hw : wrap64 ((R : Int) * C) = ((R * C : Nat) : Int) := by
    have e : ((R * C : Nat) : Int) = (R : Int) * C := by simp
    rw [← e, wrap_ok (by omega) (by omega)]
  by_cases b4 : (l.length : Int) ≠ ((R * C : Nat) : Int)
  · exact no _ fun k => by
      unfold spec_ConnectionAt.f
      rw [if_neg b0, if_neg b1, if_neg b2, if_neg b3, hw, bne_iff_ne.2 b4]; exact j0_true _ _ _ _ _ _
  have hlen : l.length = R * C := by omega
  have hb4 : ((l.length : Int) != ((R * C : Nat) : Int)) = false := by simpa using b4
  have f1 : ∀ k, spec_ConnectionAt.f k R C l a3 a4 = spec_ConnectionAt.j0 k R C l a3 a4 false := fun k => by
    unfold spec_ConnectionAt.f
    rw [if_neg b0, if_neg b1, if_neg b2, if_neg b3, hw, hb4]
  by_cases b5 : (R : Int) > 64 ∨ (C : Int) > 64
  · refine ⟨(0, [], 1, true), Ev.congr f1 (Ev.step (f := fun k => spec_ConnectionAt.j1 k R C l a3 a4 true) (fun k => ?_) (Ev.step (f := fun _ => some (0, [], 1, true)) (fun k => ?_) (Ev.now _))), .inr (.inl ⟨rfl, ?_⟩)⟩
    · rw [j0_false]
      by_cases h : (R : Int) > 64
      · rw [if_pos h]
      · rw [if_neg h, decide_eq_true (by rcases b5 with b5 | b5; exact absurd b5 h; exact b5)]
    · exact j1_true _ _ _ _ _ _
    · unfold Bad; omega
  have hR : ¬ (R : Int) > 64 := fun h => b5 (.inl h)
  have hC : ¬ (C : Int) > 64 := fun h => b5 (.inr h)
  have hBR := dBytes_ev 8 (by decide) ((R : Int) % 18446744073709551616)
  have hBC := dBytes_ev 8 (by decide) ((C : Int) % 18446744073709551616)
  have f2 : ∀ k, spec_ConnectionAt.j0 (k + 1) R C l a3 a4 false = spec_ConnectionAt.j1 k R C l a3 a4 false := fun k => by
    rw [j0_false, if_neg hR, decide_eq_false hC]
  have f3 : ∀ k, spec_ConnectionAt.j1 (k + 1) R C l a3 a4 false = (spec_dBytes.f k ((R : Int) % 18446744073709551616) ((8 : Nat) : Int)).bind fun t => (spec_dBytes.f k ((C : Int) % 18446744073709551616) ((8 : Nat) : Int)).bind fun s =>
      if t.length + s.length < 140737488355328 then spec_ConnectionAt.l0 k R C l a3 a4 (t ++ s) l (l.length : Int) ((0 : Nat) : Int) else none := fun k => by
    rw [j1_false, wrapu, wrapu]
    rfl
  have hl0 : (leb 8 ((R : Int) % 18446744073709551616)).length + (leb 8 ((C : Int) % 18446744073709551616)).length < 140737488355328 := by simp [leb_length]
  have hw0 : leb 8 ((R : Int) % 18446744073709551616) ++ leb 8 ((C : Int) % 18446744073709551616) = wct R C l 0 := by simp [wct]
  have fin : ∀ r, Ev (fun k => spec_ConnectionAt.l0 k R C l a3 a4 (wct R C l 0) l (l.length : Int) ((0 : Nat) : Int)) r → Ev (fun k => spec_ConnectionAt.f k R C l a3 a4) r := fun r h =>
    Ev.congr f1 (Ev.step f2 (Ev.step f3 (Ev.bind hBR (Ev.bind hBC (evp hl0 (by rw [hw0]; exact h))))))
  rcases conn_loop R C l a3 a4 (by omega) l.length 0 (by omega) (by omega) (by simp) with h | ⟨hsm, h⟩
  · exact ⟨_, fin _ h, .inl rfl⟩
  · by_cases hbad : a3 < 0 ∨ a3 ≥ R ∨ a4 < 0 ∨ a4 ≥ C
    · refine ⟨(0, [], 1, true), fin _ (h _ ?_), .inr (.inl ⟨rfl, ?_⟩)⟩
      · unfold tl
        by_cases k0 : a3 < 0
        · rw [if_pos k0]
        rw [if_neg k0]
        by_cases k1 : a3 ≥ (R : Int)
        · rw [if_pos k1]
        rw [if_neg k1]
        by_cases k2 : a4 < 0
        · rw [if_pos k2]
        rw [if_neg k2, if_pos (by omega)]
      · unfold Bad; omega
    · obtain ⟨p, rfl⟩ := Int.eq_ofNat_of_zero_le (show 0 ≤ a3 by omega)
      obtain ⟨q, rfl⟩ := Int.eq_ofNat_of_zero_le (show 0 ≤ a4 by omega)
      have hp : p < R := Int.ofNat_lt.1 (Int.not_le.1 fun h => hbad (.inr (.inl h)))
      have hq : q < C := Int.ofNat_lt.1 (Int.not_le.1 fun h => hbad (.inr (.inr (.inr h))))
      have hi : R * q + p < l.length := by rw [hlen]; exact place_lt hp hq
      refine ⟨_, fin _ (h ((l[R * q + p]), wct R C l l.length, 0, true) (tl_ok R C p q l hl hp hq hi)), .inr (.inr ⟨R, C, p, q, rfl, rfl, rfl, rfl, by omega, by omega, by omega, by omega, hlen, hp, hq, hi, tup_eq R C l _ (sm_w16 hsm) _ hi _⟩)⟩
end Go.Proofs.YtckdpckdabfkbaaDoor.Num
