/- The guards and the plain parts of the laws on sentences. -/
import Derived.Test.YtckdpckdabfkbabDoorNw
import Derived.Laws.Runes
namespace Go.Proofs.YtckdpckdabfkbabDoor.Scan
open Go.RowKit Go.Proofs.YtckdpckdabfkbabDoorW.PrintWords Go.Proofs.YtckdpckdabfkbabDoor.Plain Go.Proofs.YtckdpckdabfkbabDoor.Num Go.Proofs.YtckdpckdabfkbabDoor.PC
set_option linter.unusedVariables false
set_option linter.unusedSimpArgs false
theorem u8_of (n : Nat) : ((n : Int).toNat.toUInt8) = UInt8.ofNat n := rfl
theorem enc_eq (n : Nat) (h : n ≤ 1114111) : Utf8.encode (n : Int) = ⟨(Lib.encodeRune n).toArray⟩ := by
  unfold Lib.encodeRune
  by_cases hv : Utf8.valid (n : Int) = true
  · have hv' := hv
    simp only [Utf8.valid, Bool.or_eq_true, Bool.and_eq_true, decide_eq_true_eq] at hv'
    by_cases h1 : n < 128
    · rw [Lib.encodeRuneZ_one (by omega) (by omega)]
      simp only [Utf8.encode, hv, if_true, Int.toNat_natCast, h1]; rfl
    · by_cases h2 : n < 2048
      · rw [Lib.encodeRuneZ_two (by omega) (by omega)]
        simp only [Utf8.encode, hv, if_true, Int.toNat_natCast, h1, h2, if_false]; rfl
      · by_cases h3 : n < 65536
        · rw [Lib.encodeRuneZ_three (by omega)]
          simp only [Utf8.encode, hv, if_true, Int.toNat_natCast, h1, h2, h3, if_false]; rfl
        · rw [Lib.encodeRuneZ_four (by omega) (by omega)]
          simp only [Utf8.encode, hv, if_true, Int.toNat_natCast, h1, h2, h3, if_false]; rfl
  · have hv' := hv
    simp only [Utf8.valid, Bool.or_eq_true, Bool.and_eq_true, decide_eq_true_eq] at hv'
    rw [Lib.encodeRuneZ_bad (by omega)]
    have hv2 : Utf8.valid (n : Int) = false := by simpa using hv
    simp only [Utf8.encode, hv2, Bool.false_eq_true, if_false]; rfl
theorem rune_bytes {D : ByteArray} {p r sz : Nat} (hp : p < D.size) (hr : rn D p = (r, sz)) (hne : r ≠ 65533) : Utf8.encode (r : Int) = strOfNums (seg D p sz) := by
  have hs := rn_size D p hp
  rw [hr] at hs
  have hsz := rest_size D p
  have e0 : (⟨(rest D p).data.toList.toArray⟩ : ByteArray) = rest D p := by cases rest D p; rfl
  have ed : Lib.decodeL (rest D p).data.toList = (r, sz) := by
    unfold Lib.decodeL
    rw [e0]
    have := rn_rest (D := D) (n := p) (p := 0) (by omega)
    rw [Nat.add_zero, hr] at this
    exact this
  have hl : (rest D p).data.toList.length = D.size - p := by rw [← hsz]; rfl
  have := Lib.encode_decode (rest D p).data.toList (fun e => by rw [e] at hl; simp at hl; omega) (by rw [ed]; rintro ⟨h, _⟩; exact hne h)
  rw [ed] at this
  rw [enc_eq r hs.2.2, this]
  unfold strOfNums
  congr 2
  apply List.ext_getElem
  · simp only [List.length_take, List.length_map, seg_len, hl]; simp only at hs; omega
  · intro i h1 h2
    simp only [List.length_map, seg_len] at h2
    have h3 : i < (rest D p).data.size := by have : (rest D p).data.size = D.size - p := hsz; omega
    simp only [List.getElem_take, seg, List.getElem_map, List.getElem_range, by', Int.toNat_natCast]
    have h4 := ext_get D p i
    have h5 : (rest D p).get! i = (rest D p).data[i] := getElem!_pos (rest D p).data i h3
    have h6 : (rest D p).get! i = D.get! (p + i) := h4
    rw [← h6, h5]
    simp
/-- White space, as the laws say it. -/
def Wh (c : Int) : Prop := (9 ≤ c ∧ c ≤ 13) ∨ c = 32 ∨ c = 133 ∨ c = 160 ∨ c = 5760 ∨ (8192 ≤ c ∧ c ≤ 8202) ∨ c = 8232 ∨ c = 8233 ∨ c = 8239 ∨ c = 8287 ∨ c = 12288
instance (c : Int) : Decidable (Wh c) := by unfold Wh; infer_instance
theorem wh_space (r : Nat) : decide (Wh (r : Int)) = Lib.isSpaceZ r := by
  rw [Lib.isSpaceZ_nat, Bool.eq_iff_iff, decide_eq_true_iff]
  unfold Wh Lib.isSpaceR
  simp only [Bool.or_eq_true, Bool.and_eq_true, beq_iff_eq, decide_eq_true_eq]
  omega
theorem wh_t {c : Int} (h : Wh c) : (some true : Option Bool) = some (decide (Wh c)) := by rw [decide_eq_true h]
theorem wh_f {c : Int} (h : ¬ Wh c) : (some false : Option Bool) = some (decide (Wh c)) := by rw [decide_eq_false h]
theorem white_j1 (k : Nat) (c : Int) (h : ¬ (8192 ≤ c ∧ c ≤ 8202)) (h2 : ¬ (9 ≤ c ∧ c ≤ 13)) (h3 : ¬ c = 32) (h4 : ¬ c = 133) (h5 : ¬ c = 160) (h6 : ¬ c = 5760) : laws_white.j1 (k + 1) c false = some (decide (Wh c)) := by
  rw [laws_white.j1, if_neg (by simp)]
  by_cases a1 : c = 8232
  · rw [if_pos a1]; exact wh_t (by unfold Wh; omega)
  · by_cases a2 : c = 8233
    · rw [if_neg a1, if_pos a2]; exact wh_t (by unfold Wh; omega)
    · by_cases a3 : c = 8239
      · rw [if_neg a1, if_neg a2, if_pos a3]; exact wh_t (by unfold Wh; omega)
      · by_cases a4 : c = 8287
        · rw [if_neg a1, if_neg a2, if_neg a3, if_pos a4]; exact wh_t (by unfold Wh; omega)
        · by_cases a5 : c = 12288
          · rw [if_neg a1, if_neg a2, if_neg a3, if_neg a4, if_pos a5]; exact wh_t (by unfold Wh; omega)
          · rw [if_neg a1, if_neg a2, if_neg a3, if_neg a4, if_neg a5]; exact wh_f (by unfold Wh; omega)
theorem white_j0 (k : Nat) (c : Int) (h2 : ¬ (9 ≤ c ∧ c ≤ 13)) : laws_white.j0 (k + 2) c false = some (decide (Wh c)) := by
  rw [laws_white.j0, if_neg (by simp)]
  by_cases a1 : c = 32
  · rw [if_pos a1]; exact wh_t (by unfold Wh; omega)
  · by_cases a2 : c = 133
    · rw [if_neg a1, if_pos a2]; exact wh_t (by unfold Wh; omega)
    · by_cases a3 : c = 160
      · rw [if_neg a1, if_neg a2, if_pos a3]; exact wh_t (by unfold Wh; omega)
      · by_cases a4 : c = 5760
        · rw [if_neg a1, if_neg a2, if_neg a3, if_pos a4]; exact wh_t (by unfold Wh; omega)
        · rw [if_neg a1, if_neg a2, if_neg a3, if_neg a4]
          by_cases a5 : c ≥ 8192
          · rw [if_pos a5]
            by_cases a6 : c ≤ 8202
            · rw [decide_eq_true a6]; rw [laws_white.j1, if_pos rfl]; exact wh_t (by unfold Wh; omega)
            · rw [decide_eq_false a6]; exact white_j1 k c (by omega) h2 a1 a2 a3 a4
          · rw [if_neg a5]; exact white_j1 k c (by omega) h2 a1 a2 a3 a4
theorem white_ev (c : Int) : Ev (fun k => laws_white.f k c) (decide (Wh c)) := by
  refine ⟨2, fun k hk => ?_⟩
  obtain ⟨k, rfl⟩ : ∃ q, k = q + 2 := ⟨k - 2, by omega⟩
  show laws_white.f (k + 2) c = _
  unfold laws_white.f
  by_cases a1 : c ≥ 9
  · rw [if_pos a1]
    by_cases a2 : c ≤ 13
    · rw [decide_eq_true a2]; rw [laws_white.j0, if_pos rfl]; exact wh_t (by unfold Wh; omega)
    · rw [decide_eq_false a2]; exact white_j0 k c (by omega)
  · rw [if_neg a1]; exact white_j0 k c (by omega)
theorem valid_ev (c : Int) : ∃ r, Ev (fun k => utf8_ValidRune.f k c) r := by
  by_cases h0 : 0 ≤ c
  · by_cases h1 : c < 55296
    · refine ⟨true, 1, fun k hk => ?_⟩
      obtain ⟨k, rfl⟩ : ∃ q, k = q + 1 := ⟨k - 1, by omega⟩
      simp [utf8_ValidRune.f, utf8_ValidRune.j0, h0, h1]
    · by_cases h2 : 57343 < c
      · by_cases h3 : c ≤ 1114111
        · refine ⟨true, 1, fun k hk => ?_⟩
          obtain ⟨k, rfl⟩ : ∃ q, k = q + 1 := ⟨k - 1, by omega⟩
          simp [utf8_ValidRune.f, utf8_ValidRune.j0, h0, h1, h2, h3]
        · refine ⟨false, 1, fun k hk => ?_⟩
          obtain ⟨k, rfl⟩ : ∃ q, k = q + 1 := ⟨k - 1, by omega⟩
          simp [utf8_ValidRune.f, utf8_ValidRune.j0, h0, h1, h2, h3]
      · refine ⟨false, 1, fun k hk => ?_⟩
        obtain ⟨k, rfl⟩ : ∃ q, k = q + 1 := ⟨k - 1, by omega⟩
        simp [utf8_ValidRune.f, utf8_ValidRune.j0, h0, h1, h2]
  · refine ⟨false, 1, fun k hk => ?_⟩
    obtain ⟨k, rfl⟩ : ∃ q, k = q + 1 := ⟨k - 1, by omega⟩
    have : ¬ (57343 < c) := by omega
    simp [utf8_ValidRune.f, utf8_ValidRune.j0, h0, this]
theorem splits_ev (l m : List Int) (x y : Bool) (z : Int) (hl : l.length ≤ 2147483647) (hm : m.length ≤ 2147483647) : ∃ r, Ev (fun k => laws_splits.f k l m x y z) r := by
  have loop : ∀ (Y : List Int) (hY : Y.length ≤ 4294967294) (d i : Nat), Y.length - i = d → i ≤ Y.length → ∃ r, Ev (fun k => laws_splits.l0 k Y (Y.length : Int) (i : Int) l m x y z) r := by
    intro Y hY d
    induction d with
    | zero =>
      intro i hd hi
      obtain ⟨r, hr⟩ : ∃ r, (if (l.length : Int) ≤ 20 then (if (m.length : Int) ≤ 20 then (if z ≤ 1048576 then (some (decide (z ≥ (-1048576)))) else (some false)) else (some false)) else (some false)) = some r := by
        repeat' split
        all_goals exact ⟨_, rfl⟩
      exact ⟨r, Ev.step (f := fun _ => some r) (fun k => by simp only [laws_splits.l0]; rw [if_neg (by omega)]; exact hr) (Ev.now _)⟩
    | succ d ih =>
      intro i hd hi
      have hlt : i < Y.length := by omega
      obtain ⟨r1, h1⟩ := ih (i + 1) (by omega) (by omega)
      obtain ⟨r2, h2⟩ := valid_ev (rd Y (i : Int))
      have e1 : wrap64 ((i : Int) + 1) = ((i + 1 : Nat) : Int) := by rw [wrap_ok (by omega) (by omega)]; omega
      have st : ∀ k, laws_splits.l0 (k + 1) Y (Y.length : Int) (i : Int) l m x y z = (laws_white.f k (rd Y (i : Int))).bind fun t113 => (if t113 = true then (some false) else (if (rd Y (i : Int)) = 65533 then (some false) else ((utf8_ValidRune.f k (rd Y (i : Int))).bind fun t114 => (if t114 = true then (laws_splits.l0 k Y (Y.length : Int) ((i + 1 : Nat) : Int) l m x y z) else (some false))))) := fun k => by
        simp only [laws_splits.l0]; rw [if_pos (by omega), if_pos (by omega), if_pos (by omega), e1]
      by_cases c1 : Wh (rd Y (i : Int))
      · exact ⟨false, Ev.step st (Ev.bind (white_ev _) (by simp only [c1, decide_true, if_true]; exact Ev.now _))⟩
      · by_cases c2 : rd Y (i : Int) = 65533
        · exact ⟨false, Ev.step st (Ev.bind (white_ev _) (by simp only [c1, c2, decide_false, Bool.false_eq_true, if_false, if_true]; exact Ev.now _))⟩
        · cases r2 with
          | true => exact ⟨r1, Ev.step st (Ev.bind (white_ev _) (by simp only [c1, c2, decide_false, Bool.false_eq_true, if_false]; exact Ev.bind h2 (by simp only [if_true]; exact h1)))⟩
          | false => exact ⟨false, Ev.step st (Ev.bind (white_ev _) (by simp only [c1, c2, decide_false, Bool.false_eq_true, if_false]; exact Ev.bind h2 (by simp only [Bool.false_eq_true, if_false]; exact Ev.now _)))⟩
  obtain ⟨r, hr⟩ := loop (([] ++ l) ++ m) (by simp; omega) _ 0 rfl (Nat.zero_le _)
  refine ⟨r, Ev.congr (fun k => ?_) hr⟩
  simp only [laws_splits.f, Option.bind_some]
  rw [if_pos (by simp; omega), if_pos (by simp; omega)]
  rfl
theorem fits_f (l m : List Int) (x y : Bool) (z : Int) : laws_zzFits18.f l m x y z = some (decide (l.length ≤ 2147483647) && decide (m.length ≤ 2147483647)) := by
  unfold laws_zzFits18.f
  by_cases h1 : l.length ≤ 2147483647
  · by_cases h2 : m.length ≤ 2147483647
    · rw [if_neg (by omega), if_neg (by omega)]; simp [h1, h2]
    · rw [if_neg (by omega), if_pos (by omega)]; simp [h1, h2]
  · rw [if_pos (by omega)]; simp [h1]
theorem app_empty (x : ByteArray) : x ++ (⟨#[]⟩ : ByteArray) = x := by apply ByteArray.ext; simp
theorem catL_size : ∀ (L : List ByteArray) (a : ByteArray), a.size ≤ (catL a L).size
  | [], a => Nat.le_refl _
  | x :: r, a => by rw [catL]; have := catL_size r (a ++ x); rw [ByteArray.size_append] at this; omega
theorem joined_ev (L : List ByteArray) (hL : L.length ≤ 9223372036854775806) (hs : (catL ⟨#[]⟩ L).size ≤ 9223372036854775807) : Ev (fun k => laws_joined.f k L ⟨#[]⟩) (catL ⟨#[]⟩ L) := by
  have loop : ∀ (d i : Nat) (a : ByteArray), L.length - i = d → i ≤ L.length → (catL a (L.drop i)).size ≤ 9223372036854775807 → Ev (fun k => laws_joined.l0 k L ⟨#[]⟩ a (L.length : Int) (i : Int)) (catL a (L.drop i)) := by
    intro d
    induction d with
    | zero =>
      intro i a hd hi _
      have : L.drop i = [] := List.drop_eq_nil_of_le (by omega)
      rw [this]
      exact Ev.step (f := fun _ => some a) (fun k => by simp only [laws_joined.l0]; rw [if_neg (by omega)]) (Ev.now _)
    | succ d ih =>
      intro i a hd hi hz
      have hlt : i < L.length := by omega
      have e0 : L.drop i = L[i] :: L.drop (i + 1) := by simp
      have e1 : wrap64 ((i : Int) + 1) = ((i + 1 : Nat) : Int) := by rw [wrap_ok (by omega) (by omega)]; omega
      have e2 : rdOf ByteArray.empty L (i : Int) = L[i] := by
        simp only [rdOf, Int.toNat_natCast]; rw [List.getD_eq_getElem?_getD, List.getElem?_eq_getElem hlt]; rfl
      rw [e0, catL] at hz ⊢
      have hz2 := catL_size (L.drop (i + 1)) (a ++ L[i])
      rw [ByteArray.size_append] at hz2
      refine Ev.step (fun k => ?_) (ih (i + 1) (a ++ L[i]) (by omega) (by omega) hz)
      simp only [laws_joined.l0, app_empty, e1, e2]
      rw [if_pos (by omega)]
      by_cases hi0 : (i : Int) > 0
      · rw [if_pos hi0, if_pos (by show a.size + 0 ≤ _; omega), if_pos (by omega), if_pos (by omega), if_pos (by omega)]
      · rw [if_neg hi0, if_pos (by omega), if_pos (by omega), if_pos (by omega)]
  exact loop L.length 0 ⟨#[]⟩ rfl (Nat.zero_le _) hs
end Go.Proofs.YtckdpckdabfkbabDoor.Scan
