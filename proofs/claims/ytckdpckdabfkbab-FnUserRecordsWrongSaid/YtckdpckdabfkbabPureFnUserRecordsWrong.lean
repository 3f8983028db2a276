/- FnUserRecordsWrong, the plain part: which lines of a user dictionary are records; the lines of the law are none. -/
import Derived.Test.YtckdpckdabfkbabPureSplit
namespace Go.Proofs.Ytckdpckdabfkbab.Pure
open Go.RowKit Go.Proofs.Ytckdpckdabfkbab.PA Go.Proofs.YtckdpckdabfkbabW.PrintWords Go.Proofs.YtckdpckdabfkbabW.PrintLast Go.Proofs.Ytckdpckdabfkbab.Plain

theorem fits3_ev (l : List ByteArray) (hl : l.length ≤ 140737488351232) : ∃ b, Ev (fun k => laws_zzFits3.f k l) b ∧ (b = true → ∀ x ∈ l, x.size ≤ 2147483647) := by
  have loop : ∀ (d i : Nat), l.length - i ≤ d → i ≤ l.length → (∀ x ∈ l.take i, x.size ≤ 2147483647) → ∃ b, Ev (fun k => laws_zzFits3.l0 k l (l.length : Int) (i : Int)) b ∧ (b = true → ∀ x ∈ l, x.size ≤ 2147483647) := by
    intro d
    induction d with
    | zero =>
      intro i hd hi ht
      have : i = l.length := by omega
      subst this
      rw [List.take_length] at ht
      exact ⟨true, Ev.step (f := fun _ => some true) (fun k => by simp only [laws_zzFits3.l0]; rw [if_neg (by omega)]) (Ev.now _), fun _ => ht⟩
    | succ d ih =>
      intro i hd hi ht
      by_cases hlt : i < l.length
      · have ew : wrap64 ((i : Int) + 1) = ((i + 1 : Nat) : Int) := by rw [wrap_ok (by omega) (by omega)]; omega
        have hg : rdOf ByteArray.empty l (i : Int) = l[i] := by simp [rdOf, hlt]
        by_cases hs : ((l[i].size : Nat) : Int) > 2147483647
        · exact ⟨false, Ev.step (f := fun _ => some false) (fun k => by simp only [laws_zzFits3.l0]; rw [if_pos (by omega), if_pos (by omega), if_pos (by omega), hg, if_pos hs]) (Ev.now _), fun h => by cases h⟩
        · obtain ⟨b, h1, h2⟩ := ih (i + 1) (by omega) (by omega) (by
            rw [List.take_succ_eq_append_getElem hlt]
            intro x hx
            rcases List.mem_append.1 hx with hx | hx
            · exact ht x hx
            · rw [List.mem_singleton] at hx; subst hx; omega)
          exact ⟨b, Ev.step (fun k => by simp only [laws_zzFits3.l0]; rw [if_pos (by omega), if_pos (by omega), if_pos (by omega), hg, if_neg hs, ew]) h1, h2⟩
      · exact ih i (by omega) hi ht
  by_cases hc : (l.length : Int) > 2147483647
  · exact ⟨false, Ev.congr (f := fun _ => some false) (fun k => by unfold laws_zzFits3.f; rw [if_pos hc]) (Ev.now _), fun h => by cases h⟩
  · obtain ⟨b, h1, h2⟩ := loop l.length 0 (by omega) (by omega) (by simp)
    exact ⟨b, Ev.congr (f := fun k => laws_zzFits3.l0 k l (l.length : Int) ((0 : Nat) : Int)) (fun k => by unfold laws_zzFits3.f; rw [if_neg hc]; rfl) h1, h2⟩

theorem fits15_ev (a : ByteArray) (t y : List ByteArray) (d : ByteArray) (ht : t.length ≤ 140737488351232) (hy : y.length ≤ 140737488351232) :
    ∃ b, Ev (fun k => laws_zzFits15.f k a t y d) b ∧ (b = true → a.size ≤ 2147483647 ∧ d.size ≤ 2147483647 ∧ (∀ x ∈ t, x.size ≤ 2147483647) ∧ ∀ x ∈ y, x.size ≤ 2147483647) := by
  by_cases ha : (a.size : Int) > 2147483647
  · exact ⟨false, Ev.congr (f := fun _ => some false) (fun k => by unfold laws_zzFits15.f; rw [if_pos ha]) (Ev.now _), fun h => by cases h⟩
  have unf : ∀ k, laws_zzFits15.f k a t y d = (laws_zzFits3.f k t).bind fun t103 => (if t103 = true then ((laws_zzFits3.f k y).bind fun t104 => (if t104 = true then (if (d.size : Int) > 2147483647 then (some false) else (some true)) else (some false))) else (some false)) := fun k => by unfold laws_zzFits15.f; rw [if_neg ha]
  obtain ⟨b1, h1, g1⟩ := fits3_ev t ht
  obtain ⟨b2, h2, g2⟩ := fits3_ev y hy
  cases b1 with
  | false => exact ⟨false, Ev.congr unf (Ev.bind h1 (evn Bool.false_ne_true (Ev.now _))), fun h => by cases h⟩
  | true =>
    cases b2 with
    | false => exact ⟨false, Ev.congr unf (Ev.bind h1 (evp rfl (Ev.bind h2 (evn Bool.false_ne_true (Ev.now _))))), fun h => by cases h⟩
    | true =>
      by_cases hd : (d.size : Int) > 2147483647
      · exact ⟨false, Ev.congr unf (Ev.bind h1 (evp rfl (Ev.bind h2 (evp rfl (evp hd (Ev.now _)))))), fun h => by cases h⟩
      · exact ⟨true, Ev.congr unf (Ev.bind h1 (evp rfl (Ev.bind h2 (evp rfl (evn hd (Ev.now _)))))), fun _ => ⟨by omega, by omega, g1 rfl, g2 rfl⟩⟩

/-- A plain word: not empty; signs that stand in no column of their own. -/
def Word (l : List UInt8) : Prop := l ≠ [] ∧ ∀ c ∈ l, 32 < c.toNat ∧ c ≠ 44 ∧ c ≠ 35

theorem plainWord_ev (s : ByteArray) (hs : s.size ≤ 140737488351232) : ∃ b, Ev (fun k => laws_plainWord.f k s) b ∧ (b = true → Word s.data.toList) := by
  have loop : ∀ (d i : Nat), s.size - i ≤ d → i ≤ s.size → (∀ c ∈ s.data.toList.take i, 32 < c.toNat ∧ c ≠ 44 ∧ c ≠ 35) → ∃ b, Ev (fun k => laws_plainWord.l0 k s (s.size : Int) (i : Int)) b ∧ (b = true → Word s.data.toList) := by
    intro d
    induction d with
    | zero =>
      intro i hd hi ht
      have hi' : i = s.size := by omega
      refine ⟨_, Ev.step (f := fun _ => some (s.toList != ([] : List UInt8))) (fun k => by simp only [laws_plainWord.l0]; rw [if_neg (by omega)]) (Ev.now _), fun h => ⟨?_, ?_⟩⟩
      · rw [Lib.toList_data] at h; simpa using h
      · rw [hi', size_of, List.take_length] at ht; exact ht
    | succ d ih =>
      intro i hd hi ht
      by_cases hlt : i < s.size
      · have hlt' : i < s.data.toList.length := by rw [← size_of]; exact hlt
        have ew : wrap64 ((i : Int) + 1) = ((i + 1 : Nat) : Int) := by rw [wrap_ok (by omega) (by omega)]; omega
        have hb := bt_get s i hlt
        have fl : ∀ {C : Prop} [Decidable C] {A : Nat → Option Bool}, C → Ev (fun k => if C then some false else A k) false := fun h => evp h (Ev.now _)
        by_cases c1 : bt s (i : Int) ≤ 32
        · exact ⟨false, Ev.step (f := fun _ => some false) (fun k => by simp only [laws_plainWord.l0]; rw [if_pos (by omega), if_pos (by omega), if_pos (by omega), if_pos c1]) (Ev.now _), fun h => by cases h⟩
        by_cases c2 : bt s (i : Int) = 44
        · exact ⟨false, Ev.step (f := fun _ => some false) (fun k => by simp only [laws_plainWord.l0]; rw [if_pos (by omega), if_pos (by omega), if_pos (by omega), if_neg c1, if_pos c2]) (Ev.now _), fun h => by cases h⟩
        by_cases c3 : bt s (i : Int) = 35
        · exact ⟨false, Ev.step (f := fun _ => some false) (fun k => by simp only [laws_plainWord.l0]; rw [if_pos (by omega), if_pos (by omega), if_pos (by omega), if_neg c1, if_neg c2, if_pos c3]) (Ev.now _), fun h => by cases h⟩
        by_cases c4 : bt s (i : Int) = 34
        · exact ⟨false, Ev.step (f := fun _ => some false) (fun k => by simp only [laws_plainWord.l0]; rw [if_pos (by omega), if_pos (by omega), if_pos (by omega), if_neg c1, if_neg c2, if_neg c3, if_pos c4]) (Ev.now _), fun h => by cases h⟩
        by_cases c5 : bt s (i : Int) ≥ 127
        · exact ⟨false, Ev.step (f := fun _ => some false) (fun k => by simp only [laws_plainWord.l0]; rw [if_pos (by omega), if_pos (by omega), if_pos (by omega), if_neg c1, if_neg c2, if_neg c3, if_neg c4, if_pos c5]) (Ev.now _), fun h => by cases h⟩
        obtain ⟨b, h1, h2⟩ := ih (i + 1) (by omega) (by omega) (by
          rw [List.take_succ_eq_append_getElem hlt']
          intro c hc
          rcases List.mem_append.1 hc with hc | hc
          · exact ht c hc
          · rw [List.mem_singleton] at hc
            subst hc
            rw [hb] at c1 c2 c3
            refine ⟨by omega, fun e => c2 (by rw [e]; rfl), fun e => c3 (by rw [e]; rfl)⟩)
        exact ⟨b, Ev.step (fun k => by simp only [laws_plainWord.l0]; rw [if_pos (by omega), if_pos (by omega), if_pos (by omega), if_neg c1, if_neg c2, if_neg c3, if_neg c4, if_neg c5, ew]) h1, h2⟩
      · exact ih i (by omega) hi ht
  obtain ⟨b, h1, h2⟩ := loop s.size 0 (by omega) (by omega) (by simp)
  exact ⟨b, h1, h2⟩

/-- What the law's guard says of a record. -/
def Good (u : S24) : Prop := Word u.f0.data.toList ∧ Word u.f3.data.toList ∧ u.f1.length = u.f2.length ∧ 1 ≤ u.f1.length ∧ u.f1.length ≤ 20 ∧ (∀ x ∈ u.f1, Word x.data.toList) ∧ ∀ x ∈ u.f2, Word x.data.toList

theorem plainRecords_ev (u : S24) (h0 : u.f0.size ≤ 140737488351232) (h3 : u.f3.size ≤ 140737488351232) (h1 : ∀ x ∈ u.f1, x.size ≤ 140737488351232) (h2 : ∀ x ∈ u.f2, x.size ≤ 140737488351232) :
    ∃ b, Ev (fun k => laws_plainRecords.f k [u]) b ∧ (b = true → Good u) := by
  obtain ⟨b0, e0, g0⟩ := plainWord_ev u.f0 h0
  obtain ⟨b3, e3, g3⟩ := plainWord_ev u.f3 h3
  have rdz : rd_T24 [u] 0 = u := rfl
  have stop : Ev (fun k => laws_plainRecords.j1 k [u] [u] 1 0 true u.f0 u.f1 u.f2 u.f3) false := Ev.step (f := fun _ => some false) (fun k => by simp only [laws_plainRecords.j1, if_true]) (Ev.now _)
  -- the inner loop
  have inner : u.f1.length = u.f2.length → u.f1.length ≤ 20 → ∀ (d i : Nat), u.f1.length - i ≤ d → i ≤ u.f1.length → (∀ x ∈ u.f1.take i, Word x.data.toList) → (∀ x ∈ u.f2.take i, Word x.data.toList) →
      ∃ b, Ev (fun k => laws_plainRecords.l1 k [u] [u] 1 0 (u.f1.length : Int) (i : Int) u.f0 u.f1 u.f2 u.f3) b ∧ (b = true → (∀ x ∈ u.f1, Word x.data.toList) ∧ ∀ x ∈ u.f2, Word x.data.toList) := by
    intro hl hm d
    induction d with
    | zero =>
      intro i hd hi t1 t2
      have : i = u.f1.length := by omega
      subst this
      rw [List.take_length] at t1
      rw [hl, List.take_length] at t2
      refine ⟨true, Ev.step (f := fun k => laws_plainRecords.l0 k [u] [u] 1 (wrap64 (0 + 1))) (fun k => by simp only [laws_plainRecords.l1]; rw [if_neg (by omega)]) ?_, fun _ => ⟨t1, t2⟩⟩
      refine Ev.step (f := fun _ => some true) (fun k => ?_) (Ev.now _)
      have : wrap64 (0 + 1) = 1 := wrap_ok (by omega) (by omega)
      rw [this]
      simp only [laws_plainRecords.l0]
      rw [if_neg (by omega)]
      rfl
    | succ d ih =>
      intro i hd hi t1 t2
      by_cases hlt : i < u.f1.length
      · have hlt2 : i < u.f2.length := by omega
        have ew : wrap64 ((i : Int) + 1) = ((i + 1 : Nat) : Int) := by rw [wrap_ok (by omega) (by omega)]; omega
        have hg1 : rdOf ByteArray.empty u.f1 (i : Int) = u.f1[i] := by simp [rdOf, hlt]
        have hg2 : rdOf ByteArray.empty u.f2 (i : Int) = u.f2[i] := by simp [rdOf, hlt2]
        obtain ⟨p, ep, gp⟩ := plainWord_ev u.f1[i] (h1 _ (List.getElem_mem hlt))
        obtain ⟨q, eq, gq⟩ := plainWord_ev u.f2[i] (h2 _ (List.getElem_mem hlt2))
        have unf : ∀ k, laws_plainRecords.l1 (k + 1) [u] [u] 1 0 (u.f1.length : Int) (i : Int) u.f0 u.f1 u.f2 u.f3 = (laws_plainWord.f k u.f1[i]).bind fun t110 => (if t110 = true then (if (i : Int) < (u.f2.length : Int) then ((laws_plainWord.f k u.f2[i]).bind fun t112 => (if t112 = true then (laws_plainRecords.l1 k [u] [u] 1 0 (u.f1.length : Int) ((i + 1 : Nat) : Int) u.f0 u.f1 u.f2 u.f3) else (some false))) else (none)) else (some false)) := by
          intro k
          simp only [laws_plainRecords.l1]
          rw [if_pos (by omega), if_pos (by omega), if_pos (by omega), hg1, hg2, ew]
        cases p with
        | false => exact ⟨false, Ev.step unf (Ev.bind ep (evn Bool.false_ne_true (Ev.now _))), fun h => by cases h⟩
        | true =>
          cases q with
          | false => exact ⟨false, Ev.step unf (Ev.bind ep (evp rfl (evp (by omega) (Ev.bind eq (evn Bool.false_ne_true (Ev.now _)))))), fun h => by cases h⟩
          | true =>
            obtain ⟨b, hb, gb⟩ := ih (i + 1) (by omega) (by omega) (by
              rw [List.take_succ_eq_append_getElem hlt]
              intro x hx
              rcases List.mem_append.1 hx with hx | hx
              · exact t1 x hx
              · rw [List.mem_singleton] at hx; subst hx; exact gp rfl) (by
              rw [List.take_succ_eq_append_getElem hlt2]
              intro x hx
              rcases List.mem_append.1 hx with hx | hx
              · exact t2 x hx
              · rw [List.mem_singleton] at hx; subst hx; exact gq rfl)
            exact ⟨b, Ev.step unf (Ev.bind ep (evp rfl (evp (by omega) (Ev.bind eq (evp rfl hb))))), gb⟩
      · exact ih i (by omega) hi t1 t2
  have unf : ∀ k, laws_plainRecords.f (k + 1) [u] = (laws_plainWord.f k u.f0).bind fun t107 => (if t107 = true then ((laws_plainWord.f k u.f3).bind fun t108 => (if t108 = true then (if ((u.f1).length : Int) = ((u.f2).length : Int) then (if ((u.f1).length : Int) < 1 then (laws_plainRecords.j1 k [u] [u] 1 0 true u.f0 u.f1 u.f2 u.f3) else (laws_plainRecords.j1 k [u] [u] 1 0 (decide (((u.f1).length : Int) > 20)) u.f0 u.f1 u.f2 u.f3)) else (laws_plainRecords.j1 k [u] [u] 1 0 true u.f0 u.f1 u.f2 u.f3)) else (laws_plainRecords.j1 k [u] [u] 1 0 true u.f0 u.f1 u.f2 u.f3))) else (laws_plainRecords.j1 k [u] [u] 1 0 true u.f0 u.f1 u.f2 u.f3)) := by
    intro k
    have e1 : (([u] : List S24).length : Int) = 1 := rfl
    simp only [laws_plainRecords.f, laws_plainRecords.l0]
    rw [e1, rdz, if_pos (by omega), if_pos (by omega), if_pos (by omega)]
  cases b0 with
  | false => exact ⟨false, Ev.step unf (Ev.bind e0 (evn Bool.false_ne_true stop)), fun h => by cases h⟩
  | true =>
    cases b3 with
    | false => exact ⟨false, Ev.step unf (Ev.bind e0 (evp rfl (Ev.bind e3 (evn Bool.false_ne_true stop)))), fun h => by cases h⟩
    | true =>
      by_cases hl : u.f1.length = u.f2.length
      · by_cases hz : u.f1.length < 1
        · exact ⟨false, Ev.step unf (Ev.bind e0 (evp rfl (Ev.bind e3 (evp rfl (evp (by omega) (evp (by omega) stop)))))), fun h => by cases h⟩
        · by_cases hm : u.f1.length ≤ 20
          · obtain ⟨b, hb, gb⟩ := inner hl hm u.f1.length 0 (by omega) (by omega) (by simp) (by simp)
            have hd : decide ((u.f1.length : Int) > 20) = false := decide_eq_false (by omega)
            refine ⟨b, Ev.step unf (Ev.bind e0 (evp rfl (Ev.bind e3 (evp rfl (evp (by omega) (evn (by omega) ?_)))))), fun h => ⟨g0 rfl, g3 rfl, hl, by omega, hm, gb h⟩⟩
            rw [hd]
            exact Ev.step (f := fun k => laws_plainRecords.l1 k [u] [u] 1 0 (u.f1.length : Int) 0 u.f0 u.f1 u.f2 u.f3) (fun k => by simp only [laws_plainRecords.j1]; rw [if_neg (by simp)]) hb
          · have hd : decide ((u.f1.length : Int) > 20) = true := decide_eq_true (by omega)
            refine ⟨false, Ev.step unf (Ev.bind e0 (evp rfl (Ev.bind e3 (evp rfl (evp (by omega) (evn (by omega) ?_)))))), fun h => by cases h⟩
            rw [hd]
            exact stop
      · exact ⟨false, Ev.step unf (Ev.bind e0 (evp rfl (Ev.bind e3 (evp rfl (evn (by omega) stop))))), fun h => by cases h⟩

/-- Texts with a sign between them. -/
def jn (c : UInt8) : List (List UInt8) → List UInt8
  | [] => []
  | [x] => x
  | x :: y :: l => x ++ c :: jn c (y :: l)

theorem jn_snoc (c : UInt8) (x : List UInt8) : ∀ l : List (List UInt8), l ≠ [] → jn c (l ++ [x]) = jn c l ++ c :: x
  | [], h => absurd rfl h
  | [y], _ => rfl
  | y :: z :: l, _ => by
    have := jn_snoc c x (z :: l) (by simp)
    simp only [List.cons_append] at this ⊢
    show y ++ c :: jn c (z :: (l ++ [x])) = (y ++ c :: jn c (z :: l)) ++ c :: x
    rw [this]
    simp

theorem sp_jn {c : UInt8} : ∀ l : List (List UInt8), l ≠ [] → (∀ x ∈ l, c ∉ x) → sp c (jn c l) = l
  | [], h, _ => absurd rfl h
  | [x], _, h => sp_none (h x (by simp))
  | x :: y :: l, _, h => by
    show sp c (x ++ c :: jn c (y :: l)) = _
    rw [sp_some _ (h x (by simp)), sp_jn (y :: l) (by simp) (fun z hz => h z (by simp at hz ⊢; exact .inr hz))]

theorem jn_mem {c d : UInt8} : ∀ l : List (List UInt8), d ∈ jn c l → d = c ∨ ∃ x ∈ l, d ∈ x
  | [], h => by cases h
  | [x], h => .inr ⟨x, by simp, h⟩
  | x :: y :: l, h => by
    rcases List.mem_append.1 (show d ∈ x ++ c :: jn c (y :: l) from h) with h | h
    · exact .inr ⟨x, by simp, h⟩
    · rcases List.mem_cons.1 h with h | h
      · exact .inl h
      · rcases jn_mem (y :: l) h with h | ⟨z, hz, hd⟩
        · exact .inl h
        · exact .inr ⟨z, by simp at hz ⊢; exact .inr hz, hd⟩

theorem jn_length (c : UInt8) (m : Nat) : ∀ l : List (List UInt8), (∀ x ∈ l, x.length ≤ m) → (jn c l).length ≤ l.length * (m + 1)
  | [], _ => by simp [jn]
  | [x], h => by have := h x (by simp); simp [jn]; omega
  | x :: y :: l, h => by
    have h1 := h x (by simp)
    have h2 := jn_length c m (y :: l) (fun z hz => h z (by simp at hz ⊢; exact .inr hz))
    show (x ++ c :: jn c (y :: l)).length ≤ _
    simp only [List.length_append, List.length_cons, Nat.add_mul] at *
    omega

def tl (l : List ByteArray) : List (List UInt8) := l.map fun x => x.data.toList

theorem joined_ev (l : List ByteArray) (c : UInt8) (hl : l.length ≤ 20) (hs : ∀ x ∈ l, x.size ≤ 2147483647) : Ev (fun k => laws_joined.f k l ⟨#[c]⟩) (ba (jn c (tl l))) := by
  have sz : ∀ i, i ≤ l.length → (jn c (tl (l.take i))).length ≤ 42949672960 := by
    intro i hi
    have := jn_length c 2147483647 (tl (l.take i)) (by
      intro x hx
      obtain ⟨y, hy, rfl⟩ := List.mem_map.1 hx
      rw [← size_of]
      exact hs y (List.mem_of_mem_take hy))
    have h2 : (tl (l.take i)).length ≤ 20 := by simp [tl]; omega
    have h3 : (tl (l.take i)).length * (2147483647 + 1) ≤ 20 * (2147483647 + 1) := Nat.mul_le_mul_right _ h2
    omega
  have loop : ∀ (d i : Nat), l.length - i ≤ d → i ≤ l.length → Ev (fun k => laws_joined.l0 k l ⟨#[c]⟩ (ba (jn c (tl (l.take i)))) (l.length : Int) (i : Int)) (ba (jn c (tl l))) := by
    intro d
    induction d with
    | zero =>
      intro i hd hi
      have : i = l.length := by omega
      subst this
      refine Ev.step (f := fun _ => some (ba (jn c (tl (l.take l.length))))) (fun k => by simp only [laws_joined.l0]; rw [if_neg (by omega)]) ?_
      rw [List.take_length]
      exact Ev.now _
    | succ d ih =>
      intro i hd hi
      by_cases hlt : i < l.length
      · have ew : wrap64 ((i : Int) + 1) = ((i + 1 : Nat) : Int) := by rw [wrap_ok (by omega) (by omega)]; omega
        have hg : rdOf ByteArray.empty l (i : Int) = l[i] := by simp [rdOf, hlt]
        have h1 := sz i hi
        have h2 := hs _ (List.getElem_mem hlt)
        have e1 : (⟨#[c]⟩ : ByteArray).size = 1 := rfl
        have htk : l.take (i + 1) = l.take i ++ [l[i]] := List.take_succ_eq_append_getElem hlt
        by_cases hz : i = 0
        · subst hz
          have en : ba (jn c (tl (l.take 0))) ++ l[0] = ba (jn c (tl (l.take 1))) := by
            apply ext_eq
            rw [htk, app_data, ba_toList, ba_toList]
            simp [tl, jn]
          refine Ev.step (fun k => ?_) (ih 1 (by omega) (by omega))
          simp only [laws_joined.l0]
          rw [if_pos (by omega), if_neg (by omega), if_pos (by omega), if_pos (by omega), hg, if_pos (by rw [ba_size]; omega), en, ew]
        · have en : (ba (jn c (tl (l.take i))) ++ ⟨#[c]⟩) ++ l[i] = ba (jn c (tl (l.take (i + 1)))) := by
            apply ext_eq
            have hne : tl (l.take i) ≠ [] := by
              intro h
              have e := congrArg List.length h
              rw [show (tl (l.take i)).length = i by simp [tl]; omega] at e
              simp at e
              omega
            have hs2 := jn_snoc c l[i].data.toList (tl (l.take i)) hne
            have ht2 : tl (l.take (i + 1)) = tl (l.take i) ++ [l[i].data.toList] := by rw [htk]; unfold tl; rw [List.map_append]; rfl
            rw [ht2, app_data, app_data, ba_toList, ba_toList, hs2]
            simp
          refine Ev.step (fun k => ?_) (ih (i + 1) (by omega) (by omega))
          simp only [laws_joined.l0]
          rw [if_pos (by omega), if_pos (by omega), if_pos (by rw [ba_size]; omega), if_pos (by omega), if_pos (by omega), hg, if_pos (by rw [ByteArray.size_append, ba_size]; omega), en, ew]
      · exact ih i (by omega) hi
  have := loop l.length 0 (by omega) (by omega)
  exact this


/-- The line of a record. -/
def lineB (u : S24) : List UInt8 := u.f0.data.toList ++ 44 :: (jn 32 (tl u.f1) ++ 44 :: (jn 32 (tl u.f2) ++ 44 :: u.f3.data.toList))

theorem jn_le (c : UInt8) (l : List ByteArray) (hl : l.length ≤ 21) (hs : ∀ x ∈ l, x.size ≤ 2147483647) : (jn c (tl l)).length ≤ 45097156608 := by
  have := jn_length c 2147483647 (tl l) (by
    intro x hx
    obtain ⟨y, hy, rfl⟩ := List.mem_map.1 hx
    rw [← size_of]
    exact hs y hy)
  have h2 : (tl l).length ≤ 21 := by simp [tl]; omega
  have h3 : (tl l).length * (2147483647 + 1) ≤ 21 * (2147483647 + 1) := Nat.mul_le_mul_right _ h2
  omega

theorem e44 : (⟨#[44]⟩ : ByteArray) = ba [44] := rfl
theorem e10 : (⟨#[10]⟩ : ByteArray) = ba [10] := rfl

theorem line_ev (u : S24) (h0 : u.f0.size ≤ 2147483647) (h3 : u.f3.size ≤ 2147483647) (l1 : u.f1.length ≤ 20) (l2 : u.f2.length ≤ 20) (h1 : ∀ x ∈ u.f1, x.size ≤ 2147483647) (h2 : ∀ x ∈ u.f2, x.size ≤ 2147483647) :
    Ev (fun k => laws_line.f k u.f0 u.f1 u.f2 u.f3) (ba (lineB u ++ [10])) := by
  have j1 := jn_le 32 u.f1 (by omega) h1
  have j2 := jn_le 32 u.f2 (by omega) h2
  have s44 : (⟨#[44]⟩ : ByteArray).size = 1 := rfl
  have hr : (((((((u.f0 ++ ⟨#[44]⟩) ++ ba (jn 32 (tl u.f1))) ++ ⟨#[44]⟩) ++ ba (jn 32 (tl u.f2))) ++ ⟨#[44]⟩) ++ u.f3) ++ ⟨#[10]⟩) = ba (lineB u ++ [10]) := by
    apply ext_eq
    simp only [app_data, ba_toList, e44, e10, lineB]
    simp
  have unf : ∀ k, laws_line.f k u.f0 u.f1 u.f2 u.f3 = (laws_joined.f k u.f1 ⟨#[32]⟩).bind fun t1 => (if (u.f0 ++ ⟨#[44]⟩).size + t1.size ≤ 9223372036854775807 then (if ((u.f0 ++ ⟨#[44]⟩) ++ t1).size + 1 ≤ 9223372036854775807 then ((laws_joined.f k u.f2 ⟨#[32]⟩).bind fun t2 => (if (((u.f0 ++ ⟨#[44]⟩) ++ t1) ++ ⟨#[44]⟩).size + t2.size ≤ 9223372036854775807 then (if ((((u.f0 ++ ⟨#[44]⟩) ++ t1) ++ ⟨#[44]⟩) ++ t2).size + 1 ≤ 9223372036854775807 then (if (((((u.f0 ++ ⟨#[44]⟩) ++ t1) ++ ⟨#[44]⟩) ++ t2) ++ ⟨#[44]⟩).size + u.f3.size ≤ 9223372036854775807 then (if ((((((u.f0 ++ ⟨#[44]⟩) ++ t1) ++ ⟨#[44]⟩) ++ t2) ++ ⟨#[44]⟩) ++ u.f3).size + 1 ≤ 9223372036854775807 then (some (((((((u.f0 ++ ⟨#[44]⟩) ++ t1) ++ ⟨#[44]⟩) ++ t2) ++ ⟨#[44]⟩) ++ u.f3) ++ ⟨#[10]⟩)) else (none)) else (none)) else (none)) else (none))) else (none)) else (none)) := by
    intro k
    unfold laws_line.f
    rw [if_pos (by omega)]
  refine Ev.congr unf (Ev.bind (joined_ev u.f1 32 l1 h1) ?_)
  refine evp (by simp only [ByteArray.size_append, ba_size, s44]; omega) (evp (by simp only [ByteArray.size_append, ba_size, s44]; omega) (Ev.bind (joined_ev u.f2 32 l2 h2) ?_))
  refine evp (by simp only [ByteArray.size_append, ba_size, s44]; omega) (evp (by simp only [ByteArray.size_append, ba_size, s44]; omega) (evp (by simp only [ByteArray.size_append, ba_size, s44]; omega) (evp (by simp only [ByteArray.size_append, ba_size, s44]; omega) ?_)))
  rw [hr]
  exact Ev.now _

/-- A text of one line. -/
theorem zzLines_ev (l : List UInt8) (h10 : (10 : UInt8) ∉ l) (hl : l.length ≤ 140737488351000) (h13 : l.getLast? ≠ some 13) : Ev (fun k => dict_zzLines.f k (ba (l ++ [10]))) [ba l] := by
  have hsz : (ba (l ++ [10])).size = l.length + 1 := by rw [ba_size]; simp
  refine Ev.congr (f := fun k => dict_zzLines.l0 k (ba (l ++ [10])) []) (fun k => by unfold dict_zzLines.f; rw [if_pos (by omega)]) ?_
  have hz := (zzIndex_f (ba (l ++ [10])) 10 (by omega)).2 l [] rfl h10
  refine Ev.step (f := fun k => (dict_zzIndex.f k (ba (l ++ [10])) ⟨#[10]⟩).bind fun t => if t < 0 then (if ([] : List ByteArray).length < 8796093022208 then dict_zzLines.l0 k ⟨#[]⟩ ([] ++ [dict_zzLines.trim (ba (l ++ [10]))]) else none) else if t < ((ba (l ++ [10])).size : Int) then (if ([] : List ByteArray).length < 8796093022208 then dict_zzLines.l0 k ((ba (l ++ [10])).extract (t + 1).toNat (ba (l ++ [10])).size) ([] ++ [dict_zzLines.trim ((ba (l ++ [10])).extract 0 t.toNat)]) else none) else none) (fun k => by simp only [dict_zzLines.l0]; rw [if_neg (by omega)]) (Ev.bind hz ?_)
  refine evn (by omega) (evp (by omega) (evp (by simp) ?_))
  have e1 : (ba (l ++ [10])).extract 0 ((l.length : Int)).toNat = ba l := by rw [extract_ba, ba_toList]; simp
  have e2 : (ba (l ++ [10])).extract ((l.length : Int) + 1).toNat (ba (l ++ [10])).size = ba [] := by
    rw [extract_ba, ba_toList]
    have : ((l.length : Int) + 1).toNat = l.length + 1 := by omega
    rw [this, List.drop_of_length_le (by simp)]
    simp
  have e3 : dict_zzLines.trim (ba l) = ba l := by
    unfold dict_zzLines.trim
    rw [if_neg]
    rintro ⟨h0, h1⟩
    rw [ba_size] at h0
    have hb := bt_get (ba l) (l.length - 1) (by rw [ba_size]; omega)
    rw [show (((l.length - 1 : Nat) : Int)) = ((ba l).size : Int) - 1 by rw [ba_size]; omega, h1] at hb
    apply h13
    rw [List.getLast?_eq_getElem?]
    have hg : l[l.length - 1]? = some (l[l.length - 1]'(by omega)) := List.getElem?_eq_getElem _
    rw [hg]
    congr 1
    refine UInt8.toNat_inj.1 ?_
    have : ((l[l.length - 1]'(by omega)).toNat : Int) = 13 := hb.symm
    have h13' : (13 : UInt8).toNat = 13 := rfl
    omega
  rw [e1, e2, e3]
  exact Ev.step (f := fun _ => some [ba l]) (fun k => by simp only [dict_zzLines.l0]; rw [if_pos (by rfl)]; rfl) (Ev.now _)

/-- What the package makes of one line. -/
def rec1 (l : List UInt8) : List S44 × Bool :=
  match sp 44 l with
  | [a, b, c, d] => if (sp 32 b).length = (sp 32 c).length then ([⟨ba a, (sp 32 b).map ba, (sp 32 c).map ba, ba d⟩], false) else ([], true)
  | _ => ([], true)

theorem new_ev (l : List UInt8) (h10 : (10 : UInt8) ∉ l) (hl : l.length ≤ 8796093000000) (h13 : l.getLast? ≠ some 13) (h35 : l.head? ≠ some 35) (h0 : l ≠ []) : Ev (fun k => dict_NewUserDicRecords.f k (ba (l ++ [10]))) (rec1 l) := by
  refine Ev.congr (fun k => rfl) (Ev.bind (zzLines_ev l h10 (by omega) h13) ?_)
  have e1 : (([ba l] : List ByteArray).length : Int) = 1 := rfl
  have hne : (ba l).toList ≠ ([] : List UInt8) := by rw [Lib.toList_data]; exact h0
  have w1 : wrap64 (0 + 1) = 1 := wrap_ok (by omega) (by omega)
  have hp : dict_zzHasPrefix.f (ba l) ⟨#[35]⟩ = some false := by
    have hlen : 1 ≤ l.length := List.length_pos_iff.2 h0
    unfold dict_zzHasPrefix.f
    have s35 : (((⟨#[35]⟩ : ByteArray).size : Nat) : Int) = 1 := rfl
    rw [s35, if_pos (by rw [ba_size]; omega), if_pos (by omega), if_pos (by rw [ba_size]; omega)]
    congr 1
    rw [Lib.extract_toList, Lib.toList_data, ba_toList]
    cases l with
    | nil => exact absurd rfl h0
    | cons x l =>
      have hx : x ≠ 35 := fun e => h35 (by simp [e])
      have : ((1 : Int).toNat) - 0 = 1 := rfl
      rw [this]
      simpa using hx
  -- the first loop: one line
  refine Ev.step (f := fun k => (dict_zzHasPrefix.f (ba l) ⟨#[35]⟩).bind fun t141 => (if t141 = true then (dict_NewUserDicRecords.l0 k [] [ba l] 1 1) else (if ([] : List ByteArray).length < 8796093022208 then (dict_NewUserDicRecords.l0 k ([] ++ [ba l]) [ba l] 1 1) else (none)))) (fun k => ?_) ?_
  · rw [e1]
    simp only [dict_NewUserDicRecords.l0]
    rw [if_pos (by omega), if_pos (by omega), if_pos (by rw [e1]; omega), show rdOf ByteArray.empty [ba l] 0 = ba l from rfl, if_neg hne, w1]
  refine Ev.bind (f := fun k t141 => (if t141 = true then (dict_NewUserDicRecords.l0 k [] [ba l] 1 1) else (if ([] : List ByteArray).length < 8796093022208 then (dict_NewUserDicRecords.l0 k ([] ++ [ba l]) [ba l] 1 1) else (none)))) (g := fun _ => dict_zzHasPrefix.f (ba l) ⟨#[35]⟩) (a := false) (by rw [hp]; exact Ev.now _) ?_
  refine evn Bool.false_ne_true (evp (by simp) ?_)
  -- the second loop
  refine Ev.step (f := fun k => dict_NewUserDicRecords.l1 k [] [ba l] 1 0) (fun k => ?_) ?_
  · simp only [dict_NewUserDicRecords.l0, List.nil_append]
    rw [if_neg (by omega), e1, if_pos (by omega), if_pos (by decide)]
  have hz := zzSplit_f 44 (ba l) (by rw [ba_size]; omega)
  rw [ba_toList] at hz
  have h1 : ∀ m : List S44, Ev (fun k => dict_NewUserDicRecords.l1 k m [ba l] 1 1) (m, false) := fun m => Ev.step (f := fun _ => some (m, false)) (fun k => by simp only [dict_NewUserDicRecords.l1]; rw [if_neg (by omega)]) (Ev.now _)
  have unf : ∀ k, dict_NewUserDicRecords.l1 (k + 1) [] [ba l] 1 0 = (dict_zzSplit.f k (ba l) ⟨#[44]⟩).bind fun t149 => (if (t149.length : Int) = 4 then (if 1 < (t149.length : Int) then ((dict_zzSplit.f k (rdOf ByteArray.empty t149 1) ⟨#[32]⟩).bind fun t153 => (if 2 < (t149.length : Int) then ((dict_zzSplit.f k (rdOf ByteArray.empty t149 2) ⟨#[32]⟩).bind fun t157 => (if (t153.length : Int) = 0 then (some (([] : List S44), true)) else (if (t153.length : Int) = (t157.length : Int) then (if 0 < (t149.length : Int) then (if 3 < (t149.length : Int) then (if ([] : List S44).length < 1759218604441 then (dict_NewUserDicRecords.l1 k ([] ++ [(⟨rdOf ByteArray.empty t149 0, t153, t157, rdOf ByteArray.empty t149 3⟩ : S44)]) [ba l] 1 1) else (none)) else (none)) else (none)) else (some (([] : List S44), true))))) else (none))) else (none)) else (some (([] : List S44), true))) := by
    intro k
    simp only [dict_NewUserDicRecords.l1]
    rw [if_pos (by omega), if_pos (by omega), if_pos (by rw [e1]; omega), show rdOf ByteArray.empty [ba l] 0 = ba l from rfl, w1]
  refine Ev.step unf (Ev.bind hz ?_)
  unfold rec1
  have hpart : ∀ p ∈ sp 44 l, p.length ≤ l.length := sp_part 44 l
  generalize sp 44 l = cols at *
  match cols, hpart with
  | [], _ => exact evn (by simp) (Ev.now _)
  | [_], _ => exact evn (by simp) (Ev.now _)
  | [_, _], _ => exact evn (by simp) (Ev.now _)
  | [_, _, _], _ => exact evn (by simp) (Ev.now _)
  | _ :: _ :: _ :: _ :: _ :: _, _ => exact evn (by simp; omega) (Ev.now _)
  | [a, b, c, d], hpart =>
    have hb := hpart b (by simp)
    have hc := hpart c (by simp)
    have z1 := zzSplit_f 32 (ba b) (by rw [ba_size]; omega)
    have z2 := zzSplit_f 32 (ba c) (by rw [ba_size]; omega)
    rw [ba_toList] at z1 z2
    refine evp (by simp) (evp (by simp) (Ev.bind (f := fun k t153 => _) z1 (evp (by simp) (Ev.bind z2 ?_))))
    refine evn (by have := sp_ne 32 b; simp; exact this) ?_
    change Ev _ (if (sp 32 b).length = (sp 32 c).length then (_, false) else (_, true))
    by_cases he : (sp 32 b).length = (sp 32 c).length
    · rw [if_pos he]
      refine evp (by simp; omega) (evp (by simp) (evp (by simp) (evp (by simp) ?_)))
      exact h1 _
    · rw [if_neg he]
      exact evn (by simp; omega) (Ev.now _)


theorem records_err (l : List UInt8) (h10 : (10 : UInt8) ∉ l) (hl : l.length ≤ 8796093000000) (h13 : l.getLast? ≠ some 13) (h35 : l.head? ≠ some 35) (h0 : l ≠ []) (hr : (rec1 l).2 = true) : Ev (fun k => impl_UserRecords.f k (ba (l ++ [10]))) ([], 1) := by
  refine Ev.congr (fun k => rfl) (Ev.bind (new_ev l h10 hl h13 h35 h0) (evp hr (Ev.now _)))

theorem users_ev : Ev (fun k => laws_users.f k) true := by
  have hn := new_ev [97, 98, 44, 97, 32, 98, 44, 99, 32, 100, 44, 110] (by decide) (by decide) (by decide) (by decide) (by decide)
  have hr : rec1 [97, 98, 44, 97, 32, 98, 44, 99, 32, 100, 44, 110] = ([⟨ba [97, 98], [ba [97], ba [98]], [ba [99], ba [100]], ba [110]⟩], false) := by rfl
  rw [hr] at hn
  have w1 : wrap64 (0 + 1) = 1 := wrap_ok (by omega) (by omega)
  have hu : Ev (fun k => impl_UserRecords.f k ⟨#[97, 98, 44, 97, 32, 98, 44, 99, 32, 100, 44, 110, 10]⟩) ([⟨ba [97, 98], [ba [97], ba [98]], [ba [99], ba [100]], ba [110]⟩], 0) := by
    refine Ev.congr (fun k => rfl) (Ev.bind hn (evn Bool.false_ne_true ?_))
    refine Ev.step (f := fun k => impl_UserRecords.l0 k [⟨ba [97, 98], [ba [97], ba [98]], [ba [99], ba [100]], ba [110]⟩] [⟨ba [97, 98], [ba [97], ba [98]], [ba [99], ba [100]], ba [110]⟩] 1 1) (fun k => ?_) ?_
    · simp only [impl_UserRecords.l0]
      rw [if_pos (by decide), if_pos (by decide), if_pos (by decide), if_pos (by decide), w1]
      rfl
    · refine Ev.step (f := fun _ => some _) (fun k => ?_) (Ev.now _)
      simp only [impl_UserRecords.l0]
      rw [if_neg (by decide)]
  have same : ∀ a : List ByteArray, a.length = 2 → Ev (fun k => laws_same_string.f k a a) true := by
    intro a ha
    match a, ha with
    | [x, y], _ =>
      have w2 : wrap64 (1 + 1) = 2 := wrap_ok (by omega) (by omega)
      refine Ev.congr (f := fun k => laws_same_string.l0 k [x, y] [x, y] 2 0) (fun k => by unfold laws_same_string.f; rw [if_pos rfl]; rfl) ?_
      refine Ev.step (f := fun k => laws_same_string.l0 k [x, y] [x, y] 2 1) (fun k => by simp only [laws_same_string.l0]; rw [if_pos (by decide), if_pos (by decide), if_pos (by simp), if_pos (by simp), if_pos trivial, w1]) ?_
      refine Ev.step (f := fun k => laws_same_string.l0 k [x, y] [x, y] 2 2) (fun k => by simp only [laws_same_string.l0]; rw [if_pos (by decide), if_pos (by decide), if_pos (by simp), if_pos (by simp), if_pos trivial, w2]) ?_
      exact Ev.step (f := fun _ => some true) (fun k => by simp only [laws_same_string.l0]; rw [if_neg (by decide)]) (Ev.now _)
  have hrec : Ev (fun k => laws_sameRecord.f k (ba [97, 98]) [ba [97], ba [98]] [ba [99], ba [100]] (ba [110]) ⟨#[97, 98]⟩ [⟨#[97]⟩, ⟨#[98]⟩] [⟨#[99]⟩, ⟨#[100]⟩] ⟨#[110]⟩ true) true := by
    refine Ev.congr (fun k => rfl) (evp rfl (evp rfl (Ev.bind (same [ba [97], ba [98]] rfl) (evp rfl (Ev.bind (same [ba [99], ba [100]] rfl) (evp rfl ?_))))))
    exact Ev.congr (f := fun _ => some true) (fun _ => by rw [Lib.toList_data, Lib.toList_data]; rfl) (Ev.now _)
  refine Ev.congr (fun k => rfl) (Ev.bind hu (evp rfl (evp (by decide) (evp (by decide) (Ev.bind hrec (Ev.now _))))))

theorem word_no {l : List UInt8} (h : Word l) {c : UInt8} (hc : c.toNat ≤ 32 ∨ c = 44 ∨ c = 35) : c ∉ l := by
  intro hm
  obtain ⟨h1, h2, h3⟩ := h.2 c hm
  rcases hc with hc | hc | hc
  · omega
  · exact h2 hc
  · exact h3 hc

theorem words_no {l : List ByteArray} (h : ∀ x ∈ l, Word x.data.toList) {c : UInt8} (hc : c.toNat < 32 ∨ c = 44) : c ∉ jn 32 (tl l) := by
  intro hm
  rcases jn_mem _ hm with e | ⟨x, hx, hd⟩
  · subst e
    rcases hc with hc | hc
    · have : (32 : UInt8).toNat = 32 := rfl
      omega
    · exact absurd hc (by decide)
  · obtain ⟨y, hy, rfl⟩ := List.mem_map.1 hx
    exact word_no (h y hy) (by rcases hc with hc | hc; exact .inl (by omega); exact .inr (.inl hc)) hd


theorem last_of {a : List UInt8} {c : UInt8} {b : List UInt8} (hb : b ≠ []) : (a ++ c :: b).getLast? = b.getLast? := by
  rw [List.getLast?_append]
  cases b with
  | nil => exact absurd rfl hb
  | cons x b => rw [List.getLast?_cons_cons]; cases h : (x :: b).getLast? with
    | none => simp at h
    | some y => rfl

theorem word_last {l : List UInt8} (h : Word l) : l.getLast? ≠ some 13 := by
  intro e
  have := (h.2 13 (List.mem_of_getLast? e)).1
  have h13 : (13 : UInt8).toNat = 13 := rfl
  omega

theorem word_head {l : List UInt8} (h : Word l) (c : UInt8) (m : List UInt8) : (l ++ c :: m).head? ≠ some 35 := by
  cases l with
  | nil => exact absurd rfl h.1
  | cons x l =>
    intro e
    simp at e
    exact (h.2 x (by simp)).2.2 e

def bad0 (u : S24) : List UInt8 := u.f0.data.toList ++ 44 :: lineB u
def bad1 (u : S24) : List UInt8 := u.f0.data.toList ++ 44 :: (jn 32 (tl u.f1) ++ 44 :: u.f3.data.toList)
def bad2 (u : S24) : List UInt8 := u.f0.data.toList ++ 44 :: ((jn 32 (tl u.f1) ++ [32, 122]) ++ 44 :: (jn 32 (tl u.f2) ++ 44 :: u.f3.data.toList))

theorem tl_no {l : List ByteArray} (h : ∀ x ∈ l, Word x.data.toList) : ∀ x ∈ tl l, (32 : UInt8) ∉ x := by
  intro x hx
  obtain ⟨y, hy, rfl⟩ := List.mem_map.1 hx
  exact word_no (h y hy) (.inl (by decide))

theorem bads (u : S24) (g : Good u) (h0 : u.f0.size ≤ 2147483647) (h3 : u.f3.size ≤ 2147483647) (h1 : ∀ x ∈ u.f1, x.size ≤ 2147483647) (h2 : ∀ x ∈ u.f2, x.size ≤ 2147483647) :
    Ev (fun k => impl_UserRecords.f k (ba (bad0 u ++ [10]))) ([], 1) ∧ Ev (fun k => impl_UserRecords.f k (ba (bad1 u ++ [10]))) ([], 1) ∧ Ev (fun k => impl_UserRecords.f k (ba (bad2 u ++ [10]))) ([], 1) := by
  obtain ⟨ga, gd, gl, g1, g20, gt, gy⟩ := g
  have j1 := jn_le 32 u.f1 (by omega) h1
  have j2 := jn_le 32 u.f2 (by omega) h2
  have h0' := h0; have h3' := h3
  rw [size_of] at h0 h3
  have na : ∀ {c : UInt8}, c.toNat ≤ 32 ∨ c = 44 ∨ c = 35 → c ∉ u.f0.data.toList := fun hc => word_no ga hc
  have nd : ∀ {c : UInt8}, c.toNat ≤ 32 ∨ c = 44 ∨ c = 35 → c ∉ u.f3.data.toList := fun hc => word_no gd hc
  have a44 := na (c := 44) (.inr (.inl rfl))
  have d44 := nd (c := 44) (.inr (.inl rfl))
  have t44 := words_no gt (c := 44) (.inr rfl)
  have y44 := words_no gy (c := 44) (.inr rfl)
  have a10 := na (c := 10) (.inl (by decide))
  have d10 := nd (c := 10) (.inl (by decide))
  have t10 := words_no gt (c := 10) (.inl (by decide))
  have y10 := words_no gy (c := 10) (.inl (by decide))
  have hz : ¬ ((10 : UInt8) = 44) := by decide
  have hz2 : ¬ ((10 : UInt8) = 32) := by decide
  have hz3 : ¬ ((10 : UInt8) = 122) := by decide
  have ne1 : u.f1 ≠ [] := fun e => by rw [e] at g1; simp at g1
  have ne2 : u.f2 ≠ [] := fun e => by rw [gl, e] at g1; simp at g1
  have lastL : (lineB u).getLast? ≠ some 13 := by
    unfold lineB
    rw [last_of (by simp), last_of (by simp), last_of gd.1]
    exact word_last gd
  have sL : sp 44 (lineB u) = [u.f0.data.toList, jn 32 (tl u.f1), jn 32 (tl u.f2), u.f3.data.toList] := by
    unfold lineB
    rw [sp_some _ a44, sp_some _ t44, sp_some _ y44, sp_none d44]
  refine ⟨?_, ?_, ?_⟩
  · refine records_err _ ?_ ?_ ?_ ?_ ?_ ?_
    · simp [bad0, lineB, a10, d10, t10, y10, hz]
    · simp [bad0, lineB]; omega
    · unfold bad0; rw [last_of (by simp [lineB])]; exact lastL
    · exact word_head ga _ _
    · simp [bad0]
    · unfold rec1 bad0
      rw [sp_some _ a44, sL]
  · refine records_err _ ?_ ?_ ?_ ?_ ?_ ?_
    · simp [bad1, a10, d10, t10, hz]
    · simp [bad1]; omega
    · unfold bad1; rw [last_of (by simp), last_of gd.1]; exact word_last gd
    · exact word_head ga _ _
    · simp [bad1]
    · unfold rec1 bad1
      rw [sp_some _ a44, sp_some _ t44, sp_none d44]
  · refine records_err _ ?_ ?_ ?_ ?_ ?_ ?_
    · simp [bad2, a10, d10, t10, y10, hz, hz2, hz3]
    · simp [bad2]; omega
    · unfold bad2; rw [last_of (by simp), last_of (by simp), last_of gd.1]; exact word_last gd
    · exact word_head ga _ _
    · simp [bad2]
    · have tz44 : (44 : UInt8) ∉ jn 32 (tl u.f1) ++ [32, 122] := by
        simp [t44]
      have et : jn 32 (tl u.f1) ++ [32, 122] = jn 32 (tl u.f1 ++ [[122]]) := (jn_snoc 32 [122] (tl u.f1) (by simpa [tl] using ne1)).symm
      have s1 : sp 32 (jn 32 (tl u.f1) ++ [32, 122]) = tl u.f1 ++ [[122]] := by
        rw [et]
        refine sp_jn _ (by simp) (fun x hx => ?_)
        rcases List.mem_append.1 hx with hx | hx
        · exact tl_no gt x hx
        · rw [List.mem_singleton] at hx; subst hx; decide
      have s2 : sp 32 (jn 32 (tl u.f2)) = tl u.f2 := sp_jn _ (by simpa [tl] using ne2) (tl_no gy)
      unfold rec1 bad2
      rw [sp_some _ a44, sp_some _ tz44, sp_some _ y44, sp_none d44]
      change (if (sp 32 (jn 32 (tl u.f1) ++ [32, 122])).length = (sp 32 (jn 32 (tl u.f2))).length then (_, false) else (_, true)).2 = true
      rw [s1, s2, if_neg (by simp [tl]; omega)]

end Go.Proofs.Ytckdpckdabfkbab.Pure
