/- The walks over tries and what they compute: part 1 of several, put together by a program. -/
import Derived.Test.YtaejkbjepbifcaaG0
import Derived.Test.YtaejkbjepbifcaaOwn
import Derived.Test.YtaejkbjepbifcaaProg
import Derived.Test.YtaejkbjepbifcaaPlain
import Derived.Maps.GroupsBeside
import Derived.Maps.AppendAt
import Derived.Maps.Views
import Derived.Maps.Keyed
import Derived.WalkArith
import Derived.Lib.ConvBytes
import Derived.Deep.QuietTactic
import Derived.BigQuiet
import Derived.StillTailTactics
import Derived.Deep.CutBlock
import Derived.Deep.DeepCutAuto
import Derived.Outline
import Derived.Laws.CopyRow
import Derived.Laws.MakeOwn
import Derived.Deep.LoopGhost
import Derived.ScopeJumps
import Derived.WalkMore
namespace Go.Proofs.Ytaejkbjepbifcaa.Da
set_option linter.unusedVariables false
set_option linter.unusedSimpArgs false
/-- A cell is in use. -/
def DA.used (s : DA) (i : Nat) : Prop := 1 ≤ i ∧ i < s.n ∧ 0 ≤ s.C i
def DA.at_ (s : DA) (q : Int) (p : Nat) : Prop := q < (s.n : Int) ∧ s.C q.toNat = (p : Int)
instance (s : DA) (q : Int) (p : Nat) : Decidable (s.at_ q p) := by unfold DA.at_; infer_instance
def DA.step (s : DA) (p : Nat) (c : Int) : Option Nat := if s.at_ (s.B p + c) p then some (s.B p + c).toNat else none
def DA.run (s : DA) : Nat → List Int → Option Nat
  | p, [] => some p
  | p, c :: w => match s.step p c with
    | none => none
    | some q => s.run q w
def DA.term (s : DA) (q : Nat) : Option Int := if s.at_ (s.B q) q ∧ s.B (s.B q).toNat ≤ 0 then some (-(s.B (s.B q).toNat)) else none
abbrev Keys := List (List Int × Int)
def subk (c : Int) : List Int × Int → Option (List Int × Int)
  | ([], _) => none
  | (d :: t, v) => if d = c then some (t, v) else none
def sub (L : Keys) (c : Int) : Keys := L.filterMap (subk c)
def here (L : Keys) : Option Int := (L.find? (fun k => k.1.isEmpty)).map (·.2)
def subw (L : Keys) : List Int → Keys
  | [] => L
  | c :: w => subw (sub L c) w
def Okc (c : Int) : Prop := 1 ≤ c ∧ c ≤ 255
def Okw (w : List Int) : Prop := ∀ c ∈ w, Okc c
def Okk (L : Keys) : Prop := ∀ k ∈ L, Okw k.1
theorem Okk.sub {L : Keys} (h : Okk L) (c : Int) : Okk (sub L c) := by
  intro k hk
  obtain ⟨a, ha, hs⟩ := List.mem_filterMap.1 hk
  obtain ⟨w, v⟩ := a
  cases w with
  | nil => cases hs
  | cons d t =>
    simp only [subk] at hs
    split at hs
    · cases hs
      intro x hx
      exact h _ ha x (List.mem_cons_of_mem _ hx)
    · cases hs
theorem Okk.subw {L : Keys} (h : Okk L) (w : List Int) : Okk (subw L w) := by
  induction w generalizing L with
  | nil => exact h
  | cons c w ih => exact ih (h.sub c)
/-- What is told from cell p on. -/
def Told (s : DA) (p : Nat) (L : Keys) (w : List Int) : Prop :=
  match s.run p w with
  | none => subw L w = []
  | some q => subw L w ≠ [] ∧ s.term q = here (subw L w) ∧ 1 ≤ s.B q
def Good (s : DA) (p : Nat) (L : Keys) : Prop := ∀ w, Okw w → Told s p L w
theorem good_mk {s : DA} {p : Nat} {L : Keys} (h0 : L ≠ []) (ht : s.term p = here L) (hb : 1 ≤ s.B p) (h : ∀ c, Okc c → match s.step p c with | none => sub L c = [] | some q => Good s q (sub L c)) : Good s p L := by
  intro w hw
  cases w with
  | nil => exact ⟨h0, ht, hb⟩
  | cons c w =>
    have hc := h c (hw c List.mem_cons_self)
    have hw2 : Okw w := fun x hx => hw x (List.mem_cons_of_mem _ hx)
    unfold Told
    simp only [DA.run]
    cases hs : s.step p c with
    | none =>
      rw [hs] at hc
      have hc : sub L c = [] := hc
      show subw (sub L c) w = []
      rw [hc]
      clear hc hs hw hw2
      induction w with
      | nil => rfl
      | cons d w ih => exact ih
    | some q =>
      rw [hs] at hc
      exact hc w hw2
theorem good_step {s : DA} {p q : Nat} {L : Keys} (g : Good s p L) {c : Int} (hc : Okc c) (hs : s.step p c = some q) : Good s q (sub L c) := by
  intro w hw
  have h := g (c :: w) (fun x hx => by rcases List.mem_cons.1 hx with rfl | hx; exact hc; exact hw x hx)
  unfold Told at h ⊢
  simp only [DA.run, hs] at h
  exact h
theorem sub_ne {L : Keys} {c : Int} {t : List Int} {v : Int} (h : (c :: t, v) ∈ L) : sub L c ≠ [] := by
  intro e
  have : (t, v) ∈ sub L c := List.mem_filterMap.2 ⟨_, h, by simp [subk]⟩
  rw [e] at this
  cases this
/-- A cell that tells something has a cell below it. -/
theorem good_child {s : DA} {p : Nat} {L : Keys} (g : Good s p L) (hk : Okk L) : ∃ q : Int, 1 ≤ q ∧ s.at_ q p := by
  have h := g [] (fun _ h => by cases h)
  obtain ⟨h0, ht, hb⟩ := h
  have h0 : L ≠ [] := h0
  have ht : s.term p = here L := ht
  obtain ⟨k, hkm⟩ := List.exists_mem_of_ne_nil _ h0
  obtain ⟨w, v⟩ := k
  cases w with
  | nil =>
    have : here L ≠ none := by
      intro e
      simp only [here, Option.map_eq_none_iff, List.find?_eq_none] at e
      exact e _ hkm rfl
    rw [← ht] at this
    unfold DA.term at this
    split at this
    · rename_i h; exact ⟨_, hb, h.1⟩
    · exact absurd rfl this
  | cons c t =>
    have hc := hk _ hkm c List.mem_cons_self
    have h1 := g [c] (fun x hx => by rcases List.mem_cons.1 hx with rfl | hx; exact hc; cases hx)
    unfold Told at h1
    simp only [DA.run] at h1
    cases hs : s.step p c with
    | none => rw [hs] at h1; exact absurd h1 (sub_ne hkm)
    | some q =>
      unfold DA.step at hs
      split at hs
      · rename_i h; exact ⟨_, by have := hc.1; omega, h⟩
      · cases hs
/-- What an 'add' at cell p leaves as it was, and what its new cells are. -/
structure Fr (s s' : DA) (p : Nat) : Prop where
  n : s.n ≤ s'.n
  c : ∀ i, s.used i → s'.C i = s.C i
  b : ∀ i, i = 0 ∨ s.used i → i ≠ p → s'.B i = s.B i
  new : ∀ i, s'.used i → ¬ s.used i → s'.C i = (p : Int) ∨ ∃ r : Nat, s'.C i = (r : Int) ∧ s'.used r ∧ ¬ s.used r
theorem Fr.refl (s : DA) (p : Nat) : Fr s s p := ⟨Nat.le_refl _, fun _ _ => rfl, fun _ _ _ => rfl, fun i h1 h2 => absurd h1 h2⟩
theorem Fr.up {s s' : DA} {p i : Nat} (f : Fr s s' p) (h : s.used i) : s'.used i := ⟨h.1, Nat.lt_of_lt_of_le h.2.1 f.n, by rw [f.c i h]; exact h.2.2⟩
/-- No cell stands below p. -/
def DA.bare (s : DA) (p : Nat) : Prop := ∀ i, s.used i → s.C i ≠ (p : Int)
/-- p is a cell below another one, by a letter; or the root. -/
def DA.leaf (s : DA) (p : Nat) : Prop := p = 0 ∨ (s.used p ∧ ∃ (r : Nat) (c : Int), 1 ≤ c ∧ s.C p = (r : Int) ∧ s.B r + c = (p : Int))
theorem at_keep {s s' : DA} {p r : Nat} (f : Fr s s' p) (hr : s.used r) (hrp : r ≠ p) (q : Int) (hq : 1 ≤ q) : s'.at_ q r ↔ s.at_ q r := by
  obtain ⟨k, rfl⟩ := Int.eq_ofNat_of_zero_le (by omega : 0 ≤ q)
  simp only [DA.at_, Int.toNat_natCast]
  constructor
  · rintro ⟨h1, h2⟩
    have hu : s'.used k := ⟨by omega, by omega, by omega⟩
    by_cases hs : s.used k
    · rw [f.c k hs] at h2
      exact ⟨by have := hs.2.1; omega, h2⟩
    · rcases f.new k hu hs with h | ⟨r', h, h3, h4⟩
      · rw [h2] at h; exact absurd (by omega) hrp
      · rw [h2] at h
        have : r = r' := by omega
        rw [← this] at h4
        exact absurd hr h4
  · rintro ⟨h1, h2⟩
    have hu : s.used k := ⟨by omega, by omega, by omega⟩
    exact ⟨by have := f.n; omega, by rw [f.c k hu]; exact h2⟩
theorem step_keep {s s' : DA} {p r : Nat} (f : Fr s s' p) (hr : s.used r) (hrp : r ≠ p) (hb : 1 ≤ s.B r) (c : Int) (hc : 1 ≤ c) : s'.step r c = s.step r c := by
  unfold DA.step
  rw [f.b r (Or.inr hr) hrp]
  by_cases h : s.at_ (s.B r + c) r
  · rw [if_pos h, if_pos ((at_keep f hr hrp _ (by omega)).2 h)]
  · rw [if_neg h, if_neg (fun e => h ((at_keep f hr hrp _ (by omega)).1 e))]
theorem term_keep {s s' : DA} {p r : Nat} (f : Fr s s' p) (hr : s.used r) (hrp : r ≠ p) (hb : 1 ≤ s.B r) (hp : s.leaf p) : s'.term r = s.term r := by
  unfold DA.term
  rw [f.b r (Or.inr hr) hrp]
  have hk := at_keep f hr hrp _ hb
  by_cases h : s.at_ (s.B r) r
  · have hB : s'.B (s.B r).toNat = s.B (s.B r).toNat := by
      have h1 := h.1
      have h2 := h.2
      have hu : s.used (s.B r).toNat := ⟨by omega, by omega, by omega⟩
      refine f.b _ (Or.inr hu) ?_
      intro e
      rcases hp with h0 | ⟨_, r', c, c1, e1, e2⟩
      · omega
      · rw [← e, h2] at e1
        have : r' = r := by omega
        rw [this] at e2
        omega
    have h' := hk.2 h
    simp only [h, h', true_and, hB]
  · have h' : ¬ s'.at_ (s.B r) r := fun e => h (hk.1 e)
    simp only [h, h', false_and, if_false]
/-- What has been told stays told. -/
theorem good_keep {s s' : DA} {p q : Nat} {L : Keys} (g : Good s q L) (hk : Okk L) (f : Fr s s' p) (hq : s.used q) (ho : s.bare p) (hp : s.leaf p) : Good s' q L := by
  intro w
  induction w generalizing q L with
  | nil =>
    intro hw
    obtain ⟨h0, ht, hb⟩ := g [] (fun _ h => by cases h)
    have hqp : q ≠ p := by
      rintro rfl
      obtain ⟨k, k1, k2, k3⟩ := good_child g hk
      exact ho k.toNat ⟨by omega, by omega, by omega⟩ k3
    exact ⟨h0, (term_keep f hq hqp hb hp).trans ht, by rw [f.b q (Or.inr hq) hqp]; exact hb⟩
  | cons c w ih =>
    intro hw
    obtain ⟨h0, ht, hb⟩ := g [] (fun _ h => by cases h)
    have hqp : q ≠ p := by
      rintro rfl
      obtain ⟨k, k1, k2, k3⟩ := good_child g hk
      exact ho k.toNat ⟨by omega, by omega, by omega⟩ k3
    have hc := hw c List.mem_cons_self
    have hs := step_keep f hq hqp hb c hc.1
    have h := g (c :: w) hw
    unfold Told at h ⊢
    simp only [DA.run] at h ⊢
    rw [hs]
    cases he : s.step q c with
    | none => rw [he] at h; exact h
    | some r =>
      have hr : s.used r := by
        unfold DA.step at he
        split at he
        · rename_i h
          cases he
          have h1 := h.1
          have h2 := h.2
          have hb1 : 1 ≤ s.B q := hb
          have hc1 := hc.1
          exact ⟨by omega, by omega, by omega⟩
        · cases he
      exact ih (good_step g hc he) (hk.sub c) hr (fun x hx => hw x (List.mem_cons_of_mem _ hx))
end Go.Proofs.Ytaejkbjepbifcaa.Da
namespace Go.Proofs.Ytaejkbjepbifcaa.Da
set_option linter.unusedVariables false
set_option linter.unusedSimpArgs false
/-- Every used cell stands below the root or a used cell. -/
def DA.par (s : DA) : Prop := ∀ i, s.used i → s.C i = 0 ∨ ∃ r : Nat, s.C i = (r : Int) ∧ s.used r
/-- All used cells stand up to U; the array is not much longer. -/
structure Bd (s : DA) (U : Nat) : Prop where
  u : ∀ i, s.used i → i ≤ U
  n : s.n ≤ 2 * U + 60000
  lo : 51200 ≤ s.n
/-- The cells below p have been marked. -/
structure Mk (s s1 : DA) (p : Nat) (b : Nat) (chars : List Int) : Prop where
  b1 : 1 ≤ b
  bp : s1.B p = (b : Int)
  nn : s.n ≤ s1.n
  cc : ∀ i, s.used i → s1.C i = s.C i
  bb : ∀ i, i = 0 ∨ s.used i → i ≠ p → s1.B i = s.B i
  mm : ∀ ch ∈ chars, s1.used (b + ch.toNat) ∧ s1.C (b + ch.toNat) = (p : Int) ∧ ¬ s.used (b + ch.toNat)
  only : ∀ i, s1.used i → ¬ s.used i → s1.C i = (p : Int) ∧ ∃ ch ∈ chars, i = b + ch.toNat
theorem Mk.up {s s1 : DA} {p b : Nat} {chars : List Int} (m : Mk s s1 p b chars) {i : Nat} (h : s.used i) : s1.used i := ⟨h.1, Nat.lt_of_lt_of_le h.2.1 m.nn, by rw [m.cc i h]; exact h.2.2⟩
def head1 : List Int → Int
  | [] => 0
  | c :: _ => c
/-- The letters with which keys go on. -/
def Chs (L : Keys) (chars : List Int) : Prop := ∀ c, c ∈ chars ↔ ∃ k ∈ L, head1 k.1 = c
/-- The state of the walk over the children: k of them are done. -/
structure Jn (s1 : DA) (p b : Nat) (chars : List Int) (L : Keys) (k : Nat) (t : DA) : Prop where
  nn : s1.n ≤ t.n
  cc : ∀ i, s1.used i → t.C i = s1.C i
  bb : ∀ i, i = 0 ∨ s1.used i → (∀ ch ∈ chars, i ≠ b + ch.toNat) → t.B i = s1.B i
  new : ∀ i, t.used i → ¬ s1.used i → ∃ r : Nat, t.C i = (r : Int) ∧ ((∃ ch ∈ chars, r = b + ch.toNat) ∨ (t.used r ∧ ¬ s1.used r))
  dn : ∀ j ch, j < k → chars[j]? = some ch → if ch = 0 then (∃ v, here L = some v ∧ t.B b = -v) else Good t (b + ch.toNat) (sub L ch)
  td : ∀ j ch, k ≤ j → chars[j]? = some ch → ch ≠ 0 → t.bare (b + ch.toNat)
theorem Jn.up {s1 t : DA} {p b k : Nat} {chars : List Int} {L : Keys} (j : Jn s1 p b chars L k t) {i : Nat} (h : s1.used i) : t.used i := ⟨h.1, Nat.lt_of_lt_of_le h.2.1 j.nn, by rw [j.cc i h]; exact h.2.2⟩
theorem Jn.start {s s1 : DA} {p b : Nat} {chars : List Int} {L : Keys} (m : Mk s s1 p b chars) (hp : p = 0 ∨ s.used p) (hpar : s.par) : Jn s1 p b chars L 0 s1 := by
  refine ⟨Nat.le_refl _, fun _ _ => rfl, fun _ _ _ => rfl, fun i h1 h2 => absurd h1 h2, fun j ch h => absurd h (Nat.not_lt_zero _), fun j ch _ hj h0 i hu e => ?_⟩
  have hm := m.mm ch (List.mem_of_getElem? hj)
  by_cases hs : s.used i
  · rw [m.cc i hs] at e
    rcases hpar i hs with h | ⟨r, h, hr⟩
    · have := hm.1.1; omega
    · have : r = b + ch.toNat := by omega
      rw [this] at hr
      exact hm.2.2 hr
  · obtain ⟨h1, _⟩ := m.only i hu hs
    have h2 : p = b + ch.toNat := by omega
    rcases hp with h | h
    · have := hm.1.1; omega
    · rw [h2] at h; exact hm.2.2 h
/-- Another child is done by an 'add' of its own. -/
theorem Jn.child {s s1 t t' : DA} {p b k : Nat} {chars : List Int} {L : Keys} (m : Mk s s1 p b chars) (hp : p = 0 ∨ s.used p) (hL : Okk L) (hnd : chars.Nodup) (j : Jn s1 p b chars L k t) {ch : Int} (hk : chars[k]? = some ch) (h0 : 1 ≤ ch) (h00 : ∀ c ∈ chars, 0 ≤ c)
    (f : Fr t t' (b + ch.toNat)) (g : Good t' (b + ch.toNat) (sub L ch)) : Jn s1 p b chars L (k + 1) t' := by
  have hmem := List.mem_of_getElem? hk
  have hm := m.mm ch hmem
  have hbare := j.td k ch (Nat.le_refl _) hk (by omega)
  have hB : t.B p = (b : Int) := by
    rw [j.bb p (by rcases hp with h | h; exact Or.inl h; exact Or.inr (m.up h)) ?_]
    · exact m.bp
    · intro c hc e
      have := m.mm c hc
      rcases hp with h | h
      · have := this.1.1; omega
      · rw [e] at h; exact this.2.2 h
  have hleaf : t.leaf (b + ch.toNat) := Or.inr ⟨j.up hm.1, p, ch, h0, by rw [j.cc _ hm.1]; exact hm.2.1, by rw [hB]; omega⟩
  refine ⟨Nat.le_trans j.nn f.n, fun i hi => by rw [f.c i (j.up hi), j.cc i hi], fun i hi hc => ?_, fun i hi hn => ?_, fun jj c hj hc => ?_, fun jj c hj hc hc0 i hi e => ?_⟩
  · rw [f.b i (by rcases hi with h | h; exact Or.inl h; exact Or.inr (j.up h)) (hc ch hmem), j.bb i hi hc]
  · by_cases ht : t.used i
    · obtain ⟨r, e, h⟩ := j.new i ht hn
      rw [f.c i ht]
      rcases h with h | ⟨h1, h2⟩
      · exact ⟨r, e, Or.inl h⟩
      · exact ⟨r, e, Or.inr ⟨f.up h1, h2⟩⟩
    · rcases f.new i hi ht with h | ⟨r, h1, h2, h3⟩
      · exact ⟨_, h, Or.inl ⟨ch, hmem, rfl⟩⟩
      · exact ⟨r, h1, Or.inr ⟨h2, fun h => h3 (j.up h)⟩⟩
  · by_cases hjk : jj = k
    · subst hjk
      rw [hk] at hc
      cases hc
      rw [if_neg (by omega)]
      exact g
    · have hd := j.dn jj c (by omega) hc
      have hcm := List.mem_of_getElem? hc
      have hmc := m.mm c hcm
      by_cases h : c = 0
      · rw [if_pos h] at hd ⊢
        obtain ⟨v, hv, hb⟩ := hd
        refine ⟨v, hv, ?_⟩
        subst h
        rw [f.b b (Or.inr (j.up (by simpa using hmc.1))) (by omega)]
        exact hb
      · rw [if_neg h] at hd ⊢
        exact good_keep hd (hL.sub c) f (j.up hmc.1) hbare hleaf
  · have hcm := List.mem_of_getElem? hc
    have hmc := m.mm c hcm
    have hne : c ≠ ch := by
      rintro rfl
      have h1 := (List.getElem?_eq_some_iff.1 hc)
      have h2 := (List.getElem?_eq_some_iff.1 hk)
      obtain ⟨a1, a2⟩ := h1
      obtain ⟨b1, b2⟩ := h2
      have := (List.getElem_inj hnd (h₀ := a1) (h₁ := b1)).1 (by rw [a2, b2])
      omega
    have hc0' := h00 c hcm
    by_cases ht : t.used i
    · rw [f.c i ht] at e
      exact j.td jj c (by omega) hc hc0 i ht e
    · rcases f.new i hi ht with h | ⟨r, h1, h2, h3⟩
      · rw [h] at e
        omega
      · rw [h1] at e
        have : r = b + c.toNat := by omega
        rw [this] at h3
        exact h3 (j.up hmc.1)
/-- The first child is the end of a key. -/
theorem Jn.fin {s s1 t : DA} {p b : Nat} {chars : List Int} {L : Keys} (m : Mk s s1 p b chars) (hnd : chars.Nodup) (h00 : ∀ c ∈ chars, 0 ≤ c) (j : Jn s1 p b chars L 0 t) (hk : chars[0]? = some 0) {v : Int} (hv : here L = some v) : Jn s1 p b chars L 1 ⟨t.n, upd t.B b (-v), t.C⟩ := by
  have hmem := List.mem_of_getElem? hk
  refine ⟨j.nn, j.cc, fun i hi hc => ?_, j.new, fun jj c hj hc => ?_, fun jj c hj hc hc0 => j.td jj c (Nat.zero_le _) hc hc0⟩
  · have : i ≠ b := by have := hc 0 hmem; simpa using this
    show upd t.B b (-v) i = _
    rw [upd_ne this]
    exact j.bb i hi hc
  · obtain rfl : jj = 0 := by omega
    rw [hk] at hc
    cases hc
    rw [if_pos rfl]
    exact ⟨v, hv, upd_same _ _ _⟩
theorem below_iff {s s1 t : DA} {p b k : Nat} {chars : List Int} {L : Keys} (m : Mk s s1 p b chars) (hp : p = 0 ∨ s.used p) (hbare : s.bare p) (j : Jn s1 p b chars L k t) (h00 : ∀ c ∈ chars, 0 ≤ c) (c : Int) (hc : 0 ≤ c) : t.at_ ((b : Int) + c) p ↔ c ∈ chars := by
  have e : ((b : Int) + c).toNat = b + c.toNat := by omega
  constructor
  · rintro ⟨h1, h2⟩
    rw [e] at h2
    have hb1 := m.b1
    have hu : t.used (b + c.toNat) := ⟨by omega, by omega, by omega⟩
    by_cases hs1 : s1.used (b + c.toNat)
    · rw [j.cc _ hs1] at h2
      by_cases hs : s.used (b + c.toNat)
      · rw [m.cc _ hs] at h2
        exact absurd h2 (hbare _ hs)
      · obtain ⟨_, ch, hch, he⟩ := m.only _ hs1 hs
        have := h00 ch hch
        have : ch = c := by omega
        rw [← this]; exact hch
    · obtain ⟨r, e2, h⟩ := j.new _ hu hs1
      have hrp : r = p := by omega
      exfalso
      rcases h with ⟨ch, hch, he⟩ | ⟨h3, h4⟩
      · have hm := m.mm ch hch
        rcases hp with h | h
        · have := hm.1.1; omega
        · rw [← hrp, he] at h; exact hm.2.2 h
      · rcases hp with h | h
        · have := h3.1; omega
        · rw [hrp] at h4; exact h4 (m.up h)
  · intro h
    have hm := m.mm c h
    refine ⟨?_, ?_⟩
    · have := (j.up hm.1).2.1; omega
    · rw [e, j.cc _ hm.1]; exact hm.2.1
theorem here_none {L : Keys} (h : ∀ k ∈ L, k.1 ≠ []) : here L = none := by
  simp only [here, Option.map_eq_none_iff, List.find?_eq_none]
  intro k hk e
  exact h k hk (List.isEmpty_iff.1 e)
theorem sub_none {L : Keys} {c : Int} (h : ∀ k ∈ L, head1 k.1 ≠ c) : sub L c = [] := by
  apply List.filterMap_eq_nil_iff.2
  intro k hk
  obtain ⟨w, v⟩ := k
  cases w with
  | nil => rfl
  | cons d t =>
    have : d ≠ c := h _ hk
    simp only [subk]
    rw [if_neg this]
/-- All children are done. -/
theorem Jn.all {s s1 t : DA} {p b : Nat} {chars : List Int} {L : Keys} (m : Mk s s1 p b chars) (hp : p = 0 ∨ s.used p) (hbare : s.bare p) (h00 : ∀ c ∈ chars, 0 ≤ c) (hL : Okk L) (hne : L ≠ []) (hch : Chs L chars) (hv : ∀ k ∈ L, 0 ≤ k.2) (j : Jn s1 p b chars L chars.length t) :
    Fr s t p ∧ Good t p L := by
  have hkid : ∀ ch ∈ chars, p ≠ b + ch.toNat := by
    intro ch hc e
    have hm := m.mm ch hc
    rcases hp with h | h
    · have := hm.1.1; omega
    · rw [e] at h; exact hm.2.2 h
  have hB : t.B p = (b : Int) := by
    rw [j.bb p (by rcases hp with h | h; exact Or.inl h; exact Or.inr (m.up h)) hkid]
    exact m.bp
  have hb1 := m.b1
  constructor
  · refine ⟨Nat.le_trans m.nn j.nn, fun i hi => by rw [j.cc i (m.up hi), m.cc i hi], fun i hi hip => ?_, fun i hi hn => ?_⟩
    · rw [j.bb i (by rcases hi with h | h; exact Or.inl h; exact Or.inr (m.up h)) ?_, m.bb i hi hip]
      intro ch hc e
      have hm := m.mm ch hc
      rcases hi with h | h
      · have := hm.1.1; omega
      · rw [e] at h; exact hm.2.2 h
    · by_cases hs1 : s1.used i
      · rw [j.cc i hs1]
        exact Or.inl (m.only i hs1 hn).1
      · obtain ⟨r, e, h⟩ := j.new i hi hs1
        rcases h with ⟨ch, hc, rfl⟩ | ⟨h1, h2⟩
        · have hm := m.mm ch hc
          exact Or.inr ⟨_, e, j.up hm.1, hm.2.2⟩
        · exact Or.inr ⟨r, e, h1, fun h => h2 (m.up h)⟩
  · have hit : ∀ c, 0 ≤ c → (t.at_ ((b : Int) + c) p ↔ c ∈ chars) := fun c hc => below_iff m hp hbare j h00 c hc
    refine good_mk hne ?_ (by rw [hB]; omega) (fun c hc => ?_)
    · have h0 := hit 0 (by omega)
      rw [Int.add_zero] at h0
      unfold DA.term
      rw [hB]
      by_cases hz : (0 : Int) ∈ chars
      · obtain ⟨jj, hj⟩ := List.getElem?_of_mem hz
        have hjl := (List.getElem?_eq_some_iff.1 hj).1
        have hd := j.dn jj 0 hjl hj
        rw [if_pos rfl] at hd
        obtain ⟨v, hv1, hv2⟩ := hd
        have hv0 : 0 ≤ v := by
          simp only [here, Option.map_eq_some_iff] at hv1
          obtain ⟨k, hk, rfl⟩ := hv1
          exact hv k (List.mem_of_find?_eq_some hk)
        rw [Int.toNat_natCast, hv2, if_pos ⟨h0.2 hz, by omega⟩, hv1]
        congr 1
        omega
      · rw [if_neg (fun h => hz (h0.1 h.1)), here_none]
        intro k hk e
        exact hz ((hch 0).2 ⟨k, hk, by rw [e]; rfl⟩)
    · have h1 := hit c (by have := hc.1; omega)
      unfold DA.step
      rw [hB]
      by_cases hz : c ∈ chars
      · rw [if_pos (h1.2 hz)]
        obtain ⟨jj, hj⟩ := List.getElem?_of_mem hz
        have hjl := (List.getElem?_eq_some_iff.1 hj).1
        have hd := j.dn jj c hjl hj
        rw [if_neg (by have := hc.1; omega)] at hd
        have e : ((b : Int) + c).toNat = b + c.toNat := by have := hc.1; omega
        show Good t ((b : Int) + c).toNat (sub L c)
        rw [e]
        exact hd
      · rw [if_neg (fun h => hz (h1.1 h))]
        exact sub_none (fun k hk e => hz ((hch c).2 ⟨k, hk, e⟩))
end Go.Proofs.Ytaejkbjepbifcaa.Da
namespace Go.Proofs.Ytaejkbjepbifcaa.Da
set_option linter.unusedVariables false
set_option linter.unusedSimpArgs false
/-- Ascending, letter by letter. -/
def le : List Int → List Int → Prop
  | [], _ => True
  | _ :: _, [] => False
  | a :: x, b :: y => a < b ∨ (a = b ∧ le x y)
def Asc (L : Keys) : Prop := L.Pairwise (fun a b => le a.1 b.1)
theorem le_head {x y : List Int} (h : le x y) (hy : ∀ c ∈ y, 1 ≤ c) (hx : ∀ c ∈ x, 1 ≤ c) : head1 x ≤ head1 y := by
  cases x with
  | nil =>
    cases y with
    | nil => exact Int.le_refl _
    | cons b y => have := hy b List.mem_cons_self; simp only [head1]; omega
  | cons a x =>
    cases y with
    | nil => exact h.elim
    | cons b y => simp only [head1]; rcases h with h | h <;> omega
theorem Asc.sub {L : Keys} (h : Asc L) (c : Int) : Asc (sub L c) := by
  unfold Asc Da.sub at *
  rw [List.pairwise_filterMap]
  refine h.imp ?_
  intro a b hab a' ha b' hb
  obtain ⟨wa, va⟩ := a
  obtain ⟨wb, vb⟩ := b
  cases wa with
  | nil => cases ha
  | cons d t =>
    cases wb with
    | nil => cases hb
    | cons e u =>
      simp only [subk] at ha hb
      split at ha
      · split at hb
        · cases ha; cases hb
          rename_i h1 h2
          rcases hab with h | ⟨_, h⟩
          · omega
          · exact h
        · cases hb
      · cases ha
/-- The letters, as they are collected: one is added where it is not the last one. -/
def push (l : List Int) (c : Int) : List Int := if l.getLast? = some c then l else l ++ [c]
def letters (L : Keys) : List Int := L.foldl (fun l k => push l (head1 k.1)) []
theorem letters_snoc (L : Keys) (k : List Int × Int) : letters (L ++ [k]) = push (letters L) (head1 k.1) := by simp [letters]
theorem push_mem (l : List Int) (c x : Int) : x ∈ push l c ↔ x ∈ l ∨ x = c := by
  unfold push
  split
  · rename_i h
    constructor
    · exact Or.inl
    · rintro (h1 | rfl)
      · exact h1
      · exact List.mem_of_getLast? h
  · simp
theorem chs_letters (L : Keys) : Chs L (letters L) := by
  have key : ∀ (n : Nat) (L : Keys), L.length = n → Chs L (letters L) := by
    intro n
    induction n with
    | zero => intro L h; rw [List.length_eq_zero_iff.1 h]; intro c; simp [letters]
    | succ n ih =>
      intro L h
      obtain ⟨M, k, rfl⟩ : ∃ M k, L = M ++ [k] := ⟨L.dropLast, L.getLast (by intro e; rw [e] at h; simp at h), (List.dropLast_concat_getLast _).symm⟩
      have hM : M.length = n := by simpa using h
      intro c
      rw [letters_snoc, push_mem, ih M hM c]
      constructor
      · rintro (⟨k', hk, e⟩ | rfl)
        · exact ⟨k', List.mem_append_left _ hk, e⟩
        · exact ⟨k, List.mem_append_right _ List.mem_cons_self, rfl⟩
      · rintro ⟨k', hk, e⟩
        rcases List.mem_append.1 hk with hk | hk
        · exact Or.inl ⟨k', hk, e⟩
        · rw [List.mem_singleton.1 hk] at e; exact Or.inr e.symm
  exact key _ L rfl
theorem asc_letters {L : Keys} (h : Asc L) (hk : Okk L) : (letters L).Pairwise (· < ·) := by
  have key : ∀ (n : Nat) (L : Keys), L.length = n → Asc L → Okk L → (letters L).Pairwise (· < ·) := by
    intro n
    induction n with
    | zero => intro L h _ _; rw [List.length_eq_zero_iff.1 h]; simp [letters]
    | succ n ih =>
      intro L h ha hk
      obtain ⟨M, k, rfl⟩ : ∃ M k, L = M ++ [k] := ⟨L.dropLast, L.getLast (by intro e; rw [e] at h; simp at h), (List.dropLast_concat_getLast _).symm⟩
      have hM : M.length = n := by simpa using h
      obtain ⟨a1, a2, a3⟩ := List.pairwise_append.1 ha
      have hb := ih M hM a1 (fun x hx => hk x (List.mem_append_left _ hx))
      rw [letters_snoc]
      unfold push
      split
      · exact hb
      · rename_i hne
        rw [List.pairwise_append]
        refine ⟨hb, by simp, fun x hx y hy => ?_⟩
        rw [List.mem_singleton.1 hy]
        have hle : ∀ z ∈ letters M, z ≤ head1 k.1 := by
          intro z hz
          obtain ⟨k', hk', e⟩ := (chs_letters M z).1 hz
          rw [← e]
          exact le_head (a3 k' hk' k List.mem_cons_self) (fun c hc => (hk k (List.mem_append_right _ List.mem_cons_self) c hc).1) (fun c hc => (hk k' (List.mem_append_left _ hk') c hc).1)
        have h1 := hle x hx
        by_cases e : x = head1 k.1
        · exfalso
          -- x is the greatest, so the last one
          obtain ⟨i, hi, e2⟩ := List.getElem_of_mem hx
          have hl : (letters M).getLast? = some ((letters M)[(letters M).length - 1]'(by omega)) := by
            rw [List.getLast?_eq_getElem?, List.getElem?_eq_getElem (by omega)]
          have hlast := hle _ (List.getElem_mem (show (letters M).length - 1 < (letters M).length by omega))
          by_cases hi2 : i = (letters M).length - 1
          · subst hi2
            apply hne
            rw [hl, e2, e]
          · have := List.pairwise_iff_getElem.1 hb i ((letters M).length - 1) hi (by omega) (by omega)
            rw [e2] at this
            omega
        · omega
  exact key _ L rfl h hk
theorem letters_ne {L : Keys} (h : L ≠ []) : 0 < (letters L).length := by
  obtain ⟨k, hk⟩ := List.exists_mem_of_ne_nil _ h
  have := (chs_letters L (head1 k.1)).2 ⟨k, hk, rfl⟩
  exact List.length_pos_of_mem this
theorem letters_bd {L : Keys} (hk : Okk L) : ∀ c ∈ letters L, 0 ≤ c ∧ c ≤ 255 := by
  intro c hc
  obtain ⟨k, hk', rfl⟩ := (chs_letters L c).1 hc
  obtain ⟨w, v⟩ := k
  cases w with
  | nil => simp [head1]
  | cons d t => have := hk _ hk' d List.mem_cons_self; simp only [head1]; unfold Okc at this; omega
theorem asc_len {l : List Int} (h : l.Pairwise (· < ·)) (hb : ∀ c ∈ l, 0 ≤ c ∧ c ≤ 255) : l.length ≤ 256 := by
  have key : ∀ (l : List Int) (a : Int), l.Pairwise (· < ·) → (∀ c ∈ l, a ≤ c ∧ c ≤ 255) → a ≤ 256 → (l.length : Int) ≤ 256 - a := by
    intro l
    induction l with
    | nil => intro a _ _ h; simp; omega
    | cons x l ih =>
      intro a hp hb ha
      have hx := hb x List.mem_cons_self
      obtain ⟨h1, h2⟩ := List.pairwise_cons.1 hp
      have := ih (x + 1) h2 (fun c hc => ⟨by have := h1 c hc; omega, (hb c (List.mem_cons_of_mem _ hc)).2⟩) (by omega)
      simp only [List.length_cons]
      omega
  have := key l 0 h hb (by omega)
  omega
/-- The first key is the empty one, if there is one. -/
theorem here_first {L : Keys} (h : Asc L) (k : List Int × Int) (M : Keys) (hL : L = k :: M) (h0 : (0 : Int) ∈ letters L) (hk : Okk L) : k.1 = [] := by
  obtain ⟨k', hk', e⟩ := (chs_letters L 0).1 h0
  have e1 : k'.1 = [] := by
    obtain ⟨w, v⟩ := k'
    cases w with
    | nil => rfl
    | cons d t =>
      have := hk _ hk' d List.mem_cons_self
      simp only [head1] at e
      unfold Okc at this
      omega
  subst hL
  rcases List.mem_cons.1 hk' with rfl | hm
  · exact e1
  · have := (List.pairwise_cons.1 h).1 k' hm
    rw [e1] at this
    obtain ⟨w, v⟩ := k
    cases w with
    | nil => rfl
    | cons d t => exact this.elim
/-- All letters of all keys. -/
def tot (L : Keys) : Nat := (L.map (fun k => k.1.length)).sum
def lenAt1 (c : Int) (k : List Int × Int) : Nat := match k.1 with
  | [] => 0
  | d :: t => if d = c then t.length + 1 else 0
def lenAt (L : Keys) (c : Int) : Nat := (L.map (lenAt1 c)).sum
theorem tot_sub (L : Keys) (c : Int) : tot (sub L c) + (sub L c).length = lenAt L c := by
  induction L with
  | nil => rfl
  | cons k L ih =>
    obtain ⟨w, v⟩ := k
    simp only [lenAt, List.map_cons, List.sum_cons] at ih ⊢
    cases w with
    | nil =>
      have e : sub (([], v) :: L) c = sub L c := rfl
      rw [e]
      simp only [lenAt1]
      omega
    | cons d t =>
      by_cases h : d = c
      · have e : sub ((d :: t, v) :: L) c = (t, v) :: sub L c := by
          unfold sub
          rw [List.filterMap_cons_some (b := (t, v))]
          simp [subk, h]
        rw [e]
        simp only [tot, List.map_cons, List.sum_cons, List.length_cons, lenAt1, h, if_true] at ih ⊢
        omega
      · have e : sub ((d :: t, v) :: L) c = sub L c := by
          unfold sub
          rw [List.filterMap_cons_none]
          simp [subk, h]
        rw [e]
        simp only [lenAt1, h, if_false]
        omega
theorem one_at (cs : List Int) (h : cs.Nodup) (k : List Int × Int) : (cs.map (fun c => lenAt1 c k)).sum ≤ k.1.length := by
  obtain ⟨w, v⟩ := k
  cases w with
  | nil =>
    induction cs with
    | nil => simp
    | cons c cs ih =>
      have := ih (List.nodup_cons.1 h).2
      simp only [List.map_cons, List.sum_cons, lenAt1] at this ⊢
      omega
  | cons d t =>
    induction cs with
    | nil => simp
    | cons c cs ih =>
      obtain ⟨h1, h2⟩ := List.nodup_cons.1 h
      simp only [List.map_cons, List.sum_cons]
      by_cases e : d = c
      · have hz : (cs.map (fun c => lenAt1 c (d :: t, v))).sum = 0 := by
          clear ih h h2
          induction cs with
          | nil => rfl
          | cons c' cs ih =>
            have hne : d ≠ c' := by rintro rfl; exact h1 (by rw [← e]; exact List.mem_cons_self)
            have := ih (fun hm => h1 (List.mem_cons_of_mem _ hm))
            simp only [List.map_cons, List.sum_cons, lenAt1, hne, if_false] at this ⊢
            omega
        rw [hz]
        simp only [lenAt1, e, if_true, List.length_cons]
        omega
      · have := ih h2
        simp only [lenAt1, e, if_false] at this ⊢
        omega
theorem all_at (cs : List Int) (h : cs.Nodup) (L : Keys) : (cs.map (fun c => lenAt L c)).sum ≤ tot L := by
  induction L with
  | nil =>
    clear h
    induction cs with
    | nil => simp
    | cons c cs ih =>
      simp only [List.map_cons, List.sum_cons, lenAt, List.map_nil, List.sum_nil, tot] at ih ⊢
      omega
  | cons k L ih =>
    have h1 := one_at cs h k
    have e : (cs.map (fun c => lenAt (k :: L) c)).sum = (cs.map (fun c => lenAt1 c k)).sum + (cs.map (fun c => lenAt L c)).sum := by
      clear ih h h1
      induction cs with
      | nil => rfl
      | cons c cs ih =>
        simp only [List.map_cons, List.sum_cons, lenAt] at ih ⊢
        omega
    rw [e]
    simp only [tot, List.map_cons, List.sum_cons] at ih ⊢
    omega
/-- The number of 'add's below some letters. -/
def adds (L : Keys) (cs : List Int) : Nat := (cs.map (fun c => 1 + tot (sub L c))).sum
theorem adds_le (cs : List Int) (h : cs.Nodup) (L : Keys) (hne : ∀ c ∈ cs, sub L c ≠ []) : adds L cs ≤ tot L := by
  refine Nat.le_trans ?_ (all_at cs h L)
  unfold adds
  clear h
  induction cs with
  | nil => simp
  | cons c cs ih =>
    have := ih (fun d hd => hne d (List.mem_cons_of_mem _ hd))
    have h1 := tot_sub L c
    have h2 := List.length_pos_iff.2 (hne c List.mem_cons_self)
    simp only [List.map_cons, List.sum_cons] at this ⊢
    omega
end Go.Proofs.Ytaejkbjepbifcaa.Da
namespace Go.Proofs.Ytaejkbjepbifcaa.Da
open Go.RowKit Go.Proofs.YtaejkbjepbifcaaW.PrintWords
set_option linter.unusedVariables false
set_option linter.unusedSimpArgs false
/-- What the world shows outside the memory stays. -/
def Env (w w' : World) : Prop := w'.os = w.os ∧ w'.tape = w.tape ∧ w'.output = w.output
theorem Env.trans {a b c : World} (h : Env a b) (k : Env b c) : Env a c := ⟨k.1.trans h.1, k.2.1.trans h.2.1, k.2.2.trans h.2.2⟩
/-- Old blocks stay, but those of S. -/
structure Kp (w w' : World) (S : Nat → Prop) : Prop where
  size : w.heap.size ≤ w'.heap.size
  old : ∀ i, i < w.heap.size → ¬ S i → w'.heap[i]? = w.heap[i]?
  env : Env w w'
theorem Kp.self (w : World) (S : Nat → Prop) : Kp w w S := ⟨Nat.le_refl _, fun _ _ _ => rfl, rfl, rfl, rfl⟩
theorem Kp.mono {w w' : World} {S T : Nat → Prop} (h : Kp w w' S) (hS : ∀ i, i < w.heap.size → S i → T i) : Kp w w' T := ⟨h.1, fun i hi hn => h.2 i hi (fun e => hn (hS i hi e)), h.3⟩
theorem Kp.trans {a b c : World} {S T : Nat → Prop} (h : Kp a b S) (k : Kp b c T) : Kp a c (fun i => S i ∨ T i) :=
  ⟨Nat.le_trans h.1 k.1, fun i hi hn => by rw [k.2 i (Nat.lt_of_lt_of_le hi h.1) (fun e => hn (Or.inr e)), h.2 i hi (fun e => hn (Or.inl e))], h.3.trans k.3⟩
theorem Kp.drewN {w w' : World} {S : Nat → Prop} (h : Kp w w' S) (q : Nat) : Kp w (w'.drewN q) S := ⟨h.1, h.2, h.3⟩
theorem Kp.drew {w w' : World} {S : Nat → Prop} (h : Kp w w' S) : Kp w w'.drew S := ⟨h.1, h.2, h.3⟩
theorem Kp.below {w W : World} {S : Nat → Prop} (h : Below w.heap.size w W) : Kp w W S := ⟨h.size, fun i hi _ => h.block i hi, h.os, h.tape, h.output⟩
theorem size_setCell (w : World) (p : Addr) (v : Value) : (w.setCell p v).heap.size = w.heap.size := by simp [World.setCell]
theorem Kp.setCell {w w' : World} {S : Nat → Prop} (h : Kp w w' S) (p : Addr) (v : Value) (hp : S p.block) : Kp w (w'.setCell p v) S :=
  ⟨by rw [size_setCell]; exact h.1, fun i hi hn => by rw [← h.2 i hi hn]; exact Below.heap_setCell _ _ _ _ (fun e => hn (e ▸ hp)), h.3⟩
/-- The cells of an array. -/
structure Arr (W : World) (g : Nat) (s : DA) : Prop where
  ar : ∃ cells, W.heap[g]? = some (.cells cells 100 (0, 0)) ∧ cells.size = s.n * 2 ∧ ∀ i, i < s.n → cells[i * 2]? = some (.int .i32 (s.B i)) ∧ cells[i * 2 + 1]? = some (.int .i32 (s.C i))
  i32 : ∀ i, i < s.n → -2147483647 ≤ s.B i ∧ s.B i ≤ 2147483647 ∧ -2147483647 ≤ s.C i ∧ s.C i ≤ 2147483647
  big : s.n ≤ 1073741824
/-- An array behind a pointer. -/
structure Mem (W : World) (x g : Nat) (s : DA) : Prop extends Arr W g s where
  bx : W.heap[x]? = some (.cells #[.slice (some ⟨g, 0, none⟩) s.n s.n] 62 (0, 0))
  ne : x ≠ g
theorem Arr.lt {W : World} {g : Nat} {s : DA} (m : Arr W g s) : g < W.heap.size := by
  obtain ⟨cells, h, _⟩ := m.ar
  exact (Array.getElem?_eq_some_iff.1 h).1
theorem Mem.xlt {W : World} {x g : Nat} {s : DA} (m : Mem W x g s) : x < W.heap.size := (Array.getElem?_eq_some_iff.1 m.bx).1
theorem Arr.base {W : World} {g : Nat} {s : DA} (m : Arr W g s) (i : Nat) (hi : i < s.n) : W.cell? ⟨g, i * 2, none⟩ = some (.int .i32 (s.B i)) := by
  obtain ⟨cells, h, _, hc⟩ := m.ar
  unfold World.cell?; simp [h, (hc i hi).1]
theorem Arr.chk {W : World} {g : Nat} {s : DA} (m : Arr W g s) (i : Nat) (hi : i < s.n) : W.cell? ⟨g, i * 2 + 1, none⟩ = some (.int .i32 (s.C i)) := by
  obtain ⟨cells, h, _, hc⟩ := m.ar
  unfold World.cell?; simp [h, (hc i hi).2]
theorem Arr.froz {W : World} {g : Nat} {s : DA} (m : Arr W g s) (i : Nat) : W.frozen? ⟨g, i, none⟩ = false := by
  obtain ⟨cells, h, _⟩ := m.ar
  unfold World.frozen?; simp [h]
theorem Mem.box {W : World} {x g : Nat} {s : DA} (m : Mem W x g s) : W.cell? ⟨x, 0, none⟩ = some (.slice (some ⟨g, 0, none⟩) s.n s.n) := by
  unfold World.cell?; simp [m.bx]
theorem Mem.bfroz {W : World} {x g : Nat} {s : DA} (m : Mem W x g s) : W.frozen? ⟨x, 0, none⟩ = false := by
  unfold World.frozen?; simp [m.bx]
theorem Arr.step {W W' : World} {g : Nat} {s : DA} (m : Arr W g s) (h : W'.heap[g]? = W.heap[g]?) : Arr W' g s := ⟨by rw [h]; exact m.ar, m.i32, m.big⟩
theorem Mem.step {W W' : World} {x g : Nat} {s : DA} (m : Mem W x g s) (h : W'.heap[g]? = W.heap[g]?) (hx : W'.heap[x]? = W.heap[x]?) : Mem W' x g s := ⟨m.toArr.step h, by rw [hx]; exact m.bx, m.ne⟩
theorem Mem.drewN {W : World} {x g : Nat} {s : DA} (m : Mem W x g s) (q : Nat) : Mem (W.drewN q) x g s := m.step rfl rfl
theorem Mem.drew {W : World} {x g : Nat} {s : DA} (m : Mem W x g s) : Mem W.drew x g s := m.step rfl rfl
theorem setCell_heap {W : World} {g i : Nat} {v : Value} {cells : Array Value} {t : TypeId} {z : Nat × Nat} (h : W.heap[g]? = some (.cells cells t z)) : (W.setCell ⟨g, i, none⟩ v).heap[g]? = some (.cells (cells.setIfInBounds i v) t z) := by
  simp only [World.setCell, Array.getElem?_modify, if_true, h, Option.map_some]
  rfl
theorem Arr.putB {W : World} {g : Nat} {s : DA} (m : Arr W g s) (i : Nat) (hi : i < s.n) (v : Int) (h1 : -2147483647 ≤ v) (h2 : v ≤ 2147483647) : Arr (W.setCell ⟨g, i * 2, none⟩ (.int .i32 v)) g ⟨s.n, upd s.B i v, s.C⟩ := by
  obtain ⟨cells, h, hs, hc⟩ := m.ar
  refine ⟨⟨_, setCell_heap h, by simpa using hs, fun j hj => ?_⟩, fun j hj => ?_, m.big⟩
  · have hj' : j < s.n := hj
    show _ = some (Value.int .i32 (upd s.B i v j)) ∧ _ = some (Value.int .i32 (s.C j))
    constructor
    · rw [Array.getElem?_setIfInBounds]
      by_cases e : j = i
      · subst e; rw [if_pos rfl, if_pos (by omega), upd_same]
      · rw [if_neg (by omega), upd_ne e]; exact (hc j hj').1
    · rw [Array.getElem?_setIfInBounds, if_neg (by omega)]; exact (hc j hj').2
  · have := m.i32 j hj
    show _ ≤ upd s.B i v j ∧ upd s.B i v j ≤ _ ∧ _
    unfold upd
    by_cases e : j = i
    · rw [if_pos e]; exact ⟨h1, h2, this.2.2⟩
    · rw [if_neg e]; exact this
theorem Arr.putC {W : World} {g : Nat} {s : DA} (m : Arr W g s) (i : Nat) (hi : i < s.n) (v : Int) (h1 : -2147483647 ≤ v) (h2 : v ≤ 2147483647) : Arr (W.setCell ⟨g, i * 2 + 1, none⟩ (.int .i32 v)) g ⟨s.n, s.B, upd s.C i v⟩ := by
  obtain ⟨cells, h, hs, hc⟩ := m.ar
  refine ⟨⟨_, setCell_heap h, by simpa using hs, fun j hj => ?_⟩, fun j hj => ?_, m.big⟩
  · have hj' : j < s.n := hj
    show _ = some (Value.int .i32 (s.B j)) ∧ _ = some (Value.int .i32 (upd s.C i v j))
    constructor
    · rw [Array.getElem?_setIfInBounds, if_neg (by omega)]; exact (hc j hj').1
    · rw [Array.getElem?_setIfInBounds]
      by_cases e : j = i
      · subst e; rw [if_pos rfl, if_pos (by omega), upd_same]
      · rw [if_neg (by omega), upd_ne e]; exact (hc j hj').2
  · have := m.i32 j hj
    show _ ∧ _ ∧ _ ≤ upd s.C i v j ∧ upd s.C i v j ≤ _
    unfold upd
    by_cases e : j = i
    · rw [if_pos e]; exact ⟨this.1, this.2.1, h1, h2⟩
    · rw [if_neg e]; exact this
theorem Mem.putB {W : World} {x g : Nat} {s : DA} (m : Mem W x g s) (i : Nat) (hi : i < s.n) (v : Int) (h1 : -2147483647 ≤ v) (h2 : v ≤ 2147483647) : Mem (W.setCell ⟨g, i * 2, none⟩ (.int .i32 v)) x g ⟨s.n, upd s.B i v, s.C⟩ :=
  ⟨m.toArr.putB i hi v h1 h2, by rw [Below.heap_setCell _ _ _ _ m.ne]; exact m.bx, m.ne⟩
theorem Mem.putC {W : World} {x g : Nat} {s : DA} (m : Mem W x g s) (i : Nat) (hi : i < s.n) (v : Int) (h1 : -2147483647 ≤ v) (h2 : v ≤ 2147483647) : Mem (W.setCell ⟨g, i * 2 + 1, none⟩ (.int .i32 v)) x g ⟨s.n, s.B, upd s.C i v⟩ :=
  ⟨m.toArr.putC i hi v h1 h2, by rw [Below.heap_setCell _ _ _ _ m.ne]; exact m.bx, m.ne⟩
theorem Arr.ext {W : World} {g : Nat} {s t : DA} (m : Arr W g s) (hn : t.n = s.n) (h : ∀ i, i < s.n → t.B i = s.B i ∧ t.C i = s.C i) : Arr W g t := by
  obtain ⟨cells, c1, c2, c3⟩ := m.ar
  refine ⟨⟨cells, c1, by rw [hn]; exact c2, fun i hi => ?_⟩, fun i hi => ?_, by rw [hn]; exact m.big⟩
  · rw [hn] at hi
    rw [(h i hi).1, (h i hi).2]; exact c3 i hi
  · rw [hn] at hi
    rw [(h i hi).1, (h i hi).2]; exact m.i32 i hi
theorem Mem.ext {W : World} {x g : Nat} {s t : DA} (m : Mem W x g s) (hn : t.n = s.n) (h : ∀ i, i < s.n → t.B i = s.B i ∧ t.C i = s.C i) : Mem W x g t := ⟨m.toArr.ext hn h, by rw [hn]; exact m.bx, m.ne⟩
theorem Kp.setNew {w w' : World} {S : Nat → Prop} (h : Kp w w' S) (p : Addr) (v : Value) (hp : w.heap.size ≤ p.block) : Kp w (w'.setCell p v) S :=
  ⟨by rw [size_setCell]; exact h.1, fun i hi hn => by rw [← h.2 i hi hn]; exact Below.heap_setCell _ _ _ _ (by omega), h.3⟩
theorem Kp.then {w w' w2 : World} {S : Nat → Prop} (h : Kp w w' S) (hb : Below w'.heap.size w' w2) : Kp w w2 S :=
  ⟨Nat.le_trans h.1 hb.size, fun i hi hn => (hb.block i (Nat.lt_of_lt_of_le hi h.1)).trans (h.2 i hi hn), h.3.trans ⟨hb.os, hb.tape, hb.output⟩⟩
theorem Kp.alloc {w w' : World} {S : Nat → Prop} (h : Kp w w' S) (o : Obj) : Kp w (w'.alloc o) S := h.then (below_alloc (Below.refl _ _) o)
theorem setRow_size (w : World) (g : Nat) (r : Array Value) : (w.setRow g r).heap.size = w.heap.size := by simp [World.setRow]
theorem setRow_other (w : World) (g k : Nat) (r : Array Value) (h : k ≠ g) : (w.setRow g r).heap[k]? = w.heap[k]? := by
  simp only [World.setRow, Array.getElem?_modify]
  rw [if_neg (fun e => h e.symm)]
theorem Kp.setRow {w w' : World} {S : Nat → Prop} (h : Kp w w' S) (g : Nat) (r : Array Value) (hp : w.heap.size ≤ g) : Kp w (w'.setRow g r) S :=
  ⟨by rw [setRow_size]; exact h.1, fun i hi hn => by rw [← h.2 i hi hn]; exact setRow_other _ _ _ _ (by omega), h.3⟩
theorem Mem.far {W W' : World} {x g : Nat} {s : DA} (m : Mem W x g s) {S : Nat → Prop} (h : Kp W W' S) (h1 : ¬ S x) (h2 : ¬ S g) : Mem W' x g s := m.step (h.old g m.toArr.lt h2) (h.old x m.xlt h1)
/-- The pointer takes another array. -/
theorem Mem.move {W : World} {x g g2 : Nat} {s t : DA} (m : Mem W x g s) (a : Arr W g2 t) (hne : x ≠ g2) : Mem (W.setCell ⟨x, 0, none⟩ (.slice (some ⟨g2, 0, none⟩) t.n t.n)) x g2 t :=
  ⟨a.step (Below.heap_setCell _ _ _ _ hne.symm), by rw [setCell_heap m.bx]; rfl, hne⟩
end Go.Proofs.Ytaejkbjepbifcaa.Da
namespace Go.Proofs.Ytaejkbjepbifcaa.Da
set_option linter.unusedVariables false
set_option linter.unusedSimpArgs false
/-- No cell is taken; what is in use stays. -/
structure Same (s s' : DA) : Prop where
  n : s.n ≤ s'.n
  c : ∀ i, s.used i → s'.C i = s.C i
  b : ∀ i, i = 0 ∨ s.used i → s'.B i = s.B i
  new : ∀ i, s'.used i → s.used i
theorem Same.refl (s : DA) : Same s s := ⟨Nat.le_refl _, fun _ _ => rfl, fun _ _ => rfl, fun _ h => h⟩
theorem Same.up {s s' : DA} (f : Same s s') {i : Nat} (h : s.used i) : s'.used i := ⟨h.1, Nat.lt_of_lt_of_le h.2.1 f.n, by rw [f.c i h]; exact h.2.2⟩
theorem Same.trans {a b c : DA} (f : Same a b) (g : Same b c) : Same a c :=
  ⟨Nat.le_trans f.n g.n, fun i h => by rw [g.c i (f.up h), f.c i h], fun i h => by rw [g.b i (h.imp id f.up), f.b i h], fun i h => f.new i (g.new i h)⟩
/-- Cell q is taken, with check c. -/
structure Take (s s' : DA) (q : Nat) (c : Int) : Prop where
  n : s.n ≤ s'.n
  cc : ∀ i, s.used i → s'.C i = s.C i
  bb : ∀ i, i = 0 ∨ s.used i → s'.B i = s.B i
  qq : s'.used q ∧ s'.C q = c
  new : ∀ i, s'.used i → s.used i ∨ i = q
theorem Same.take {a b c : DA} {q : Nat} {x : Int} (f : Same a b) (g : Take b c q x) : Take a c q x :=
  ⟨Nat.le_trans f.n g.n, fun i h => by rw [g.cc i (f.up h), f.c i h], fun i h => by rw [g.bb i (h.imp id f.up), f.b i h], g.qq, fun i h => (g.new i h).imp (f.new i) id⟩
theorem free_not {s : DA} {q : Nat} (h : s.C q < 0) : ¬ s.used q := fun u => by have := u.2.2; omega
theorem same_grow {s : DA} {h l : Nat} (r : Ring s h l) (hn : 3 ≤ s.n) : Same s (s.grow h l) := by
  have a1 := r.h1
  have a2 := r.hl
  have a3 := r.ln
  refine ⟨by show s.n ≤ 2 * s.n; omega, fun i hu => ?_, fun i hu => ?_, fun i hu => ?_⟩
  · have hil : i ≠ l := by rintro rfl; exact free_not r.fl hu
    have := hu.2.1
    rw [grow_C r hn, if_neg (by omega), if_neg hil, if_pos this]
  · have hih : i ≠ h := by
      rintro rfl
      rcases hu with h0 | hu
      · omega
      · exact free_not r.fh hu
    have : i < s.n := by rcases hu with h0 | hu; omega; exact hu.2.1
    rw [grow_B, if_neg hih, if_neg (by omega), if_pos this]
  · obtain ⟨u1, u2, u3⟩ := hu
    rw [grow_C r hn] at u3
    by_cases e1 : i = 2 * s.n - 1
    · rw [if_pos e1] at u3; omega
    · rw [if_neg e1] at u3
      by_cases e2 : i = l
      · rw [if_pos e2] at u3; omega
      · rw [if_neg e2] at u3
        by_cases e3 : i < s.n
        · rw [if_pos e3] at u3; exact ⟨u1, e3, u3⟩
        · rw [if_neg e3] at u3; omega
theorem grow_ne {s : DA} {h l q : Nat} (r : Ring s h l) (hn : 3 ≤ s.n) (q1 : 1 ≤ q) (q2 : q < s.n) (hf : s.C q < 0) : (s.grow h l).C q < 0 ∧ (s.grow h l).B q ≠ (s.grow h l).C q := by
  have R := ring_grow r hn
  have a1 := r.h1
  have a2 := r.hl
  have a3 := r.ln
  have hf2 : (s.grow h l).C q < 0 := by
    rw [grow_C r hn, if_neg (by omega)]
    by_cases e : q = l
    · rw [if_pos e]; omega
    · rw [if_neg e, if_pos q2]; exact hf
  refine ⟨hf2, ?_⟩
  have en : (s.grow h l).n = 2 * s.n := rfl
  obtain ⟨x, x1, x2, x3, x4, x5, x6⟩ := R.nx q q1 (by rw [en]; omega) hf2 (by omega)
  by_cases e : q = h
  · subst e
    rw [R.wb, x3]
    intro e2
    have hx : x = 2 * s.n - 1 := by omega
    have h1 := x6 s.n q2 (by omega)
    have h2 : (s.grow q l).C s.n < 0 := by
      rw [grow_C r hn, if_neg (by omega), if_neg (by omega), if_neg (by omega)]; omega
    omega
  · obtain ⟨y, y1, y2, y3, _⟩ := R.pv q q1 (by rw [en]; omega) hf2 e
    rw [y3, x3]
    omega
theorem take_take {s : DA} {q y x : Nat} {c : Int} (q1 : 1 ≤ q) (q2 : q < s.n) (hf : s.C q < 0) (hc : 0 ≤ c) (fy : s.C y < 0) (fx : s.C x < 0) (y1 : 1 ≤ y) (x1 : 1 ≤ x) (yq : y ≠ q) : Take s (s.take q y x c) q c := by
  refine ⟨Nat.le_refl _, fun i hu => ?_, fun i hu => ?_, ⟨⟨q1, q2, ?_⟩, ?_⟩, fun i hu => ?_⟩
  · have h1 : i ≠ q := by rintro rfl; exact free_not hf hu
    have h2 : i ≠ y := by rintro rfl; exact free_not fy hu
    rw [take_C, if_neg h1, if_neg h2, if_neg (by have := hu.1; omega)]
  · have h1 : i ≠ x := by
      rintro rfl
      rcases hu with h | h
      · omega
      · exact free_not fx h
    rw [take_B, if_neg h1]
  · rw [take_C, if_pos rfl]; exact hc
  · rw [take_C, if_pos rfl]
  · obtain ⟨u1, u2, u3⟩ := hu
    by_cases h1 : i = q
    · exact Or.inr h1
    · rw [take_C, if_neg h1] at u3
      by_cases h2 : i = y
      · rw [if_pos h2] at u3; omega
      · rw [if_neg h2, if_neg (by omega)] at u3
        exact Or.inl ⟨u1, u2, u3⟩
/-- A ring of at most two cells: the array is used up to its end. -/
theorem two_left {s : DA} {h l q : Nat} (r : Ring s h l) (q1 : 1 ≤ q) (q2 : q < s.n) (hf : s.C q < 0) (he : s.B q = s.C q) (U : Nat) (hU : ∀ i, s.used i → i ≤ U) : s.n ≤ U + 4 := by
  have key : ∀ i, 1 ≤ i → i < s.n → s.C i < 0 → i = h ∨ i = l := by
    intro i i1 i2 hi
    by_cases e1 : q = h
    · subst e1
      by_cases e2 : q = l
      · have := r.le_l i2 hi; have := r.ge_h i1 hi; omega
      · obtain ⟨x, x1, x2, x3, x4, x5, x6⟩ := r.nx q q1 q2 hf e2
        rw [r.wb, x3] at he
        have hx : x = l := by omega
        subst hx
        have h1 := r.le_l i2 hi
        have h2 := r.ge_h i1 hi
        by_cases h3 : i = q
        · exact Or.inl h3
        · by_cases h4 : i = x
          · exact Or.inr h4
          · have := x6 i (by omega) (by omega); omega
    · obtain ⟨y, y1, y2, y3, y4⟩ := r.pv q q1 q2 hf e1
      by_cases e2 : q = l
      · subst e2
        rw [r.wc, y3] at he
        have hy : y = h := by omega
        subst hy
        have fy : s.C y < 0 := r.fh
        obtain ⟨x, x1, x2, x3, x4, x5, x6⟩ := r.nx y y1 (by omega) fy (by omega)
        rw [y4] at x3
        have hx : x = q := by omega
        subst hx
        have h1 := r.le_l i2 hi
        have h2 := r.ge_h i1 hi
        by_cases h3 : i = y
        · exact Or.inl h3
        · by_cases h4 : i = x
          · exact Or.inr h4
          · have := x6 i (by omega) (by omega); omega
      · obtain ⟨x, x1, x2, x3, x4, x5, x6⟩ := r.nx q q1 q2 hf e2
        rw [y3, x3] at he
        omega
  rcases Nat.lt_or_ge (U + 4) s.n with hlt | hge
  · exfalso
    have f : ∀ i, U < i → 1 ≤ i → i < s.n → s.C i < 0 := by
      intro i h1 h2 h3
      by_cases h : s.C i < 0
      · exact h
      · have := hU i ⟨h2, h3, by omega⟩; omega
    have k1 := key (U + 1) (by omega) (by omega) (f _ (by omega) (by omega) (by omega))
    have k2 := key (U + 2) (by omega) (by omega) (f _ (by omega) (by omega) (by omega))
    have k3 := key (U + 3) (by omega) (by omega) (f _ (by omega) (by omega) (by omega))
    omega
  · exact hge
end Go.Proofs.Ytaejkbjepbifcaa.Da
namespace Go.Proofs.Ytaejkbjepbifcaa.Da
open Go.RowKit Go.Proofs.YtaejkbjepbifcaaW.PrintWords
set_option linter.unusedVariables false
set_option linter.unusedSimpArgs false
/-- The letters' row. -/
def Row (W : World) (cb : Nat) (chars : List Int) : Prop := ∃ cs t, W.heap[cb]? = some (.cells cs t (0, 0)) ∧ ∀ j, j < chars.length → cs[j]? = some (.int .u8 (chars.getD j 0))
theorem Row.step {W W' : World} {cb : Nat} {chars : List Int} (h : Row W cb chars) (e : W'.heap[cb]? = W.heap[cb]?) : Row W' cb chars := by
  obtain ⟨cs, t, h1, h2⟩ := h; exact ⟨cs, t, e.trans h1, h2⟩
theorem Row.lt {W : World} {cb : Nat} {chars : List Int} (h : Row W cb chars) : cb < W.heap.size := by
  obtain ⟨cs, t, h1, h2⟩ := h; exact (Array.getElem?_eq_some_iff.1 h1).1
theorem Row.cell {W : World} {cb : Nat} {chars : List Int} (h : Row W cb chars) (j : Nat) (hj : j < chars.length) : W.cell? ⟨cb, j, none⟩ = some (.int .u8 (chars.getD j 0)) := by
  obtain ⟨cs, t, h1, h2⟩ := h
  unfold World.cell?; simp [h1, h2 j hj]
/-- The state of the search: no cell has been taken yet. -/
structure Seek (W W' : World) (x g : Nat) (s : DA) (U h f : Nat) (g' : Nat) (s' : DA) (l' : Nat) : Prop where
  same : Same s s'
  mem : Mem W' x g' s'
  ring : Ring s' h l'
  gg : g' = g ∨ W.heap.size ≤ g'
  kp : Kp W W' (fun k => k = x ∨ k = g)
  n : s'.n ≤ 2 * U + 60000
  lo : 51200 ≤ s'.n
  u : ∀ i, s'.used i → i ≤ U
  fr : f = 0 ∨ (1 ≤ f ∧ f < s'.n ∧ s'.C f < 0)
  fu : f ≤ U
theorem used_of {s : DA} {i : Nat} (h1 : 1 ≤ i) (h2 : i < s.n) (h : ¬ s.C i < 0) : s.used i := ⟨h1, h2, by omega⟩
/-- The last free cell stands at the end. -/
theorem last_end {s : DA} {h l U : Nat} (r : Ring s h l) (hu : ∀ i, s.used i → i ≤ U) (hl : l ≤ U) : s.n ≤ U + 1 := by
  have a1 := r.h1
  have a2 := r.hl
  have a3 := r.ln
  rcases Nat.lt_or_ge (U + 1) s.n with h | h
  · have := r.hi (U + 1) (by omega) h
    have := hu (U + 1) ⟨by omega, h, this⟩
    omega
  · exact h
/-- The next free cell. -/
theorem next_free {s : DA} {h l U f : Nat} (r : Ring s h l) (hu : ∀ i, s.used i → i ≤ U) (hf : f = 0 ∨ (1 ≤ f ∧ f < s.n ∧ s.C f < 0 ∧ f ≠ l)) (hfu : f ≤ U) :
    ∃ f2 : Nat, s.C f = -(f2 : Int) ∧ f < f2 ∧ f2 < s.n ∧ s.C f2 < 0 ∧ f2 ≤ U + 1 := by
  have a1 := r.h1
  have a2 := r.hl
  have a3 := r.ln
  rcases hf with rfl | ⟨f1, f2, f3, f4⟩
  · refine ⟨h, r.root, a1, by omega, r.fh, ?_⟩
    rcases Nat.lt_or_ge (U + 1) h with hh | hh
    · have := r.lo (U + 1) (by omega) hh
      have := hu (U + 1) ⟨by omega, by omega, this⟩
      omega
    · exact hh
  · obtain ⟨z, z1, z2, z3, z4, z5, z6⟩ := r.nx f f1 f2 f3 f4
    refine ⟨z, z3, z1, z2, z4, ?_⟩
    rcases Nat.lt_or_ge (U + 1) z with hh | hh
    · have := z6 (U + 1) (by omega) hh
      have := hu (U + 1) ⟨by omega, by omega, this⟩
      omega
    · exact hh
/-- Some of the letters have been marked. -/
structure MkP (s s' : DA) (p b : Nat) (done : List Int) : Prop where
  bp : s'.B p = (b : Int)
  nn : s.n ≤ s'.n
  cc : ∀ i, s.used i → s'.C i = s.C i
  bb : ∀ i, i = 0 ∨ s.used i → i ≠ p → s'.B i = s.B i
  mm : ∀ ch ∈ done, s'.used (b + ch.toNat) ∧ s'.C (b + ch.toNat) = (p : Int) ∧ ¬ s.used (b + ch.toNat)
  only : ∀ i, s'.used i → ¬ s.used i → s'.C i = (p : Int) ∧ ∃ ch ∈ done, i = b + ch.toNat
theorem MkP.up {s s' : DA} {p b : Nat} {d : List Int} (m : MkP s s' p b d) {i : Nat} (h : s.used i) : s'.used i := ⟨h.1, Nat.lt_of_lt_of_le h.2.1 m.nn, by rw [m.cc i h]; exact h.2.2⟩
theorem MkP.same {s s1 s2 : DA} {p b : Nat} {d : List Int} (hp : p = 0 ∨ s.used p) (m : MkP s s1 p b d) (f : Same s1 s2) : MkP s s2 p b d := by
  refine ⟨by rw [f.b p (hp.imp id m.up)]; exact m.bp, Nat.le_trans m.nn f.n, fun i h => by rw [f.c i (m.up h), m.cc i h], fun i h hn => by rw [f.b i (h.imp id m.up), m.bb i h hn], fun ch hc => ?_, fun i h hn => ?_⟩
  · obtain ⟨h1, h2, h3⟩ := m.mm ch hc
    exact ⟨f.up h1, by rw [f.c _ h1]; exact h2, h3⟩
  · have := f.new i h
    rw [f.c i this]
    exact m.only i this hn
theorem MkP.take {s s1 s2 : DA} {p b : Nat} {d : List Int} {ch : Int} (hp : p = 0 ∨ s.used p) (m : MkP s s1 p b d) (f : Take s1 s2 (b + ch.toNat) (p : Int)) (hn : ¬ s.used (b + ch.toNat)) : MkP s s2 p b (d ++ [ch]) := by
  have up2 : ∀ i, s1.used i → s2.used i := fun i h => ⟨h.1, Nat.lt_of_lt_of_le h.2.1 f.n, by rw [f.cc i h]; exact h.2.2⟩
  refine ⟨by rw [f.bb p (hp.imp id m.up)]; exact m.bp, Nat.le_trans m.nn f.n, fun i h => by rw [f.cc i (m.up h), m.cc i h], fun i h hne => by rw [f.bb i (h.imp id m.up), m.bb i h hne], fun c hc => ?_, fun i h hne => ?_⟩
  · rcases List.mem_append.1 hc with hc | hc
    · obtain ⟨h1, h2, h3⟩ := m.mm c hc
      exact ⟨up2 _ h1, by rw [f.cc _ h1]; exact h2, h3⟩
    · rw [List.mem_singleton.1 hc]
      exact ⟨f.qq.1, f.qq.2, hn⟩
  · rcases f.new i h with h1 | h1
    · obtain ⟨h2, c, hc, e⟩ := m.only i h1 hne
      exact ⟨by rw [f.cc i h1]; exact h2, c, List.mem_append_left _ hc, e⟩
    · rw [h1]
      exact ⟨f.qq.2, ch, List.mem_append_right _ List.mem_cons_self, rfl⟩
theorem MkP.fin {s s1 : DA} {p b : Nat} {d : List Int} (m : MkP s s1 p b d) (hb : 1 ≤ b) : Mk s s1 p b d := ⟨hb, m.bp, m.nn, m.cc, m.bb, m.mm, m.only⟩
/-- The base has been set. -/
theorem MkP.root {s s' : DA} (f : Same s s') (hb : s.B 0 = 1) : MkP s s' 0 1 [] := by
  refine ⟨by rw [f.b 0 (Or.inl rfl), hb]; rfl, f.n, f.c, fun i h _ => f.b i h, fun ch h => (by cases h), fun i h hn => absurd (f.new i h) hn⟩
theorem MkP.base {s s' : DA} {p b : Nat} (f : Same s s') (hp : s.used p) : MkP s ⟨s'.n, upd s'.B p b, s'.C⟩ p b [] := by
  refine ⟨upd_same _ _ _, f.n, f.c, fun i h hn => by show upd s'.B p b i = _; rw [upd_ne hn]; exact f.b i h, fun ch h => (by cases h), fun i h hn => absurd (f.new i h) hn⟩
/-- A used cell's base is no matter of the ring. -/
theorem ring_setB {s : DA} {h l p : Nat} (r : Ring s h l) (b : Int) (hp : 0 ≤ s.C p) : Ring ⟨s.n, upd s.B p b, s.C⟩ h l := by
  have key : ∀ i, s.C i < 0 → upd s.B p b i = s.B i := fun i hi => upd_ne (by rintro rfl; omega)
  refine ⟨r.h1, r.hl, r.ln, r.root, r.fh, r.fl, r.lo, r.hi, fun i i1 i2 hi hn => ?_, fun i i1 i2 hi hn => ?_, r.wc, by show upd s.B p b h = _; rw [key h r.fh]; exact r.wb⟩
  · obtain ⟨z, z1, z2, z3, z4, z5, z6⟩ := r.nx i i1 i2 hi hn
    exact ⟨z, z1, z2, z3, z4, by show upd s.B p b z = _; rw [key z z4]; exact z5, z6⟩
  · obtain ⟨z, z1, z2, z3, z4⟩ := r.pv i i1 i2 hi hn
    exact ⟨z, z1, z2, by show upd s.B p b i = _; rw [key i hi]; exact z3, z4⟩
end Go.Proofs.Ytaejkbjepbifcaa.Da
namespace Go.Proofs.Ytaejkbjepbifcaa.Da
open Go.RowKit Go.Maps Go.ChangeShapes Go.Proofs.YtaejkbjepbifcaaW.PrintWords
set_option linter.unusedVariables false
set_option linter.unusedSimpArgs false
theorem key_u8 : Keyed Try.prog 5 := int_keyed Try.underlying5
theorem zero_ints (w : World) : (zeroValue 23).run Try.prog w = .ok (.slice none 0 0) w := by kernel_rfl
theorem info_int : (Try.prog.info? 3).map (fun i => (i.zero, i.size, i.bytes)) = some (some (.int .i64 0), 1, 8) := by kernel_rfl
theorem info_u8 : (Try.prog.info? 5).map (fun i => (i.zero, i.size, i.bytes)) = some (some (.int .u8 0), 1, 1) := by kernel_rfl
def gd (zs : List Int) : DataW Unit := if zs = [] then .nil else .slice (lits .i64 zs) []
/-- What stands below a letter. -/
def grp (P : List (Int × Int)) (c : Int) : List Int := if c = 0 then [] else (P.filter (fun p => p.1 == c)).map (·.2)
theorem grp_same (P : List (Int × Int)) (c z : Int) (h : c ≠ 0) : grp (P ++ [(c, z)]) c = grp P c ++ [z] := by simp [grp, h]
theorem grp_zero (P : List (Int × Int)) : grp P 0 = [] := by simp [grp]
theorem grp_other (P : List (Int × Int)) (c d z : Int) (h : d ≠ c) : grp (P ++ [(d, z)]) c = grp P c := by
  have : (d == c) = false := by rw [beq_eq_false_iff_ne]; exact h
  simp [grp, List.filter_append, this]
def GD (P : List (Int × Int)) (D : DataW Unit) : Prop := IsMap D ∧ ∀ c, 0 ≤ c → c ≤ 255 → D.atKey (.int .u8 c) .nil = gd (grp P c)
abbrev OG (w : World) (bm n : Nat) (D : DataW Unit) : Prop := w.ownsGroups Try.prog 5 (bm + 1) 3 .i64 bm n D
abbrev OI (w : World) (bm : Nat) (v : Value) (zs : List Int) : Prop := w.ownsInts (bm + 1) 3 .i64 v zs
theorem og_up {w : World} {bm n m : Nat} {D : DataW Unit} (h : OG w bm n D) (hm : n ≤ m) : OG w bm m D := by
  obtain ⟨es, clock, hb, F, hs, hD, hbb, hlen, hap⟩ := h
  exact ⟨es, clock, hb, F, Nat.le_trans hs hm, hD, hbb, fun x hx zs ho => Nat.le_trans (hlen x hx zs ho) hm, hap⟩
theorem lits_inj {a b : List Int} (h : lits (H := Unit) .i64 a = lits .i64 b) : a = b := by
  unfold lits at h
  exact (List.map_inj_right (fun x y hxy => by cases hxy; rfl)).1 h
theorem grp_eq {w : World} {bm : Nat} {D : DataW Unit} {P : List (Int × Int)} {c : Int} {v : Value} {zs : List Int} (g : GD P D) (h1 : 0 ≤ c) (h2 : c ≤ 255) (hat : D.atKey (.int .u8 c) .nil = rowDatum .i64 v zs) (hoi : OI w bm v zs) : zs = grp P c := by
  have h := (g.2 c h1 h2).symm.trans hat
  unfold gd at h
  rcases hoi.datum (H := Unit) with ⟨e, rfl⟩ | e
  · rw [e] at h
    split at h
    · rename_i h0; exact h0.symm
    · cases h
  · rw [e] at h
    split at h
    · cases h
    · injection h with h _
      exact (lits_inj h).symm
theorem gd_put {w : World} {bm : Nat} {D : DataW Unit} {P : List (Int × Int)} {c z : Int} {v : Value} {zs : List Int} (g : GD P D) (h0 : c ≠ 0) (hz : zs = grp P c) (hoi : OI w bm v (zs ++ [z])) : GD (P ++ [(c, z)]) (D.put (.int .u8 c) (rowDatum .i64 v (zs ++ [z]))) := by
  refine ⟨g.1.put _ _, fun d h1 h2 => ?_⟩
  by_cases e : d = c
  · subst e
    rw [atKey_put_same g.1 (by simp [WideAt.IsKeyLit]), hoi.datum_pos (by simp), grp_same _ _ _ h0, ← hz]
    unfold gd
    rw [if_neg (by simp)]
  · rw [atKey_put_other (by intro h; injection h with _ h; exact e h), g.2 d h1 h2, grp_other _ _ _ _ (fun h => e h.symm)]
theorem gd_zero {D : DataW Unit} {P : List (Int × Int)} {z : Int} (g : GD P D) : GD (P ++ [(0, z)]) D := ⟨g.1, fun d h1 h2 => by
  rw [g.2 d h1 h2]
  by_cases e : d = 0
  · rw [e, grp_zero, grp_zero]
  · rw [grp_other _ _ _ _ (by omega)]⟩
/-- The state of the gathering. -/
structure L1 (W w : World) (bm n : Nat) (P : List (Int × Int)) (D : DataW Unit) (cv : Value) (l : List Int) : Prop where
  kp : Kp W w (fun _ => False)
  bge : W.heap.size ≤ bm
  lt : bm < w.heap.size
  og : OG w bm n D
  gdt : GD P D
  ch : w.ownsRow (bm + 1) 5 1 cv l.length (l.map (Value.int .u8))
  sh : w.Shuns bm (fun g => cv.ownBlock = some g)
theorem kp_grown {W w w' : World} {row : Option Nat} (k : Kp W w (fun _ => False)) (g : w.grownBy w' row) (h : ∀ j, row = some j → W.heap.size ≤ j) : Kp W w' (fun _ => False) :=
  ⟨Nat.le_trans k.size g.size, fun i hi hn => by
    rw [g.block i (Nat.lt_of_lt_of_le hi k.size) (fun e => by have := h i e.symm; omega), k.old i hi hn], k.env.trans ⟨g.os, g.tape, g.output⟩⟩
/-- A new block. -/
theorem L1.alloc {W w : World} {bm n : Nat} {P : List (Int × Int)} {D : DataW Unit} {cv : Value} {l : List Int} (h : L1 W w bm n P D cv l) (o : Obj) : L1 W (w.alloc o) bm n P D cv l := by
  have g := World.grownBy_alloc w o none
  refine ⟨h.kp.alloc o, h.bge, by rw [Own.size_alloc]; have := h.lt; omega, h.og.kept g (by simp) (h.og.rowsAbove (fun j e => by cases e)), h.gdt, h.ch.alloc o, h.sh.kept g h.lt (by simp)⟩
theorem L1.drewN {W w : World} {bm n : Nat} {P : List (Int × Int)} {D : DataW Unit} {cv : Value} {l : List Int} (h : L1 W w bm n P D cv l) (q : Nat) : L1 W (w.drewN q) bm n P D cv l := by
  have g : w.grownBy (w.drewN q) none := ⟨rfl, rfl, rfl, Nat.le_refl _, fun _ _ _ => rfl⟩
  exact ⟨h.kp.drewN q, h.bge, h.lt, h.og.kept g (by simp) (h.og.rowsAbove (fun j e => by cases e)), h.gdt, h.ch.kept g (by cases cv.ownBlock <;> simp), h.sh.kept g h.lt (by simp)⟩
/-- The letters grow. -/
theorem L1.push {W w w' : World} {bm n : Nat} {P : List (Int × Int)} {D : DataW Unit} {cv cv' : Value} {l : List Int} {c : Int} (h : L1 W w bm n P D cv l) (hown : w'.ownsRow (bm + 1) 5 1 cv' (l.length + 1) (l.map (Value.int .u8) ++ [.int .u8 c])) (hg : w.grownBy w' cv.ownBlock)
    (hl : cv'.ownBlock = cv.ownBlock ∨ ∃ g, cv'.ownBlock = some g ∧ w.heap.size ≤ g) : L1 W w' bm n P D cv' (l ++ [c]) := by
  have hb : ∀ j, cv.ownBlock = some j → bm + 1 ≤ j := fun j e => (h.ch.lt j e).1
  have hne : some bm ≠ cv.ownBlock := fun e => by have := hb bm e.symm; omega
  have og := h.og.kept hg hne (h.sh.rowsOff (fun j e => e))
  have sh := h.sh.kept hg h.lt hne
  refine ⟨kp_grown h.kp hg (fun j e => by have := hb j e; have := h.bge; omega), h.bge, Nat.lt_of_lt_of_le h.lt hg.size, og, h.gdt, by simpa using hown, ?_⟩
  rcases hl with e | ⟨g, e, hge⟩
  · rw [e]; exact sh
  · have s0 := h.sh.reno (No' := fun g => cv'.ownBlock = some g) h.og (fun j hj => Or.inr (by rw [e] at hj; cases hj; exact hge))
    exact s0.kept hg h.lt hne
/-- A branch is stored below its letter. -/
theorem L1.store {W w w1 w2 : World} {bm n : Nat} {P : List (Int × Int)} {D D' : DataW Unit} {cv u : Value} {l zs : List Int} {c z : Int} (h : L1 W w bm n P D cv l) (hoi : OI w bm u zs) (hu : ∀ No : Nat → Prop, w.Shuns bm No → ∀ g, u.ownBlock = some g → ¬ No g) (hg : w.grownBy w1 u.ownBlock)
    (og : OG w2 bm (n + 1) D') (gd : GD (P ++ [(c, z)]) D') (hg2 : w1.grownBy w2 (some bm)) (sh : w2.Shuns bm (fun g => cv.ownBlock = some g)) : L1 W w2 bm (n + 1) (P ++ [(c, z)]) D' cv l := by
  have hb : ∀ j, u.ownBlock = some j → bm + 1 ≤ j := fun j e => (hoi.1.lt j e).1
  have c1 := h.ch.kept hg (by
    cases e : cv.ownBlock with
    | none => exact Or.inl rfl
    | some j => exact Or.inr (fun e2 => hu _ h.sh j e2.symm e))
  refine ⟨kp_grown (kp_grown h.kp hg (fun j e => by have := hb j e; have := h.bge; omega)) hg2 (fun j e => by cases e; exact h.bge), h.bge, Nat.lt_of_lt_of_le (Nat.lt_of_lt_of_le h.lt hg.size) hg2.size, og, gd, c1.kept hg2 ?_, sh⟩
  cases e : cv.ownBlock with
  | none => exact Or.inl rfl
  | some j => exact Or.inr (fun e2 => by cases e2; have := (h.ch.lt bm e).1; omega)
theorem L1.zero {W w : World} {bm n : Nat} {P : List (Int × Int)} {D : DataW Unit} {cv : Value} {l : List Int} (h : L1 W w bm n P D cv l) (z : Int) : L1 W w bm (n + 1) (P ++ [(0, z)]) D cv l := ⟨h.kp, h.bge, h.lt, og_up h.og (Nat.le_succ _), gd_zero h.gdt, h.ch, h.sh⟩
/-- The map is kept while other blocks of the call's caller turn. -/
theorem og_kp {w w' : World} {bm n x g : Nat} {D : DataW Unit} (h : OG w bm n D) (k : Kp w w' (fun i => i = x ∨ i = g)) (hx : x < bm) (hg : g < bm) (hlt : bm < w.heap.size) : OG w' bm n D := by
  have hgs : g < w'.heap.size := by have := k.size; omega
  obtain ⟨og, hog⟩ : ∃ o, w.heap[g]? = some o := ⟨_, Array.getElem?_eq_getElem (by omega)⟩
  let m : World := { w' with heap := w'.heap.setIfInBounds g og }
  have g1 : w.grownBy m (some x) := by
    refine ⟨k.env.1, k.env.2.1, k.env.2.2, ?_, fun i hi hne => ?_⟩
    · show _ ≤ (w'.heap.setIfInBounds g og).size
      rw [Array.size_setIfInBounds]; exact k.size
    · show (w'.heap.setIfInBounds g og)[i]? = _
      rw [Array.getElem?_setIfInBounds]
      by_cases e : g = i
      · rw [if_pos e, if_pos hgs, ← e, hog]
      · rw [if_neg e]
        exact k.old i hi (by rintro (h | h); exact hne (by rw [h]); exact e h.symm)
  have g2 : m.grownBy w' (some g) := by
    refine ⟨rfl, rfl, rfl, ?_, fun i hi hne => ?_⟩
    · show (w'.heap.setIfInBounds g og).size ≤ _
      rw [Array.size_setIfInBounds]; exact Nat.le_refl _
    · show _ = (w'.heap.setIfInBounds g og)[i]?
      rw [Array.getElem?_setIfInBounds, if_neg (fun e => hne (by rw [e]))]
  have h1 := h.kept g1 (by intro e; cases e; omega) (h.rowsAbove (fun j e => by cases e; omega))
  exact h1.kept g2 (by intro e; cases e; omega) (h1.rowsAbove (fun j e => by cases e; omega))
/-- Only new blocks. -/
theorem L1.below {W w w' : World} {bm n : Nat} {P : List (Int × Int)} {D : DataW Unit} {cv : Value} {l : List Int} (h : L1 W w bm n P D cv l) (b : Below w.heap.size w w') : L1 W w' bm n P D cv l := by
  have g : w.grownBy w' none := ⟨b.os, b.tape, b.output, b.size, fun i hi _ => b.block i hi⟩
  exact ⟨h.kp.then b, h.bge, Nat.lt_of_lt_of_le h.lt b.size, h.og.kept g (by simp) (h.og.rowsAbove (fun j e => by cases e)), h.gdt, h.ch.kept g (by cases cv.ownBlock <;> simp), h.sh.kept g h.lt (by simp)⟩
theorem below_bytes (W : World) (e : TypeId) (D : ByteArray) : Below W.heap.size W (Lib.bytesWorld W e D) := by
  refine ⟨?_, ?_, ?_, by rw [Lib.bytesWorld_size]; omega, fun i hi => Lib.bytesWorld_at_old W e D i hi⟩ <;>
    (unfold Lib.bytesWorld World.freeze; first | rfl | (simp; rfl) | simp)
/-- The bytes of a string. -/
def bs (t : ByteArray) : List Int := t.data.toList.map (fun b => (b.toNat : Int))
theorem bs_len (t : ByteArray) : (bs t).length = t.size := by simp [bs]
theorem head_at (t : ByteArray) (i : Nat) (h : i < t.size) : head1 ((bs t).drop i) = ((t.data.toList.getD i 0).toNat : Int) := by
  have h' : i < (bs t).length := by rw [bs_len]; exact h
  rw [List.drop_eq_getElem_cons h']
  have h2 : i < t.data.toList.length := by simp [bs] at h'; simpa using h'
  simp only [head1, bs, List.getElem_map]
  rw [List.getD_eq_getElem?_getD, List.getElem?_eq_getElem h2]; rfl
theorem head_end (t : ByteArray) (i : Nat) (h : t.size ≤ i) : head1 ((bs t).drop i) = 0 := by
  rw [List.drop_eq_nil_of_le (by rw [bs_len]; exact h)]; rfl
end Go.Proofs.Ytaejkbjepbifcaa.Da
namespace Go.Proofs.Ytaejkbjepbifcaa.Da
open Go.RowKit Go.Proofs.YtaejkbjepbifcaaW.PrintWords
set_option linter.unusedVariables false
set_option linter.unusedSimpArgs false
set_option maxHeartbeats 8000000 in
set_option maxRecDepth 100000 in
theorem setCheck_room (W : World) (x g q y z : Nat) (s : DA) (c : Int) (m : Mem W x g s) (q1 : 1 ≤ q) (q2 : q < s.n) (hne : s.B q ≠ s.C q) (hy : s.B q = -(y : Int)) (hz : s.C q = -(z : Int)) (y2 : y < s.n) (z2 : z < s.n) (yq : y ≠ q) (zq : z ≠ q) (y1 : 1 ≤ y) (c1 : 0 ≤ c) (c2 : c ≤ 2147483647) :
    Calls Try.prog 81 #[.pointer (some ⟨x, 0, none⟩), .int .i64 (q : Int), .int .i64 c] W fun e w' => e = .returned (.tuple #[]) ∧ Mem w' x g (s.take q y z c) ∧ Kp W w' (fun k => k = g) := by
  have M := Aside0.mk m
  have K : Aside0 (Kp W W (fun k => k = g)) := ⟨Kp.self _ _⟩
  have big := m.big
  have qz : (q : Int) < (s.n : Int) := by omega
  have bx := m.box
  have hb := m.base q q2
  have hc := m.chk q q2
  have hr := m.chk 0 (by omega)
  rw [Nat.zero_mul, Nat.zero_add] at hr
  have hcmp : (s.B q == s.C q) = false := by rw [beq_eq_false_iff_ne]; exact hne
  rw [hy, hz] at hcmp
  rw [hy] at hb
  rw [hz] at hc
  have HY := Aside0.mk hy
  have HZ := Aside0.mk hz
  obtain ⟨r0, hr0⟩ : ∃ r0, s.C 0 = r0 := ⟨_, rfl⟩
  have ir := m.i32 0 (by omega)
  rw [hr0] at hr ir
  have HR0 := Aside0.mk hr0
  have q0 : q ≠ 0 := by omega
  clear m hy hz hne hr0
  go_enter Try.func81, Try.ntmps81
  go_wp2_with fail
  go_quiet (fail)
  cases h0 : (-(q : Int) == r0) with
  | true =>
    go_upto_region 5 with fail
    have HT := Aside0.mk h0
    clear h0
    have M_ := Aside0.mk (M.out.drewN nq)
    have K_ := Aside0.mk (K.out.drewN nq)
    obtain ⟨Wa, h_⟩ : ∃ w_, w_ = W.drewN nq := ⟨_, rfl⟩
    rw [← h_] at M_ K_ ⊢
    clear h_ M K
    have M := M_
    have K := K_
    clear M_ K_
    clear hcmp hr bx hb hc
    have bx : Wa.cell? ⟨x, 0, none⟩ = some (.slice (some ⟨g, 0, none⟩) s.n s.n) := M.out.box
    have hb : Wa.cell? ⟨g, q * 2, none⟩ = some (.int .i32 (-(y : Int))) := (M.out.base q q2).trans (congrArg (fun v => some (Value.int .i32 v)) (HY.out))
    have hc : Wa.cell? ⟨g, q * 2 + 1, none⟩ = some (.int .i32 (-(z : Int))) := (M.out.chk q q2).trans (congrArg (fun v => some (Value.int .i32 v)) (HZ.out))
    go_still_tail 10, (by kernel_rfl)
    change wpList _ _ _ _ _ Wa.drew
    clear bx hb hc
    have M_ := Aside0.mk (M.out.drew)
    have K_ := Aside0.mk (K.out.drew)
    obtain ⟨D1, h_⟩ : ∃ w_, w_ = Wa.drew := ⟨_, rfl⟩
    rw [← h_] at M_ K_ ⊢
    clear h_ M K
    have M := M_
    have K := K_
    clear M_ K_
    have bx : D1.cell? ⟨x, 0, none⟩ = some (.slice (some ⟨g, 0, none⟩) s.n s.n) := M.out.box
    have hb : D1.cell? ⟨g, q * 2, none⟩ = some (.int .i32 (-(y : Int))) := (M.out.base q q2).trans (congrArg (fun v => some (Value.int .i32 v)) (HY.out))
    have hc : D1.cell? ⟨g, q * 2 + 1, none⟩ = some (.int .i32 (-(z : Int))) := (M.out.chk q q2).trans (congrArg (fun v => some (Value.int .i32 v)) (HZ.out))
    have tf : D1.frozen? ⟨g, 1, none⟩ = false := M.out.froz _
    have tc := M.out.chk 0 (show 0 < s.n by omega)
    rw [Nat.zero_mul, Nat.zero_add] at tc
    go_upto_region 6 with fail
    have M_ := Aside0.mk ((by have h := M.out.putC 0 (show 0 < s.n by omega) (-(z : Int)) (by omega) (by omega); rw [Nat.zero_mul, Nat.zero_add] at h; exact h))
    have K_ := Aside0.mk (K.out.setCell ⟨g, 1, none⟩ (.int .i32 (-(z : Int))) (show g = g from rfl))
    obtain ⟨E1, h_⟩ : ∃ w_, w_ = D1.setCell ⟨g, 1, none⟩ (.int .i32 (-(z : Int))) := ⟨_, rfl⟩
    rw [← h_] at M_ K_ ⊢
    clear h_ M K
    have M := M_
    have K := K_
    clear M_ K_
    clear bx hb hc tf tc
    have bx : E1.cell? ⟨x, 0, none⟩ = some (.slice (some ⟨g, 0, none⟩) s.n s.n) := M.out.box
    have hb : E1.cell? ⟨g, q * 2, none⟩ = some (.int .i32 (-(y : Int))) := (M.out.base q q2).trans (congrArg (fun v => some (Value.int .i32 v)) (HY.out))
    have hc : E1.cell? ⟨g, q * 2 + 1, none⟩ = some (.int .i32 (-(z : Int))) := (M.out.chk q q2).trans (congrArg (fun v => some (Value.int .i32 v)) ((upd_ne q0).trans HZ.out))
    go_still_tail 11, (by kernel_rfl)
    change wpList _ _ _ _ _ E1.drew
    clear bx hb hc
    have M_ := Aside0.mk (M.out.drew)
    have K_ := Aside0.mk (K.out.drew)
    obtain ⟨D2, h_⟩ : ∃ w_, w_ = E1.drew := ⟨_, rfl⟩
    rw [← h_] at M_ K_ ⊢
    clear h_ M K
    have M := M_
    have K := K_
    clear M_ K_
    have bx : D2.cell? ⟨x, 0, none⟩ = some (.slice (some ⟨g, 0, none⟩) s.n s.n) := M.out.box
    have hb : D2.cell? ⟨g, q * 2, none⟩ = some (.int .i32 (-(y : Int))) := (M.out.base q q2).trans (congrArg (fun v => some (Value.int .i32 v)) (HY.out))
    have hc : D2.cell? ⟨g, q * 2 + 1, none⟩ = some (.int .i32 (-(z : Int))) := (M.out.chk q q2).trans (congrArg (fun v => some (Value.int .i32 v)) ((upd_ne q0).trans HZ.out))
    have tf : D2.frozen? ⟨g, z * 2, none⟩ = false := M.out.froz _
    have tc := M.out.base z (show z < s.n by omega)
    go_upto_region 7 with fail
    have M_ := Aside0.mk (M.out.putB z (show z < s.n by omega) (-(y : Int)) (by omega) (by omega))
    have K_ := Aside0.mk (K.out.setCell ⟨g, z * 2, none⟩ (.int .i32 (-(y : Int))) (show g = g from rfl))
    obtain ⟨E2, h_⟩ : ∃ w_, w_ = D2.setCell ⟨g, z * 2, none⟩ (.int .i32 (-(y : Int))) := ⟨_, rfl⟩
    rw [← h_] at M_ K_ ⊢
    clear h_ M K
    have M := M_
    have K := K_
    clear M_ K_
    clear bx hb hc tf tc
    have bx : E2.cell? ⟨x, 0, none⟩ = some (.slice (some ⟨g, 0, none⟩) s.n s.n) := M.out.box
    have hb : E2.cell? ⟨g, q * 2, none⟩ = some (.int .i32 (-(y : Int))) := (M.out.base q q2).trans (congrArg (fun v => some (Value.int .i32 v)) ((upd_ne zq.symm).trans (HY.out)))
    have hc : E2.cell? ⟨g, q * 2 + 1, none⟩ = some (.int .i32 (-(z : Int))) := (M.out.chk q q2).trans (congrArg (fun v => some (Value.int .i32 v)) ((upd_ne q0).trans HZ.out))
    go_still_tail 11, (by kernel_rfl)
    change wpList _ _ _ _ _ E2.drew
    clear bx hb hc
    have M_ := Aside0.mk (M.out.drew)
    have K_ := Aside0.mk (K.out.drew)
    obtain ⟨D3, h_⟩ : ∃ w_, w_ = E2.drew := ⟨_, rfl⟩
    rw [← h_] at M_ K_ ⊢
    clear h_ M K
    have M := M_
    have K := K_
    clear M_ K_
    have bx : D3.cell? ⟨x, 0, none⟩ = some (.slice (some ⟨g, 0, none⟩) s.n s.n) := M.out.box
    have hb : D3.cell? ⟨g, q * 2, none⟩ = some (.int .i32 (-(y : Int))) := (M.out.base q q2).trans (congrArg (fun v => some (Value.int .i32 v)) ((upd_ne zq.symm).trans (HY.out)))
    have hc : D3.cell? ⟨g, q * 2 + 1, none⟩ = some (.int .i32 (-(z : Int))) := (M.out.chk q q2).trans (congrArg (fun v => some (Value.int .i32 v)) ((upd_ne q0).trans HZ.out))
    have tf : D3.frozen? ⟨g, y * 2 + 1, none⟩ = false := M.out.froz _
    have tc := M.out.chk y (show y < s.n by omega)
    go_upto_region 8 with fail
    have M_ := Aside0.mk (M.out.putC y (show y < s.n by omega) (-(z : Int)) (by omega) (by omega))
    have K_ := Aside0.mk (K.out.setCell ⟨g, y * 2 + 1, none⟩ (.int .i32 (-(z : Int))) (show g = g from rfl))
    obtain ⟨E3, h_⟩ : ∃ w_, w_ = D3.setCell ⟨g, y * 2 + 1, none⟩ (.int .i32 (-(z : Int))) := ⟨_, rfl⟩
    rw [← h_] at M_ K_ ⊢
    clear h_ M K
    have M := M_
    have K := K_
    clear M_ K_
    clear bx hb hc tf tc
    have bx : E3.cell? ⟨x, 0, none⟩ = some (.slice (some ⟨g, 0, none⟩) s.n s.n) := M.out.box
    have hb : E3.cell? ⟨g, q * 2, none⟩ = some (.int .i32 (-(y : Int))) := (M.out.base q q2).trans (congrArg (fun v => some (Value.int .i32 v)) ((upd_ne zq.symm).trans (HY.out)))
    have hc : E3.cell? ⟨g, q * 2 + 1, none⟩ = some (.int .i32 (-(z : Int))) := (M.out.chk q q2).trans (congrArg (fun v => some (Value.int .i32 v)) ((upd_ne yq.symm).trans ((upd_ne q0).trans HZ.out)))
    have tf : E3.frozen? ⟨g, q * 2 + 1, none⟩ = false := M.out.froz _
    have tc := M.out.chk q (show q < s.n by omega)
    go_wp2_with fail
    go_end0
    have e_ := M.out.putC q q2 c (by omega) c2
    unfold DA.take
    rw [HY.out, HZ.out, if_pos (by rw [HR0.out]; exact (beq_iff_eq.1 HT.out).symm)]
    exact ⟨rfl, e_, K.out.setCell ⟨g, q * 2 + 1, none⟩ (.int .i32 c) (show g = g from rfl)⟩
  | false =>
    go_upto_region 6 with fail
    have HT := Aside0.mk h0
    clear h0
    have M_ := Aside0.mk (M.out.drewN nq)
    have K_ := Aside0.mk (K.out.drewN nq)
    obtain ⟨Wa, h_⟩ : ∃ w_, w_ = W.drewN nq := ⟨_, rfl⟩
    rw [← h_] at M_ K_ ⊢
    clear h_ M K
    have M := M_
    have K := K_
    clear M_ K_
    clear hcmp hr bx hb hc
    have bx : Wa.cell? ⟨x, 0, none⟩ = some (.slice (some ⟨g, 0, none⟩) s.n s.n) := M.out.box
    have hb : Wa.cell? ⟨g, q * 2, none⟩ = some (.int .i32 (-(y : Int))) := (M.out.base q q2).trans (congrArg (fun v => some (Value.int .i32 v)) (HY.out))
    have hc : Wa.cell? ⟨g, q * 2 + 1, none⟩ = some (.int .i32 (-(z : Int))) := (M.out.chk q q2).trans (congrArg (fun v => some (Value.int .i32 v)) (HZ.out))
    go_still_tail 11, (by kernel_rfl)
    change wpList _ _ _ _ _ Wa.drew
    clear bx hb hc
    have M_ := Aside0.mk (M.out.drew)
    have K_ := Aside0.mk (K.out.drew)
    obtain ⟨D2, h_⟩ : ∃ w_, w_ = Wa.drew := ⟨_, rfl⟩
    rw [← h_] at M_ K_ ⊢
    clear h_ M K
    have M := M_
    have K := K_
    clear M_ K_
    have bx : D2.cell? ⟨x, 0, none⟩ = some (.slice (some ⟨g, 0, none⟩) s.n s.n) := M.out.box
    have hb : D2.cell? ⟨g, q * 2, none⟩ = some (.int .i32 (-(y : Int))) := (M.out.base q q2).trans (congrArg (fun v => some (Value.int .i32 v)) (HY.out))
    have hc : D2.cell? ⟨g, q * 2 + 1, none⟩ = some (.int .i32 (-(z : Int))) := (M.out.chk q q2).trans (congrArg (fun v => some (Value.int .i32 v)) (HZ.out))
    have tf : D2.frozen? ⟨g, z * 2, none⟩ = false := M.out.froz _
    have tc := M.out.base z (show z < s.n by omega)
    go_upto_region 7 with fail
    have M_ := Aside0.mk (M.out.putB z (show z < s.n by omega) (-(y : Int)) (by omega) (by omega))
    have K_ := Aside0.mk (K.out.setCell ⟨g, z * 2, none⟩ (.int .i32 (-(y : Int))) (show g = g from rfl))
    obtain ⟨E2, h_⟩ : ∃ w_, w_ = D2.setCell ⟨g, z * 2, none⟩ (.int .i32 (-(y : Int))) := ⟨_, rfl⟩
    rw [← h_] at M_ K_ ⊢
    clear h_ M K
    have M := M_
    have K := K_
    clear M_ K_
    clear bx hb hc tf tc
    have bx : E2.cell? ⟨x, 0, none⟩ = some (.slice (some ⟨g, 0, none⟩) s.n s.n) := M.out.box
    have hb : E2.cell? ⟨g, q * 2, none⟩ = some (.int .i32 (-(y : Int))) := (M.out.base q q2).trans (congrArg (fun v => some (Value.int .i32 v)) ((upd_ne zq.symm).trans (HY.out)))
    have hc : E2.cell? ⟨g, q * 2 + 1, none⟩ = some (.int .i32 (-(z : Int))) := (M.out.chk q q2).trans (congrArg (fun v => some (Value.int .i32 v)) (HZ.out))
    go_still_tail 11, (by kernel_rfl)
    change wpList _ _ _ _ _ E2.drew
    clear bx hb hc
    have M_ := Aside0.mk (M.out.drew)
    have K_ := Aside0.mk (K.out.drew)
    obtain ⟨D3, h_⟩ : ∃ w_, w_ = E2.drew := ⟨_, rfl⟩
    rw [← h_] at M_ K_ ⊢
    clear h_ M K
    have M := M_
    have K := K_
    clear M_ K_
    have bx : D3.cell? ⟨x, 0, none⟩ = some (.slice (some ⟨g, 0, none⟩) s.n s.n) := M.out.box
    have hb : D3.cell? ⟨g, q * 2, none⟩ = some (.int .i32 (-(y : Int))) := (M.out.base q q2).trans (congrArg (fun v => some (Value.int .i32 v)) ((upd_ne zq.symm).trans (HY.out)))
    have hc : D3.cell? ⟨g, q * 2 + 1, none⟩ = some (.int .i32 (-(z : Int))) := (M.out.chk q q2).trans (congrArg (fun v => some (Value.int .i32 v)) (HZ.out))
    have tf : D3.frozen? ⟨g, y * 2 + 1, none⟩ = false := M.out.froz _
    have tc := M.out.chk y (show y < s.n by omega)
    go_upto_region 8 with fail
    have M_ := Aside0.mk (M.out.putC y (show y < s.n by omega) (-(z : Int)) (by omega) (by omega))
    have K_ := Aside0.mk (K.out.setCell ⟨g, y * 2 + 1, none⟩ (.int .i32 (-(z : Int))) (show g = g from rfl))
    obtain ⟨E3, h_⟩ : ∃ w_, w_ = D3.setCell ⟨g, y * 2 + 1, none⟩ (.int .i32 (-(z : Int))) := ⟨_, rfl⟩
    rw [← h_] at M_ K_ ⊢
    clear h_ M K
    have M := M_
    have K := K_
    clear M_ K_
    clear bx hb hc tf tc
    have bx : E3.cell? ⟨x, 0, none⟩ = some (.slice (some ⟨g, 0, none⟩) s.n s.n) := M.out.box
    have hb : E3.cell? ⟨g, q * 2, none⟩ = some (.int .i32 (-(y : Int))) := (M.out.base q q2).trans (congrArg (fun v => some (Value.int .i32 v)) ((upd_ne zq.symm).trans (HY.out)))
    have hc : E3.cell? ⟨g, q * 2 + 1, none⟩ = some (.int .i32 (-(z : Int))) := (M.out.chk q q2).trans (congrArg (fun v => some (Value.int .i32 v)) ((upd_ne yq.symm).trans (HZ.out)))
    have tf : E3.frozen? ⟨g, q * 2 + 1, none⟩ = false := M.out.froz _
    have tc := M.out.chk q (show q < s.n by omega)
    go_wp2_with fail
    go_end0
    have e_ := M.out.putC q q2 c (by omega) c2
    unfold DA.take
    rw [HY.out, HZ.out, if_neg (by rw [HR0.out]; exact fun h => (beq_eq_false_iff_ne.1 HT.out) h.symm)]
    exact ⟨rfl, e_, K.out.setCell ⟨g, q * 2 + 1, none⟩ (.int .i32 c) (show g = g from rfl)⟩
end Go.Proofs.Ytaejkbjepbifcaa.Da
namespace Go.Proofs.Ytaejkbjepbifcaa.Da
open Go.RowKit Go.Proofs.YtaejkbjepbifcaaW.PrintWords
set_option linter.unusedVariables false
set_option linter.unusedSimpArgs false
theorem pair_info : (Try.prog.info? 100).map (fun i => (i.zero, i.size, i.bytes)) = some (some (.agg #[.int .i32 0, .int .i32 0]), 2, 8) := by kernel_rfl
abbrev zeros (n : Nat) : Obj := .cells (madeCells #[.int .i32 0, .int .i32 0] (n * 2)) 100 (0, 0)
theorem make_run (W : World) (n : Nat) (hn : n ≤ 1073741824) : (Instr.makeSlice 62 (.int .i64 (n : Int)) (.int .i64 (n : Int))).run Try.prog W = .ok (.slice (some ⟨W.heap.size, 0, none⟩) n n) (W.alloc (zeros n)) := by
  obtain ⟨i, hi, hz⟩ := Option.map_eq_some_iff.1 pair_info
  simp only [Prod.mk.injEq] at hz
  obtain ⟨h1, h2, h3⟩ := hz
  have := run_make (P := Try.prog) W 62 100 i _ Try.underlying62 hi h1 .i64 .i64 (n : Int) (n : Int) (by omega) (by omega) (by rw [h3]; omega) (by omega)
  rw [this, h2]
  rfl
theorem madeCells_at (n i : Nat) (hi : i < n) : (madeCells #[.int .i32 0, .int .i32 0] n)[i]? = some (Value.int .i32 0) := by
  simp only [madeCells, Array.getElem?_map, Array.getElem?_range, hi, if_true, Option.map_some]
  have : i % 2 = 0 ∨ i % 2 = 1 := by omega
  rcases this with h | h <;> simp [h]
theorem arr_new (W : World) (n : Nat) (hn : n ≤ 1073741824) : Arr (W.alloc (zeros n)) W.heap.size ⟨n, fun _ => 0, fun _ => 0⟩ := by
  refine ⟨⟨_, blk_new W _, by rw [size_madeCells], fun i hi => ?_⟩, fun i _ => by show (-2147483647 : Int) ≤ 0 ∧ (0 : Int) ≤ 2147483647 ∧ (-2147483647 : Int) ≤ 0 ∧ (0 : Int) ≤ 2147483647; omega, hn⟩
  have hi' : i < n := hi
  exact ⟨madeCells_at _ _ (by omega), madeCells_at _ _ (by omega)⟩
theorem pair_size : (Try.prog.info? 100).map (·.size) = some 2 := by kernel_rfl
theorem run_copy_pairs {P : Program} (w : World) (dT sT ty elem : TypeId) (g dLen dCap k : Nat) (a : Addr) (sLen sCap : Nat) (cur : Array Value) (t : TypeId) (cs : List Value)
    (hu : P.underlying dT = some (.slice elem)) (hs : (P.info? elem).map (·.size) = some 2)
    (hg : w.heap[g]? = some (.cells cur t (0, 0))) (hk : Nat.min sLen dLen = k) (hn : cs.length = k * 2)
    (hsrc : ∀ j v, cs[j]? = some v → w.cell? (a.add j) = some v) (hfit : cs.length ≤ cur.size) (h1 : ∀ v ∈ cs, v.oneCell' = true) :
    (Builtin.copy_ #[dT, sT] ty #[.slice (some ⟨g, 0, none⟩) dLen dCap, .slice (some a) sLen sCap]).run P w =
      .ok (goInt k) (w.setRow g (cs ++ cur.toList.drop cs.length).toArray) := by
  have hl := run_loadCells_list (P := P) w a cs hsrc
  have hst := run_storeCells_at P g 0 t cs 0 cur w hg (by simpa using hfit) h1
  simp only [Nat.zero_add, List.take_zero, List.nil_append] at hst
  cases hq : P.info? elem with
  | none => simp [hq] at hs
  | some i =>
    have hi : i.size = 2 := by simpa [hq] using hs
    have hk2 : min sLen dLen = k := hk
    have hl2 : (loadCells a (k * 2)).run P w = .ok cs.toArray w := by rw [← hn]; exact hl
    simp [Builtin.copy_, run_underlying hu, Builtin.lenOf, Builtin.firstCells, sizeOf, typeInfo, hq, hi, hk2, hl2, hst]
/-- The first k pairs of s, then those of t. -/
def DA.over (s t : DA) (k : Nat) : DA := ⟨t.n, fun i => if i < k then s.B i else t.B i, fun i => if i < k then s.C i else t.C i⟩
theorem arr_copy (W : World) (g g2 k a b ca cb : Nat) (s t : DA) (m : Arr W g s) (m2 : Arr W g2 t) (h1 : k ≤ s.n) (h2 : k ≤ t.n) (hk : Nat.min b a = k) :
    ∃ row, (∀ ty, (Builtin.copy_ #[62, 62] ty #[.slice (some ⟨g2, 0, none⟩) a ca, .slice (some ⟨g, 0, none⟩) b cb]).run Try.prog W = .ok (.int .i64 (k : Int)) (W.setRow g2 row)) ∧ Arr (W.setRow g2 row) g2 (s.over t k) := by
  obtain ⟨cells, c1, c2, c3⟩ := m.ar
  obtain ⟨cur, d1, d2, d3⟩ := m2.ar
  have hlen : (cells.toList.take (k * 2)).length = k * 2 := by rw [List.length_take]; simp; omega
  have hone : ∀ v ∈ cells.toList.take (k * 2), v.oneCell' = true := by
    intro v hv
    obtain ⟨j, hj, rfl⟩ := List.getElem_of_mem hv
    rw [hlen] at hj
    rw [List.getElem_take, Array.getElem_toList]
    have := c3 (j / 2) (by omega)
    have he : j = j / 2 * 2 ∨ j = j / 2 * 2 + 1 := by omega
    rcases he with e | e
    · have h3 := (Array.getElem?_eq_some_iff.1 this.1).2
      have : cells[j]'(by omega) = .int .i32 (s.B (j / 2)) := by rw [← h3]; congr 1
      rw [this]; rfl
    · have h3 := (Array.getElem?_eq_some_iff.1 this.2).2
      have : cells[j]'(by omega) = .int .i32 (s.C (j / 2)) := by rw [← h3]; congr 1
      rw [this]; rfl
  refine ⟨_, fun ty => run_copy_pairs (P := Try.prog) W 62 62 ty 100 g2 a ca k ⟨g, 0, none⟩ b cb cur _ (cells.toList.take (k * 2)) Try.underlying62 pair_size d1 hk hlen (fun j v hj => ?_) (by rw [hlen]; omega) hone, ?_⟩
  · rw [List.getElem?_take] at hj
    split at hj
    · have : (⟨g, 0, none⟩ : Addr).add j = ⟨g, j, none⟩ := by unfold Addr.add; by_cases h : j = 0 <;> simp [h]
      rw [this]
      unfold World.cell?
      rw [Array.getElem?_toList] at hj
      simp [c1, hj]
    · cases hj
  · refine ⟨⟨_, setRow_heap W g2 cur _ _ _ d1, ?_, fun i hi => ?_⟩, fun i hi => ?_, m2.big⟩
    · simp only [List.size_toArray, List.length_append, hlen, List.length_drop, Array.length_toList, d2]
      show _ = t.n * 2
      omega
    · have hi' : i < t.n := hi
      show _ = some (Value.int .i32 (if i < k then s.B i else t.B i)) ∧ _ = some (Value.int .i32 (if i < k then s.C i else t.C i))
      simp only [List.getElem?_toArray, List.getElem?_append, hlen]
      by_cases hik : i < k
      · have hA : i * 2 < k * 2 := by omega
        have hB : i * 2 + 1 < k * 2 := by omega
        simp only [hik, hA, hB, if_true, List.getElem?_take, Array.getElem?_toList]
        exact c3 i (by omega)
      · have hA : ¬ i * 2 < k * 2 := by omega
        have hB : ¬ i * 2 + 1 < k * 2 := by omega
        simp only [hik, hA, hB, if_false, List.getElem?_drop]
        rw [show k * 2 + (i * 2 - k * 2) = i * 2 by omega, show k * 2 + (i * 2 + 1 - k * 2) = i * 2 + 1 by omega, Array.getElem?_toList, Array.getElem?_toList]
        exact d3 i hi'
    · have hi' : i < t.n := hi
      show _ ≤ (if i < k then s.B i else t.B i) ∧ (if i < k then s.B i else t.B i) ≤ _ ∧ _ ≤ (if i < k then s.C i else t.C i) ∧ (if i < k then s.C i else t.C i) ≤ _
      by_cases hik : i < k
      · simp only [if_pos hik]; exact m.i32 i (by omega)
      · simp only [if_neg hik]; exact m2.i32 i hi'
end Go.Proofs.Ytaejkbjepbifcaa.Da
namespace Go.Proofs.Ytaejkbjepbifcaa.Da
open Go.RowKit Go.Proofs.YtaejkbjepbifcaaW.PrintWords
set_option linter.unusedVariables false
set_option linter.unusedSimpArgs false
/-- The array has grown. -/
def Exp (W : World) (x : Nat) (s' : DA) (e : Ending) (w' : World) : Prop := e = .returned (.tuple #[]) ∧ ∃ g', W.heap.size ≤ g' ∧ Mem w' x g' s' ∧ Kp W w' (fun k => k = x)
set_option maxHeartbeats 8000000 in
set_option maxRecDepth 100000 in
theorem expand_calls (W : World) (x g : Nat) (s : DA) (h l : Nat) (m : Mem W x g s) (r : Ring s h l) (hn : 3 ≤ s.n) (h2 : 2 * s.n ≤ 1073741824) :
    Calls Try.prog 79 #[.pointer (some ⟨x, 0, none⟩)] W fun e w' => Exp W x (s.grow h l) e w' := by
  have M := Aside0.mk m
  have R := Aside0.mk r
  have bx := m.box
  have hn2 : (s.n : Int) ≤ 536870912 := by omega
  have n0 : (0 : Int) ≤ (s.n : Int) := by omega
  have hmk : ∀ w : World, (Instr.makeSlice 62 (.int .i64 ((s.n : Int) * 2)) (.int .i64 ((s.n : Int) * 2))).run Try.prog w = .ok (.slice (some ⟨w.heap.size, 0, none⟩) (s.n * 2) (s.n * 2)) (w.alloc (zeros (s.n * 2))) := fun w => by
    have := make_run w (s.n * 2) (by omega)
    rwa [show ((s.n * 2 : Nat) : Int) = (s.n : Int) * 2 by omega] at this
  clear m r
  go_enter Try.func79, Try.ntmps79
  go_upto_region 4 with fail
  obtain ⟨y, hy⟩ : ∃ y, W.heap.size = y := ⟨_, rfl⟩
  obtain ⟨W2, hW2⟩ : ∃ W2, W2 = (W.alloc (.cells #[.slice (some ⟨y + 1, 0, none⟩) (s.n * 2) (s.n * 2)] 62)).alloc (zeros (s.n * 2)) := ⟨_, rfl⟩
  rw [hy, ← hW2]
  have K : Aside0 (Kp W W2 (fun _ => False)) := ⟨by rw [hW2]; exact ((Kp.self W _).alloc _).alloc _⟩
  have M2 : Aside0 (Mem W2 y (y + 1) ⟨s.n * 2, fun _ => 0, fun _ => 0⟩) := ⟨by
    have e1 : (W.alloc (.cells #[.slice (some ⟨y + 1, 0, none⟩) (s.n * 2) (s.n * 2)] 62)).heap.size = y + 1 := by rw [Own.size_alloc, hy]
    have a := arr_new (W.alloc (.cells #[.slice (some ⟨y + 1, 0, none⟩) (s.n * 2) (s.n * 2)] 62)) (s.n * 2) (by omega)
    rw [e1, ← hW2] at a
    refine ⟨a, ?_, by omega⟩
    rw [hW2, ← hy]
    exact ((below_alloc (Below.refl _ _) _).block _ (by rw [Own.size_alloc]; omega)).trans (blk_new W _)⟩
  have M1 := Aside0.mk (M.out.far K.out id id)
  have hgl : g < y := by rw [← hy]; exact M.out.toArr.lt
  have hxl : x < y := by rw [← hy]; exact M.out.xlt
  have HY := Aside0.mk hy
  clear hW2 hy bx M hmk
  have b1 := M1.out.box
  have b2 := M2.out.box
  go_still_tail 6, (by kernel_rfl)
  change wpList _ _ _ _ _ W2.drew
  clear b1 b2
  have K_ := Aside0.mk K.out.drew
  have M1_ := Aside0.mk M1.out.drew
  have M2_ := Aside0.mk M2.out.drew
  obtain ⟨W3, hW3⟩ : ∃ W3, W3 = W2.drew := ⟨_, rfl⟩
  rw [← hW3] at K_ M1_ M2_ ⊢
  clear hW3 K M1 M2
  obtain ⟨row, hcp, ha⟩ := arr_copy W3 g (y + 1) s.n (s.n * 2) s.n (s.n * 2) s.n _ _ M1_.out.toArr M2_.out.toArr (Nat.le_refl _) (show s.n ≤ s.n * 2 by omega) (Nat.min_eq_left (by omega))
  obtain ⟨W4, hW4⟩ : ∃ W4, W4 = W3.setRow (y + 1) row := ⟨_, rfl⟩
  rw [← hW4] at hcp ha
  have K : Aside0 (Kp W W4 (fun _ => False)) := ⟨by rw [hW4]; exact K_.out.setRow _ _ (by have := HY.out; omega)⟩
  have M1 : Aside0 (Mem W4 x g s) := ⟨M1_.out.step (by rw [hW4]; exact setRow_other _ _ _ _ (by omega)) (by rw [hW4]; exact setRow_other _ _ _ _ (by omega))⟩
  have M2 : Aside0 (Mem W4 y (y + 1) (s.over ⟨s.n * 2, fun _ => 0, fun _ => 0⟩ s.n)) := ⟨ha, by rw [hW4, setRow_other _ _ _ _ (by omega)]; exact M2_.out.bx, by omega⟩
  have hcp3 := hcp 3
  clear hW4 ha hcp K_ M1_ M2_
  go_wp2_with fail
  go_loopg [5] s.n (fun kq y5 w' => ∃ i : Nat, y5 = .int .i64 i ∧ Aside0 (s.n ≤ i ∧ i + kq = s.n * 2) ∧ Aside0 (Mem w' y (y + 1) ⟨s.n * 2, fun j => if j < s.n then s.B j else if j < i then -((j : Int) - 1) else 0, fun j => if j < s.n then s.C j else if j < i then -((j : Int) + 1) else 0⟩) ∧ Aside0 (Mem w' x g s) ∧ Aside0 (Kp W w' (fun _ => False)))
  case atStart => exact ⟨s.n, rfl, ⟨by omega⟩, ⟨M2.out.ext rfl (fun i hi => by
    show (if i < s.n then s.B i else if i < s.n then -((i : Int) - 1) else 0) = (if i < s.n then s.B i else 0) ∧ (if i < s.n then s.C i else if i < s.n then -((i : Int) + 1) else 0) = (if i < s.n then s.C i else 0)
    by_cases h : i < s.n <;> simp [h])⟩, M1, K⟩
  case round =>
    clear hcp3 K M1 M2
    obtain ⟨i, rfl, HI, M2, M1, K⟩ := hrel
    obtain ⟨i1, i2⟩ := HI.out
    by_cases hi : i < s.n * 2
    · have hiz : (i : Int) < (s.n : Int) * 2 := by omega
      have b2 := M2.out.box
      have c1 := M2.out.base i hi
      have c2 := M2.out.chk i hi
      have f1 := M2.out.froz (i * 2)
      have f2 := M2.out.froz (i * 2 + 1)
      cases gk with
      | zero => omega
      | succ kz =>
      go_wp2_with fail
      go_roundg kz
      case measure => omega
      case rel => exact ⟨i + 1, congrArg (Value.int .i64) (by omega), ⟨by omega⟩, ⟨((M2.out.putB i hi (-((i : Int) - 1)) (by omega) (by omega)).putC i hi (-((i : Int) + 1)) (by omega) (by omega)).ext rfl (fun j hj => by
        show (if j < s.n then s.B j else if j < i + 1 then -((j : Int) - 1) else 0) = upd (fun j => if j < s.n then s.B j else if j < i then -((j : Int) - 1) else 0) i (-((i : Int) - 1)) j ∧ (if j < s.n then s.C j else if j < i + 1 then -((j : Int) + 1) else 0) = upd (fun j => if j < s.n then s.C j else if j < i then -((j : Int) + 1) else 0) i (-((i : Int) + 1)) j
        simp only [upd]
        by_cases e : j = i
        · subst e; rw [if_neg (by omega), if_pos (by omega), if_pos rfl, if_neg (by omega), if_pos (by omega), if_pos rfl]; exact ⟨rfl, rfl⟩
        · rw [if_neg e, if_neg e]
          by_cases h1 : j < s.n
          · simp [h1]
          · by_cases h2 : j < i
            · rw [if_neg h1, if_neg h1, if_neg h1, if_neg h1, if_pos h2, if_pos h2, if_pos (by omega), if_pos (by omega)]; exact ⟨rfl, rfl⟩
            · rw [if_neg h1, if_neg h1, if_neg h1, if_neg h1, if_neg h2, if_neg h2, if_neg (by omega), if_neg (by omega)]; exact ⟨rfl, rfl⟩)⟩, ⟨(M1.out.step (Below.heap_setCell _ _ _ _ (by show g ≠ y + 1; omega)) (Below.heap_setCell _ _ _ _ (by show x ≠ y + 1; omega))).step (Below.heap_setCell _ _ _ _ (by show g ≠ y + 1; omega)) (Below.heap_setCell _ _ _ _ (by show x ≠ y + 1; omega))⟩, ⟨(K.out.setNew _ _ (by have := HY.out; show W.heap.size ≤ y + 1; omega)).setNew _ _ (by have := HY.out; show W.heap.size ≤ y + 1; omega)⟩⟩
    · have hiz : ¬ (i : Int) < (s.n : Int) * 2 := by omega
      obtain rfl : i = s.n * 2 := by omega
      have r1 := R.out.h1
      have r2 := R.out.hl
      have r3 := R.out.ln
      have b1 := M1.out.box
      have b2 := M2.out.box
      have cr := M1.out.chk 0 (by omega)
      rw [Nat.zero_mul, Nat.zero_add, R.out.root] at cr
      have eb : (if h < s.n then s.B h else if h < s.n * 2 then -((h : Int) - 1) else 0) = -(l : Int) := by rw [if_pos (by omega)]; exact R.out.wb
      have cb : wr.cell? ⟨y + 1, h * 2, none⟩ = some (.int .i32 (-(l : Int))) := (M2.out.base h (show h < s.n * 2 by omega)).trans (congrArg (fun v => some (Value.int .i32 v)) eb)
      have t1 := M2.out.base s.n (show s.n < s.n * 2 by omega)
      have t2 := M2.out.chk l (show l < s.n * 2 by omega)
      have t3 := M2.out.chk (s.n * 2 - 1) (show s.n * 2 - 1 < s.n * 2 by omega)
      have f1 := M2.out.froz (s.n * 2)
      have f2 := M2.out.froz (h * 2)
      have f3 := M2.out.froz (l * 2 + 1)
      have f4 := M2.out.froz ((s.n * 2 - 1) * 2 + 1)
      have f5 := M1.out.bfroz
      have hh0 : (0 : Int) ≤ (h : Int) := by omega
      have hh1 : (h : Int) < (s.n : Int) * 2 := by omega
      have ll0 : (0 : Int) ≤ (l : Int) := by omega
      have ll1 : (l : Int) < (s.n : Int) * 2 := by omega
      clear eb
      go_wp2_with fail
      go_end0
      have hgy : g ≠ y + 1 := by omega
      have hxy : x ≠ y + 1 := by omega
      have hWy : W.heap.size ≤ y + 1 := by have := HY.out; omega
      have A := (((M2.out.toArr.putB s.n (show s.n < s.n * 2 by omega) (-(l : Int)) (by omega) (by omega)).putB h (show h < s.n * 2 by omega) (-((s.n : Int) * 2 - 1)) (by omega) (by omega)).putC l (show l < s.n * 2 by omega) (-(s.n : Int)) (by omega) (by omega)).putC (s.n * 2 - 1) (show s.n * 2 - 1 < s.n * 2 by omega) (-(h : Int)) (by omega) (by omega)
      have X := (((M1.out.step (Below.heap_setCell _ ⟨y + 1, s.n * 2, none⟩ (.int .i32 (-(l : Int))) _ hgy) (Below.heap_setCell _ _ _ _ hxy)).step (Below.heap_setCell _ ⟨y + 1, h * 2, none⟩ (.int .i32 (-((s.n : Int) * 2 - 1))) _ hgy) (Below.heap_setCell _ _ _ _ hxy)).step (Below.heap_setCell _ ⟨y + 1, l * 2 + 1, none⟩ (.int .i32 (-(s.n : Int))) _ hgy) (Below.heap_setCell _ _ _ _ hxy)).step (Below.heap_setCell _ ⟨y + 1, (s.n * 2 - 1) * 2 + 1, none⟩ (.int .i32 (-(h : Int))) _ hgy) (Below.heap_setCell _ _ _ _ hxy)
      refine ⟨rfl, y + 1, hWy, (X.move A hxy).ext (Nat.mul_comm _ _) (fun j hj => ?_), ?_⟩
      · have e2 : 2 * s.n - 1 = s.n * 2 - 1 := by omega
        have e3 : -(2 * (s.n : Int) - 1) = -((s.n : Int) * 2 - 1) := by omega
        have hj' : j < s.n * 2 := hj
        show upd (upd (fun i => if i < s.n then s.B i else -((i : Int) - 1)) s.n (-(l : Int))) h (-(2 * (s.n : Int) - 1)) j = upd (upd (fun j => if j < s.n then s.B j else if j < s.n * 2 then -((j : Int) - 1) else 0) s.n (-(l : Int))) h (-((s.n : Int) * 2 - 1)) j ∧ upd (upd (fun i => if i < s.n then s.C i else -((i : Int) + 1)) l (-(s.n : Int))) (2 * s.n - 1) (-(h : Int)) j = upd (upd (fun j => if j < s.n then s.C j else if j < s.n * 2 then -((j : Int) + 1) else 0) l (-(s.n : Int))) (s.n * 2 - 1) (-(h : Int)) j
        rw [e2, e3]
        simp only [upd, hj', if_true, and_self]
      · exact ((((((K.out.mono (T := fun k => k = x) (fun _ _ h => h.elim)).setNew _ _ hWy).setNew _ _ hWy).setNew _ _ hWy).setNew _ _ hWy)).setCell ⟨x, 0, none⟩ _ (show x = x from rfl)
end Go.Proofs.Ytaejkbjepbifcaa.Da
namespace Go.Proofs.Ytaejkbjepbifcaa.Da
open Go.RowKit Go.Proofs.YtaejkbjepbifcaaW.PrintWords
set_option linter.unusedVariables false
set_option linter.unusedSimpArgs false
def ChkF (W : World) (x q : Nat) (s : DA) (c : Int) (e : Ending) (w' : World) : Prop := e = .returned (.tuple #[]) ∧ ∃ g y z : Nat, W.heap.size ≤ g ∧ s.B q = -(y : Int) ∧ s.C q = -(z : Int) ∧ Mem w' x g (s.take q y z c) ∧ Kp W w' (fun k => k = x)
set_option maxHeartbeats 8000000 in
set_option maxRecDepth 100000 in
theorem setCheck_full (W : World) (x g0 q : Nat) (s0 : DA) (h l : Nat) (c : Int) (m : Mem W x g0 s0) (r : Ring s0 h l) (hn : 3 ≤ s0.n) (hbig : 2 * s0.n ≤ 1073741824) (q1 : 1 ≤ q) (q20 : q < s0.n) (hf : s0.C q < 0) (heq : s0.B q = s0.C q) (c1 : 0 ≤ c) (c2 : c ≤ 2147483647) :
    Calls Try.prog 81 #[.pointer (some ⟨x, 0, none⟩), .int .i64 (q : Int), .int .i64 c] W fun e w' => ChkF W x q (s0.grow h l) c e w' := by
  have bx := m.box
  have hb := m.base q q20
  have hc := m.chk q q20
  have qz : (q : Int) < (s0.n : Int) := by omega
  have big0 : (s0.n : Int) ≤ 1073741824 := by omega
  have hcmp : (s0.B q == s0.C q) = true := by rw [beq_iff_eq]; exact heq
  have ib := m.i32 q q20
  obtain ⟨hf2, hne⟩ := grow_ne r hn q1 q20 hf
  obtain ⟨y, z, hy, hz, y1, y2, z1, z2, yq, zq, fy, fz, -⟩ := ring_take (ring_grow r hn) q1 (show q < 2 * s0.n by omega) hf2 hne c c1
  have HE := Aside0.mk (expand_calls W x g0 s0 h l m r hn hbig)
  have HS : Aside0 (∀ nq, Calls Try.prog 79 #[.pointer (some ⟨x, 0, none⟩)] (W.drewN nq) fun e w' => Exp (W.drewN nq) x (s0.grow h l) e w') := ⟨fun nq => expand_calls _ x g0 s0 h l (m.drewN nq) r hn hbig⟩
  clear m r hf heq HE
  go_enter Try.func81, Try.ntmps81
  go_wp2_with fail
  go_quiet (fail)
  go_upto_region 2 with (go_at_call 79; (with_reducible refine (HS.out _).mono ?_); rintro _ Wg ⟨rfl, g, hg, m, k⟩)
  clear bx hb hc hcmp ib qz big0 HS
  obtain ⟨s, hs⟩ : ∃ s, s = s0.grow h l := ⟨_, rfl⟩
  rw [← hs] at hy hz y2 z2 fy fz m hne hf2
  have q2 : q < s.n := by rw [hs]; show q < 2 * s0.n; omega
  have HSS := Aside0.mk hs
  clear hs
  have M := Aside0.mk m
  have K : Aside0 (Kp W Wg (fun k => k = x ∨ k = g)) := ⟨⟨k.1, fun i hi hn => k.2 i hi (fun e => hn (Or.inl e)), k.3⟩⟩
  have HG : Aside0 (W.heap.size ≤ g) := ⟨hg⟩
  have big := m.big
  have qz : (q : Int) < (s.n : Int) := by omega
  have bx := m.box
  have hb := m.base q q2
  have hc := m.chk q q2
  have hr := m.chk 0 (by omega)
  rw [Nat.zero_mul, Nat.zero_add] at hr
  rw [hy] at hb
  rw [hz] at hc
  have HY := Aside0.mk hy
  have HZ := Aside0.mk hz
  obtain ⟨r0, hr0⟩ : ∃ r0, s.C 0 = r0 := ⟨_, rfl⟩
  have ir := m.i32 0 (by omega)
  rw [hr0] at hr ir
  have HR0 := Aside0.mk hr0
  have q0 : q ≠ 0 := by omega
  clear m hy hz hne hr0 k hg hf2 fy fz
  cases h0 : (-(q : Int) == r0) with
  | true =>
    go_upto_region 5 with fail
    have HT := Aside0.mk h0
    clear h0
    clear hr bx hb hc
    have bx : Wg.cell? ⟨x, 0, none⟩ = some (.slice (some ⟨g, 0, none⟩) s.n s.n) := M.out.box
    have hb : Wg.cell? ⟨g, q * 2, none⟩ = some (.int .i32 (-(y : Int))) := (M.out.base q q2).trans (congrArg (fun v => some (Value.int .i32 v)) (HY.out))
    have hc : Wg.cell? ⟨g, q * 2 + 1, none⟩ = some (.int .i32 (-(z : Int))) := (M.out.chk q q2).trans (congrArg (fun v => some (Value.int .i32 v)) (HZ.out))
    go_still_tail 10, (by kernel_rfl)
    change wpList _ _ _ _ _ Wg.drew
    clear bx hb hc
    have M_ := Aside0.mk (M.out.drew)
    have K_ := Aside0.mk (K.out.drew)
    obtain ⟨D1, h_⟩ : ∃ w_, w_ = Wg.drew := ⟨_, rfl⟩
    rw [← h_] at M_ K_ ⊢
    clear h_ M K
    have M := M_
    have K := K_
    clear M_ K_
    have bx : D1.cell? ⟨x, 0, none⟩ = some (.slice (some ⟨g, 0, none⟩) s.n s.n) := M.out.box
    have hb : D1.cell? ⟨g, q * 2, none⟩ = some (.int .i32 (-(y : Int))) := (M.out.base q q2).trans (congrArg (fun v => some (Value.int .i32 v)) (HY.out))
    have hc : D1.cell? ⟨g, q * 2 + 1, none⟩ = some (.int .i32 (-(z : Int))) := (M.out.chk q q2).trans (congrArg (fun v => some (Value.int .i32 v)) (HZ.out))
    have tf : D1.frozen? ⟨g, 1, none⟩ = false := M.out.froz _
    have tc := M.out.chk 0 (show 0 < s.n by omega)
    rw [Nat.zero_mul, Nat.zero_add] at tc
    go_upto_region 6 with fail
    have M_ := Aside0.mk ((by have h := M.out.putC 0 (show 0 < s.n by omega) (-(z : Int)) (by omega) (by omega); rw [Nat.zero_mul, Nat.zero_add] at h; exact h))
    have K_ := Aside0.mk (K.out.setCell ⟨g, 1, none⟩ (.int .i32 (-(z : Int))) (Or.inr rfl))
    obtain ⟨E1, h_⟩ : ∃ w_, w_ = D1.setCell ⟨g, 1, none⟩ (.int .i32 (-(z : Int))) := ⟨_, rfl⟩
    rw [← h_] at M_ K_ ⊢
    clear h_ M K
    have M := M_
    have K := K_
    clear M_ K_
    clear bx hb hc tf tc
    have bx : E1.cell? ⟨x, 0, none⟩ = some (.slice (some ⟨g, 0, none⟩) s.n s.n) := M.out.box
    have hb : E1.cell? ⟨g, q * 2, none⟩ = some (.int .i32 (-(y : Int))) := (M.out.base q q2).trans (congrArg (fun v => some (Value.int .i32 v)) (HY.out))
    have hc : E1.cell? ⟨g, q * 2 + 1, none⟩ = some (.int .i32 (-(z : Int))) := (M.out.chk q q2).trans (congrArg (fun v => some (Value.int .i32 v)) ((upd_ne q0).trans HZ.out))
    go_still_tail 11, (by kernel_rfl)
    change wpList _ _ _ _ _ E1.drew
    clear bx hb hc
    have M_ := Aside0.mk (M.out.drew)
    have K_ := Aside0.mk (K.out.drew)
    obtain ⟨D2, h_⟩ : ∃ w_, w_ = E1.drew := ⟨_, rfl⟩
    rw [← h_] at M_ K_ ⊢
    clear h_ M K
    have M := M_
    have K := K_
    clear M_ K_
    have bx : D2.cell? ⟨x, 0, none⟩ = some (.slice (some ⟨g, 0, none⟩) s.n s.n) := M.out.box
    have hb : D2.cell? ⟨g, q * 2, none⟩ = some (.int .i32 (-(y : Int))) := (M.out.base q q2).trans (congrArg (fun v => some (Value.int .i32 v)) (HY.out))
    have hc : D2.cell? ⟨g, q * 2 + 1, none⟩ = some (.int .i32 (-(z : Int))) := (M.out.chk q q2).trans (congrArg (fun v => some (Value.int .i32 v)) ((upd_ne q0).trans HZ.out))
    have tf : D2.frozen? ⟨g, z * 2, none⟩ = false := M.out.froz _
    have tc := M.out.base z (show z < s.n by omega)
    go_upto_region 7 with fail
    have M_ := Aside0.mk (M.out.putB z (show z < s.n by omega) (-(y : Int)) (by omega) (by omega))
    have K_ := Aside0.mk (K.out.setCell ⟨g, z * 2, none⟩ (.int .i32 (-(y : Int))) (Or.inr rfl))
    obtain ⟨E2, h_⟩ : ∃ w_, w_ = D2.setCell ⟨g, z * 2, none⟩ (.int .i32 (-(y : Int))) := ⟨_, rfl⟩
    rw [← h_] at M_ K_ ⊢
    clear h_ M K
    have M := M_
    have K := K_
    clear M_ K_
    clear bx hb hc tf tc
    have bx : E2.cell? ⟨x, 0, none⟩ = some (.slice (some ⟨g, 0, none⟩) s.n s.n) := M.out.box
    have hb : E2.cell? ⟨g, q * 2, none⟩ = some (.int .i32 (-(y : Int))) := (M.out.base q q2).trans (congrArg (fun v => some (Value.int .i32 v)) ((upd_ne zq.symm).trans (HY.out)))
    have hc : E2.cell? ⟨g, q * 2 + 1, none⟩ = some (.int .i32 (-(z : Int))) := (M.out.chk q q2).trans (congrArg (fun v => some (Value.int .i32 v)) ((upd_ne q0).trans HZ.out))
    go_still_tail 11, (by kernel_rfl)
    change wpList _ _ _ _ _ E2.drew
    clear bx hb hc
    have M_ := Aside0.mk (M.out.drew)
    have K_ := Aside0.mk (K.out.drew)
    obtain ⟨D3, h_⟩ : ∃ w_, w_ = E2.drew := ⟨_, rfl⟩
    rw [← h_] at M_ K_ ⊢
    clear h_ M K
    have M := M_
    have K := K_
    clear M_ K_
    have bx : D3.cell? ⟨x, 0, none⟩ = some (.slice (some ⟨g, 0, none⟩) s.n s.n) := M.out.box
    have hb : D3.cell? ⟨g, q * 2, none⟩ = some (.int .i32 (-(y : Int))) := (M.out.base q q2).trans (congrArg (fun v => some (Value.int .i32 v)) ((upd_ne zq.symm).trans (HY.out)))
    have hc : D3.cell? ⟨g, q * 2 + 1, none⟩ = some (.int .i32 (-(z : Int))) := (M.out.chk q q2).trans (congrArg (fun v => some (Value.int .i32 v)) ((upd_ne q0).trans HZ.out))
    have tf : D3.frozen? ⟨g, y * 2 + 1, none⟩ = false := M.out.froz _
    have tc := M.out.chk y (show y < s.n by omega)
    go_upto_region 8 with fail
    have M_ := Aside0.mk (M.out.putC y (show y < s.n by omega) (-(z : Int)) (by omega) (by omega))
    have K_ := Aside0.mk (K.out.setCell ⟨g, y * 2 + 1, none⟩ (.int .i32 (-(z : Int))) (Or.inr rfl))
    obtain ⟨E3, h_⟩ : ∃ w_, w_ = D3.setCell ⟨g, y * 2 + 1, none⟩ (.int .i32 (-(z : Int))) := ⟨_, rfl⟩
    rw [← h_] at M_ K_ ⊢
    clear h_ M K
    have M := M_
    have K := K_
    clear M_ K_
    clear bx hb hc tf tc
    have bx : E3.cell? ⟨x, 0, none⟩ = some (.slice (some ⟨g, 0, none⟩) s.n s.n) := M.out.box
    have hb : E3.cell? ⟨g, q * 2, none⟩ = some (.int .i32 (-(y : Int))) := (M.out.base q q2).trans (congrArg (fun v => some (Value.int .i32 v)) ((upd_ne zq.symm).trans (HY.out)))
    have hc : E3.cell? ⟨g, q * 2 + 1, none⟩ = some (.int .i32 (-(z : Int))) := (M.out.chk q q2).trans (congrArg (fun v => some (Value.int .i32 v)) ((upd_ne yq.symm).trans ((upd_ne q0).trans HZ.out)))
    have tf : E3.frozen? ⟨g, q * 2 + 1, none⟩ = false := M.out.froz _
    have tc := M.out.chk q (show q < s.n by omega)
    go_wp2_with fail
    go_end0
    rw [← HSS.out]
    have e_ := M.out.putC q q2 c (by omega) c2
    have hk := K.out.setCell ⟨g, q * 2 + 1, none⟩ (.int .i32 c) (Or.inr rfl)
    refine ⟨rfl, g, y, z, HG.out, HY.out, HZ.out, ?_, ⟨hk.1, fun i hi hn => hk.2 i hi (fun e => e.elim hn (fun e => by have := HG.out; omega)), hk.3⟩⟩
    unfold DA.take
    rw [HY.out, HZ.out, if_pos (by rw [HR0.out]; exact (beq_iff_eq.1 HT.out).symm)]
    exact e_
  | false =>
    go_upto_region 6 with fail
    have HT := Aside0.mk h0
    clear h0
    clear hr bx hb hc
    have bx : Wg.cell? ⟨x, 0, none⟩ = some (.slice (some ⟨g, 0, none⟩) s.n s.n) := M.out.box
    have hb : Wg.cell? ⟨g, q * 2, none⟩ = some (.int .i32 (-(y : Int))) := (M.out.base q q2).trans (congrArg (fun v => some (Value.int .i32 v)) (HY.out))
    have hc : Wg.cell? ⟨g, q * 2 + 1, none⟩ = some (.int .i32 (-(z : Int))) := (M.out.chk q q2).trans (congrArg (fun v => some (Value.int .i32 v)) (HZ.out))
    go_still_tail 11, (by kernel_rfl)
    change wpList _ _ _ _ _ Wg.drew
    clear bx hb hc
    have M_ := Aside0.mk (M.out.drew)
    have K_ := Aside0.mk (K.out.drew)
    obtain ⟨D2, h_⟩ : ∃ w_, w_ = Wg.drew := ⟨_, rfl⟩
    rw [← h_] at M_ K_ ⊢
    clear h_ M K
    have M := M_
    have K := K_
    clear M_ K_
    have bx : D2.cell? ⟨x, 0, none⟩ = some (.slice (some ⟨g, 0, none⟩) s.n s.n) := M.out.box
    have hb : D2.cell? ⟨g, q * 2, none⟩ = some (.int .i32 (-(y : Int))) := (M.out.base q q2).trans (congrArg (fun v => some (Value.int .i32 v)) (HY.out))
    have hc : D2.cell? ⟨g, q * 2 + 1, none⟩ = some (.int .i32 (-(z : Int))) := (M.out.chk q q2).trans (congrArg (fun v => some (Value.int .i32 v)) (HZ.out))
    have tf : D2.frozen? ⟨g, z * 2, none⟩ = false := M.out.froz _
    have tc := M.out.base z (show z < s.n by omega)
    go_upto_region 7 with fail
    have M_ := Aside0.mk (M.out.putB z (show z < s.n by omega) (-(y : Int)) (by omega) (by omega))
    have K_ := Aside0.mk (K.out.setCell ⟨g, z * 2, none⟩ (.int .i32 (-(y : Int))) (Or.inr rfl))
    obtain ⟨E2, h_⟩ : ∃ w_, w_ = D2.setCell ⟨g, z * 2, none⟩ (.int .i32 (-(y : Int))) := ⟨_, rfl⟩
    rw [← h_] at M_ K_ ⊢
    clear h_ M K
    have M := M_
    have K := K_
    clear M_ K_
    clear bx hb hc tf tc
    have bx : E2.cell? ⟨x, 0, none⟩ = some (.slice (some ⟨g, 0, none⟩) s.n s.n) := M.out.box
    have hb : E2.cell? ⟨g, q * 2, none⟩ = some (.int .i32 (-(y : Int))) := (M.out.base q q2).trans (congrArg (fun v => some (Value.int .i32 v)) ((upd_ne zq.symm).trans (HY.out)))
    have hc : E2.cell? ⟨g, q * 2 + 1, none⟩ = some (.int .i32 (-(z : Int))) := (M.out.chk q q2).trans (congrArg (fun v => some (Value.int .i32 v)) (HZ.out))
    go_still_tail 11, (by kernel_rfl)
    change wpList _ _ _ _ _ E2.drew
    clear bx hb hc
    have M_ := Aside0.mk (M.out.drew)
    have K_ := Aside0.mk (K.out.drew)
    obtain ⟨D3, h_⟩ : ∃ w_, w_ = E2.drew := ⟨_, rfl⟩
    rw [← h_] at M_ K_ ⊢
    clear h_ M K
    have M := M_
    have K := K_
    clear M_ K_
    have bx : D3.cell? ⟨x, 0, none⟩ = some (.slice (some ⟨g, 0, none⟩) s.n s.n) := M.out.box
    have hb : D3.cell? ⟨g, q * 2, none⟩ = some (.int .i32 (-(y : Int))) := (M.out.base q q2).trans (congrArg (fun v => some (Value.int .i32 v)) ((upd_ne zq.symm).trans (HY.out)))
    have hc : D3.cell? ⟨g, q * 2 + 1, none⟩ = some (.int .i32 (-(z : Int))) := (M.out.chk q q2).trans (congrArg (fun v => some (Value.int .i32 v)) (HZ.out))
    have tf : D3.frozen? ⟨g, y * 2 + 1, none⟩ = false := M.out.froz _
    have tc := M.out.chk y (show y < s.n by omega)
    go_upto_region 8 with fail
    have M_ := Aside0.mk (M.out.putC y (show y < s.n by omega) (-(z : Int)) (by omega) (by omega))
    have K_ := Aside0.mk (K.out.setCell ⟨g, y * 2 + 1, none⟩ (.int .i32 (-(z : Int))) (Or.inr rfl))
    obtain ⟨E3, h_⟩ : ∃ w_, w_ = D3.setCell ⟨g, y * 2 + 1, none⟩ (.int .i32 (-(z : Int))) := ⟨_, rfl⟩
    rw [← h_] at M_ K_ ⊢
    clear h_ M K
    have M := M_
    have K := K_
    clear M_ K_
    clear bx hb hc tf tc
    have bx : E3.cell? ⟨x, 0, none⟩ = some (.slice (some ⟨g, 0, none⟩) s.n s.n) := M.out.box
    have hb : E3.cell? ⟨g, q * 2, none⟩ = some (.int .i32 (-(y : Int))) := (M.out.base q q2).trans (congrArg (fun v => some (Value.int .i32 v)) ((upd_ne zq.symm).trans (HY.out)))
    have hc : E3.cell? ⟨g, q * 2 + 1, none⟩ = some (.int .i32 (-(z : Int))) := (M.out.chk q q2).trans (congrArg (fun v => some (Value.int .i32 v)) ((upd_ne yq.symm).trans (HZ.out)))
    have tf : E3.frozen? ⟨g, q * 2 + 1, none⟩ = false := M.out.froz _
    have tc := M.out.chk q (show q < s.n by omega)
    go_wp2_with fail
    go_end0
    rw [← HSS.out]
    have e_ := M.out.putC q q2 c (by omega) c2
    have hk := K.out.setCell ⟨g, q * 2 + 1, none⟩ (.int .i32 c) (Or.inr rfl)
    refine ⟨rfl, g, y, z, HG.out, HY.out, HZ.out, ?_, ⟨hk.1, fun i hi hn => hk.2 i hi (fun e => e.elim hn (fun e => by have := HG.out; omega)), hk.3⟩⟩
    unfold DA.take
    rw [HY.out, HZ.out, if_neg (by rw [HR0.out]; exact fun h => (beq_eq_false_iff_ne.1 HT.out) h.symm)]
    exact e_
/-- A free cell is taken. -/
def Chk (W : World) (x g : Nat) (s : DA) (q : Nat) (c : Int) (e : Ending) (w' : World) : Prop :=
  e = .returned (.tuple #[]) ∧ ∃ g' s', (g' = g ∨ W.heap.size ≤ g') ∧ Mem w' x g' s' ∧ Kp W w' (fun k => k = x ∨ k = g) ∧ Take s s' q c ∧ (∃ h' l', Ring s' h' l') ∧ (s'.n = s.n ∨ (s'.n = 2 * s.n ∧ s.B q = s.C q))
theorem setCheck_calls (W : World) (x g q : Nat) (s : DA) (h l : Nat) (c : Int) (m : Mem W x g s) (r : Ring s h l) (hn : 3 ≤ s.n) (hbig : 2 * s.n ≤ 1073741824) (q1 : 1 ≤ q) (q2 : q < s.n) (hf : s.C q < 0) (c1 : 0 ≤ c) (c2 : c ≤ 2147483647) :
    Calls Try.prog 81 #[.pointer (some ⟨x, 0, none⟩), .int .i64 (q : Int), .int .i64 c] W fun e w' => Chk W x g s q c e w' := by
  by_cases he : s.B q = s.C q
  · refine (setCheck_full W x g q s h l c m r hn hbig q1 q2 hf he c1 c2).mono ?_
    rintro e w' ⟨rfl, g', y, z, hg, hy, hz, hm, hk⟩
    obtain ⟨hf2, hne⟩ := grow_ne r hn q1 q2 hf
    obtain ⟨y', z', hy', hz', y1, y2, z1, z2, yq, zq, fy, fz, hr⟩ := ring_take (ring_grow r hn) q1 (show q < 2 * s.n by omega) hf2 hne c c1
    obtain rfl : y = y' := by omega
    obtain rfl : z = z' := by omega
    exact ⟨rfl, g', _, Or.inr hg, hm, hk.mono (fun _ _ h => Or.inl h), (same_grow r hn).take (take_take q1 (show q < 2 * s.n by omega) hf2 c1 fy fz y1 z1 yq), hr, Or.inr ⟨rfl, he⟩⟩
  · obtain ⟨y, z, hy, hz, y1, y2, z1, z2, yq, zq, fy, fz, hr⟩ := ring_take r q1 q2 hf he c c1
    refine (setCheck_room W x g q y z s c m q1 q2 he hy hz y2 z2 yq zq y1 c1 c2).mono ?_
    rintro e w' ⟨rfl, hm, hk⟩
    exact ⟨rfl, g, _, Or.inl rfl, hm, hk.mono (fun _ _ h => Or.inr h), take_take q1 q2 hf c1 fy fz y1 z1 yq, hr, Or.inl rfl⟩
end Go.Proofs.Ytaejkbjepbifcaa.Da
namespace Go.Proofs.Ytaejkbjepbifcaa.Da
open Go.RowKit Go.Proofs.YtaejkbjepbifcaaW.PrintWords
set_option linter.unusedVariables false
set_option linter.unusedSimpArgs false
set_option maxHeartbeats 8000000 in
set_option maxRecDepth 100000 in
theorem setBase_root (W : World) (x : Nat) (b : Int) :
    Calls Try.prog 80 #[.pointer (some ⟨x, 0, none⟩), .int .i64 0, .int .i64 b] W fun e w' => e = .returned (.tuple #[]) ∧ w' = W := by
  go_enter Try.func80, Try.ntmps80
  go_wp2_with fail
  exact bodyPost_ret (v := .tuple #[]) (by simp [results, Try.results80, go_sem]) rfl ⟨rfl, rfl⟩
set_option maxHeartbeats 8000000 in
set_option maxRecDepth 100000 in
theorem setBase_used (W : World) (x g p : Nat) (s : DA) (b : Int) (m : Mem W x g s) (hp : s.used p) (b1 : 0 ≤ b) (b2 : b ≤ 2147483647) :
    Calls Try.prog 80 #[.pointer (some ⟨x, 0, none⟩), .int .i64 (p : Int), .int .i64 b] W fun e w' => e = .returned (.tuple #[]) ∧ Mem w' x g ⟨s.n, upd s.B p b, s.C⟩ ∧ Kp W w' (fun k => k = g) := by
  have M := Aside0.mk m
  have bx := m.box
  have hb := m.base p hp.2.1
  have hc := m.chk p hp.2.1
  have fr := m.froz (p * 2)
  have pz : (p : Int) < (s.n : Int) := by have := hp.2.1; omega
  have hp0 : ((p : Int) == 0) = false := by rw [beq_eq_false_iff_ne]; have := hp.1; omega
  obtain ⟨cp, hcp⟩ : ∃ cp, s.C p = cp := ⟨_, rfl⟩
  have hc0 : ¬ cp < 0 := by have := hp.2.2; omega
  rw [hcp] at hc
  have p2 := hp.2.1
  have big := m.big
  clear m hp hcp
  go_enter Try.func80, Try.ntmps80
  go_wp2_with fail
  go_end0
  exact ⟨rfl, M.out.putB p p2 b (by omega) b2, (Kp.self W _).setCell ⟨g, p * 2, none⟩ _ (show g = g from rfl)⟩
end Go.Proofs.Ytaejkbjepbifcaa.Da
namespace Go.Proofs.Ytaejkbjepbifcaa.Da
open Go.RowKit Go.Proofs.YtaejkbjepbifcaaW.PrintWords
set_option linter.unusedVariables false
set_option linter.unusedSimpArgs false
def cL : Code → Code
  | .seq a _ => a
  | .cond _ a _ => a
  | .block _ c => c
  | .loop c => c
  | .scope c => c
  | c => c
def cR : Code → Code
  | .seq _ b => b
  | .cond _ _ b => b
  | c => c
def pth : List Bool → Code → Code
  | [], c => c
  | true :: l, c => pth l (cR c)
  | false :: l, c => pth l (cL c)
/-- A place for all letters has been found. -/
structure Found (W W' : World) (x g : Nat) (s : DA) (U h : Nat) (g' : Nat) (s' : DA) (l' : Nat) (chars : List Int) (b : Nat) : Prop where
  same : Same s s'
  mem : Mem W' x g' s'
  ring : Ring s' h l'
  gg : g' = g ∨ W.heap.size ≤ g'
  kp : Kp W W' (fun k => k = x ∨ k = g)
  n : s'.n ≤ 2 * U + 60000
  lo : 51200 ≤ s'.n
  u : ∀ i, s'.used i → i ≤ U
  b1 : 1 ≤ b
  b2 : b ≤ U + 1
  bn : b < s'.n
  ok : ∀ c ∈ chars, b + c.toNat < s'.n → s'.C (b + c.toNat) < 0
theorem Seek.drewN {W W' : World} {x g : Nat} {s : DA} {U h f g' l' : Nat} {s' : DA} (S : Seek W W' x g s U h f g' s' l') (q : Nat) : Seek W (W'.drewN q) x g s U h f g' s' l' :=
  ⟨S.same, S.mem.drewN q, S.ring, S.gg, S.kp.drewN q, S.n, S.lo, S.u, S.fr, S.fu⟩
theorem seek_grow {W W1 W2 : World} {x g : Nat} {s : DA} {U h f g1 : Nat} {s1 : DA} (S : Seek W W1 x g s U h f g1 s1 f) {e : Ending} (E : Exp W1 x (s1.grow h f) e W2) : e = .returned (.tuple #[]) ∧ ∃ g2, Seek W W2 x g s U h f g2 (s1.grow h f) (2 * s1.n - 1) := by
  obtain ⟨rfl, g2, hg, hm, hk⟩ := E
  have hl := last_end S.ring S.u S.fu
  have hlo := S.lo
  have hf1 := S.ring.h1
  have hf2 := S.ring.hl
  have hf3 := S.ring.ln
  refine ⟨rfl, g2, S.same.trans (same_grow S.ring (by omega)), hm, ring_grow S.ring (by omega), Or.inr (Nat.le_trans S.kp.size hg), (S.kp.trans hk).mono (fun i _ h => h.elim id Or.inl), ?_, ?_, fun i hi => S.u i ((same_grow S.ring (by omega)).new i hi), Or.inr ⟨by omega, ?_, ?_⟩, S.fu⟩
  · show 2 * s1.n ≤ _; omega
  · show 51200 ≤ 2 * s1.n; omega
  · show f < 2 * s1.n; omega
  · rw [grow_C S.ring (by omega), if_neg (by omega), if_pos rfl]; omega
noncomputable def vtail : Code := pth [false, true, true, true, true, false, false, false, false, true] (Try.f60.body.getD .skip)
set_option maxHeartbeats 16000000 in
set_option maxRecDepth 100000 in
theorem seek_tail (W : World) (x g p cb cc rp : Nat) (s : DA) (h U : Nat) (chars : List Int) (hU : 255 ≤ U) (hU2 : U ≤ 16777216) (HRow : Aside0 (Row W cb chars)) (cx : cb ≠ x) (cg : cb ≠ g) (h0 : 0 < chars.length) (hcc : chars.length ≤ 256) (HC : Aside0 (∀ c ∈ chars, 0 ≤ c ∧ c ≤ 255)) (HA : Aside0 (∀ c ∈ chars, (rp : Int) ≤ c)) (hr0 : chars.getD 0 0 = (rp : Int)) (hrp : rp ≤ 255) (f g1 l1 : Nat) (s1 : DA) (W1 : World) {Q : Exit → Act → World → Prop} {v3 v4 v5 v8 v9 v10 v11 v12 v13 v14 v15 v16 v17 v18 v19 v20 v21 v22 v23 v24 v25 v26 v27 v28 v29 v30 v31 v32 v33 v34 v35 v36 v37 v38 v39 v40 v41 v42 v43 v44 v45 v46 v47 v48 v49 v50 v51 v52 v53 v54 v55 v56 v57 v58 v59 v60 v61 v62 v63 v64 v65 v66 v67 v68 v69 v70 v71 v72 v73 v74 v75 v76 v77 v78 v79 v80 v81 v82 v83 v84 v85 v86 v87 v88 v89 v90 v91 v92 v93 v94 v95 v96 v97 v98 v99 v100 v101 v102 v103 v104 v105 v106 v107 v108 v109 v110 v111 v112 v113 : Value} (HS : Aside0 (Seek W W1 x g s U h f g1 s1 l1)) (hfl : f = 0 ∨ f ≠ l1)
    (hC : Aside0 (∀ (n8 n10 n11 n39 n40 n41 n42 n43 n44 n45 n46 n47 n48 n49 n50 n51 n52 n53 n54 n55 n56 n57 n58 n59 n60 n61 n62 n63 n64 n65 n66 n67 n68 n69 n70 n71 n72 n73 n74 n75 n76 n77 n78 n79 : Value) (f2 : Nat), f < f2 → Seek W W1 x g s U h f2 g1 s1 l1 → Q (.exit 1) ⟨#[.pointer (some ⟨x, 0, none⟩), .int .i64 (p : Int), .slice (some ⟨cb, 0, none⟩) chars.length cc, v3, v4, v5, .int .i64 (f2 : Int), .int .i64 (rp : Int), n8, v9, n10, n11, v12, v13, v14, v15, v16, v17, v18, v19, v20, v21, v22, v23, v24, v25, v26, v27, v28, v29, v30, v31, v32, v33, v34, v35, v36, v37, v38, n39, n40, n41, n42, n43, n44, n45, n46, n47, n48, n49, n50, n51, n52, n53, n54, n55, n56, n57, n58, n59, n60, n61, n62, n63, n64, n65, n66, n67, n68, n69, n70, n71, n72, n73, n74, n75, n76, n77, n78, n79, v80, v81, v82, v83, v84, v85, v86, v87, v88, v89, v90, v91, v92, v93, v94, v95, v96, v97, v98, v99, v100, v101, v102, v103, v104, v105, v106, v107, v108, v109, v110, v111, v112, v113], []⟩ W1))
    (hG : Aside0 (∀ (n8 n10 n11 n39 n40 n41 n42 n43 n44 n45 n46 n47 n48 n49 n50 n51 n52 n53 n54 n55 n56 n57 n58 n59 n60 n61 n62 n63 n64 n65 n66 n67 n68 n69 n70 n71 n72 n73 n74 n75 n76 n77 n78 n79 : Value) (f2 : Nat), f < f2 → Seek W W1 x g s U h f2 g1 s1 l1 → Q (.goto 0) ⟨#[.pointer (some ⟨x, 0, none⟩), .int .i64 (p : Int), .slice (some ⟨cb, 0, none⟩) chars.length cc, v3, v4, v5, .int .i64 (f2 : Int), .int .i64 (rp : Int), n8, v9, n10, n11, v12, v13, v14, v15, v16, v17, v18, v19, v20, v21, v22, v23, v24, v25, v26, v27, v28, v29, v30, v31, v32, v33, v34, v35, v36, v37, v38, n39, n40, n41, n42, n43, n44, n45, n46, n47, n48, n49, n50, n51, n52, n53, n54, n55, n56, n57, n58, n59, n60, n61, n62, n63, n64, n65, n66, n67, n68, n69, n70, n71, n72, n73, n74, n75, n76, n77, n78, n79, v80, v81, v82, v83, v84, v85, v86, v87, v88, v89, v90, v91, v92, v93, v94, v95, v96, v97, v98, v99, v100, v101, v102, v103, v104, v105, v106, v107, v108, v109, v110, v111, v112, v113], []⟩ W1))
    (hX : Aside0 (∀ (n10 n11 n39 n40 n41 n42 n43 n44 n45 n46 n47 n48 n49 n50 n51 n52 n53 n54 n55 n56 n57 n58 n59 n60 n61 n62 n63 n64 n65 n66 n67 n68 n69 n70 n71 n72 n73 n74 n75 n76 n77 n78 n79 : Value) (f2 b : Nat), Found W W1 x g s U h g1 s1 l1 chars b → Q (.exit 0) ⟨#[.pointer (some ⟨x, 0, none⟩), .int .i64 (p : Int), .slice (some ⟨cb, 0, none⟩) chars.length cc, v3, v4, v5, .int .i64 (f2 : Int), .int .i64 (rp : Int), .int .i64 (b : Int), v9, n10, n11, v12, v13, v14, v15, v16, v17, v18, v19, v20, v21, v22, v23, v24, v25, v26, v27, v28, v29, v30, v31, v32, v33, v34, v35, v36, v37, v38, n39, n40, n41, n42, n43, n44, n45, n46, n47, n48, n49, n50, n51, n52, n53, n54, n55, n56, n57, n58, n59, n60, n61, n62, n63, n64, n65, n66, n67, n68, n69, n70, n71, n72, n73, n74, n75, n76, n77, n78, n79, v80, v81, v82, v83, v84, v85, v86, v87, v88, v89, v90, v91, v92, v93, v94, v95, v96, v97, v98, v99, v100, v101, v102, v103, v104, v105, v106, v107, v108, v109, v110, v111, v112, v113], []⟩ W1)) :
    Code.wp Try.prog vtail Q ⟨#[.pointer (some ⟨x, 0, none⟩), .int .i64 (p : Int), .slice (some ⟨cb, 0, none⟩) chars.length cc, v3, v4, v5, .int .i64 (f : Int), .int .i64 (rp : Int), v8, v9, v10, v11, v12, v13, v14, v15, v16, v17, v18, v19, v20, v21, v22, v23, v24, v25, v26, v27, v28, v29, v30, v31, v32, v33, v34, v35, v36, v37, v38, v39, v40, v41, v42, v43, v44, v45, v46, v47, v48, v49, v50, v51, v52, v53, v54, v55, v56, v57, v58, v59, v60, v61, v62, v63, v64, v65, v66, v67, v68, v69, v70, v71, v72, v73, v74, v75, v76, v77, v78, v79, v80, v81, v82, v83, v84, v85, v86, v87, v88, v89, v90, v91, v92, v93, v94, v95, v96, v97, v98, v99, v100, v101, v102, v103, v104, v105, v106, v107, v108, v109, v110, v111, v112, v113], []⟩ W1 := by
  conv => arg 2; whnf
  conv => arg 4; zeta
  have S := HS.out
  obtain ⟨f2, e2, q1, q2, q3, q4⟩ := next_free S.ring S.u (by rcases S.fr with h | ⟨a, b, c⟩; exact Or.inl h; exact (by rcases hfl with h | h; exact Or.inl h; exact Or.inr ⟨a, b, c, h⟩)) S.fu
  have hfn : f < s1.n := by omega
  have hfz : (f : Int) < (s1.n : Int) := by omega
  have bx := S.mem.box
  have cf : W1.cell? ⟨g1, f * 2 + 1, none⟩ = some (.int .i32 (-(f2 : Int))) := (S.mem.chk f hfn).trans (congrArg (fun v => some (Value.int .i32 v)) e2)
  have big := S.mem.big
  have hrow : Row W1 cb chars := HRow.out.step (S.kp.old cb HRow.out.lt (by rintro (e | e); exact cx e; exact cg e))
  have HR1 := Aside0.mk hrow
  have hnext : f2 ≤ U → Seek W W1 x g s U h f2 g1 s1 l1 := fun hu => ⟨S.same, S.mem, S.ring, S.gg, S.kp, S.n, S.lo, S.u, Or.inr ⟨by omega, q2, q3⟩, hu⟩
  have HN := Aside0.mk hnext
  have big2 : s1.n ≤ 2 * U + 60000 := S.n
  clear S e2 hrow hnext
  by_cases hb : f2 ≤ rp
  · have hbz : (f2 : Int) - (rp : Int) ≤ 0 := by omega
    go_wp2_with fail
    exact hC.out _ _ _ _ _ _ _ _ _ _ _ _ _ _ _ _ _ _ _ _ _ _ _ _ _ _ _ _ _ _ _ _ _ _ _ _ _ _ _ _ _ _ _ _ f2 q1 (HN.out (by omega))
  · have hbz : ¬ (f2 : Int) - (rp : Int) ≤ 0 := by omega
    obtain ⟨b, hbe⟩ : ∃ b : Nat, (f2 : Int) - (rp : Int) = (b : Int) := ⟨f2 - rp, by omega⟩
    have hb1 : 1 ≤ b := by omega
    have hb2 : b ≤ U + 1 := by omega
    have HBE : Aside0 (b + rp = f2) := ⟨by omega⟩
    go_upto_region 8 with fail
    try rw [hbe]
    clear hbe hbz
    go_wp2_with fail
    go_loopg [55] chars.length (fun kq y55 w' => ∃ j : Nat, y55 = .int .i64 j ∧ Aside0 (j + kq = chars.length) ∧ Aside0 (w' = W1) ∧ Aside0 (∀ i, i < j → b + (chars.getD i 0).toNat < s1.n → s1.C (b + (chars.getD i 0).toNat) < 0))
    case atStart => exact ⟨0, rfl, ⟨by omega⟩, ⟨rfl⟩, ⟨fun i hi => absurd hi (Nat.not_lt_zero _)⟩⟩
    case round =>
      obtain ⟨j, rfl, HJ, hw, HOK⟩ := hrel
      obtain rfl := hw.out
      clear hw
      have hj := HJ.out
      by_cases hjl : j < chars.length
      · have hjz : (j : Int) < (chars.length : Int) := by omega
        have rc := HR1.out.cell j hjl
        have hm : chars.getD j 0 ∈ chars := by rw [List.getD_eq_getElem?_getD, List.getElem?_eq_getElem hjl]; exact List.getElem_mem hjl
        have hc1 := HC.out _ hm
        have hc2 := HA.out _ hm
        obtain ⟨c, hc⟩ : ∃ c : Nat, chars.getD j 0 = (c : Int) := ⟨(chars.getD j 0).toNat, by omega⟩
        rw [hc] at rc hc1 hc2
        have HCJ := Aside0.mk hc
        clear hc hm
        cases gk with
        | zero => omega
        | succ kz =>
        have hrnd : (b + c < s1.n → s1.C (b + c) < 0) → ∀ i, i < j + 1 → b + (chars.getD i 0).toNat < s1.n → s1.C (b + (chars.getD i 0).toNat) < 0 := fun hk i hi => by
          rcases Nat.lt_or_ge i j with hlt | hge
          · exact HOK.out i hlt
          · obtain rfl : i = j := by omega
            rw [HCJ.out, Int.toNat_natCast]; exact hk
        have HRN := Aside0.mk hrnd
        clear hrnd
        by_cases hq : b + c < s1.n
        · have hqz : (b : Int) + (c : Int) < (s1.n : Int) := by omega
          have cq := HS.out.mem.chk (b + c) hq
          obtain ⟨cv, hcv⟩ : ∃ cv, s1.C (b + c) = cv := ⟨_, rfl⟩
          rw [hcv] at cq
          by_cases hu : cv < 0
          · have huz : ¬ cv ≥ 0 := by omega
            have HCV := Aside0.mk hcv
            clear hcv
            go_wp2_with fail
            go_roundg kz
            case measure => omega
            case rel => exact ⟨j + 1, congrArg (Value.int .i64) (by omega), ⟨by omega⟩, ⟨rfl⟩, ⟨HRN.out (fun _ => by rw [HCV.out]; exact hu)⟩⟩
          · have huz : cv ≥ 0 := by omega
            have hle := HS.out.u (b + c) ⟨by omega, hq, by omega⟩
            clear hcv
            go_wp2_with fail
            go_step3
            exact hG.out _ _ _ _ _ _ _ _ _ _ _ _ _ _ _ _ _ _ _ _ _ _ _ _ _ _ _ _ _ _ _ _ _ _ _ _ _ _ _ _ _ _ _ _ f2 q1 (HN.out (by have := HBE.out; omega))
        · have hqz : ¬ (b : Int) + (c : Int) < (s1.n : Int) := by omega
          go_wp2_with fail
          go_roundg kz
          case measure => omega
          case rel => exact ⟨j + 1, congrArg (Value.int .i64) (by omega), ⟨by omega⟩, ⟨rfl⟩, ⟨HRN.out (fun h => absurd h hq)⟩⟩
      · have hjz : ¬ (j : Int) < (chars.length : Int) := by omega
        go_wp2_with fail
        exact hX.out _ _ _ _ _ _ _ _ _ _ _ _ _ _ _ _ _ _ _ _ _ _ _ _ _ _ _ _ _ _ _ _ _ _ _ _ _ _ _ _ _ _ _ f2 b ⟨HS.out.same, HS.out.mem, HS.out.ring, HS.out.gg, HS.out.kp, HS.out.n, HS.out.lo, HS.out.u, hb1, hb2, (by have := HBE.out; omega), fun c hc hn => by
          obtain ⟨i, hi, e⟩ := List.getElem_of_mem hc
          have := HOK.out i (by omega)
          rw [List.getD_eq_getElem?_getD, List.getElem?_eq_getElem hi, Option.getD_some, e] at this
          exact this hn⟩
noncomputable def vhead : Code := pth [false, true, true, true, true, false, false, false, false, false] (Try.f60.body.getD .skip)
noncomputable def vbody : Code := pth [false, true, true, true, true, false, false, false, false] (Try.f60.body.getD .skip)
set_option maxHeartbeats 16000000 in
set_option maxRecDepth 100000 in
theorem seek_round (W : World) (x g p cb cc rp : Nat) (s : DA) (h U : Nat) (chars : List Int) (hU : 255 ≤ U) (hU2 : U ≤ 16777216) (HRow : Aside0 (Row W cb chars)) (cx : cb ≠ x) (cg : cb ≠ g) (h0 : 0 < chars.length) (hcc : chars.length ≤ 256) (HC : Aside0 (∀ c ∈ chars, 0 ≤ c ∧ c ≤ 255)) (HA : Aside0 (∀ c ∈ chars, (rp : Int) ≤ c)) (hr0 : chars.getD 0 0 = (rp : Int)) (hrp : rp ≤ 255) (f g1 l1 : Nat) (s1 : DA) (W1 : World) {Q : Exit → Act → World → Prop} {v3 v4 v5 v8 v9 v10 v11 v12 v13 v14 v15 v16 v17 v18 v19 v20 v21 v22 v23 v24 v25 v26 v27 v28 v29 v30 v31 v32 v33 v34 v35 v36 v37 v38 v39 v40 v41 v42 v43 v44 v45 v46 v47 v48 v49 v50 v51 v52 v53 v54 v55 v56 v57 v58 v59 v60 v61 v62 v63 v64 v65 v66 v67 v68 v69 v70 v71 v72 v73 v74 v75 v76 v77 v78 v79 v80 v81 v82 v83 v84 v85 v86 v87 v88 v89 v90 v91 v92 v93 v94 v95 v96 v97 v98 v99 v100 v101 v102 v103 v104 v105 v106 v107 v108 v109 v110 v111 v112 v113 : Value} (HS : Aside0 (Seek W W1 x g s U h f g1 s1 l1))
    (hC : Aside0 (∀ (n8 n10 n11 n19 n20 n21 n22 n23 n24 n25 n26 n27 n28 n29 n30 n31 n32 n33 n34 n35 n36 n37 n38 n39 n40 n41 n42 n43 n44 n45 n46 n47 n48 n49 n50 n51 n52 n53 n54 n55 n56 n57 n58 n59 n60 n61 n62 n63 n64 n65 n66 n67 n68 n69 n70 n71 n72 n73 n74 n75 n76 n77 n78 n79 : Value) (f2 g2 l2 : Nat) (s2 : DA) (W2 : World), f < f2 → Seek W W2 x g s U h f2 g2 s2 l2 → Q (.exit 1) ⟨#[.pointer (some ⟨x, 0, none⟩), .int .i64 (p : Int), .slice (some ⟨cb, 0, none⟩) chars.length cc, v3, v4, v5, .int .i64 (f2 : Int), .int .i64 (rp : Int), n8, v9, n10, n11, v12, v13, v14, v15, v16, v17, v18, n19, n20, n21, n22, n23, n24, n25, n26, n27, n28, n29, n30, n31, n32, n33, n34, n35, n36, n37, n38, n39, n40, n41, n42, n43, n44, n45, n46, n47, n48, n49, n50, n51, n52, n53, n54, n55, n56, n57, n58, n59, n60, n61, n62, n63, n64, n65, n66, n67, n68, n69, n70, n71, n72, n73, n74, n75, n76, n77, n78, n79, v80, v81, v82, v83, v84, v85, v86, v87, v88, v89, v90, v91, v92, v93, v94, v95, v96, v97, v98, v99, v100, v101, v102, v103, v104, v105, v106, v107, v108, v109, v110, v111, v112, v113], []⟩ W2))
    (hG : Aside0 (∀ (n8 n10 n11 n19 n20 n21 n22 n23 n24 n25 n26 n27 n28 n29 n30 n31 n32 n33 n34 n35 n36 n37 n38 n39 n40 n41 n42 n43 n44 n45 n46 n47 n48 n49 n50 n51 n52 n53 n54 n55 n56 n57 n58 n59 n60 n61 n62 n63 n64 n65 n66 n67 n68 n69 n70 n71 n72 n73 n74 n75 n76 n77 n78 n79 : Value) (f2 g2 l2 : Nat) (s2 : DA) (W2 : World), f < f2 → Seek W W2 x g s U h f2 g2 s2 l2 → Q (.goto 0) ⟨#[.pointer (some ⟨x, 0, none⟩), .int .i64 (p : Int), .slice (some ⟨cb, 0, none⟩) chars.length cc, v3, v4, v5, .int .i64 (f2 : Int), .int .i64 (rp : Int), n8, v9, n10, n11, v12, v13, v14, v15, v16, v17, v18, n19, n20, n21, n22, n23, n24, n25, n26, n27, n28, n29, n30, n31, n32, n33, n34, n35, n36, n37, n38, n39, n40, n41, n42, n43, n44, n45, n46, n47, n48, n49, n50, n51, n52, n53, n54, n55, n56, n57, n58, n59, n60, n61, n62, n63, n64, n65, n66, n67, n68, n69, n70, n71, n72, n73, n74, n75, n76, n77, n78, n79, v80, v81, v82, v83, v84, v85, v86, v87, v88, v89, v90, v91, v92, v93, v94, v95, v96, v97, v98, v99, v100, v101, v102, v103, v104, v105, v106, v107, v108, v109, v110, v111, v112, v113], []⟩ W2))
    (hX : Aside0 (∀ (n10 n11 n19 n20 n21 n22 n23 n24 n25 n26 n27 n28 n29 n30 n31 n32 n33 n34 n35 n36 n37 n38 n39 n40 n41 n42 n43 n44 n45 n46 n47 n48 n49 n50 n51 n52 n53 n54 n55 n56 n57 n58 n59 n60 n61 n62 n63 n64 n65 n66 n67 n68 n69 n70 n71 n72 n73 n74 n75 n76 n77 n78 n79 : Value) (f2 b g2 l2 : Nat) (s2 : DA) (W2 : World), Found W W2 x g s U h g2 s2 l2 chars b → Q (.exit 0) ⟨#[.pointer (some ⟨x, 0, none⟩), .int .i64 (p : Int), .slice (some ⟨cb, 0, none⟩) chars.length cc, v3, v4, v5, .int .i64 (f2 : Int), .int .i64 (rp : Int), .int .i64 (b : Int), v9, n10, n11, v12, v13, v14, v15, v16, v17, v18, n19, n20, n21, n22, n23, n24, n25, n26, n27, n28, n29, n30, n31, n32, n33, n34, n35, n36, n37, n38, n39, n40, n41, n42, n43, n44, n45, n46, n47, n48, n49, n50, n51, n52, n53, n54, n55, n56, n57, n58, n59, n60, n61, n62, n63, n64, n65, n66, n67, n68, n69, n70, n71, n72, n73, n74, n75, n76, n77, n78, n79, v80, v81, v82, v83, v84, v85, v86, v87, v88, v89, v90, v91, v92, v93, v94, v95, v96, v97, v98, v99, v100, v101, v102, v103, v104, v105, v106, v107, v108, v109, v110, v111, v112, v113], []⟩ W2)) :
    Code.wp Try.prog vbody Q ⟨#[.pointer (some ⟨x, 0, none⟩), .int .i64 (p : Int), .slice (some ⟨cb, 0, none⟩) chars.length cc, v3, v4, v5, .int .i64 (f : Int), .int .i64 (rp : Int), v8, v9, v10, v11, v12, v13, v14, v15, v16, v17, v18, v19, v20, v21, v22, v23, v24, v25, v26, v27, v28, v29, v30, v31, v32, v33, v34, v35, v36, v37, v38, v39, v40, v41, v42, v43, v44, v45, v46, v47, v48, v49, v50, v51, v52, v53, v54, v55, v56, v57, v58, v59, v60, v61, v62, v63, v64, v65, v66, v67, v68, v69, v70, v71, v72, v73, v74, v75, v76, v77, v78, v79, v80, v81, v82, v83, v84, v85, v86, v87, v88, v89, v90, v91, v92, v93, v94, v95, v96, v97, v98, v99, v100, v101, v102, v103, v104, v105, v106, v107, v108, v109, v110, v111, v112, v113], []⟩ W1 := by
  show Code.wp Try.prog (Code.seq vhead vtail) Q _ W1
  refine wp_seq_k fun K hK_ => ?_
  have hK := Aside0.mk hK_
  clear hK_
  conv => arg 2; whnf
  conv => arg 4; zeta
  have S := HS.out
  have bx := S.mem.box
  have hn0 : 0 < s1.n := by have := S.lo; omega
  have cr := S.mem.chk 0 hn0
  rw [Nat.zero_mul, Nat.zero_add, S.ring.root] at cr
  have big := S.mem.big
  have r1 := S.ring.h1
  have r2 := S.ring.hl
  have r3 := S.ring.ln
  rcases S.fr with hf0 | ⟨ha, hb, hf⟩
  · have HF := Aside0.mk hf0
    subst hf0
    clear S
    go_wp2_with fail
    go_quiet (fail)
    go_wp2_with fail
    exact hK.out _ _ (seek_tail W x g p cb cc rp s h U chars hU hU2 HRow cx cg h0 hcc HC HA hr0 hrp 0 _ _ _ _ ⟨HS.out.drewN _⟩ (Or.inl rfl) ⟨fun n8 n10 n11 n39 n40 n41 n42 n43 n44 n45 n46 n47 n48 n49 n50 n51 n52 n53 n54 n55 n56 n57 n58 n59 n60 n61 n62 n63 n64 n65 n66 n67 n68 n69 n70 n71 n72 n73 n74 n75 n76 n77 n78 n79 f2 a b => hC.out _ _ _ _ _ _ _ _ _ _ _ _ _ _ _ _ _ _ _ _ _ _ _ _ _ _ _ _ _ _ _ _ _ _ _ _ _ _ _ _ _ _ _ _ _ _ _ _ _ _ _ _ _ _ _ _ _ _ _ _ _ _ _ _ f2 _ _ _ _ a b⟩ ⟨fun n8 n10 n11 n39 n40 n41 n42 n43 n44 n45 n46 n47 n48 n49 n50 n51 n52 n53 n54 n55 n56 n57 n58 n59 n60 n61 n62 n63 n64 n65 n66 n67 n68 n69 n70 n71 n72 n73 n74 n75 n76 n77 n78 n79 f2 a b => hG.out _ _ _ _ _ _ _ _ _ _ _ _ _ _ _ _ _ _ _ _ _ _ _ _ _ _ _ _ _ _ _ _ _ _ _ _ _ _ _ _ _ _ _ _ _ _ _ _ _ _ _ _ _ _ _ _ _ _ _ _ _ _ _ _ f2 _ _ _ _ a b⟩ ⟨fun n10 n11 n39 n40 n41 n42 n43 n44 n45 n46 n47 n48 n49 n50 n51 n52 n53 n54 n55 n56 n57 n58 n59 n60 n61 n62 n63 n64 n65 n66 n67 n68 n69 n70 n71 n72 n73 n74 n75 n76 n77 n78 n79 f2 b a => hX.out _ _ _ _ _ _ _ _ _ _ _ _ _ _ _ _ _ _ _ _ _ _ _ _ _ _ _ _ _ _ _ _ _ _ _ _ _ _ _ _ _ _ _ _ _ _ _ _ _ _ _ _ _ _ _ _ _ _ _ _ _ _ _ f2 b _ _ _ _ a⟩)
  · have hfz : ((f : Int) != 0) = true := by rw [bne_iff_ne]; omega
    have hfn : (f : Int) < (s1.n : Int) := by omega
    by_cases hl : f = l1
    · subst hl
      have cf : W1.cell? ⟨g1, f * 2 + 1, none⟩ = some (.int .i32 (-(h : Int))) := (S.mem.chk f hb).trans (congrArg (fun v => some (Value.int .i32 v)) S.ring.wc)
      have HE : Aside0 (∀ nq, Calls Try.prog 79 #[.pointer (some ⟨x, 0, none⟩)] (W1.drewN nq) fun e w' => Exp (W1.drewN nq) x (s1.grow h f) e w') := ⟨fun nq => expand_calls _ x g1 s1 h f (S.mem.drewN nq) S.ring (by have := S.lo; omega) (by have := last_end S.ring S.u S.fu; omega)⟩
      clear S
      go_wp2_with fail
      go_quiet (fail)
      go_wp2_with (go_at_call 79; (with_reducible refine (HE.out _).mono ?_); rintro e_ W2 hE; obtain ⟨rfl, g2, hS2⟩ := seek_grow (HS.out.drewN _) hE; have HS2 := Aside0.mk hS2; clear hE hS2)
      exact hK.out _ _ (seek_tail W x g p cb cc rp s h U chars hU hU2 HRow cx cg h0 hcc HC HA hr0 hrp f _ _ _ _ HS2 (Or.inr (by omega)) ⟨fun n8 n10 n11 n39 n40 n41 n42 n43 n44 n45 n46 n47 n48 n49 n50 n51 n52 n53 n54 n55 n56 n57 n58 n59 n60 n61 n62 n63 n64 n65 n66 n67 n68 n69 n70 n71 n72 n73 n74 n75 n76 n77 n78 n79 f2 a b => hC.out _ _ _ _ _ _ _ _ _ _ _ _ _ _ _ _ _ _ _ _ _ _ _ _ _ _ _ _ _ _ _ _ _ _ _ _ _ _ _ _ _ _ _ _ _ _ _ _ _ _ _ _ _ _ _ _ _ _ _ _ _ _ _ _ f2 _ _ _ _ a b⟩ ⟨fun n8 n10 n11 n39 n40 n41 n42 n43 n44 n45 n46 n47 n48 n49 n50 n51 n52 n53 n54 n55 n56 n57 n58 n59 n60 n61 n62 n63 n64 n65 n66 n67 n68 n69 n70 n71 n72 n73 n74 n75 n76 n77 n78 n79 f2 a b => hG.out _ _ _ _ _ _ _ _ _ _ _ _ _ _ _ _ _ _ _ _ _ _ _ _ _ _ _ _ _ _ _ _ _ _ _ _ _ _ _ _ _ _ _ _ _ _ _ _ _ _ _ _ _ _ _ _ _ _ _ _ _ _ _ _ f2 _ _ _ _ a b⟩ ⟨fun n10 n11 n39 n40 n41 n42 n43 n44 n45 n46 n47 n48 n49 n50 n51 n52 n53 n54 n55 n56 n57 n58 n59 n60 n61 n62 n63 n64 n65 n66 n67 n68 n69 n70 n71 n72 n73 n74 n75 n76 n77 n78 n79 f2 b a => hX.out _ _ _ _ _ _ _ _ _ _ _ _ _ _ _ _ _ _ _ _ _ _ _ _ _ _ _ _ _ _ _ _ _ _ _ _ _ _ _ _ _ _ _ _ _ _ _ _ _ _ _ _ _ _ _ _ _ _ _ _ _ _ _ f2 b _ _ _ _ a⟩)
    · obtain ⟨z, z1, z2, z3, z4, z5, z6⟩ := S.ring.nx f ha hb hf hl
      have hzh := S.ring.ge_h ha hf
      have cf : W1.cell? ⟨g1, f * 2 + 1, none⟩ = some (.int .i32 (-(z : Int))) := (S.mem.chk f hb).trans (congrArg (fun v => some (Value.int .i32 v)) z3)
      have hcmp : (-(z : Int) == -(h : Int)) = false := by rw [beq_eq_false_iff_ne]; omega
      clear S z3 z4 z5 z6
      go_wp2_with fail
      go_quiet (fail)
      go_wp2_with fail
      exact hK.out _ _ (seek_tail W x g p cb cc rp s h U chars hU hU2 HRow cx cg h0 hcc HC HA hr0 hrp f _ _ _ _ ⟨HS.out.drewN _⟩ (Or.inr hl) ⟨fun n8 n10 n11 n39 n40 n41 n42 n43 n44 n45 n46 n47 n48 n49 n50 n51 n52 n53 n54 n55 n56 n57 n58 n59 n60 n61 n62 n63 n64 n65 n66 n67 n68 n69 n70 n71 n72 n73 n74 n75 n76 n77 n78 n79 f2 a b => hC.out _ _ _ _ _ _ _ _ _ _ _ _ _ _ _ _ _ _ _ _ _ _ _ _ _ _ _ _ _ _ _ _ _ _ _ _ _ _ _ _ _ _ _ _ _ _ _ _ _ _ _ _ _ _ _ _ _ _ _ _ _ _ _ _ f2 _ _ _ _ a b⟩ ⟨fun n8 n10 n11 n39 n40 n41 n42 n43 n44 n45 n46 n47 n48 n49 n50 n51 n52 n53 n54 n55 n56 n57 n58 n59 n60 n61 n62 n63 n64 n65 n66 n67 n68 n69 n70 n71 n72 n73 n74 n75 n76 n77 n78 n79 f2 a b => hG.out _ _ _ _ _ _ _ _ _ _ _ _ _ _ _ _ _ _ _ _ _ _ _ _ _ _ _ _ _ _ _ _ _ _ _ _ _ _ _ _ _ _ _ _ _ _ _ _ _ _ _ _ _ _ _ _ _ _ _ _ _ _ _ _ f2 _ _ _ _ a b⟩ ⟨fun n10 n11 n39 n40 n41 n42 n43 n44 n45 n46 n47 n48 n49 n50 n51 n52 n53 n54 n55 n56 n57 n58 n59 n60 n61 n62 n63 n64 n65 n66 n67 n68 n69 n70 n71 n72 n73 n74 n75 n76 n77 n78 n79 f2 b a => hX.out _ _ _ _ _ _ _ _ _ _ _ _ _ _ _ _ _ _ _ _ _ _ _ _ _ _ _ _ _ _ _ _ _ _ _ _ _ _ _ _ _ _ _ _ _ _ _ _ _ _ _ _ _ _ _ _ _ _ _ _ _ _ _ f2 b _ _ _ _ a⟩)
noncomputable def vblock0 : Code := pth [false, true, true, true, true, false] (Try.f60.body.getD .skip)
set_option maxHeartbeats 16000000 in
set_option maxRecDepth 100000 in
theorem seek_loop (W : World) (x g p cb cc rp : Nat) (s : DA) (h U : Nat) (chars : List Int) (hU : 255 ≤ U) (hU2 : U ≤ 16777216) (HRow : Aside0 (Row W cb chars)) (cx : cb ≠ x) (cg : cb ≠ g) (h0 : 0 < chars.length) (hcc : chars.length ≤ 256) (HC : Aside0 (∀ c ∈ chars, 0 ≤ c ∧ c ≤ 255)) (HA : Aside0 (∀ c ∈ chars, (rp : Int) ≤ c)) (hr0 : chars.getD 0 0 = (rp : Int)) (hrp : rp ≤ 255) (f0 g1 l1 : Nat) (s1 : DA) (W1 : World) {Q : Exit → Act → World → Prop} {v3 v4 v5 v8 v9 v10 v11 v12 v13 v14 v15 v16 v17 v18 v19 v20 v21 v22 v23 v24 v25 v26 v27 v28 v29 v30 v31 v32 v33 v34 v35 v36 v37 v38 v39 v40 v41 v42 v43 v44 v45 v46 v47 v48 v49 v50 v51 v52 v53 v54 v55 v56 v57 v58 v59 v60 v61 v62 v63 v64 v65 v66 v67 v68 v69 v70 v71 v72 v73 v74 v75 v76 v77 v78 v79 v80 v81 v82 v83 v84 v85 v86 v87 v88 v89 v90 v91 v92 v93 v94 v95 v96 v97 v98 v99 v100 v101 v102 v103 v104 v105 v106 v107 v108 v109 v110 v111 v112 v113 : Value} (HS : Aside0 (Seek W W1 x g s U h f0 g1 s1 l1))
    (hG : Aside0 (∀ (n8 n10 n11 n19 n20 n21 n22 n23 n24 n25 n26 n27 n28 n29 n30 n31 n32 n33 n34 n35 n36 n37 n38 n39 n40 n41 n42 n43 n44 n45 n46 n47 n48 n49 n50 n51 n52 n53 n54 n55 n56 n57 n58 n59 n60 n61 n62 n63 n64 n65 n66 n67 n68 n69 n70 n71 n72 n73 n74 n75 n76 n77 n78 n79 : Value) (f2 g2 l2 : Nat) (s2 : DA) (W2 : World), f0 < f2 → Seek W W2 x g s U h f2 g2 s2 l2 → Q (.goto 0) ⟨#[.pointer (some ⟨x, 0, none⟩), .int .i64 (p : Int), .slice (some ⟨cb, 0, none⟩) chars.length cc, v3, v4, v5, .int .i64 (f2 : Int), .int .i64 (rp : Int), n8, v9, n10, n11, v12, v13, v14, v15, v16, v17, v18, n19, n20, n21, n22, n23, n24, n25, n26, n27, n28, n29, n30, n31, n32, n33, n34, n35, n36, n37, n38, n39, n40, n41, n42, n43, n44, n45, n46, n47, n48, n49, n50, n51, n52, n53, n54, n55, n56, n57, n58, n59, n60, n61, n62, n63, n64, n65, n66, n67, n68, n69, n70, n71, n72, n73, n74, n75, n76, n77, n78, n79, v80, v81, v82, v83, v84, v85, v86, v87, v88, v89, v90, v91, v92, v93, v94, v95, v96, v97, v98, v99, v100, v101, v102, v103, v104, v105, v106, v107, v108, v109, v110, v111, v112, v113], []⟩ W2))
    (hX : Aside0 (∀ (n10 n11 n19 n20 n21 n22 n23 n24 n25 n26 n27 n28 n29 n30 n31 n32 n33 n34 n35 n36 n37 n38 n39 n40 n41 n42 n43 n44 n45 n46 n47 n48 n49 n50 n51 n52 n53 n54 n55 n56 n57 n58 n59 n60 n61 n62 n63 n64 n65 n66 n67 n68 n69 n70 n71 n72 n73 n74 n75 n76 n77 n78 n79 : Value) (f2 b g2 l2 : Nat) (s2 : DA) (W2 : World), Found W W2 x g s U h g2 s2 l2 chars b → Q .normal ⟨#[.pointer (some ⟨x, 0, none⟩), .int .i64 (p : Int), .slice (some ⟨cb, 0, none⟩) chars.length cc, v3, v4, v5, .int .i64 (f2 : Int), .int .i64 (rp : Int), .int .i64 (b : Int), v9, n10, n11, v12, v13, v14, v15, v16, v17, v18, n19, n20, n21, n22, n23, n24, n25, n26, n27, n28, n29, n30, n31, n32, n33, n34, n35, n36, n37, n38, n39, n40, n41, n42, n43, n44, n45, n46, n47, n48, n49, n50, n51, n52, n53, n54, n55, n56, n57, n58, n59, n60, n61, n62, n63, n64, n65, n66, n67, n68, n69, n70, n71, n72, n73, n74, n75, n76, n77, n78, n79, v80, v81, v82, v83, v84, v85, v86, v87, v88, v89, v90, v91, v92, v93, v94, v95, v96, v97, v98, v99, v100, v101, v102, v103, v104, v105, v106, v107, v108, v109, v110, v111, v112, v113], []⟩ W2)) :
    Code.wp Try.prog vblock0 Q ⟨#[.pointer (some ⟨x, 0, none⟩), .int .i64 (p : Int), .slice (some ⟨cb, 0, none⟩) chars.length cc, v3, v4, v5, .int .i64 (f0 : Int), .int .i64 (rp : Int), v8, v9, v10, v11, v12, v13, v14, v15, v16, v17, v18, v19, v20, v21, v22, v23, v24, v25, v26, v27, v28, v29, v30, v31, v32, v33, v34, v35, v36, v37, v38, v39, v40, v41, v42, v43, v44, v45, v46, v47, v48, v49, v50, v51, v52, v53, v54, v55, v56, v57, v58, v59, v60, v61, v62, v63, v64, v65, v66, v67, v68, v69, v70, v71, v72, v73, v74, v75, v76, v77, v78, v79, v80, v81, v82, v83, v84, v85, v86, v87, v88, v89, v90, v91, v92, v93, v94, v95, v96, v97, v98, v99, v100, v101, v102, v103, v104, v105, v106, v107, v108, v109, v110, v111, v112, v113], []⟩ W1 := by
  conv => arg 2; whnf
  conv => arg 4; zeta
  go_wp2_with fail
  go_loopg [6] (U + 1) (fun kq y6 w' => ∃ (f g2 l2 : Nat) (s2 : DA), y6 = .int .i64 (f : Int) ∧ Aside0 (U + 1 ≤ f + kq ∧ f0 ≤ f) ∧ Aside0 (Seek W w' x g s U h f g2 s2 l2))
  case atStart => exact ⟨f0, g1, l1, s1, rfl, ⟨by omega⟩, HS⟩
  case round =>
    clear HS
    obtain ⟨f, g2, l2, s2, rfl, HM, HS⟩ := hrel
    have hm := HM.out
    go_upto_block 1 with fail
    refine wp_block ?_
    refine seek_round W x g p cb cc rp s h U chars hU hU2 HRow cx cg h0 hcc HC HA hr0 hrp f g2 l2 s2 _ HS ⟨?_⟩ ⟨?_⟩ ⟨?_⟩
    · intro n8 n10 n11 n19 n20 n21 n22 n23 n24 n25 n26 n27 n28 n29 n30 n31 n32 n33 n34 n35 n36 n37 n38 n39 n40 n41 n42 n43 n44 n45 n46 n47 n48 n49 n50 n51 n52 n53 n54 n55 n56 n57 n58 n59 n60 n61 n62 n63 n64 n65 n66 n67 n68 n69 n70 n71 n72 n73 n74 n75 n76 n77 n78 n79 f2 g3 l3 s3 W3 hlt hS
      have hfu := hS.fu
      have HS3 := Aside0.mk hS
      clear hS HS
      cases gk with
      | zero => omega
      | succ kz =>
      go_wp2_with fail
      go_roundg kz
      case measure => omega
      case rel => exact ⟨f2, g3, l3, s3, rfl, ⟨by omega⟩, HS3⟩
    · intro n8 n10 n11 n19 n20 n21 n22 n23 n24 n25 n26 n27 n28 n29 n30 n31 n32 n33 n34 n35 n36 n37 n38 n39 n40 n41 n42 n43 n44 n45 n46 n47 n48 n49 n50 n51 n52 n53 n54 n55 n56 n57 n58 n59 n60 n61 n62 n63 n64 n65 n66 n67 n68 n69 n70 n71 n72 n73 n74 n75 n76 n77 n78 n79 f2 g3 l3 s3 W3 hlt hS
      exact hG.out _ _ _ _ _ _ _ _ _ _ _ _ _ _ _ _ _ _ _ _ _ _ _ _ _ _ _ _ _ _ _ _ _ _ _ _ _ _ _ _ _ _ _ _ _ _ _ _ _ _ _ _ _ _ _ _ _ _ _ _ _ _ _ _ f2 g3 l3 s3 W3 (by omega) hS
    · intro n10 n11 n19 n20 n21 n22 n23 n24 n25 n26 n27 n28 n29 n30 n31 n32 n33 n34 n35 n36 n37 n38 n39 n40 n41 n42 n43 n44 n45 n46 n47 n48 n49 n50 n51 n52 n53 n54 n55 n56 n57 n58 n59 n60 n61 n62 n63 n64 n65 n66 n67 n68 n69 n70 n71 n72 n73 n74 n75 n76 n77 n78 n79 f2 b g3 l3 s3 W3 hF
      exact hX.out _ _ _ _ _ _ _ _ _ _ _ _ _ _ _ _ _ _ _ _ _ _ _ _ _ _ _ _ _ _ _ _ _ _ _ _ _ _ _ _ _ _ _ _ _ _ _ _ _ _ _ _ _ _ _ _ _ _ _ _ _ _ _ f2 b g3 l3 s3 W3 hF

end Go.Proofs.Ytaejkbjepbifcaa.Da
namespace Go.Proofs.Ytaejkbjepbifcaa.Da
open Go.RowKit Go.Proofs.YtaejkbjepbifcaaW.PrintWords
set_option linter.unusedVariables false
set_option linter.unusedSimpArgs false
/-- The cells below p have been found and marked. -/
def Sought (W : World) (x g p U : Nat) (s : DA) (chars : List Int) (w' : World) : Prop :=
  ∃ g' s1 b, (g' = g ∨ W.heap.size ≤ g') ∧ Mem w' x g' s1 ∧ Kp W w' (fun k => k = x ∨ k = g) ∧ Mk s s1 p b chars ∧ (∃ h l, Ring s1 h l) ∧ Bd s1 (U + 512) ∧ b ≤ U + 1
/-- Some letters have been marked. -/
structure Marked (W W' : World) (x g p U : Nat) (s : DA) (b g' : Nat) (s' : DA) (done : List Int) : Prop where
  mp : MkP s s' p b done
  mem : Mem W' x g' s'
  ring : ∃ h l, Ring s' h l
  gg : g' = g ∨ W.heap.size ≤ g'
  kp : Kp W W' (fun k => k = x ∨ k = g)
  n : s'.n ≤ 2 * U + 60600
  lo : 51200 ≤ s'.n
  u : ∀ i, s'.used i → i ≤ U + 256
  bn : b < s'.n
/-- The base has been set. -/
def Based (W W' : World) (x g p U : Nat) (s : DA) (chars : List Int) (g1 : Nat) : Prop :=
  ∃ b s', MkP s s' p b [] ∧ Mem W' x g1 s' ∧ (∃ h l, Ring s' h l) ∧ 1 ≤ b ∧ b ≤ U + 1 ∧ b < s'.n ∧ s'.n ≤ 2 * U + 60000 ∧ 51200 ≤ s'.n ∧ (∀ i, s'.used i → i ≤ U) ∧ (∀ c ∈ chars, ¬ s.used (b + c.toNat)) ∧ Kp W W' (fun k => k = x ∨ k = g) ∧ (g1 = g ∨ W.heap.size ≤ g1)
theorem MB_root {W W1 : World} {x g U h g1 l1 b : Nat} {s s1 : DA} {chars : List Int} (F : Found W W1 x g s U h g1 s1 l1 chars b) (hb : s.B 0 = 1) (hno : ∀ i, ¬ s.used i) : Based W W1 x g 0 U s chars g1 :=
  ⟨1, s1, MkP.root F.same hb, F.mem, ⟨_, _, F.ring⟩, by omega, by omega, by have := F.lo; omega, F.n, F.lo, F.u, fun c _ => hno _, F.kp, F.gg⟩
theorem MB_used {W W1 W2 : World} {x g U h g1 l1 b p : Nat} {s s1 : DA} {chars : List Int} (F : Found W W1 x g s U h g1 s1 l1 chars b) (hp : s.used p) (m : Mem W2 x g1 ⟨s1.n, upd s1.B p b, s1.C⟩) (k : Kp W1 W2 (fun k => k = g1)) : Based W W2 x g p U s chars g1 := by
  refine ⟨b, _, MkP.base F.same hp, m, ⟨_, _, ring_setB F.ring b (F.same.up hp).2.2⟩, F.b1, F.b2, F.bn, F.n, F.lo, fun i hi => F.u i hi, fun c hc hu => ?_, ?_, F.gg⟩
  · have h1 := F.same.up hu
    have := F.ok c hc h1.2.1
    have := h1.2.2
    omega
  · refine ⟨Nat.le_trans F.kp.size k.size, fun i hi hn => ?_, F.kp.env.trans k.env⟩
    rw [k.old i (Nat.lt_of_lt_of_le hi F.kp.size) (fun e => ?_), F.kp.old i hi hn]
    have e : i = g1 := e
    rcases F.gg with h | h
    · exact hn (Or.inr (e.trans h))
    · omega
theorem mark_free {s s2 : DA} {p b c : Nat} {d : List Int} (m : MkP s s2 p b d) (hs : ¬ s.used (b + c)) (hd : ∀ ch ∈ d, (c : Int) ≠ ch) (h0 : ∀ ch ∈ d, 0 ≤ ch) : ¬ s2.used (b + c) := by
  intro hu
  obtain ⟨_, ch, hc, e⟩ := m.only _ hu hs
  have := h0 ch hc
  exact hd ch hc (by omega)
theorem free_of {s : DA} {q : Nat} (h1 : 1 ≤ q) (h2 : q < s.n) (h : ¬ s.used q) : s.C q < 0 := by
  by_cases e : s.C q < 0
  · exact e
  · exact absurd ⟨h1, h2, by omega⟩ h
set_option maxRecDepth 100000 in
theorem sought_fin {W W' : World} {x g p U b g' : Nat} {s s' : DA} {chars : List Int} (M : Marked W W' x g p U s b g' s' chars) (h1 : 1 ≤ b) (h2 : b ≤ U + 1) : Sought W x g p U s chars W' := by
  have hn : s'.n ≤ 2 * (U + 512) + 60000 := by have := M.n; omega
  have hu : ∀ i, s'.used i → i ≤ U + 512 := fun i hi => by have := M.u i hi; omega
  exact ⟨g', s', b, M.gg, M.mem, M.kp, M.mp.fin h1, M.ring, ⟨hu, hn, M.lo⟩, h2⟩
theorem kp_both {W W1 W2 : World} {x g g1 : Nat} (h : Kp W W1 (fun k => k = x ∨ k = g)) (hg : g1 = g ∨ W.heap.size ≤ g1) (k : Kp W1 W2 (fun k => k = x ∨ k = g1)) : Kp W W2 (fun k => k = x ∨ k = g) :=
  ⟨Nat.le_trans h.size k.size, fun i hi hn => by
    rw [k.old i (Nat.lt_of_lt_of_le hi h.size) (fun e => ?_), h.old i hi hn]
    rcases e with e | e
    · exact hn (Or.inl e)
    · rcases hg with hg | hg
      · exact hn (Or.inr (e.trans hg))
      · omega, h.env.trans k.env⟩
theorem marked_grow {W W1 W2 : World} {x g p U b g1 : Nat} {s s1 : DA} {d : List Int} {h l : Nat} (M : Marked W W1 x g p U s b g1 s1 d) (r : Ring s1 h l) (hn : s1.n ≤ U + 256) (hp : p = 0 ∨ s.used p) {e : Ending} (E : Exp W1 x (s1.grow h l) e W2) :
    e = .returned (.tuple #[]) ∧ ∃ g2, Marked W W2 x g p U s b g2 (s1.grow h l) d := by
  obtain ⟨rfl, g2, hg, hm, hk⟩ := E
  have hlo := M.lo
  refine ⟨rfl, g2, M.mp.same hp (same_grow r (by omega)), hm, ⟨_, _, ring_grow r (by omega)⟩, Or.inr (Nat.le_trans M.kp.size hg), kp_both M.kp M.gg (hk.mono (fun _ _ h => Or.inl h)), ?_, ?_, fun i hi => M.u i ((same_grow r (by omega)).new i hi), ?_⟩
  · show 2 * s1.n ≤ _; omega
  · show 51200 ≤ 2 * s1.n; omega
  · have := M.bn; show b < 2 * s1.n; omega
theorem marked_step {W W1 W2 : World} {x g p U b g1 c : Nat} {s s1 : DA} {d : List Int} {h l : Nat} (hb : b ≤ U + 1) (hc : c ≤ 255) (hp : p = 0 ∨ s.used p) (M : Marked W W1 x g p U s b g1 s1 d) (r : Ring s1 h l) (q1 : 1 ≤ b + c) (q2 : b + c < s1.n) (hf : s1.C (b + c) < 0) (hs : ¬ s.used (b + c)) {e : Ending} (E : Chk W1 x g1 s1 (b + c) (p : Int) e W2) :
    e = .returned (.tuple #[]) ∧ ∃ g2 s2, Marked W W2 x g p U s b g2 s2 (d ++ [(c : Int)]) := by
  obtain ⟨rfl, g2, s2, hg, hm, hk, ht, hr, hn⟩ := E
  refine ⟨rfl, g2, s2, M.mp.take hp (by rw [Int.toNat_natCast]; exact ht) (by rw [Int.toNat_natCast]; exact hs), hm, hr, ?_, kp_both M.kp M.gg hk, ?_, Nat.le_trans M.lo ht.n, fun i hi => ?_, Nat.lt_of_lt_of_le M.bn ht.n⟩
  · rcases hg with h | h
    · rw [h]; exact M.gg
    · exact Or.inr (Nat.le_trans M.kp.size h)
  · rcases hn with h | ⟨h, he⟩
    · rw [h]; exact M.n
    · have := two_left r q1 q2 hf he (U + 256) M.u
      omega
  · rcases ht.new i hi with h | h
    · exact M.u i h
    · omega
noncomputable def vmark : Code := pth [false, true, true, true, true, true] (Try.f60.body.getD .skip)
set_option maxHeartbeats 16000000 in
set_option maxRecDepth 100000 in
theorem mark_part (W : World) (x g p cb cc rp : Nat) (s : DA) (h U : Nat) (chars : List Int) (hU : 255 ≤ U) (hU2 : U ≤ 16777216) (HRow : Aside0 (Row W cb chars)) (cx : cb ≠ x) (cg : cb ≠ g) (h0 : 0 < chars.length) (hcc : chars.length ≤ 256) (HC : Aside0 (∀ c ∈ chars, 0 ≤ c ∧ c ≤ 255)) (hr0 : chars.getD 0 0 = (rp : Int)) (hrp : rp ≤ 255) (hp : p ≤ 2147483647) (HP : Aside0 ((p = 0 ∧ s.B 0 = 1 ∧ ∀ i, ¬ s.used i) ∨ s.used p)) (HND : Aside0 (chars.Nodup)) (b g1 l1 : Nat) (s1 : DA) (W1 : World) {Q : Exit → Act → World → Prop} {v3 v4 v5 v6 v9 v10 v11 v12 v13 v14 v15 v16 v17 v18 v19 v20 v21 v22 v23 v24 v25 v26 v27 v28 v29 v30 v31 v32 v33 v34 v35 v36 v37 v38 v39 v40 v41 v42 v43 v44 v45 v46 v47 v48 v49 v50 v51 v52 v53 v54 v55 v56 v57 v58 v59 v60 v61 v62 v63 v64 v65 v66 v67 v68 v69 v70 v71 v72 v73 v74 v75 v76 v77 v78 v79 v80 v81 v82 v83 v84 v85 v86 v87 v88 v89 v90 v91 v92 v93 v94 v95 v96 v97 v98 v99 v100 v101 v102 v103 v104 v105 v106 v107 v108 v109 v110 v111 v112 v113 : Value} (HF : Aside0 (Found W W1 x g s U h g1 s1 l1 chars b))
    (hN : Aside0 (∀ (n13 n14 n80 n81 n82 n83 n84 n85 n86 n87 n88 n89 n90 n91 n92 n93 n94 n95 n96 n97 n98 n99 n100 n101 n102 n103 n104 n105 n106 n107 n108 n109 n110 n111 n112 n113 : Value) (W2 : World), Sought W x g p U s chars W2 → Q .normal ⟨#[.pointer (some ⟨x, 0, none⟩), .int .i64 (p : Int), .slice (some ⟨cb, 0, none⟩) chars.length cc, v3, v4, v5, v6, .int .i64 (rp : Int), .int .i64 (b : Int), v9, v10, v11, v12, n13, n14, v15, v16, v17, v18, v19, v20, v21, v22, v23, v24, v25, v26, v27, v28, v29, v30, v31, v32, v33, v34, v35, v36, v37, v38, v39, v40, v41, v42, v43, v44, v45, v46, v47, v48, v49, v50, v51, v52, v53, v54, v55, v56, v57, v58, v59, v60, v61, v62, v63, v64, v65, v66, v67, v68, v69, v70, v71, v72, v73, v74, v75, v76, v77, v78, v79, n80, n81, n82, n83, n84, n85, n86, n87, n88, n89, n90, n91, n92, n93, n94, n95, n96, n97, n98, n99, n100, n101, n102, n103, n104, n105, n106, n107, n108, n109, n110, n111, n112, n113], []⟩ W2)) :
    Code.wp Try.prog vmark Q ⟨#[.pointer (some ⟨x, 0, none⟩), .int .i64 (p : Int), .slice (some ⟨cb, 0, none⟩) chars.length cc, v3, v4, v5, v6, .int .i64 (rp : Int), .int .i64 (b : Int), v9, v10, v11, v12, v13, v14, v15, v16, v17, v18, v19, v20, v21, v22, v23, v24, v25, v26, v27, v28, v29, v30, v31, v32, v33, v34, v35, v36, v37, v38, v39, v40, v41, v42, v43, v44, v45, v46, v47, v48, v49, v50, v51, v52, v53, v54, v55, v56, v57, v58, v59, v60, v61, v62, v63, v64, v65, v66, v67, v68, v69, v70, v71, v72, v73, v74, v75, v76, v77, v78, v79, v80, v81, v82, v83, v84, v85, v86, v87, v88, v89, v90, v91, v92, v93, v94, v95, v96, v97, v98, v99, v100, v101, v102, v103, v104, v105, v106, v107, v108, v109, v110, v111, v112, v113], []⟩ W1 := by
  conv => arg 2; whnf
  conv => arg 4; zeta
  have hUz : (b : Int) ≤ 2147483647 := by have := HF.out.b2; omega
  go_upto_region 14 with fail
  go_cut [83] from 80 to 83 (fun y83 wc => Aside0 (Based W wc x g p U s chars g1))
  case first =>
    rcases HP.out with ⟨hp0, hb0, hno⟩ | hu
    · subst hp0
      have HB0 := Aside0.mk (MB_root HF.out hb0 hno)
      clear hb0 hno
      go_wp2_with (go_at_call 80; refine (setBase_root _ x _).mono ?_; rintro _ _ ⟨rfl, rfl⟩)
      go_meet
      case rel => exact HB0
    · have hu1 := HF.out.same.up hu
      have HU1 := Aside0.mk hu1
      have HU := Aside0.mk hu
      clear hu hu1
      have HC1 := Aside0.mk (setBase_used W1 x g1 p s1 (b : Int) HF.out.mem HU1.out (by omega) hUz)
      go_wp2_with (go_at_call 80; refine HC1.out.mono ?_; rintro _ W2 ⟨rfl, hm, hk⟩; have HB0 := Aside0.mk (MB_used HF.out HU.out hm hk); clear hm hk)
      go_meet
      case rel => exact HB0
  case rest =>
    have HB := hcut
    clear hcut
    clear HF
    obtain ⟨b2, sb, hmp, hmem, ⟨hr1, hr2, hring⟩, hb1, hb2, hbn, hn, hlo, hub, hfree, hkp, hgg⟩ := HB.out
    have S0 : Aside0 (Marked W wc x g p U s b2 g1 sb []) := ⟨⟨hmp, hmem, ⟨hr1, hr2, hring⟩, hgg, hkp, by omega, hlo, fun i hi => by have := hub i hi; omega, hbn⟩⟩
    have HFR := Aside0.mk hfree
    clear HB hmp hmem hring hn hlo hbn hub hfree hkp hgg
    go_wp2_with fail
    go_loopg [86] chars.length (fun kq y86 w' => ∃ (j g2 : Nat) (s2 : DA), y86 = .int .i64 (j : Int) ∧ Aside0 (j + kq = chars.length) ∧ Aside0 (Marked W w' x g p U s b2 g2 s2 (chars.take j)))
    case atStart => exact ⟨0, g1, sb, rfl, ⟨by omega⟩, S0⟩
    case round =>
      clear S0
      obtain ⟨j, g2, s2, rfl, HJ, HM⟩ := hrel
      have hj := HJ.out
      by_cases hjl : j < chars.length
      · have hjz : (j : Int) < (chars.length : Int) := by omega
        have M := HM.out
        have rc := (HRow.out.step (M.kp.old cb HRow.out.lt (by rintro (e | e); exact cx e; exact cg e))).cell j hjl
        have hm : chars.getD j 0 ∈ chars := by rw [List.getD_eq_getElem?_getD, List.getElem?_eq_getElem hjl]; exact List.getElem_mem hjl
        have hc1 := HC.out _ hm
        obtain ⟨c, hc⟩ : ∃ c : Nat, chars.getD j 0 = (c : Int) := ⟨(chars.getD j 0).toNat, by omega⟩
        rw [hc] at rc hc1 hm
        have hfr := HFR.out _ hm
        rw [Int.toNat_natCast] at hfr
        have htk : chars.take (j + 1) = chars.take j ++ [(c : Int)] := by
          rw [List.take_succ_eq_append_getElem hjl, ← hc, List.getD_eq_getElem?_getD, List.getElem?_eq_getElem hjl]; rfl
        have HTK := Aside0.mk htk
        have hnu := mark_free M.mp hfr (fun ch hch e => by
          have h1 := HND.out
          rw [← List.take_append_drop (j + 1) chars, htk] at h1
          have h2 := (List.nodup_append.1 (List.nodup_append.1 h1).1).2.2 ch hch (c : Int) (List.mem_singleton.2 rfl)
          exact h2 e.symm) (fun ch hch => (HC.out ch (List.mem_of_mem_take hch)).1)
        have HFQ := Aside0.mk hfr
        have HNU := Aside0.mk hnu
        have bx := M.mem.box
        have hpn : p < s2.n := by rcases HP.out with ⟨h, _⟩ | h; have := M.lo; omega; exact (M.mp.up h).2.1
        have hpz : (p : Int) < (s2.n : Int) := by omega
        have cp : wr.cell? ⟨g2, p * 2, none⟩ = some (.int .i32 (b2 : Int)) := (M.mem.base p hpn).trans (congrArg (fun v => some (Value.int .i32 v)) M.mp.bp)
        have big := M.mem.big
        obtain ⟨r1, r2, hring⟩ := M.ring
        have HRG := Aside0.mk hring
        have b2z : (b2 : Int) ≤ 2147483647 := by omega
        clear M hc hm hfr htk hnu hring
        cases gk with
        | zero => omega
        | succ kz =>
        by_cases hq : b2 + c < s2.n
        · have hqz : ¬ (b2 : Int) + (c : Int) ≥ (s2.n : Int) := by omega
          go_upto_region 21 with fail
          clear bx cp big hqz
          have hsc := setCheck_calls wr x g2 (b2 + c) s2 r1 r2 (p : Int) HM.out.mem HRG.out (by have := HM.out.lo; omega) (by have := HM.out.n; omega) (by omega) hq (free_of (by omega) hq HNU.out) (by omega) (by omega)
          rw [show ((b2 + c : Nat) : Int) = (b2 : Int) + (c : Int) from by omega] at hsc
          have HSC := Aside0.mk hsc
          clear hsc
          go_wp2_with (go_at_call 81; refine HSC.out.mono ?_; rintro e_ W2 hchk; obtain ⟨rfl, g3, s3, hM3⟩ := marked_step hb2 (by omega) (HP.out.imp (fun h => h.1) id) HM.out HRG.out (by omega) hq (free_of (by omega) hq HNU.out) HFQ.out hchk; have HM3 := Aside0.mk hM3; clear hchk hM3)
          go_roundg kz
          case measure => omega
          case rel => exact ⟨j + 1, g3, s3, congrArg (Value.int .i64) (by omega), ⟨by omega⟩, ⟨by rw [HTK.out]; exact HM3.out⟩⟩
        · have hqz : (b2 : Int) + (c : Int) ≥ (s2.n : Int) := by omega
          have hex := expand_calls wr x g2 s2 r1 r2 HM.out.mem HRG.out (by have := HM.out.lo; omega) (by omega)
          have HEX := Aside0.mk hex
          clear hex
          go_upto_region 21 with (go_at_call 79; refine HEX.out.mono ?_; rintro e_ Wg hexp; obtain ⟨rfl, g4, hM4⟩ := marked_grow HM.out HRG.out (by omega) (HP.out.imp (fun h => h.1) id) hexp; have HM4 := Aside0.mk hM4; clear hexp hM4)
          clear bx cp big hqz
          have hq4 : b2 + c < (s2.grow r1 r2).n := by show b2 + c < 2 * s2.n; have := HM.out.lo; have := HM.out.bn; omega
          have HNU4 : Aside0 (¬ (s2.grow r1 r2).used (b2 + c)) := ⟨fun h => HNU.out ((same_grow HRG.out (by have := HM.out.lo; omega)).new _ h)⟩
          have hsc := setCheck_calls Wg x g4 (b2 + c) (s2.grow r1 r2) r1 (2 * s2.n - 1) (p : Int) HM4.out.mem (ring_grow HRG.out (by have := HM.out.lo; omega)) (by have := HM4.out.lo; omega) (by have := HM4.out.n; omega) (by omega) hq4 (free_of (by omega) hq4 HNU4.out) (by omega) (by omega)
          rw [show ((b2 + c : Nat) : Int) = (b2 : Int) + (c : Int) from by omega] at hsc
          have HSC := Aside0.mk hsc
          clear hsc
          go_wp2_with (go_at_call 81; refine HSC.out.mono ?_; rintro e_ W2 hchk; obtain ⟨rfl, g3, s3, hM3⟩ := marked_step hb2 (by omega) (HP.out.imp (fun h => h.1) id) HM4.out (ring_grow HRG.out (by have := HM.out.lo; omega)) (by omega) hq4 (free_of (by omega) hq4 HNU4.out) HFQ.out hchk; have HM3 := Aside0.mk hM3; clear hchk hM3)
          go_roundg kz
          case measure => omega
          case rel => exact ⟨j + 1, g3, s3, congrArg (Value.int .i64) (by omega), ⟨by omega⟩, ⟨by rw [HTK.out]; exact HM3.out⟩⟩
      · have hjz : ¬ (j : Int) < (chars.length : Int) := by omega
        obtain rfl : j = chars.length := by omega
        go_wp2_with fail
        exact hN.out _ _ _ _ _ _ _ _ _ _ _ _ _ _ _ _ _ _ _ _ _ _ _ _ _ _ _ _ _ _ _ _ _ _ _ _ wr (by have h1 := HM.out; rw [List.take_length] at h1; exact sought_fin h1 hb1 hb2)

def SoughtE (W : World) (x g p U : Nat) (s : DA) (chars : List Int) (e : Ending) (w' : World) : Prop := e = .returned (.tuple #[]) ∧ Sought W x g p U s chars w'
set_option maxHeartbeats 16000000 in
set_option maxRecDepth 100000 in
theorem seek_calls (W : World) (x g p cb cc : Nat) (s : DA) (h l U : Nat) (chars : List Int) (m : Mem W x g s) (r : Ring s h l) (bd : Bd s U) (hU : 255 ≤ U) (hU2 : U ≤ 16777216) (hp : (p = 0 ∧ s.B 0 = 1 ∧ ∀ i, ¬ s.used i) ∨ s.used p)
    (row : Row W cb chars) (cx : cb ≠ x) (cg : cb ≠ g) (h0 : 0 < chars.length) (hcc : chars.length ≤ 256) (hch : ∀ c ∈ chars, 0 ≤ c ∧ c ≤ 255) (hasc : chars.Pairwise (· < ·)) :
    Calls Try.prog 60 #[.pointer (some ⟨x, 0, none⟩), .int .i64 (p : Int), .slice (some ⟨cb, 0, none⟩) chars.length cc] W fun e w' => SoughtE W x g p U s chars e w' := by
  have S0 : Aside0 (Seek W W x g s U h 0 g s l) := ⟨⟨Same.refl _, m, r, Or.inl rfl, Kp.self _ _, bd.n, bd.lo, bd.u, Or.inl rfl, Nat.zero_le _⟩⟩
  have HRow := Aside0.mk row
  have HP := Aside0.mk hp
  have HC := Aside0.mk hch
  have HND : Aside0 chars.Nodup := ⟨hasc.imp (fun h => by omega)⟩
  have hp2 : p ≤ 2147483647 := by rcases hp with ⟨h, _⟩ | h; omega; have := bd.u p h; omega
  have c0 := row.cell 0 h0
  have hc0 := hch (chars.getD 0 0) (by rw [List.getD_eq_getElem?_getD, List.getElem?_eq_getElem h0]; exact List.getElem_mem h0)
  obtain ⟨rp, hr0⟩ : ∃ rp : Nat, chars.getD 0 0 = (rp : Int) := ⟨(chars.getD 0 0).toNat, by omega⟩
  have HA : Aside0 (∀ c ∈ chars, (rp : Int) ≤ c) := ⟨fun c hc => by
    rw [← hr0]
    obtain ⟨i, hi, e⟩ := List.getElem_of_mem hc
    rw [List.getD_eq_getElem?_getD, List.getElem?_eq_getElem h0, Option.getD_some]
    by_cases h : i = 0
    · subst h; rw [← e]; exact Int.le_refl _
    · have := List.pairwise_iff_getElem.1 hasc 0 i h0 hi (by omega)
      rw [← e]; omega⟩
  rw [hr0] at c0 hc0
  have hrp : rp ≤ 255 := by omega
  have h0z : (0 : Int) < (chars.length : Int) := by omega
  clear m r hp row hch hasc bd
  go_enter Try.func60, Try.ntmps60
  refine wp_scope_jumps 0 (fun a' w' => ∃ (n8 n10 n11 n19 n20 n21 n22 n23 n24 n25 n26 n27 n28 n29 n30 n31 n32 n33 n34 n35 n36 n37 n38 n39 n40 n41 n42 n43 n44 n45 n46 n47 n48 n49 n50 n51 n52 n53 n54 n55 n56 n57 n58 n59 n60 n61 n62 n63 n64 n65 n66 n67 n68 n69 n70 n71 n72 n73 n74 n75 n76 n77 n78 n79 : Value) (f2 g2 l2 : Nat) (s2 : DA), a' = ⟨#[.pointer (some ⟨x, 0, none⟩), .int .i64 (p : Int), .slice (some ⟨cb, 0, none⟩) chars.length cc, undef, undef, undef, .int .i64 (f2 : Int), .int .i64 (rp : Int), n8, undef, n10, n11, undef, undef, undef, .slice (some ⟨cb, 0, none⟩) chars.length cc, .pointer (some ⟨cb, 0, none⟩), .int .u8 (rp : Int), .int .i64 (rp : Int), n19, n20, n21, n22, n23, n24, n25, n26, n27, n28, n29, n30, n31, n32, n33, n34, n35, n36, n37, n38, n39, n40, n41, n42, n43, n44, n45, n46, n47, n48, n49, n50, n51, n52, n53, n54, n55, n56, n57, n58, n59, n60, n61, n62, n63, n64, n65, n66, n67, n68, n69, n70, n71, n72, n73, n74, n75, n76, n77, n78, n79, undef, undef, undef, undef, undef, undef, undef, undef, undef, undef, undef, undef, undef, undef, undef, undef, undef, undef, undef, undef, undef, undef, undef, undef, undef, undef, undef, undef, undef, undef, undef, undef, undef, undef], []⟩ ∧ Seek W w' x g s U h f2 g2 s2 l2) (fun a' _ => U + 1 - (intOf (a'.tmps.getD 6 undef)).toNat) rfl ?_ ?_
  · refine wp_seq_k fun K hK_ => ?_
    have hK := Aside0.mk hK_
    clear hK_
    go_wp2_with fail
    refine hK.out _ _ ?_
    clear hK K
    refine wp_seq_k fun K hK_ => ?_
    have hK := Aside0.mk hK_
    clear hK_
    go_wp2_with fail
    refine hK.out _ _ ?_
    clear hK K
    refine wp_seq_k fun K hK_ => ?_
    have hK := Aside0.mk hK_
    clear hK_
    go_wp2_with fail
    refine hK.out _ _ ?_
    clear hK K
    refine wp_seq_k fun K hK_ => ?_
    have hK := Aside0.mk hK_
    clear hK_
    refine wp_label ?_
    refine hK.out _ _ ?_
    clear hK K
    refine wp_seq_k fun K hK_ => ?_
    have hK := Aside0.mk hK_
    clear hK_
    refine seek_loop W x g p cb cc rp s h U chars hU hU2 HRow cx cg h0 hcc HC HA hr0 hrp 0 _ _ _ _ S0 ⟨?_⟩ ⟨?_⟩
    · intro n8 n10 n11 n19 n20 n21 n22 n23 n24 n25 n26 n27 n28 n29 n30 n31 n32 n33 n34 n35 n36 n37 n38 n39 n40 n41 n42 n43 n44 n45 n46 n47 n48 n49 n50 n51 n52 n53 n54 n55 n56 n57 n58 n59 n60 n61 n62 n63 n64 n65 n66 n67 n68 n69 n70 n71 n72 n73 n74 n75 n76 n77 n78 n79 f2 g2 l2 s2 W2 hlt hS
      exact ⟨rfl, n8, n10, n11, n19, n20, n21, n22, n23, n24, n25, n26, n27, n28, n29, n30, n31, n32, n33, n34, n35, n36, n37, n38, n39, n40, n41, n42, n43, n44, n45, n46, n47, n48, n49, n50, n51, n52, n53, n54, n55, n56, n57, n58, n59, n60, n61, n62, n63, n64, n65, n66, n67, n68, n69, n70, n71, n72, n73, n74, n75, n76, n77, n78, n79, f2, g2, l2, s2, rfl, hS⟩
    · intro n10 n11 n19 n20 n21 n22 n23 n24 n25 n26 n27 n28 n29 n30 n31 n32 n33 n34 n35 n36 n37 n38 n39 n40 n41 n42 n43 n44 n45 n46 n47 n48 n49 n50 n51 n52 n53 n54 n55 n56 n57 n58 n59 n60 n61 n62 n63 n64 n65 n66 n67 n68 n69 n70 n71 n72 n73 n74 n75 n76 n77 n78 n79 f2 b g2 l2 s2 W2 hF
      refine hK.out _ _ (mark_part W x g p cb cc rp s h U chars hU hU2 HRow cx cg h0 hcc HC hr0 hrp hp2 HP HND b g2 l2 s2 W2 ⟨hF⟩ ⟨?_⟩)
      intro n13 n14 n80 n81 n82 n83 n84 n85 n86 n87 n88 n89 n90 n91 n92 n93 n94 n95 n96 n97 n98 n99 n100 n101 n102 n103 n104 n105 n106 n107 n108 n109 n110 n111 n112 n113 W3 hS3
      (try simp only [Exit.jump])
      go_end0
      exact ⟨rfl, hS3⟩

  · rintro a' w' ⟨n8, n10, n11, n19, n20, n21, n22, n23, n24, n25, n26, n27, n28, n29, n30, n31, n32, n33, n34, n35, n36, n37, n38, n39, n40, n41, n42, n43, n44, n45, n46, n47, n48, n49, n50, n51, n52, n53, n54, n55, n56, n57, n58, n59, n60, n61, n62, n63, n64, n65, n66, n67, n68, n69, n70, n71, n72, n73, n74, n75, n76, n77, n78, n79, f9, g9, l9, s9, rfl, hS9⟩
    have HS9 := Aside0.mk hS9
    clear hS9
    refine wp_seq_k fun K hK_ => ?_
    have hK := Aside0.mk hK_
    clear hK_
    refine wp_skip ?_
    refine hK.out _ _ ?_
    clear hK K
    refine wp_seq_k fun K hK_ => ?_
    have hK := Aside0.mk hK_
    clear hK_
    refine seek_loop W x g p cb cc rp s h U chars hU hU2 HRow cx cg h0 hcc HC HA hr0 hrp f9 _ _ _ _ HS9 ⟨?_⟩ ⟨?_⟩
    · intro n8 n10 n11 n19 n20 n21 n22 n23 n24 n25 n26 n27 n28 n29 n30 n31 n32 n33 n34 n35 n36 n37 n38 n39 n40 n41 n42 n43 n44 n45 n46 n47 n48 n49 n50 n51 n52 n53 n54 n55 n56 n57 n58 n59 n60 n61 n62 n63 n64 n65 n66 n67 n68 n69 n70 n71 n72 n73 n74 n75 n76 n77 n78 n79 f2 g2 l2 s2 W2 hlt hS
      exact ⟨rfl, ⟨n8, n10, n11, n19, n20, n21, n22, n23, n24, n25, n26, n27, n28, n29, n30, n31, n32, n33, n34, n35, n36, n37, n38, n39, n40, n41, n42, n43, n44, n45, n46, n47, n48, n49, n50, n51, n52, n53, n54, n55, n56, n57, n58, n59, n60, n61, n62, n63, n64, n65, n66, n67, n68, n69, n70, n71, n72, n73, n74, n75, n76, n77, n78, n79, f2, g2, l2, s2, rfl, hS⟩, by have := hS.fu; simp [intOf]; omega⟩
    · intro n10 n11 n19 n20 n21 n22 n23 n24 n25 n26 n27 n28 n29 n30 n31 n32 n33 n34 n35 n36 n37 n38 n39 n40 n41 n42 n43 n44 n45 n46 n47 n48 n49 n50 n51 n52 n53 n54 n55 n56 n57 n58 n59 n60 n61 n62 n63 n64 n65 n66 n67 n68 n69 n70 n71 n72 n73 n74 n75 n76 n77 n78 n79 f2 b g2 l2 s2 W2 hF
      refine hK.out _ _ (mark_part W x g p cb cc rp s h U chars hU hU2 HRow cx cg h0 hcc HC hr0 hrp hp2 HP HND b g2 l2 s2 W2 ⟨hF⟩ ⟨?_⟩)
      intro n13 n14 n80 n81 n82 n83 n84 n85 n86 n87 n88 n89 n90 n91 n92 n93 n94 n95 n96 n97 n98 n99 n100 n101 n102 n103 n104 n105 n106 n107 n108 n109 n110 n111 n112 n113 W3 hS3
      (try simp only [Exit.jump])
      go_end0
      exact ⟨rfl, hS3⟩

end Go.Proofs.Ytaejkbjepbifcaa.Da
namespace Go.Proofs.Ytaejkbjepbifcaa.Da
open Go.RowKit Go.Maps Go.ChangeShapes Go.Proofs.YtaejkbjepbifcaaW.PrintWords
set_option linter.unusedVariables false
set_option linter.unusedSimpArgs false
/-- The words and their numbers in memory. -/
structure Src (W : World) (kb ko : Nat) (ss : List ByteArray) (ib io : Nat) (ds : List Int) : Prop where
  kw : ∀ j, j < ss.length → W.cell? ⟨kb, ko + j, none⟩ = some (.string (ss.getD j ByteArray.empty))
  idc : ∀ j, j < ds.length → W.cell? ⟨ib, io + j, none⟩ = some (.int .i64 (ds.getD j 0))
  kl : kb < W.heap.size
  il : ib < W.heap.size
  len : ds.length = ss.length
  few : ss.length ≤ 1000000
  sz : ∀ t ∈ ss, t.size ≤ 1000000000
  dsb : ∀ d ∈ ds, 0 ≤ d ∧ d ≤ 2147483647
def BrC (W : World) (bb : Nat) (zs : List Nat) : Prop := bb < W.heap.size ∧ ∀ j, j < zs.length → W.cell? ⟨bb, j, none⟩ = some (.int .i64 (zs.getD j 0 : Nat))
theorem cell_old {W W' : World} {S : Nat → Prop} (k : Kp W W' S) {b o : Nat} (hb : b < W.heap.size) (hS : ¬ S b) : W'.cell? ⟨b, o, none⟩ = W.cell? ⟨b, o, none⟩ := by
  unfold World.cell?
  rw [k.old b hb hS]
theorem Src.step {W W' : World} {kb ko ib io : Nat} {ss : List ByteArray} {ds : List Int} {S : Nat → Prop} (h : Src W kb ko ss ib io ds) (k : Kp W W' S) (h1 : ¬ S kb) (h2 : ¬ S ib) : Src W' kb ko ss ib io ds :=
  ⟨fun j hj => (cell_old k h.kl h1).trans (h.kw j hj), fun j hj => (cell_old k h.il h2).trans (h.idc j hj), Nat.lt_of_lt_of_le h.kl k.size, Nat.lt_of_lt_of_le h.il k.size, h.len, h.few, h.sz, h.dsb⟩
theorem BrC.step {W W' : World} {bb : Nat} {zs : List Nat} {S : Nat → Prop} (h : BrC W bb zs) (k : Kp W W' S) (h1 : ¬ S bb) : BrC W' bb zs :=
  ⟨Nat.lt_of_lt_of_le h.1 k.size, fun j hj => (cell_old k h.1 h1).trans (h.2 j hj)⟩
def word (ss : List ByteArray) (z : Nat) : List Int := bs (ss.getD z ByteArray.empty)
def hd (ss : List ByteArray) (i z : Nat) : Int := head1 ((word ss z).drop i)
def keysOf (ss : List ByteArray) (ds : List Int) (i : Nat) (zs : List Nat) : Keys := zs.map (fun z => ((word ss z).drop i, ds.getD z 0))
def prs (ss : List ByteArray) (i : Nat) (zs : List Nat) : List (Int × Int) := zs.map (fun z => (hd ss i z, (z : Int)))
def below (ss : List ByteArray) (i : Nat) (zs : List Nat) (c : Int) : List Nat := zs.filter (fun z => hd ss i z == c)
theorem grp_below (ss : List ByteArray) (i : Nat) (zs : List Nat) (c : Int) (h : c ≠ 0) : grp (prs ss i zs) c = (below ss i zs c).map (fun z : Nat => (z : Int)) := by
  unfold grp prs below
  rw [if_neg h, List.filter_map, List.map_map]
  rfl
theorem sub_below (ss : List ByteArray) (ds : List Int) (i : Nat) (zs : List Nat) (c : Int) (h : c ≠ 0) : sub (keysOf ss ds i zs) c = keysOf ss ds (i + 1) (below ss i zs c) := by
  induction zs with
  | nil => rfl
  | cons z zs ih =>
    have e : keysOf ss ds i (z :: zs) = ((word ss z).drop i, ds.getD z 0) :: keysOf ss ds i zs := rfl
    rw [e]
    unfold below
    unfold sub at ih ⊢
    cases hw : (word ss z).drop i with
    | nil =>
      have hh : (hd ss i z == c) = false := by rw [beq_eq_false_iff_ne]; unfold hd; rw [hw]; exact fun e => h e.symm
      rw [List.filterMap_cons_none rfl, List.filter_cons_of_neg (by simp [hh]), ih]; rfl
    | cons d t =>
      have ht : (word ss z).drop (i + 1) = t := by rw [← List.tail_drop, hw]; rfl
      by_cases hc : d = c
      · have hh : (hd ss i z == c) = true := by rw [beq_iff_eq]; unfold hd; rw [hw]; exact hc
        rw [List.filterMap_cons_some (b := (t, ds.getD z 0)) (by simp [subk, hc]), List.filter_cons_of_pos (p := fun z => hd ss i z == c) hh, ih]
        show _ = ((word ss z).drop (i + 1), ds.getD z 0) :: _
        rw [ht]; rfl
      · have hh : (hd ss i z == c) = false := by rw [beq_eq_false_iff_ne]; unfold hd; rw [hw]; exact hc
        rw [List.filterMap_cons_none (by simp [subk, hc]), List.filter_cons_of_neg (by simp [hh]), ih]; rfl
theorem letters_keys (ss : List ByteArray) (ds : List Int) (i : Nat) (zs : List Nat) : letters (keysOf ss ds i zs) = zs.foldl (fun l z => push l (hd ss i z)) [] := by
  unfold letters keysOf
  rw [List.foldl_map]; rfl
theorem keys_ne {ss : List ByteArray} {ds : List Int} {i : Nat} {zs : List Nat} (h : zs ≠ []) : keysOf ss ds i zs ≠ [] := by
  intro e; exact h (List.map_eq_nil_iff.1 e)
theorem below_ne {ss : List ByteArray} {ds : List Int} {i : Nat} {zs : List Nat} {c : Int} (h : c ∈ letters (keysOf ss ds i zs)) : below ss i zs c ≠ [] := by
  obtain ⟨k, hk, e⟩ := (chs_letters _ c).1 h
  obtain ⟨z, hz, rfl⟩ := List.mem_map.1 hk
  intro e2
  have : z ∈ below ss i zs c := List.mem_filter.2 ⟨hz, by rw [beq_iff_eq]; exact e⟩
  rw [e2] at this
  cases this
theorem tot_below {ss : List ByteArray} {ds : List Int} {i : Nat} {zs : List Nat} {c : Int} (h0 : c ≠ 0) (h : c ∈ letters (keysOf ss ds i zs)) : tot (keysOf ss ds (i + 1) (below ss i zs c)) < tot (keysOf ss ds i zs) := by
  have h1 := tot_sub (keysOf ss ds i zs) c
  have h2 := all_at [c] (by simp) (keysOf ss ds i zs)
  have h3 : 0 < (sub (keysOf ss ds i zs) c).length := by
    rw [sub_below _ _ _ _ _ h0]
    exact List.length_pos_iff.2 (keys_ne (below_ne h))
  rw [sub_below _ _ _ _ _ h0] at h1 h3
  simp only [List.map_cons, List.map_nil, List.sum_cons, List.sum_nil] at h2
  omega
theorem here_keys {ss : List ByteArray} {ds : List Int} {i z : Nat} {zs : List Nat} (ha : Asc (keysOf ss ds i (z :: zs))) (hk : Okk (keysOf ss ds i (z :: zs))) (h0 : (0 : Int) ∈ letters (keysOf ss ds i (z :: zs))) : here (keysOf ss ds i (z :: zs)) = some (ds.getD z 0) := by
  have h := here_first ha ((word ss z).drop i, ds.getD z 0) (keysOf ss ds i zs) rfl h0 hk
  have h : (word ss z).drop i = [] := h
  unfold here keysOf
  rw [List.map_cons, List.find?_cons_of_pos (by rw [h]; rfl)]
  rfl
theorem Bd.up {s : DA} {U V : Nat} (h : Bd s U) (hv : U ≤ V) : Bd s V := ⟨fun i hi => Nat.le_trans (h.u i hi) hv, by have := h.n; omega, h.lo⟩
theorem mk_par {s s1 : DA} {p b : Nat} {chars : List Int} (m : Mk s s1 p b chars) (hp : p = 0 ∨ s.used p) (h : s.par) : s1.par := by
  intro i hi
  by_cases hs : s.used i
  · rw [m.cc i hs]
    rcases h i hs with h | ⟨r, e, hr⟩
    · exact Or.inl h
    · exact Or.inr ⟨r, e, m.up hr⟩
  · have := (m.only i hi hs).1
    rcases hp with rfl | hp
    · exact Or.inl this
    · exact Or.inr ⟨p, this, m.up hp⟩
theorem jn_par {s1 t : DA} {p b k : Nat} {chars : List Int} {L : Keys} (j : Jn s1 p b chars L k t) (h : s1.par) (hm : ∀ ch ∈ chars, s1.used (b + ch.toNat)) : t.par := by
  intro i hi
  by_cases hs : s1.used i
  · rw [j.cc i hs]
    rcases h i hs with h | ⟨r, e, hr⟩
    · exact Or.inl h
    · exact Or.inr ⟨r, e, j.up hr⟩
  · obtain ⟨r, e, h⟩ := j.new i hi hs
    rcases h with ⟨ch, hc, rfl⟩ | ⟨h, _⟩
    · exact Or.inr ⟨_, e, j.up (hm ch hc)⟩
    · exact Or.inr ⟨r, e, h⟩
/-- The number of 'add's below the first letters. -/
def lives (L : Keys) (cs : List Int) : Nat := adds L (cs.filter (fun c => c != 0))
theorem lives_zero (L : Keys) (cs : List Int) : lives L (cs ++ [0]) = lives L cs := by simp [lives]
theorem lives_snoc (L : Keys) (cs : List Int) (c : Int) (h : c ≠ 0) : lives L (cs ++ [c]) = lives L cs + (1 + tot (sub L c)) := by simp [lives, adds, h]
theorem lives_le {L : Keys} (hk : Okk L) {cs : List Int} (h : cs.Nodup) (hc : ∀ c ∈ cs, c ∈ letters L) : lives L cs ≤ tot L := by
  refine adds_le _ (h.filter _) L (fun c hm => ?_)
  obtain ⟨hm, hz⟩ := List.mem_filter.1 hm
  have hz : c ≠ 0 := by simpa using hz
  obtain ⟨k, hk', e⟩ := (chs_letters L c).1 (hc c hm)
  obtain ⟨w, v⟩ := k
  cases w with
  | nil => exact absurd e.symm hz
  | cons d t =>
    have e : d = c := e
    subst e
    exact sub_ne hk'
theorem lives_mono (L : Keys) (cs : List Int) (j : Nat) : lives L (cs.take j) ≤ lives L cs := by
  rw [show lives L cs = lives L (cs.take j ++ cs.drop j) by rw [List.take_append_drop]]
  simp only [lives, adds, List.filter_append, List.map_append, List.sum_append]
  omega
end Go.Proofs.Ytaejkbjepbifcaa.Da
namespace Go.Proofs.Ytaejkbjepbifcaa.Da
open Go.RowKit Go.Maps Go.ChangeShapes Go.Proofs.YtaejkbjepbifcaaW.PrintWords
set_option linter.unusedVariables false
set_option linter.unusedSimpArgs false
def AddE (W : World) (x g p U : Nat) (s : DA) (L : Keys) (e : Ending) (w' : World) : Prop :=
  e = .returned (.tuple #[]) ∧ ∃ g' s', (g' = g ∨ W.heap.size ≤ g') ∧ Mem w' x g' s' ∧ Kp W w' (fun k => k = x ∨ k = g) ∧ Fr s s' p ∧ Good s' p L ∧ s'.par ∧ (∃ h l, Ring s' h l) ∧ Bd s' (U + 512 * (1 + tot L))
structure Pre (W : World) (x g p U i bb kb ko ib io : Nat) (s : DA) (ss : List ByteArray) (ds : List Int) (zs : List Nat) : Prop where
  mem : Mem W x g s
  ring : ∃ h l, Ring s h l
  bd : Bd s U
  u : 255 ≤ U
  um : U + 512 * (1 + tot (keysOf ss ds i zs)) ≤ 16777216
  bare : s.bare p
  par : s.par
  pp : (p = 0 ∧ s.B 0 = 1 ∧ ∀ i, ¬ s.used i) ∨ s.used p
  src : Src W kb ko ss ib io ds
  br : BrC W bb zs
  ne : zs ≠ []
  zb : ∀ z ∈ zs, z < ss.length
  zl : zs.length ≤ 1000000
  ok : Okk (keysOf ss ds i zs)
  asc : Asc (keysOf ss ds i zs)
  ap : kb ≠ x ∧ kb ≠ g ∧ ib ≠ x ∧ ib ≠ g ∧ bb ≠ x ∧ bb ≠ g
  il : i ≤ 1000000000
def AddAt (m : Nat) : Prop := ∀ (W : World) (x g p U i bb kb ko ib io kc Nc Dc : Nat) (s : DA) (ss : List ByteArray) (ds : List Int) (zs : List Nat) (pv iv : Int), pv = (p : Int) → iv = (i : Int) → tot (keysOf ss ds i zs) < m → Pre W x g p U i bb kb ko ib io s ss ds zs →
  Calls Try.prog 41 #[.pointer (some ⟨x, 0, none⟩), .int .i64 pv, .int .i64 iv, .slice (some ⟨bb, 0, none⟩) zs.length kc, .slice (some ⟨kb, ko, none⟩) ss.length Nc, .slice (some ⟨ib, io, none⟩) ds.length Dc] W fun e w' => AddE W x g p U s (keysOf ss ds i zs) e w'
/-- What holds ahead of the walk over the children. -/
structure Cx (W1 : World) (x g p b U i bb kb ko ib io cb bm n : Nat) (s s1 : DA) (ss : List ByteArray) (ds : List Int) (zs : List Nat) (D : DataW Unit) : Prop where
  mkk : Mk s s1 p b (letters (keysOf ss ds i zs))
  bare : s.bare p
  par : s.par
  pp : p = 0 ∨ s.used p
  src : Src W1 kb ko ss ib io ds
  br : BrC W1 bb zs
  row : Row W1 cb (letters (keysOf ss ds i zs))
  og : OG W1 bm n D
  gdt : GD (prs ss i zs) D
  lt : bm < W1.heap.size
  nn : n ≤ 100000000
  xb : x < bm ∧ g < bm ∧ bm < cb
  ap : kb ≠ x ∧ kb ≠ g ∧ ib ≠ x ∧ ib ≠ g ∧ bb ≠ x ∧ bb ≠ g
  ne : zs ≠ []
  zb : ∀ z ∈ zs, z < ss.length
  zl : zs.length ≤ 1000000
  ok : Okk (keysOf ss ds i zs)
  asc : Asc (keysOf ss ds i zs)
  u : 255 ≤ U
  um : U + 512 * (1 + tot (keysOf ss ds i zs)) ≤ 16777216
  il : i ≤ 1000000000
  bu : b ≤ U + 1
structure L2 (W1 wr : World) (x g p b U : Nat) (s1 : DA) (L : Keys) (j g' : Nat) (t : DA) : Prop where
  gg : g' = g ∨ W1.heap.size ≤ g'
  mem : Mem wr x g' t
  kp : Kp W1 wr (fun k => k = x ∨ k = g)
  ring : ∃ h l, Ring t h l
  bd : Bd t (U + 512 * (1 + lives L ((letters L).take j)))
  jn : Jn s1 p b (letters L) L j t
section
variable {W1 wr : World} {x g p b U i bb kb ko ib io cb bm n j g' : Nat} {s s1 t : DA} {ss : List ByteArray} {ds : List Int} {zs : List Nat} {D : DataW Unit}
theorem Cx.nd (C : Cx W1 x g p b U i bb kb ko ib io cb bm n s s1 ss ds zs D) : (letters (keysOf ss ds i zs)).Nodup := (asc_letters C.asc C.ok).imp (fun h => by omega)
theorem L2.par (C : Cx W1 x g p b U i bb kb ko ib io cb bm n s s1 ss ds zs D) (H : L2 W1 wr x g p b U s1 (keysOf ss ds i zs) j g' t) : t.par := jn_par H.jn (mk_par C.mkk C.pp C.par) (fun ch h => (C.mkk.mm ch h).1)
theorem L2.um (C : Cx W1 x g p b U i bb kb ko ib io cb bm n s s1 ss ds zs D) (j : Nat) : lives (keysOf ss ds i zs) ((letters (keysOf ss ds i zs)).take j) ≤ tot (keysOf ss ds i zs) :=
  Nat.le_trans (lives_mono _ _ _) (lives_le C.ok C.nd (fun c h => h))
/-- A child of its own is done. -/
theorem L2.child (C : Cx W1 x g p b U i bb kb ko ib io cb bm n s s1 ss ds zs D) (H : L2 W1 wr x g p b U s1 (keysOf ss ds i zs) j g' t) {c : Nat} (hc : c ≠ 0) (hj : (letters (keysOf ss ds i zs))[j]? = some (c : Int)) {e : Ending} {W3 : World}
    (E : AddE wr x g' (b + c) (U + 512 * (1 + lives (keysOf ss ds i zs) ((letters (keysOf ss ds i zs)).take j))) t (keysOf ss ds (i + 1) (below ss i zs (c : Int))) e W3) : e = .returned (.tuple #[]) ∧ ∃ g3 t3, L2 W1 W3 x g p b U s1 (keysOf ss ds i zs) (j + 1) g3 t3 := by
  obtain ⟨rfl, g3, t3, hg, hm, hk, hf, hgood, hpar, hring, hbd⟩ := E
  have hcz : (c : Int) ≠ 0 := by omega
  rw [← sub_below _ _ _ _ _ hcz] at hgood hbd
  have hjl := (List.getElem?_eq_some_iff.1 hj).1
  refine ⟨rfl, g3, t3, ?_, hm, kp_both H.kp H.gg hk, hring, ?_, ?_⟩
  · rcases hg with h | h
    · rw [h]; exact H.gg
    · exact Or.inr (Nat.le_trans H.kp.size h)
  · have e1 : (letters (keysOf ss ds i zs)).take (j + 1) = (letters (keysOf ss ds i zs)).take j ++ [(c : Int)] := by
      rw [List.take_add_one, hj]; rfl
    rw [e1, lives_snoc _ _ _ hcz]
    exact hbd.up (by omega)
  · exact H.jn.child C.mkk C.pp C.ok C.nd hj (by omega) (fun c h => (letters_bd C.ok c h).1) (by rw [Int.toNat_natCast]; exact hf) (by rw [Int.toNat_natCast]; exact hgood)
theorem first_zero {l : List Int} (h : l.Pairwise (· < ·)) (h0 : ∀ c ∈ l, 0 ≤ c) {j : Nat} (hj : l[j]? = some 0) : j = 0 := by
  obtain ⟨hl, e⟩ := List.getElem?_eq_some_iff.1 hj
  rcases Nat.eq_zero_or_pos j with h1 | h1
  · exact h1
  · have := List.pairwise_iff_getElem.1 h 0 j (by omega) hl h1
    have := h0 _ (List.getElem_mem (show 0 < l.length by omega))
    omega
theorem kp_set {W W1 : World} {x g g1 : Nat} (h : Kp W W1 (fun k => k = x ∨ k = g)) (hg : g1 = g ∨ W.heap.size ≤ g1) (o : Nat) (v : Value) : Kp W (W1.setCell ⟨g1, o, none⟩ v) (fun k => k = x ∨ k = g) := by
  rcases hg with e | e
  · exact h.setCell _ _ (Or.inr e)
  · exact h.setNew _ _ e
/-- The end of a key is done. -/
theorem L2.fin (C : Cx W1 x g p b U i bb kb ko ib io cb bm n s s1 ss ds zs D) (H : L2 W1 wr x g p b U s1 (keysOf ss ds i zs) 0 g' t) (hj : (letters (keysOf ss ds i zs))[0]? = some 0) {z : Nat} {zr : List Nat} (hz : zs = z :: zr) (hd : 0 ≤ ds.getD z 0 ∧ ds.getD z 0 ≤ 2147483647) :
    L2 W1 (wr.setCell ⟨g', b * 2, none⟩ (.int .i32 (-(ds.getD z 0)))) x g p b U s1 (keysOf ss ds i zs) 1 g' ⟨t.n, upd t.B b (-(ds.getD z 0)), t.C⟩ := by
  have hm := C.mkk.mm 0 (List.mem_of_getElem? hj)
  have hu : t.used b := by have := H.jn.up hm.1; simpa using this
  have hl : 0 < (letters (keysOf ss ds i zs)).length := letters_ne (keys_ne C.ne)
  refine ⟨H.gg, H.mem.putB b hu.2.1 _ (by omega) (by omega), kp_set H.kp H.gg _ _, ?_, ?_, ?_⟩
  · obtain ⟨h, l, r⟩ := H.ring
    exact ⟨h, l, ring_setB r _ hu.2.2⟩
  · have e1 : (letters (keysOf ss ds i zs)).take 1 = (letters (keysOf ss ds i zs)).take 0 ++ [0] := by rw [List.take_add_one, hj]; rfl
    rw [e1, lives_zero]
    exact ⟨H.bd.u, H.bd.n, H.bd.lo⟩
  · exact H.jn.fin C.mkk C.nd (fun c h => (letters_bd C.ok c h).1) hj (by subst hz; exact here_keys C.asc C.ok (List.mem_of_getElem? hj))
/-- All are done. -/
theorem L2.all (C : Cx W1 x g p b U i bb kb ko ib io cb bm n s s1 ss ds zs D) (H : L2 W1 wr x g p b U s1 (keysOf ss ds i zs) (letters (keysOf ss ds i zs)).length g' t) {W : World} (k : Kp W W1 (fun _ => False)) (hg : g < W.heap.size) : AddE W x g p U s (keysOf ss ds i zs) (.returned (.tuple #[])) wr := by
  have hv : ∀ k ∈ keysOf ss ds i zs, 0 ≤ k.2 := by
    intro k hk
    obtain ⟨z, hz, rfl⟩ := List.mem_map.1 hk
    have hzl := C.zb z hz
    show 0 ≤ ds.getD z 0
    rw [List.getD_eq_getElem?_getD, List.getElem?_eq_getElem (by have := C.src.len; omega)]
    exact (C.src.dsb _ (List.getElem_mem _)).1
  obtain ⟨hf, hgood⟩ := H.jn.all C.mkk C.pp C.bare (fun c h => (letters_bd C.ok c h).1) C.ok (keys_ne C.ne) (chs_letters _) hv
  refine ⟨rfl, g', t, ?_, H.mem, ?_, hf, hgood, H.par C, H.ring, H.bd.up (by have := L2.um C (letters (keysOf ss ds i zs)).length; omega)⟩
  · rcases H.gg with h | h
    · exact Or.inl h
    · exact Or.inr (Nat.le_trans k.size h)
  · exact (k.trans H.kp).mono (fun i _ h => h.elim False.elim id)
/-- The branches below a letter. -/
theorem child_of (C : Cx W1 x g p b U i bb kb ko ib io cb bm n s s1 ss ds zs D) (H : L2 W1 wr x g p b U s1 (keysOf ss ds i zs) j g' t) {c : Nat} (hc : c ≠ 0) (hc2 : c ≤ 255) (hm : (c : Int) ∈ letters (keysOf ss ds i zs)) {v : Value} {ys : List Int} (hat : D.atKey (.int .u8 (c : Int)) .nil = rowDatum .i64 v ys) (hoi : OI wr bm v ys)
    (hsh : ∀ No : Nat → Prop, wr.Shuns bm No → ∀ g, v.ownBlock = some g → ¬ No g) :
    ∃ b2 k2, v = .slice (some ⟨b2, 0, none⟩) (below ss i zs (c : Int)).length k2 ∧ BrC wr b2 (below ss i zs (c : Int)) ∧ b2 ≠ x ∧ b2 ≠ g' := by
  have e := grp_eq C.gdt (by omega) (by omega) hat hoi
  rw [grp_below _ _ _ _ (by omega)] at e
  subst e
  have hne := below_ne hm
  have hpos := List.length_pos_iff.2 hne
  have s0 : W1.Shuns bm (fun _ => False) := fun es clock _ x _ g _ h => h
  have s1 := s0.reno (No' := fun g => W1.heap.size ≤ g) C.og (fun g h => Or.inr h)
  have s2 : wr.Shuns bm (fun g => W1.heap.size ≤ g) := fun es clock hb => s1 es clock ((H.kp.old bm C.lt (by have := C.xb; omega)).symm.trans hb)
  have hno := hsh _ s2
  rcases hoi.1.2 with ⟨h1, h2⟩ | ⟨g2, cap, cur, h1, h2, h3, h4, h5, h6, h7⟩
  · simp at h2; exact absurd h2 hne
  · subst h1
    have hlt := hno g2 rfl
    refine ⟨g2, cap, by simp, ⟨(Array.getElem?_eq_some_iff.1 h3).1, fun q hq => ?_⟩, by have := C.xb; omega, ?_⟩
    · have := hoi.1.cells (g := g2) rfl q (.int .i64 ((below ss i zs (c : Int)).getD q 0 : Nat)) (by
        rw [List.map_map, List.getElem?_map, List.getElem?_eq_getElem hq, List.getD_eq_getElem?_getD, List.getElem?_eq_getElem hq]; rfl)
      rw [show (⟨g2, 0, none⟩ : Addr).add q = ⟨g2, q, none⟩ by unfold Addr.add; split <;> simp_all] at this
      exact this
    · rcases H.gg with h | h
      · have := C.xb; omega
      · omega
theorem none_of (C : Cx W1 x g p b U i bb kb ko ib io cb bm n s s1 ss ds zs D) {v : Value} {ys : List Int} (hat : D.atKey (.int .u8 0) .nil = rowDatum .i64 v ys) (hoi : OI wr bm v ys) : ∃ a k2, v = .slice a 0 k2 := by
  have e := grp_eq C.gdt (by omega) (by omega) hat hoi
  rw [grp_zero] at e
  subst e
  rcases hoi.1.2 with ⟨h1, h2⟩ | ⟨g2, cap, cur, h1, h2, h3, h4, h5, h6, h7⟩
  · exact ⟨_, _, h1⟩
  · exact ⟨_, _, h1⟩
/-- The call for a child may be made. -/
theorem child_pre (C : Cx W1 x g p b U i bb kb ko ib io cb bm n s s1 ss ds zs D) (H : L2 W1 wr x g p b U s1 (keysOf ss ds i zs) j g' t) {c : Nat} (hc : c ≠ 0) (hj : (letters (keysOf ss ds i zs))[j]? = some (c : Int)) {b2 : Nat} (hb : BrC wr b2 (below ss i zs (c : Int))) (h1 : b2 ≠ x) (h2 : b2 ≠ g') :
    Pre wr x g' (b + c) (U + 512 * (1 + lives (keysOf ss ds i zs) ((letters (keysOf ss ds i zs)).take j))) (i + 1) b2 kb ko ib io t ss ds (below ss i zs (c : Int)) := by
  have hcz : (c : Int) ≠ 0 := by omega
  have hmem := List.mem_of_getElem? hj
  have hm := C.mkk.mm _ hmem
  rw [Int.toNat_natCast] at hm
  have hu := H.jn.up hm.1
  have hbare := H.jn.td j (c : Int) (Nat.le_refl _) hj hcz
  rw [Int.toNat_natCast] at hbare
  have hsb := sub_below ss ds i zs (c : Int) hcz
  obtain ⟨a1, a2, a3, a4, a5, a6⟩ := C.ap
  have hl1 := L2.um C (j + 1)
  have e1 : (letters (keysOf ss ds i zs)).take (j + 1) = (letters (keysOf ss ds i zs)).take j ++ [(c : Int)] := by
    rw [List.take_add_one, hj]; rfl
  rw [e1, lives_snoc _ _ _ hcz, hsb] at hl1
  have hsrc := C.src.step H.kp (by rintro (h | h) <;> omega) (by rintro (h | h) <;> omega)
  have k1 := C.src.kl
  have k2 := C.src.il
  have hgg := H.gg
  have hil : i + 1 ≤ 1000000000 := by
    obtain ⟨k, hk, e⟩ := (chs_letters _ _).1 hmem
    obtain ⟨z, hz, rfl⟩ := List.mem_map.1 hk
    have hlt : i < (word ss z).length := by
      rcases Nat.lt_or_ge i (word ss z).length with h | h
      · exact h
      · rw [List.drop_eq_nil_of_le h] at e
        exact absurd e.symm hcz
    have hzl := C.zb z hz
    have := C.src.sz (ss.getD z ByteArray.empty) (by rw [List.getD_eq_getElem?_getD, List.getElem?_eq_getElem hzl]; exact List.getElem_mem hzl)
    unfold word at hlt
    rw [bs_len] at hlt
    omega
  refine ⟨H.mem, H.ring, H.bd, by have := C.u; omega, by have := C.um; omega, hbare, H.par C, Or.inr hu, hsrc, hb, below_ne hmem, fun z hz => C.zb z (List.mem_filter.1 hz).1, Nat.le_trans (List.length_filter_le _ _) C.zl, ?_, ?_, ⟨a1, by omega, a3, by omega, h1, h2⟩, hil⟩
  · rw [← hsb]; exact C.ok.sub _
  · rw [← hsb]; exact C.asc.sub _
end
end Go.Proofs.Ytaejkbjepbifcaa.Da
namespace Go.Proofs.Ytaejkbjepbifcaa.Da
open Go.RowKit Go.Maps Go.ChangeShapes Go.Proofs.YtaejkbjepbifcaaW.PrintWords
set_option linter.unusedVariables false
set_option linter.unusedSimpArgs false
noncomputable def apush : Code := pth [true, true, false, true, false, false, true, true, false, false, true, true, true, true, false] (Try.f41.body.getD .skip)
set_option maxHeartbeats 16000000 in
set_option maxRecDepth 100000 in
theorem add_push (W w : World) (bm n : Nat) (P : List (Int × Int)) (D : DataW Unit) (cv : Value) (l : List Int) (c : Nat) (hc : c ≤ 255) (hlen : l.length ≤ 1000000) {Q : Exit → Act → World → Prop} {v0 v1 v2 v3 v4 v5 v6 v7 v8 v9 v10 v11 v13 v14 v15 v16 v18 v19 v20 v21 v22 v23 v24 v25 v26 v27 v28 v29 v30 v31 v32 v33 v34 v35 v36 v37 v38 v39 v40 v41 v42 v43 v44 v45 v46 v47 v48 v49 v50 v51 v52 v53 v54 v55 v56 v57 v58 v59 v60 v61 v62 v63 v64 v65 v66 v67 v68 v69 v70 v71 v72 v73 v74 v75 v76 v77 v78 v79 v80 v81 v82 v83 v84 v85 v86 v87 v88 v89 v90 v91 v92 v93 v94 v95 v96 v97 v98 v99 v100 v101 v102 v103 v104 v105 v106 v107 v108 v109 v110 v111 v112 v113 v114 v115 v116 v117 v118 v119 v120 v121 v122 v123 v124 v125 v126 v127 v128 v129 v130 v131 v132 v133 v134 v135 : Value} (HL : Aside0 (L1 W w bm n P D cv l))
    (hN : Aside0 (∀ (n18 n42 n43 n44 n45 n46 n47 n48 n49 n50 n51 n52 n53 n54 n55 n56 n57 n58 n59 cv' : Value) (w' : World), Aside0 (L1 W w' bm n P D cv' (push l (c : Int))) → Q .normal ⟨#[v0, v1, v2, v3, v4, v5, v6, v7, v8, v9, v10, v11, cv', v13, v14, v15, v16, .int .u8 (c : Int), n18, v19, v20, v21, v22, v23, v24, v25, v26, v27, v28, v29, v30, v31, v32, v33, v34, v35, v36, v37, v38, v39, v40, v41, n42, n43, n44, n45, n46, n47, n48, n49, n50, n51, n52, n53, n54, n55, n56, n57, n58, n59, v60, v61, v62, v63, v64, v65, v66, v67, v68, v69, v70, v71, v72, v73, v74, v75, v76, v77, v78, v79, v80, v81, v82, v83, v84, v85, v86, v87, v88, v89, v90, v91, v92, v93, v94, v95, v96, v97, v98, v99, v100, v101, v102, v103, v104, v105, v106, v107, v108, v109, v110, v111, v112, v113, v114, v115, v116, v117, v118, v119, v120, v121, v122, v123, v124, v125, v126, v127, v128, v129, v130, v131, v132, v133, v134, v135], []⟩ w')) :
    Code.wp Try.prog apush Q ⟨#[v0, v1, v2, v3, v4, v5, v6, v7, v8, v9, v10, v11, cv, v13, v14, v15, v16, .int .u8 (c : Int), v18, v19, v20, v21, v22, v23, v24, v25, v26, v27, v28, v29, v30, v31, v32, v33, v34, v35, v36, v37, v38, v39, v40, v41, v42, v43, v44, v45, v46, v47, v48, v49, v50, v51, v52, v53, v54, v55, v56, v57, v58, v59, v60, v61, v62, v63, v64, v65, v66, v67, v68, v69, v70, v71, v72, v73, v74, v75, v76, v77, v78, v79, v80, v81, v82, v83, v84, v85, v86, v87, v88, v89, v90, v91, v92, v93, v94, v95, v96, v97, v98, v99, v100, v101, v102, v103, v104, v105, v106, v107, v108, v109, v110, v111, v112, v113, v114, v115, v116, v117, v118, v119, v120, v121, v122, v123, v124, v125, v126, v127, v128, v129, v130, v131, v132, v133, v134, v135], []⟩ w := by
  conv => arg 2; whnf
  conv => arg 4; zeta
  obtain ⟨i0, hi, hz0, hz1, hz2⟩ := info_parts info_u8
  rcases HL.out.ch.2 with ⟨rfl, hl0⟩ | ⟨g, cap, cur, rfl, h2, h3, h4, h5, h6, h7⟩
  · have HPU : Aside0 (l ++ [(c : Int)] = push l (c : Int)) := ⟨by rw [List.length_eq_zero_iff.1 hl0]; rfl⟩
    go_wp2_with (first | (at_builtin; refine wpList_append_own_at _ rfl _ _ 107 rfl (bm + 1) 5 i0 (.int .u8 0) 1 1 Try.underlying107 hi hz0 hz1 hz2 rfl (by decide) _ _ _ rfl (HL.out.alloc _).ch ⟨w.heap.size, 0, none⟩ 1 1 [.int .u8 (c : Int)] rfl rfl (cell_one_new _ _ _) (ints_oneCell .u8 [(c : Int)]) (by unfold maxLen; omega) (by omega) (by have := HL.out.lt; rw [Own.size_alloc]; omega) ?_; intro v' w1 hown' hgrow hnil hloc) | go_in)
    exact hN.out _ _ _ _ _ _ _ _ _ _ _ _ _ _ _ _ _ _ _ _ _ ⟨by
        have h0 := (HL.out.alloc (.cells #[.int .u8 (c : Int)] 5)).push hown' hgrow (hloc.imp id (fun h => ⟨_, h, Nat.le_refl _⟩))
        exact HPU.out ▸ h0⟩
  · by_cases hl0 : l.length = 0
    · have HPU : Aside0 (l ++ [(c : Int)] = push l (c : Int)) := ⟨by rw [List.length_eq_zero_iff.1 hl0]; rfl⟩
      clear h3 h6 h7
      go_wp2_with (first | (at_builtin; refine wpList_append_own_at _ rfl _ _ 107 rfl (bm + 1) 5 i0 (.int .u8 0) 1 1 Try.underlying107 hi hz0 hz1 hz2 rfl (by decide) _ _ _ rfl (HL.out.alloc _).ch ⟨w.heap.size, 0, none⟩ 1 1 [.int .u8 (c : Int)] rfl rfl (cell_one_new _ _ _) (ints_oneCell .u8 [(c : Int)]) (by unfold maxLen; omega) (by omega) (by have := HL.out.lt; rw [Own.size_alloc]; omega) ?_; intro v' w1 hown' hgrow hnil hloc) | go_in)
      exact hN.out _ _ _ _ _ _ _ _ _ _ _ _ _ _ _ _ _ _ _ _ _ ⟨by
              have h0 := (HL.out.alloc (.cells #[.int .u8 (c : Int)] 5)).push hown' hgrow (hloc.imp id (fun h => ⟨_, h, Nat.le_refl _⟩))
              exact HPU.out ▸ h0⟩
    · obtain ⟨d, hd⟩ : ∃ d, l.getD (l.length - 1) 0 = d := ⟨_, rfl⟩
      have HD : Aside0 (l.getLast? = some d) := ⟨by rw [List.getLast?_eq_getElem?, ← hd, List.getD_eq_getElem?_getD, List.getElem?_eq_getElem (by omega)]; rfl⟩
      have hcell : w.cell? ⟨g, l.length - 1, none⟩ = some (.int .u8 d) := by
        have e : cur[l.length - 1]? = some (.int .u8 d) := by
          rw [← Array.getElem?_toList, ← List.getElem?_take_of_lt (show l.length - 1 < l.length * 1 by omega), h7, List.getElem?_map, List.getElem?_eq_getElem (by omega), ← hd, List.getD_eq_getElem?_getD, List.getElem?_eq_getElem (by omega)]
          rfl
        unfold World.cell?; simp [h3, e]
      have hlz : ¬ (l.length : Int) = 0 := by omega
      have hlb : ((l.length : Int) == 0) = false := by rw [beq_eq_false_iff_ne]; exact hlz
      have hle : (l.length : Int) - 1 = ((l.length - 1 : Nat) : Int) := by omega
      have hlt : ((l.length - 1 : Nat) : Int) < (l.length : Int) := by omega
      clear hd h3 h6 h7
      by_cases hdc : d = (c : Int)
      · have hne : (d != (c : Int)) = false := by rw [hdc]; simp
        have HPU : Aside0 (l = push l (c : Int)) := ⟨by unfold push; rw [HD.out, if_pos (by rw [hdc])]⟩
        clear hdc
        go_wp2_with fail
        exact hN.out _ _ _ _ _ _ _ _ _ _ _ _ _ _ _ _ _ _ _ _ _ ⟨HPU.out ▸ HL.out⟩
      · have hne : (d != (c : Int)) = true := by rw [bne_iff_ne]; exact hdc
        have HPU : Aside0 (l ++ [(c : Int)] = push l (c : Int)) := ⟨by unfold push; rw [HD.out, if_neg (fun h => hdc (Option.some.inj h))]⟩
        clear hdc
        go_wp2_with (first | (at_builtin; refine wpList_append_own_at _ rfl _ _ 107 rfl (bm + 1) 5 i0 (.int .u8 0) 1 1 Try.underlying107 hi hz0 hz1 hz2 rfl (by decide) _ _ _ rfl (HL.out.alloc _).ch ⟨w.heap.size, 0, none⟩ 1 1 [.int .u8 (c : Int)] rfl rfl (cell_one_new _ _ _) (ints_oneCell .u8 [(c : Int)]) (by unfold maxLen; omega) (by omega) (by have := HL.out.lt; rw [Own.size_alloc]; omega) ?_; intro v' w1 hown' hgrow hnil hloc) | go_in)
        exact hN.out _ _ _ _ _ _ _ _ _ _ _ _ _ _ _ _ _ _ _ _ _ ⟨by
                have h0 := (HL.out.alloc (.cells #[.int .u8 (c : Int)] 5)).push hown' hgrow (hloc.imp id (fun h => ⟨_, h, Nat.le_refl _⟩))
                exact HPU.out ▸ h0⟩
theorem no_new {W w : World} {bm n : Nat} {P : List (Int × Int)} {D : DataW Unit} {cv v v' : Value} {l : List Int} (h : L1 W w bm n P D cv l) (hsh : ∀ No : Nat → Prop, w.Shuns bm No → ∀ g, v.ownBlock = some g → ¬ No g)
    (hl : v'.ownBlock = v.ownBlock ∨ ∃ g, v'.ownBlock = some g ∧ w.heap.size ≤ g) : ∀ g, v'.ownBlock = some g → ¬ (cv.ownBlock = some g) := by
  intro g hg e
  rcases hl with h1 | ⟨g2, h1, h2⟩
  · rw [h1] at hg; exact hsh _ h.sh g hg e
  · rw [h1] at hg; cases hg
    have := (h.ch.lt _ e).2
    omega
noncomputable def amapp : Code := pth [true, true, false, true, false, false, true, true, false, false, true, true, true, true, true] (Try.f41.body.getD .skip)
set_option maxHeartbeats 16000000 in
set_option maxRecDepth 100000 in
theorem add_map (W w : World) (bm n : Nat) (P : List (Int × Int)) (D : DataW Unit) (cv : Value) (l : List Int) (c : Nat) (z : Int) (hc : c ≤ 255) (hz1_ : 0 ≤ z) (hz2_ : z ≤ 2147483647) (hlen : n ≤ 100000000) {Q : Exit → Act → World → Prop} {v0 v1 v2 v3 v4 v5 v6 v7 v8 v9 v10 v11 v12 v14 v16 v18 v19 v20 v21 v22 v23 v24 v25 v26 v27 v28 v29 v30 v31 v32 v33 v34 v35 v36 v37 v38 v39 v40 v41 v42 v43 v44 v45 v46 v47 v48 v49 v50 v51 v52 v53 v54 v55 v56 v57 v58 v59 v60 v61 v62 v63 v64 v65 v66 v67 v68 v69 v70 v71 v72 v73 v74 v75 v76 v77 v78 v79 v80 v81 v82 v83 v84 v85 v86 v87 v88 v89 v90 v91 v92 v93 v94 v95 v96 v97 v98 v99 v100 v101 v102 v103 v104 v105 v106 v107 v108 v109 v110 v111 v112 v113 v114 v115 v116 v117 v118 v119 v120 v121 v122 v123 v124 v125 v126 v127 v128 v129 v130 v131 v132 v133 v134 v135 : Value} (HL : Aside0 (L1 W w bm n P D cv l))
    (hN : Aside0 (∀ (n60 n61 n62 n63 n64 n65 n66 n67 n68 n69 : Value) (D' : DataW Unit) (w' : World), Aside0 (L1 W w' bm (n + 1) (P ++ [((c : Int), z)]) D' cv l) → Q .normal ⟨#[v0, v1, v2, v3, v4, v5, v6, v7, v8, v9, v10, v11, v12, .map (some bm), v14, .int .i64 z, v16, .int .u8 (c : Int), v18, v19, v20, v21, v22, v23, v24, v25, v26, v27, v28, v29, v30, v31, v32, v33, v34, v35, v36, v37, v38, v39, v40, v41, v42, v43, v44, v45, v46, v47, v48, v49, v50, v51, v52, v53, v54, v55, v56, v57, v58, v59, n60, n61, n62, n63, n64, n65, n66, n67, n68, n69, v70, v71, v72, v73, v74, v75, v76, v77, v78, v79, v80, v81, v82, v83, v84, v85, v86, v87, v88, v89, v90, v91, v92, v93, v94, v95, v96, v97, v98, v99, v100, v101, v102, v103, v104, v105, v106, v107, v108, v109, v110, v111, v112, v113, v114, v115, v116, v117, v118, v119, v120, v121, v122, v123, v124, v125, v126, v127, v128, v129, v130, v131, v132, v133, v134, v135], []⟩ w')) :
    Code.wp Try.prog amapp Q ⟨#[v0, v1, v2, v3, v4, v5, v6, v7, v8, v9, v10, v11, v12, .map (some bm), v14, .int .i64 z, v16, .int .u8 (c : Int), v18, v19, v20, v21, v22, v23, v24, v25, v26, v27, v28, v29, v30, v31, v32, v33, v34, v35, v36, v37, v38, v39, v40, v41, v42, v43, v44, v45, v46, v47, v48, v49, v50, v51, v52, v53, v54, v55, v56, v57, v58, v59, v60, v61, v62, v63, v64, v65, v66, v67, v68, v69, v70, v71, v72, v73, v74, v75, v76, v77, v78, v79, v80, v81, v82, v83, v84, v85, v86, v87, v88, v89, v90, v91, v92, v93, v94, v95, v96, v97, v98, v99, v100, v101, v102, v103, v104, v105, v106, v107, v108, v109, v110, v111, v112, v113, v114, v115, v116, v117, v118, v119, v120, v121, v122, v123, v124, v125, v126, v127, v128, v129, v130, v131, v132, v133, v134, v135], []⟩ w := by
  conv => arg 2; whnf
  conv => arg 4; zeta
  obtain ⟨i0, hi, hz0, hz1, hz2⟩ := info_parts info_int
  by_cases hc0 : c = 0
  · subst hc0
    go_wp2_with fail
    exact hN.out _ _ _ _ _ _ _ _ _ _ _ _ ⟨HL.out.zero z⟩
  · have hcn : ((c : Int) != 0) = true := by rw [bne_iff_ne]; omega
    have hkey : keyOf Try.prog 5 (.int .u8 (c : Int)) = some (.int .u8 (c : Int)) := keyOf_int_mk Try.underlying5 (WalkArith.wf_u8 (by omega))
    have hwz : (Lit.int .i64 z).wf = true := WalkArith.wf_i64 (by omega)
    go_wp2_with (first
      | (at_lookup; refine wpList_lookup_groups_shuns _ rfl _ _ 108 rfl 5 23 3 .i64 key_u8 Try.underlying108 (zero_ints _) (bm + 1) bm n D rfl HL.out.og (by unfold maxLen; omega) _ _ rfl hkey ?_; intro v zs hat hoi hzl hback hsh)
      | (at_builtin; refine wpList_append_own_at _ rfl _ _ 23 rfl (bm + 1) 3 i0 (.int .i64 0) 1 8 Try.underlying23 hi hz0 hz1 hz2 rfl (by decide) _ _ _ rfl (hoi.1.alloc _) ⟨w.heap.size, 0, none⟩ 1 1 [.int .i64 z] rfl rfl (cell_one_new _ _ _) (ints_oneCell .i64 [z]) (by unfold maxLen; omega) (by omega) (by have := HL.out.lt; rw [Own.size_alloc]; omega) ?_; intro v' w1 hown' hgrow hnil hloc
         have hall := (World.grownBy_alloc w (.cells #[.int .i64 z] 3) v.ownBlock).trans hgrow
         have hoi' := hoi.appended hown' hwz
         have hloc' : v'.ownBlock = v.ownBlock ∨ ∃ g, v'.ownBlock = some g ∧ w.heap.size ≤ g := hloc.imp id (fun h => ⟨_, h, by rw [Own.size_alloc]; omega⟩)
         have hno := no_new HL.out hsh hloc')
      | (at_mapUpdate; refine wpList_mapUpdate_back_shuns _ rfl _ _ _ 108 rfl key_u8 Try.underlying108 hkey HL.out.og (by unfold maxLen; omega) hoi HL.out.sh hno hback rfl rfl rfl hall hoi' (by simp; omega) hloc' ?_; intro w6 hown6 hgrow6 hsh6)
      | go_in)
    exact hN.out _ _ _ _ _ _ _ _ _ _ _ _ ⟨HL.out.store hoi hsh hall hown6 (gd_put HL.out.gdt (by omega) (grp_eq HL.out.gdt (by omega) (by omega) hat hoi) hoi') hgrow6 hsh6⟩
noncomputable def around : Code := pth [true, true, false, true, false, false, true, true, false, false] (Try.f41.body.getD .skip)
set_option maxHeartbeats 16000000 in
set_option maxRecDepth 100000 in
theorem add_round (W w : World) (bm n : Nat) (P : List (Int × Int)) (D : DataW Unit) (cv : Value) (l : List Int) (i j id k kc kb ko N Nc bb : Nat) (t : ByteArray) (hlen : l.length ≤ 1000000) (hn : n ≤ 100000000) (hj : j < k) (hid : id < N) (hN0 : N ≤ 100000000) (hts : t.size ≤ 1000000000) (hi_ : i ≤ 1000000000) (hbb : w.cell? ⟨bb, j, none⟩ = some (.int .i64 (id : Int))) (hkb : w.cell? ⟨kb, ko + id, none⟩ = some (.string t)) {Q : Exit → Act → World → Prop} {v0 v1 v3 v5 v6 v7 v8 v9 v10 v11 v14 v15 v16 v17 v18 v19 v20 v21 v22 v24 v26 v27 v28 v29 v30 v31 v32 v33 v34 v35 v36 v37 v38 v39 v40 v41 v42 v43 v44 v45 v46 v47 v48 v49 v50 v51 v52 v53 v54 v55 v56 v57 v58 v59 v60 v61 v62 v63 v64 v65 v66 v67 v68 v69 v70 v71 v72 v73 v74 v75 v76 v77 v78 v79 v80 v81 v82 v83 v84 v85 v86 v87 v88 v89 v90 v91 v92 v93 v94 v95 v96 v97 v98 v99 v100 v101 v102 v103 v104 v105 v106 v107 v108 v109 v110 v111 v112 v113 v114 v115 v116 v117 v118 v119 v120 v121 v122 v123 v124 v125 v126 v127 v128 v129 v130 v131 v132 v133 v134 v135 : Value} (HL : Aside0 (L1 W w bm n P D cv l))
    (hN : Aside0 (∀ (n15 n16 n17 n18 n27 n28 n29 n30 n31 n32 n33 n34 n35 n36 n37 n38 n39 n40 n41 n42 n43 n44 n45 n46 n47 n48 n49 n50 n51 n52 n53 n54 n55 n56 n57 n58 n59 n60 n61 n62 n63 n64 n65 n66 n67 n68 n69 cv' : Value) (D' : DataW Unit) (w' : World), Aside0 (L1 W w' bm (n + 1) (P ++ [(head1 ((bs t).drop i), (id : Int))]) D' cv' (push l (head1 ((bs t).drop i)))) → Q .normal ⟨#[v0, v1, .int .i64 (i : Int), v3, .slice (some ⟨kb, ko, none⟩) N Nc, v5, v6, v7, v8, v9, v10, v11, cv', .map (some bm), v14, n15, n16, n17, n18, v19, v20, v21, v22, .slice (some ⟨bb, 0, none⟩) k kc, v24, .int .i64 (j : Int), v26, n27, n28, n29, n30, n31, n32, n33, n34, n35, n36, n37, n38, n39, n40, n41, n42, n43, n44, n45, n46, n47, n48, n49, n50, n51, n52, n53, n54, n55, n56, n57, n58, n59, n60, n61, n62, n63, n64, n65, n66, n67, n68, n69, v70, v71, v72, v73, v74, v75, v76, v77, v78, v79, v80, v81, v82, v83, v84, v85, v86, v87, v88, v89, v90, v91, v92, v93, v94, v95, v96, v97, v98, v99, v100, v101, v102, v103, v104, v105, v106, v107, v108, v109, v110, v111, v112, v113, v114, v115, v116, v117, v118, v119, v120, v121, v122, v123, v124, v125, v126, v127, v128, v129, v130, v131, v132, v133, v134, v135], []⟩ w')) :
    Code.wp Try.prog around Q ⟨#[v0, v1, .int .i64 (i : Int), v3, .slice (some ⟨kb, ko, none⟩) N Nc, v5, v6, v7, v8, v9, v10, v11, cv, .map (some bm), v14, v15, v16, v17, v18, v19, v20, v21, v22, .slice (some ⟨bb, 0, none⟩) k kc, v24, .int .i64 (j : Int), v26, v27, v28, v29, v30, v31, v32, v33, v34, v35, v36, v37, v38, v39, v40, v41, v42, v43, v44, v45, v46, v47, v48, v49, v50, v51, v52, v53, v54, v55, v56, v57, v58, v59, v60, v61, v62, v63, v64, v65, v66, v67, v68, v69, v70, v71, v72, v73, v74, v75, v76, v77, v78, v79, v80, v81, v82, v83, v84, v85, v86, v87, v88, v89, v90, v91, v92, v93, v94, v95, v96, v97, v98, v99, v100, v101, v102, v103, v104, v105, v106, v107, v108, v109, v110, v111, v112, v113, v114, v115, v116, v117, v118, v119, v120, v121, v122, v123, v124, v125, v126, v127, v128, v129, v130, v131, v132, v133, v134, v135], []⟩ w := by
  conv => arg 2; whnf
  conv => arg 4; zeta
  have hjz : (j : Int) < (k : Int) := by omega
  have hidz : (id : Int) < (N : Int) := by omega
  have hcv := Lib.run_convert_string_bytes (P := Try.prog) w 9 107 5 t Try.underlying9 Try.underlying107 Try.underlying5
  have H1 := Aside0.mk (HL.out.below (below_bytes w 5 t))
  have hcell := fun h => Lib.bytesWorld_cell w 5 t i h
  obtain ⟨w1, hw1⟩ : ∃ w1, w1 = Lib.bytesWorld w 5 t := ⟨_, rfl⟩
  obtain ⟨gc, hgc⟩ : ∃ gc, gc = grownCap w t.size 0 5 := ⟨_, rfl⟩
  obtain ⟨y, hy⟩ : ∃ y, w.heap.size = y := ⟨_, rfl⟩
  rw [← hw1, ← hgc, hy] at hcv
  rw [← hw1] at H1 hcell
  rw [hy] at hcell
  clear hw1 hgc hy
  clear HL
  by_cases hi : t.size ≤ i
  · have hiz : (i : Int) ≥ (t.size : Int) := by omega
    have HHD : Aside0 (((0 : Nat) : Int) = head1 ((bs t).drop i)) := ⟨(head_end t i hi).symm⟩
    clear hcell
    refine wp_seq_k fun K hK_ => ?_
    have hK := Aside0.mk hK_
    clear hK_
    go_wp2_with fail
    refine hK.out _ _ ?_
    clear hK K
    refine wp_seq_k fun K hK_ => ?_
    have hK := Aside0.mk hK_
    clear hK_
    go_wp2_with fail
    refine hK.out _ _ ?_
    clear hK K
    refine wp_seq_k fun K hK_ => ?_
    have hK := Aside0.mk hK_
    clear hK_
    go_wp2_with fail
    refine hK.out _ _ ?_
    clear hK K
    refine wp_seq_k fun K hK_ => ?_
    have hK := Aside0.mk hK_
    clear hK_
    go_wp2_with fail
    refine hK.out _ _ ?_
    clear hK K
    clear hcv hbb hkb
    refine wp_seq_k fun K hK_ => ?_
    have hK := Aside0.mk hK_
    clear hK_
    refine add_push W w1 bm n P D cv l 0 (by omega) hlen H1 ⟨?_⟩
    intro n18 n42 n43 n44 n45 n46 n47 n48 n49 n50 n51 n52 n53 n54 n55 n56 n57 n58 n59 cv' w2 H2
    refine hK.out _ _ ?_
    clear hK
    refine add_map W w2 bm n P D cv' _ 0 (id : Int) (by omega) (by omega) (by omega) hn H2 ⟨?_⟩
    intro m60 m61 m62 m63 m64 m65 m66 m67 m68 m69 D' w3 H3
    exact hN.out _ _ _ _ _ _ _ _ _ _ _ _ _ _ _ _ _ _ _ _ _ _ _ _ _ _ _ _ _ _ _ _ _ _ _ _ _ _ _ _ _ _ _ _ _ _ _ cv' D' w3 ⟨HHD.out ▸ H3.out⟩
  · have hiz : ¬ (i : Int) ≥ (t.size : Int) := by omega
    have hil : (i : Int) < (t.size : Int) := by omega
    have hcell := hcell (by omega)
    have HHD0 := head_at t i (by omega)
    have hcb : (t.data.toList.getD i 0).toNat < 256 := UInt8.toNat_lt _
    obtain ⟨c, hc⟩ : ∃ c : Nat, (t.data.toList.getD i 0).toNat = c := ⟨_, rfl⟩
    rw [hc] at hcell HHD0 hcb
    have HHD := Aside0.mk HHD0.symm
    clear hc HHD0
    refine wp_seq_k fun K hK_ => ?_
    have hK := Aside0.mk hK_
    clear hK_
    go_wp2_with fail
    refine hK.out _ _ ?_
    clear hK K
    refine wp_seq_k fun K hK_ => ?_
    have hK := Aside0.mk hK_
    clear hK_
    go_wp2_with fail
    refine hK.out _ _ ?_
    clear hK K
    refine wp_seq_k fun K hK_ => ?_
    have hK := Aside0.mk hK_
    clear hK_
    go_wp2_with fail
    refine hK.out _ _ ?_
    clear hK K
    refine wp_seq_k fun K hK_ => ?_
    have hK := Aside0.mk hK_
    clear hK_
    go_wp2_with fail
    refine hK.out _ _ ?_
    clear hK K
    clear hcv hbb hkb
    refine wp_seq_k fun K hK_ => ?_
    have hK := Aside0.mk hK_
    clear hK_
    refine add_push W w1 bm n P D cv l c (by omega) hlen H1 ⟨?_⟩
    intro n18 n42 n43 n44 n45 n46 n47 n48 n49 n50 n51 n52 n53 n54 n55 n56 n57 n58 n59 cv' w2 H2
    refine hK.out _ _ ?_
    clear hK
    refine add_map W w2 bm n P D cv' _ c (id : Int) (by omega) (by omega) (by omega) hn H2 ⟨?_⟩
    intro m60 m61 m62 m63 m64 m65 m66 m67 m68 m69 D' w3 H3
    exact hN.out _ _ _ _ _ _ _ _ _ _ _ _ _ _ _ _ _ _ _ _ _ _ _ _ _ _ _ _ _ _ _ _ _ _ _ _ _ _ _ _ _ _ _ _ _ _ _ cv' D' w3 ⟨HHD.out ▸ H3.out⟩

end Go.Proofs.Ytaejkbjepbifcaa.Da
namespace Go.Proofs.Ytaejkbjepbifcaa.Da
open Go.RowKit Go.Maps Go.ChangeShapes Go.Proofs.YtaejkbjepbifcaaW.PrintWords
set_option linter.unusedVariables false
set_option linter.unusedSimpArgs false
noncomputable def akid : Code := pth [true, true, true, true, true, false, false, true, true, false, false] (Try.f41.body.getD .skip)
theorem L2.drew {W1 wr : World} {x g p b U j g' : Nat} {s1 t : DA} {L : Keys} (h : L2 W1 wr x g p b U s1 L j g' t) : L2 W1 wr.drew x g p b U s1 L j g' t := ⟨h.gg, h.mem.drew, h.kp.drew, h.ring, h.bd, h.jn⟩
set_option maxHeartbeats 16000000 in
set_option maxRecDepth 100000 in
theorem add_kid (m : Nat) (HR : Aside0 (AddAt m)) (W1 wr : World) (x g p b U i bb kb ko ib io cb cc bm n kc Nc Dc j g' : Nat) (s s1 t : DA) (ss : List ByteArray) (ds : List Int) (zs : List Nat) (D : DataW Unit) (HT : Aside0 (tot (keysOf ss ds i zs) ≤ m)) (hjl : j < (letters (keysOf ss ds i zs)).length) (HC : Aside0 (Cx W1 x g p b U i bb kb ko ib io cb bm n s s1 ss ds zs D)) {Q : Exit → Act → World → Prop} {v6 v7 v8 v9 v10 v11 v12 v14 v15 v16 v17 v18 v19 v20 v21 v22 v23 v24 v25 v26 v27 v28 v29 v30 v31 v32 v33 v34 v35 v36 v37 v38 v39 v40 v41 v42 v43 v44 v45 v46 v47 v48 v49 v50 v51 v52 v53 v54 v55 v56 v57 v58 v59 v60 v61 v62 v63 v64 v65 v66 v67 v68 v69 v70 v71 v72 v73 v74 v76 v78 v79 v80 v81 v82 v83 v84 v85 v86 v87 v88 v89 v90 v91 v92 v93 v94 v95 v96 v97 v98 v99 v100 v101 v102 v103 v104 v105 v106 v107 v108 v109 v110 v111 v112 v113 v114 v115 v116 v117 v118 v119 v120 v121 v122 v123 v124 v125 v126 v127 v128 v129 v130 v131 v132 v133 v134 v135 : Value}
    (HS : Aside0 (L2 W1 wr x g p b U s1 (keysOf ss ds i zs) j g' t))
    (hN : Aside0 (∀ (n20 n21 n79 n80 n81 n82 n83 n84 n85 n86 n87 n88 n89 n90 n91 n92 n93 n94 n95 n96 n97 n98 n99 n100 n101 n102 n103 n104 n105 n106 n107 n108 n109 n110 n111 n112 n113 n114 n115 n116 n117 n118 n119 n120 n121 n122 n123 n124 n125 n126 n127 n128 n129 n130 n131 n132 n133 n134 : Value) (g3 : Nat) (t3 : DA) (W3 : World), Aside0 (L2 W1 W3 x g p b U s1 (keysOf ss ds i zs) (j + 1) g3 t3) → Q .normal ⟨#[.pointer (some ⟨x, 0, none⟩), .int .i64 (p : Int), .int .i64 (i : Int), .slice (some ⟨bb, 0, none⟩) zs.length kc, .slice (some ⟨kb, ko, none⟩) ss.length Nc, .slice (some ⟨ib, io, none⟩) ds.length Dc, v6, v7, v8, v9, v10, v11, v12, .map (some bm), v14, v15, v16, v17, v18, v19, n20, n21, v22, v23, v24, v25, v26, v27, v28, v29, v30, v31, v32, v33, v34, v35, v36, v37, v38, v39, v40, v41, v42, v43, v44, v45, v46, v47, v48, v49, v50, v51, v52, v53, v54, v55, v56, v57, v58, v59, v60, v61, v62, v63, v64, v65, v66, v67, v68, v69, v70, v71, v72, v73, v74, .slice (some ⟨cb, 0, none⟩) (letters (keysOf ss ds i zs)).length cc, v76, .int .i64 (j : Int), v78, n79, n80, n81, n82, n83, n84, n85, n86, n87, n88, n89, n90, n91, n92, n93, n94, n95, n96, n97, n98, n99, n100, n101, n102, n103, n104, n105, n106, n107, n108, n109, n110, n111, n112, n113, n114, n115, n116, n117, n118, n119, n120, n121, n122, n123, n124, n125, n126, n127, n128, n129, n130, n131, n132, n133, n134, v135], []⟩ W3)) :
    Code.wp Try.prog akid Q ⟨#[.pointer (some ⟨x, 0, none⟩), .int .i64 (p : Int), .int .i64 (i : Int), .slice (some ⟨bb, 0, none⟩) zs.length kc, .slice (some ⟨kb, ko, none⟩) ss.length Nc, .slice (some ⟨ib, io, none⟩) ds.length Dc, v6, v7, v8, v9, v10, v11, v12, .map (some bm), v14, v15, v16, v17, v18, v19, v20, v21, v22, v23, v24, v25, v26, v27, v28, v29, v30, v31, v32, v33, v34, v35, v36, v37, v38, v39, v40, v41, v42, v43, v44, v45, v46, v47, v48, v49, v50, v51, v52, v53, v54, v55, v56, v57, v58, v59, v60, v61, v62, v63, v64, v65, v66, v67, v68, v69, v70, v71, v72, v73, v74, .slice (some ⟨cb, 0, none⟩) (letters (keysOf ss ds i zs)).length cc, v76, .int .i64 (j : Int), v78, v79, v80, v81, v82, v83, v84, v85, v86, v87, v88, v89, v90, v91, v92, v93, v94, v95, v96, v97, v98, v99, v100, v101, v102, v103, v104, v105, v106, v107, v108, v109, v110, v111, v112, v113, v114, v115, v116, v117, v118, v119, v120, v121, v122, v123, v124, v125, v126, v127, v128, v129, v130, v131, v132, v133, v134, v135], []⟩ wr := by
  conv => arg 2; whnf
  conv => arg 4; zeta
  have C := HC.out
  have S := HS.out
  have hjz : (j : Int) < ((letters (keysOf ss ds i zs)).length : Int) := by omega
  have hkb : Row wr cb (letters (keysOf ss ds i zs)) := C.row.step (S.kp.old cb C.row.lt (by have := C.xb; omega))
  have rc := hkb.cell j hjl
  have hm : (letters (keysOf ss ds i zs)).getD j 0 ∈ letters (keysOf ss ds i zs) := by rw [List.getD_eq_getElem?_getD, List.getElem?_eq_getElem hjl]; exact List.getElem_mem hjl
  have hc1 := letters_bd C.ok _ hm
  have hj0 : (letters (keysOf ss ds i zs))[j]? = some ((letters (keysOf ss ds i zs)).getD j 0) := by rw [List.getD_eq_getElem?_getD, List.getElem?_eq_getElem hjl]; rfl
  obtain ⟨c, hc⟩ : ∃ c : Nat, (letters (keysOf ss ds i zs)).getD j 0 = (c : Int) := ⟨((letters (keysOf ss ds i zs)).getD j 0).toNat, by omega⟩
  rw [hc] at rc hm hc1 hj0
  have hmm := C.mkk.mm _ hm
  rw [Int.toNat_natCast] at hmm
  have hq := (S.jn.up hmm.1).2.1
  have bx := S.mem.box
  have hpn : p < t.n := by
    rcases C.pp with h | h
    · have := S.bd.lo; omega
    · exact (S.jn.up (C.mkk.up h)).2.1
  have hkid : ∀ ch ∈ letters (keysOf ss ds i zs), p ≠ b + ch.toNat := by
    intro ch hc e
    have hm := C.mkk.mm ch hc
    rcases C.pp with h | h
    · have := hm.1.1; omega
    · rw [e] at h; exact hm.2.2 h
  have hB : t.B p = (b : Int) := by
    rw [S.jn.bb p (by rcases C.pp with h | h; exact Or.inl h; exact Or.inr (C.mkk.up h)) hkid]
    exact C.mkk.bp
  have cp : wr.cell? ⟨g', p * 2, none⟩ = some (.int .i32 (b : Int)) := (S.mem.base p hpn).trans (congrArg (fun v => some (Value.int .i32 v)) hB)
  have hpz : (p : Int) < (t.n : Int) := by omega
  have hbu : b ≤ 16777216 := by have := C.bu; have := C.um; omega
  have big := S.mem.big
  have hn := C.nn
  have hilz : i ≤ 1000000000 := C.il
  have HOG : Aside0 (OG wr bm n D) := ⟨og_kp C.og S.kp C.xb.1 C.xb.2.1 C.lt⟩
  have hkey : keyOf Try.prog 5 (.int .u8 (c : Int)) = some (.int .u8 (c : Int)) := keyOf_int_mk Try.underlying5 (WalkArith.wf_u8 (by omega))
  have HJ0 := Aside0.mk hj0
  have HM := Aside0.mk hm
  by_cases hc0 : c = 0
  · subst hc0
    have hjj : j = 0 := first_zero (asc_letters C.asc C.ok) (fun c h => (letters_bd C.ok c h).1) hj0
    subst hjj
    obtain ⟨z, zr, hz⟩ : ∃ z zr, zs = z :: zr := by cases h : zs with
      | nil => exact absurd h C.ne
      | cons z zr => exact ⟨z, zr, rfl⟩
    have hzl : 0 < zs.length := List.length_pos_iff.2 C.ne
    have brs := (C.br.step S.kp (by have := C.ap; rintro (h | h) <;> omega)).2 0 hzl
    rw [show zs.getD 0 0 = z by rw [hz]; rfl] at brs
    have hzs : z < ss.length := C.zb z (by rw [hz]; exact List.mem_cons_self)
    have hzd : z < ds.length := by have := C.src.len; omega
    have idc := (C.src.step S.kp (by have := C.ap; rintro (h | h) <;> omega) (by have := C.ap; rintro (h | h) <;> omega)).idc z hzd
    have hdd : 0 ≤ ds.getD z 0 ∧ ds.getD z 0 ≤ 2147483647 := by
      rw [List.getD_eq_getElem?_getD, List.getElem?_eq_getElem hzd]; exact C.src.dsb _ (List.getElem_mem hzd)
    have HF := Aside0.mk (L2.fin C S.drew hj0 hz hdd)
    obtain ⟨d, hd⟩ : ∃ d, ds.getD z 0 = d := ⟨_, rfl⟩
    rw [hd] at idc hdd HF
    have HFR := Aside0.mk (S.mem.drew.froz (b * 2))
    have HTC := Aside0.mk (S.mem.drew.base b (by simpa using hq))
    have hzz : (z : Int) < (ds.length : Int) := by omega
    have hzl2 : (0 : Int) < (zs.length : Int) := by omega
    have hdl : ¬ (ds.length : Int) = 0 := by omega
    have hdlb : ((ds.length : Int) == 0) = false := by rw [beq_eq_false_iff_ne]; exact hdl
    have hqz : (b : Int) < (t.n : Int) := by omega
    clear C S hkb hc hm hc1 hj0 hmm hq hkid hB hz hd hjz hpn
    go_upto_region 24 with (first | (at_lookup; refine wpList_lookup_groups_shuns _ rfl _ _ 108 rfl 5 23 3 .i64 key_u8 Try.underlying108 (zero_ints _) (bm + 1) bm n D rfl HOG.out (by unfold maxLen; omega) _ _ rfl hkey ?_; intro v ys hat hoi hzl hback hsh; obtain ⟨a2, k2, hv⟩ := none_of HC.out hat hoi; clear hat hoi hzl hback hsh; subst hv) | go_in)
    clear HOG hkey rc hdl hdlb
    go_still_tail 14, (by kernel_rfl)
    change wpList _ _ _ _ _ wr.drew
    clear bx cp brs idc
    obtain ⟨D1, h_⟩ : ∃ w_, w_ = wr.drew := ⟨_, rfl⟩
    rw [← h_] at HF HFR HTC ⊢
    clear h_
    have tf := HFR.out
    have tc := HTC.out
    go_wp2_with fail
    exact hN.out _ _ _ _ _ _ _ _ _ _ _ _ _ _ _ _ _ _ _ _ _ _ _ _ _ _ _ _ _ _ _ _ _ _ _ _ _ _ _ _ _ _ _ _ _ _ _ _ _ _ _ _ _ _ _ _ _ _ _ _ _ HF
  · have hcn : ¬ ((below ss i zs (c : Int)).length : Int) = 0 := by have := List.length_pos_iff.2 (below_ne hm); omega
    have hcb : (((below ss i zs (c : Int)).length : Int) == 0) = false := by rw [beq_eq_false_iff_ne]; exact hcn
    have HTT : Aside0 (tot (keysOf ss ds (i + 1) (below ss i zs (c : Int))) < m) := ⟨Nat.lt_of_lt_of_le (tot_below (by omega) hm) HT.out⟩
    have hcl := (by omega : c ≤ 255)
    clear C S hkb hc hm hc1 hj0 hmm hq hkid hB hpn
    go_wp2_with (first | (at_lookup; refine wpList_lookup_groups_shuns _ rfl _ _ 108 rfl 5 23 3 .i64 key_u8 Try.underlying108 (zero_ints _) (bm + 1) bm n D rfl HOG.out (by unfold maxLen; omega) _ _ rfl hkey ?_; intro v ys hat hoi hzl hback hsh; obtain ⟨b2, k2, hv, hv2⟩ := child_of HC.out HS.out hc0 hcl HM.out hat hoi hsh; have HV := Aside0.mk hv2; clear hat hoi hzl hback hsh hv2; subst hv) | (go_at_call 41; refine (HR.out wr x g' (b + c) (U + 512 * (1 + lives (keysOf ss ds i zs) ((letters (keysOf ss ds i zs)).take j))) (i + 1) b2 kb ko ib io k2 Nc Dc t ss ds (below ss i zs (c : Int)) _ _ (by omega) (by omega) HTT.out (child_pre HC.out HS.out hc0 HJ0.out HV.out.1 HV.out.2.1 HV.out.2.2)).mono ?_; rintro e_ W3 hE; obtain ⟨rfl, g3, t3, hL3⟩ := HS.out.child HC.out hc0 HJ0.out hE; have HL3 := Aside0.mk hL3; clear hE hL3) | go_in)
    exact hN.out _ _ _ _ _ _ _ _ _ _ _ _ _ _ _ _ _ _ _ _ _ _ _ _ _ _ _ _ _ _ _ _ _ _ _ _ _ _ _ _ _ _ _ _ _ _ _ _ _ _ _ _ _ _ _ _ _ _ _ _ _ HL3

end Go.Proofs.Ytaejkbjepbifcaa.Da
namespace Go.Proofs.Ytaejkbjepbifcaa.Da
open Go.RowKit Go.Maps Go.ChangeShapes Go.Proofs.YtaejkbjepbifcaaW.PrintWords
set_option linter.unusedVariables false
set_option linter.unusedSimpArgs false
theorem letters_len (L : Keys) : (letters L).length ≤ L.length := by
  have key : ∀ (n : Nat) (L : Keys), L.length = n → (letters L).length ≤ n := by
    intro n
    induction n with
    | zero => intro L h; rw [List.length_eq_zero_iff.1 h]; simp [letters]
    | succ n ih =>
      intro L h
      obtain ⟨M, k, rfl⟩ : ∃ M k, L = M ++ [k] := ⟨L.dropLast, L.getLast (by intro e; rw [e] at h; simp at h), (List.dropLast_concat_getLast _).symm⟩
      have := ih M (by simpa using h)
      rw [letters_snoc]
      unfold push
      split
      · omega
      · simp; omega
  exact key _ L rfl
theorem take_more {zs : List Nat} {j : Nat} (h : j < zs.length) : zs.take (j + 1) = zs.take j ++ [zs.getD j 0] := by
  rw [List.take_succ_eq_append_getElem h, List.getD_eq_getElem?_getD, List.getElem?_eq_getElem h]; rfl
theorem prs_more (ss : List ByteArray) (i : Nat) {zs : List Nat} {j : Nat} (h : j < zs.length) : prs ss i (zs.take (j + 1)) = prs ss i (zs.take j) ++ [(hd ss i (zs.getD j 0), ((zs.getD j 0 : Nat) : Int))] := by
  rw [take_more h]; simp [prs]
theorem letters_more (ss : List ByteArray) (ds : List Int) (i : Nat) {zs : List Nat} {j : Nat} (h : j < zs.length) : letters (keysOf ss ds i (zs.take (j + 1))) = push (letters (keysOf ss ds i (zs.take j))) (hd ss i (zs.getD j 0)) := by
  rw [take_more h]
  unfold keysOf
  rw [List.map_append]
  exact letters_snoc _ _
noncomputable def aloop : Code := pth [true, true, false, true] (Try.f41.body.getD .skip)
set_option maxHeartbeats 16000000 in
set_option maxRecDepth 100000 in
theorem add_loop (W w : World) (i bm bb kb ko ib io kc Nc : Nat) (ss : List ByteArray) (ds : List Int) (zs : List Nat) (HSR : Aside0 (Src W kb ko ss ib io ds)) (HBR : Aside0 (BrC W bb zs)) (HZB : Aside0 (∀ z ∈ zs, z < ss.length)) (hzl : zs.length ≤ 1000000) (hi_ : i ≤ 1000000000) {Q : Exit → Act → World → Prop} {v0 v1 v3 v5 v6 v7 v8 v9 v10 v11 v14 v15 v16 v17 v18 v19 v20 v21 v22 v26 v27 v28 v29 v30 v31 v32 v33 v34 v35 v36 v37 v38 v39 v40 v41 v42 v43 v44 v45 v46 v47 v48 v49 v50 v51 v52 v53 v54 v55 v56 v57 v58 v59 v60 v61 v62 v63 v64 v65 v66 v67 v68 v69 v70 v71 v72 v73 v74 v75 v76 v77 v78 v79 v80 v81 v82 v83 v84 v85 v86 v87 v88 v89 v90 v91 v92 v93 v94 v95 v96 v97 v98 v99 v100 v101 v102 v103 v104 v105 v106 v107 v108 v109 v110 v111 v112 v113 v114 v115 v116 v117 v118 v119 v120 v121 v122 v123 v124 v125 v126 v127 v128 v129 v130 v131 v132 v133 v134 v135 : Value}
    (HL : Aside0 (L1 W w bm 0 [] (.map []) (.slice none 0 0) []))
    (hN : Aside0 (∀ (n15 n16 n17 n18 n25 n26 n27 n28 n29 n30 n31 n32 n33 n34 n35 n36 n37 n38 n39 n40 n41 n42 n43 n44 n45 n46 n47 n48 n49 n50 n51 n52 n53 n54 n55 n56 n57 n58 n59 n60 n61 n62 n63 n64 n65 n66 n67 n68 n69 n70 cv' : Value) (D' : DataW Unit) (w' : World), Aside0 (L1 W w' bm zs.length (prs ss i zs) D' cv' (letters (keysOf ss ds i zs))) → Q .normal ⟨#[v0, v1, .int .i64 (i : Int), v3, .slice (some ⟨kb, ko, none⟩) ss.length Nc, v5, v6, v7, v8, v9, v10, v11, cv', .map (some bm), v14, n15, n16, n17, n18, v19, v20, v21, v22, .slice (some ⟨bb, 0, none⟩) zs.length kc, .int .i64 (zs.length : Int), n25, n26, n27, n28, n29, n30, n31, n32, n33, n34, n35, n36, n37, n38, n39, n40, n41, n42, n43, n44, n45, n46, n47, n48, n49, n50, n51, n52, n53, n54, n55, n56, n57, n58, n59, n60, n61, n62, n63, n64, n65, n66, n67, n68, n69, n70, v71, v72, v73, v74, v75, v76, v77, v78, v79, v80, v81, v82, v83, v84, v85, v86, v87, v88, v89, v90, v91, v92, v93, v94, v95, v96, v97, v98, v99, v100, v101, v102, v103, v104, v105, v106, v107, v108, v109, v110, v111, v112, v113, v114, v115, v116, v117, v118, v119, v120, v121, v122, v123, v124, v125, v126, v127, v128, v129, v130, v131, v132, v133, v134, v135], []⟩ w')) :
    Code.wp Try.prog aloop Q ⟨#[v0, v1, .int .i64 (i : Int), v3, .slice (some ⟨kb, ko, none⟩) ss.length Nc, v5, v6, v7, v8, v9, v10, v11, .slice none 0 0, .map (some bm), v14, v15, v16, v17, v18, v19, v20, v21, v22, .slice (some ⟨bb, 0, none⟩) zs.length kc, .int .i64 (zs.length : Int), .int .i64 0, v26, v27, v28, v29, v30, v31, v32, v33, v34, v35, v36, v37, v38, v39, v40, v41, v42, v43, v44, v45, v46, v47, v48, v49, v50, v51, v52, v53, v54, v55, v56, v57, v58, v59, v60, v61, v62, v63, v64, v65, v66, v67, v68, v69, v70, v71, v72, v73, v74, v75, v76, v77, v78, v79, v80, v81, v82, v83, v84, v85, v86, v87, v88, v89, v90, v91, v92, v93, v94, v95, v96, v97, v98, v99, v100, v101, v102, v103, v104, v105, v106, v107, v108, v109, v110, v111, v112, v113, v114, v115, v116, v117, v118, v119, v120, v121, v122, v123, v124, v125, v126, v127, v128, v129, v130, v131, v132, v133, v134, v135], []⟩ w := by
  conv => arg 2; whnf
  conv => arg 4; zeta
  have hfew := HSR.out.few
  go_wp2_with fail
  go_loopg [12, 25] zs.length (fun kq y12 y25 w' => ∃ (j : Nat) (D' : DataW Unit), y25 = .int .i64 (j : Int) ∧ Aside0 (j + kq = zs.length) ∧ Aside0 (L1 W w' bm j (prs ss i (zs.take j)) D' y12 (letters (keysOf ss ds i (zs.take j)))))
  case atStart => exact ⟨0, .map [], rfl, ⟨by omega⟩, HL⟩
  case round =>
    clear HL
    obtain ⟨j, D', rfl, HJ, HL⟩ := hrel
    have hj := HJ.out
    by_cases hjl : j < zs.length
    · have hjz : (j : Int) < (zs.length : Int) := by omega
      go_upto_block 1 with fail
      refine wp_block ?_
      have hz : zs.getD j 0 ∈ zs := by rw [List.getD_eq_getElem?_getD, List.getElem?_eq_getElem hjl]; exact List.getElem_mem hjl
      have hzs := HZB.out _ hz
      have hsz := HSR.out.sz (ss.getD (zs.getD j 0) ByteArray.empty) (by rw [List.getD_eq_getElem?_getD (l := ss), List.getElem?_eq_getElem hzs]; exact List.getElem_mem hzs)
      refine add_round W wr bm j _ D' _ _ i j (zs.getD j 0) zs.length kc kb ko ss.length Nc bb (ss.getD (zs.getD j 0) ByteArray.empty) (Nat.le_trans (letters_len _) (by simp [keysOf]; omega)) (by omega) hjl hzs (by omega) hsz hi_ ((HBR.out.step HL.out.kp id).2 j hjl) ((HSR.out.step HL.out.kp id id).kw _ hzs) HL ⟨?_⟩
      intro n15 n16 n17 n18 n27 n28 n29 n30 n31 n32 n33 n34 n35 n36 n37 n38 n39 n40 n41 n42 n43 n44 n45 n46 n47 n48 n49 n50 n51 n52 n53 n54 n55 n56 n57 n58 n59 n60 n61 n62 n63 n64 n65 n66 n67 n68 n69 cv2 D2 w2 H2
      have H3 : Aside0 (L1 W w2 bm (j + 1) (prs ss i (zs.take (j + 1))) D2 cv2 (letters (keysOf ss ds i (zs.take (j + 1))))) := ⟨by rw [prs_more _ _ hjl, letters_more _ _ _ hjl]; exact H2.out⟩
      clear H2 HL hz hzs hsz
      cases gk with
      | zero => omega
      | succ kz =>
      go_wp2_with fail
      go_roundg kz
      case measure => omega
      case rel => exact ⟨j + 1, D2, congrArg (Value.int .i64) (by omega), ⟨by omega⟩, H3⟩
    · have hjz : ¬ (j : Int) < (zs.length : Int) := by omega
      obtain rfl : j = zs.length := by omega
      have H3 : Aside0 (L1 W wr bm zs.length (prs ss i zs) D' _ (letters (keysOf ss ds i zs))) := ⟨by have h := HL.out; rw [List.take_length] at h; exact h⟩
      go_wp2_with fail
      exact hN.out _ _ _ _ _ _ _ _ _ _ _ _ _ _ _ _ _ _ _ _ _ _ _ _ _ _ _ _ _ _ _ _ _ _ _ _ _ _ _ _ _ _ _ _ _ _ _ _ _ _ _ D' wr H3

theorem l1_start (W : World) : L1 W (W.alloc (.map #[] 0)) W.heap.size 0 [] (.map []) (.slice none 0 0) [] :=
  ⟨(Kp.self W _).alloc _, Nat.le_refl _, by rw [Own.size_alloc]; omega, World.ownsGroups_made _ _ _ _ _, ⟨isMap_empty, fun c _ _ => by simp [gd, grp, DataW.atKey]⟩, World.ownsRow_nil _ _ _ _, World.Shuns_made _ _⟩
set_option maxHeartbeats 16000000 in
set_option maxRecDepth 100000 in
theorem add_step (m : Nat) (hR : AddAt m) : AddAt (m + 1) := by
  intro W x g p U i bb kb ko ib io kc Nc Dc s ss ds zs pv iv hpv hiv hm hP
  subst hpv
  subst hiv
  have HR := Aside0.mk hR
  have HP := Aside0.mk hP
  have HT : Aside0 (tot (keysOf ss ds i zs) ≤ m) := ⟨by omega⟩
  have HL0 := Aside0.mk (l1_start W)
  have hmm := @run_makeMap Try.prog
  clear hR hP hm
  go_enter Try.func41, Try.ntmps41
  refine wp_seq_k fun K hK_ => ?_
  have hK := Aside0.mk hK_
  clear hK_
  go_wp2_with fail
  refine hK.out _ _ ?_
  clear hK K
  refine wp_seq_k fun K hK_ => ?_
  have hK := Aside0.mk hK_
  clear hK_
  go_wp2_with fail
  refine hK.out _ _ ?_
  clear hK K
  refine wp_seq_k fun K hK_ => ?_
  have hK := Aside0.mk hK_
  clear hK_
  refine wp_seq_k fun K2 hK2_ => ?_
  have hK2 := Aside0.mk hK2_
  clear hK2_
  go_wp2_with fail
  refine hK2.out _ _ ?_
  clear hK2 K2
  refine add_loop W _ i W.heap.size bb kb ko ib io kc Nc ss ds zs ⟨HP.out.src⟩ ⟨HP.out.br⟩ ⟨HP.out.zb⟩ HP.out.zl HP.out.il HL0 ⟨?_⟩
  intro n15 n16 n17 n18 n25 n26 n27 n28 n29 n30 n31 n32 n33 n34 n35 n36 n37 n38 n39 n40 n41 n42 n43 n44 n45 n46 n47 n48 n49 n50 n51 n52 n53 n54 n55 n56 n57 n58 n59 n60 n61 n62 n63 n64 n65 n66 n67 n68 n69 n70 cv1 D1 w1 H1
  refine hK.out _ _ ?_
  clear hK K
  have P := HP.out
  rcases H1.out.ch.2 with ⟨_, h0⟩ | ⟨cb, cc, cur, rfl, h2, h3, h4, h5, h6, h7⟩
  · exact absurd h0 (by have := letters_ne (keys_ne (ss := ss) (ds := ds) (i := i) P.ne); omega)
  have hrow : Row w1 cb (letters (keysOf ss ds i zs)) := ⟨cur, _, h3, fun j hj => by
    rw [← Array.getElem?_toList, ← List.getElem?_take_of_lt (show j < (letters (keysOf ss ds i zs)).length * 1 by omega), h7, List.getElem?_map, List.getElem?_eq_getElem hj, List.getD_eq_getElem?_getD, List.getElem?_eq_getElem hj]; rfl⟩
  obtain ⟨hh, ll, hr⟩ := P.ring
  have hxl := P.mem.xlt
  have hgl := P.mem.toArr.lt
  have HSK := Aside0.mk (seek_calls w1 x g p cb cc s hh ll U (letters (keysOf ss ds i zs)) (P.mem.far H1.out.kp id id) hr P.bd P.u (by have := P.um; omega) P.pp hrow (by omega) (by omega) (letters_ne (keys_ne P.ne)) (asc_len (asc_letters P.asc P.ok) (letters_bd P.ok)) (letters_bd P.ok) (asc_letters P.asc P.ok))
  have HROW := Aside0.mk hrow
  clear P h3 h6 h7 hrow hr
  refine wp_seq_k fun K hK_ => ?_
  have hK := Aside0.mk hK_
  clear hK_
  go_wp2_with (go_at_call 60; refine HSK.out.mono ?_; rintro e_ w2 ⟨rfl, hS⟩; have HSO := Aside0.mk hS; clear hS)
  refine hK.out _ _ ?_
  clear hK K
  have P := HP.out
  obtain ⟨g1, s1, b, hg, hmem, hkp, hmk, hring, hbd, hb⟩ := HSO.out
  have HC : Aside0 (Cx w1 x g p b U i bb kb ko ib io cb W.heap.size zs.length s s1 ss ds zs D1) := ⟨⟨hmk, P.bare, P.par, P.pp.imp (fun h => h.1) id, P.src.step H1.out.kp id id, P.br.step H1.out.kp id, HROW.out, H1.out.og, H1.out.gdt, H1.out.lt, by have := P.zl; omega, ⟨hxl, hgl, by omega⟩, P.ap, P.ne, P.zb, P.zl, P.ok, P.asc, P.u, P.um, P.il, hb⟩⟩
  have HS0 : Aside0 (L2 w1 w2 x g p b U s1 (keysOf ss ds i zs) 0 g1 s1) := ⟨⟨hg, hmem, hkp, hring, hbd.up (Nat.add_le_add_left (Nat.mul_le_mul_left 512 (Nat.le_add_right 1 _)) U), Jn.start hmk (P.pp.imp (fun h => h.1) id) P.par⟩⟩
  have HKP := Aside0.mk H1.out.kp
  have hl256 := asc_len (asc_letters P.asc P.ok) (letters_bd P.ok)
  clear P HSO hg hmem hkp hmk hring hbd HL0 H1 HSK
  go_wp2_with fail
  go_loopg [77] (letters (keysOf ss ds i zs)).length (fun kq y77 w' => ∃ (j g' : Nat) (t : DA), y77 = .int .i64 (j : Int) ∧ Aside0 (j + kq = (letters (keysOf ss ds i zs)).length) ∧ Aside0 (L2 w1 w' x g p b U s1 (keysOf ss ds i zs) j g' t))
  case atStart => exact ⟨0, g1, s1, rfl, ⟨by omega⟩, HS0⟩
  case round =>
    clear HS0
    obtain ⟨j, g', t, rfl, HJ, HS⟩ := hrel
    have hj := HJ.out
    by_cases hjl : j < (letters (keysOf ss ds i zs)).length
    · have hjz : (j : Int) < ((letters (keysOf ss ds i zs)).length : Int) := by omega
      go_upto_block 3 with fail
      refine wp_block ?_
      refine add_kid m HR w1 wr x g p b U i bb kb ko ib io cb cc W.heap.size zs.length kc Nc Dc j g' s s1 t ss ds zs D1 HT hjl HC HS ⟨?_⟩
      intro n20 n21 n79 n80 n81 n82 n83 n84 n85 n86 n87 n88 n89 n90 n91 n92 n93 n94 n95 n96 n97 n98 n99 n100 n101 n102 n103 n104 n105 n106 n107 n108 n109 n110 n111 n112 n113 n114 n115 n116 n117 n118 n119 n120 n121 n122 n123 n124 n125 n126 n127 n128 n129 n130 n131 n132 n133 n134 g3 t3 w3 H3
      clear HS
      cases gk with
      | zero => omega
      | succ kz =>
      go_wp2_with fail
      go_roundg kz
      case measure => omega
      case rel => exact ⟨j + 1, g3, t3, congrArg (Value.int .i64) (by omega), ⟨by omega⟩, H3⟩
    · have hjz : ¬ (j : Int) < ((letters (keysOf ss ds i zs)).length : Int) := by omega
      obtain rfl : j = (letters (keysOf ss ds i zs)).length := by omega
      have hfin := Aside0.mk (L2.all HC.out HS.out HKP.out hgl)
      go_wp2_with fail
      (try simp only [Exit.jump])
      go_end0
      exact hfin.out
theorem add_at (m : Nat) : AddAt m := by
  induction m with
  | zero => intro W x g p U i bb kb ko ib io kc Nc Dc s ss ds zs pv iv _ _ h; exact absurd h (Nat.not_lt_zero _)
  | succ m ih => exact add_step m ih

end Go.Proofs.Ytaejkbjepbifcaa.Da
namespace Go.Proofs.Ytaejkbjepbifcaa.Da
open Go.RowKit Go.Proofs.YtaejkbjepbifcaaW.PrintWords
set_option linter.unusedVariables false
set_option linter.unusedSimpArgs false
theorem fresh_box (W : World) (n : Nat) (hn : n ≤ 1073741824) : Mem ((W.alloc (.cells #[.slice (some ⟨W.heap.size + 1, 0, none⟩) n n] 62)).alloc (zeros n)) W.heap.size (W.heap.size + 1) ⟨n, fun _ => 0, fun _ => 0⟩ := by
  have e1 : (W.alloc (.cells #[.slice (some ⟨W.heap.size + 1, 0, none⟩) n n] 62)).heap.size = W.heap.size + 1 := Own.size_alloc _ _
  have a := arr_new (W.alloc (.cells #[.slice (some ⟨W.heap.size + 1, 0, none⟩) n n] 62)) n hn
  rw [e1] at a
  exact ⟨a, ((below_alloc (Below.refl _ _) _).block _ (by rw [e1]; omega)).trans (blk_new W _), by omega⟩
/-- Only the cells up to the last used one are left. -/
def Cut (W : World) (x g : Nat) (s : DA) (e : Ending) (w' : World) : Prop :=
  e = .returned (.tuple #[]) ∧ ∃ g' m, (g' = g ∨ W.heap.size ≤ g') ∧ 1 ≤ m ∧ m ≤ s.n ∧ (∀ j, m ≤ j → j < s.n → s.C j < 0) ∧ Mem w' x g' ⟨m, s.B, s.C⟩ ∧ Kp W w' (fun k => k = x)
set_option maxHeartbeats 8000000 in
set_option maxRecDepth 100000 in
theorem truncate_calls (W : World) (x g u : Nat) (s : DA) (m : Mem W x g s) (hu : s.used u) :
    Calls Try.prog 42 #[.pointer (some ⟨x, 0, none⟩)] W fun e w' => Cut W x g s e w' := by
  have M := Aside0.mk m
  have HU := Aside0.mk hu
  have bx := m.box
  have big := m.big
  have hun := hu.2.1
  clear m hu
  go_enter Try.func42, Try.ntmps42
  go_wp2_with fail
  go_loopg [2, 3] s.n (fun kq y2 y3 w' => ∃ i k : Nat, y2 = .int .i64 (k : Int) ∧ y3 = .int .i64 (i : Int) ∧ Aside0 (i + kq = s.n ∧ k + i = s.n) ∧ Aside0 (w' = W) ∧ Aside0 (∀ j, k ≤ j → j < s.n → s.C j < 0))
  case atStart => exact ⟨0, s.n, rfl, rfl, ⟨by omega⟩, ⟨rfl⟩, ⟨fun j h1 h2 => by omega⟩⟩
  case round =>
    obtain ⟨i, k, rfl, rfl, HI, hw, HF⟩ := hrel
    obtain rfl := hw.out
    clear hw
    obtain ⟨i1, i2⟩ := HI.out
    have hk : u < k := by
      rcases Nat.lt_or_ge u k with h | h
      · exact h
      · have := HF.out u h hun; have := HU.out.2.2; omega
    have hiz : (i : Int) < (s.n : Int) := by omega
    have hkz : (s.n : Int) - (i : Int) - 1 = ((k - 1 : Nat) : Int) := by omega
    have cz : wr.cell? ⟨g, (k - 1) * 2 + 1, none⟩ = _ := M.out.chk (k - 1) (by omega)
    obtain ⟨cv, hcv⟩ : ∃ cv, s.C (k - 1) = cv := ⟨_, rfl⟩
    rw [hcv] at cz
    have HCV := Aside0.mk hcv
    clear hcv
    have kb : ((k - 1 : Nat) : Int) < (s.n : Int) := by omega
    cases gk with
    | zero => omega
    | succ kz =>
    by_cases hc : cv < 0
    · go_wp2_with fail
      go_roundg kz
      case measure => omega
      case rel => exact ⟨i + 1, k - 1, congrArg (Value.int .i64) (by omega), congrArg (Value.int .i64) (by omega), ⟨by omega⟩, ⟨rfl⟩, ⟨fun j h1 h2 => by
        by_cases e : j = k - 1
        · rw [e, HCV.out]; exact hc
        · exact HF.out j (by omega) h2⟩⟩
    · by_cases hkn : k = s.n
      · have hkb : ((k : Int) == (s.n : Int)) = true := by rw [beq_iff_eq]; omega
        have HKN := Aside0.mk hkn
        clear hkn
        go_wp2_with fail
        exact bodyPost_ret (v := .tuple #[]) (by simp [results, Try.results42, go_sem]) rfl ⟨rfl, g, s.n, Or.inl rfl, by omega, Nat.le_refl _, fun j h1 h2 => by omega, M.out, Kp.self _ _⟩
      · have hkb : ((k : Int) == (s.n : Int)) = false := by rw [beq_eq_false_iff_ne]; omega
        have hmk : ∀ w : World, (Instr.makeSlice 62 (.int .i64 (k : Int)) (.int .i64 (k : Int))).run Try.prog w = .ok (.slice (some ⟨w.heap.size, 0, none⟩) k k) (w.alloc (zeros k)) := fun w => make_run w k (by omega)
        go_upto_region 9 with fail
        have M2_ := Aside0.mk (fresh_box wr k (by omega))
        have K_ : Aside0 (Kp wr ((wr.alloc (.cells #[.slice (some ⟨wr.heap.size + 1, 0, none⟩) k k] 62)).alloc (zeros k)) (fun _ => False)) := ⟨((Kp.self wr _).alloc _).alloc _⟩
        have M1_ := Aside0.mk (M.out.far K_.out id id)
        have hgl : g < wr.heap.size := M.out.toArr.lt
        have hxl : x < wr.heap.size := M.out.xlt
        obtain ⟨y, hy⟩ : ∃ y, wr.heap.size = y := ⟨_, rfl⟩
        rw [hy] at M2_ K_ M1_ hgl hxl ⊢
        have HY := Aside0.mk hy
        obtain ⟨W2, hW2⟩ : ∃ W2, W2 = (wr.alloc (.cells #[.slice (some ⟨y + 1, 0, none⟩) k k] 62)).alloc (zeros k) := ⟨_, rfl⟩
        rw [← hW2] at M2_ K_ M1_ ⊢
        clear hW2 bx hmk hkb hy cz
        have b1 := M1_.out.box
        have b2 := M2_.out.box
        obtain ⟨i0, hi0, _⟩ := Option.map_eq_some_iff.1 pair_info
        have hsl := cut_to (P := Try.prog) 62 100 .i64 Try.underlying62 hi0 (some ⟨g, 0, none⟩) s.n s.n (k : Int) (by omega) (by omega) (Nat.le_refl _)
        rw [Int.toNat_natCast] at hsl
        clear hi0
        go_still_tail 8, (by kernel_rfl)
        change wpList _ _ _ _ _ W2.drew
        clear b1 b2 hsl
        have K3 := Aside0.mk K_.out.drew
        have N1 := Aside0.mk M1_.out.drew
        have N2 := Aside0.mk M2_.out.drew
        obtain ⟨W3, hW3⟩ : ∃ W3, W3 = W2.drew := ⟨_, rfl⟩
        rw [← hW3] at K3 N1 N2 ⊢
        clear hW3 K_ M1_ M2_
        obtain ⟨row, hcp, ha⟩ := arr_copy W3 g (y + 1) k k k k s.n _ _ N1.out.toArr N2.out.toArr (by omega) (Nat.le_refl _) (Nat.min_self _)
        obtain ⟨W4, hW4⟩ : ∃ W4, W4 = W3.setRow (y + 1) row := ⟨_, rfl⟩
        rw [← hW4] at hcp ha
        have K4 : Aside0 (Kp wr W4 (fun _ => False)) := ⟨by rw [hW4]; exact K3.out.setRow _ _ (by have := HY.out; omega)⟩
        have P1 : Aside0 (Mem W4 x g s) := ⟨N1.out.step (by rw [hW4]; exact setRow_other _ _ _ _ (by omega)) (by rw [hW4]; exact setRow_other _ _ _ _ (by omega))⟩
        have P2 : Aside0 (Mem W4 y (y + 1) (s.over ⟨k, fun _ => 0, fun _ => 0⟩ k)) := ⟨ha, by rw [hW4, setRow_other _ _ _ _ (by omega)]; exact N2.out.bx, by omega⟩
        have hcp3 := hcp 3
        clear hW4 ha hcp K3 N1 N2
        have b1 := P1.out.box
        have b2 : W4.cell? ⟨y, 0, none⟩ = some (.slice (some ⟨y + 1, 0, none⟩) k k) := P2.out.box
        have f1 := P1.out.bfroz
        go_wp2_with fail
        go_end0
        refine ⟨rfl, y + 1, k, Or.inr (by have := HY.out; omega), by omega, by omega, HF.out, ?_, (K4.out.mono (T := fun k => k = x) (fun _ _ h => h.elim)).setCell ⟨x, 0, none⟩ _ (show x = x from rfl)⟩
        exact (P1.out.move P2.out.toArr (by omega)).ext rfl (fun j hj => by
          have hj' : j < k := hj
          show s.B j = (if j < k then s.B j else 0) ∧ s.C j = (if j < k then s.C j else 0)
          rw [if_pos hj', if_pos hj']; exact ⟨rfl, rfl⟩)
end Go.Proofs.Ytaejkbjepbifcaa.Da
namespace Go.Proofs.Ytaejkbjepbifcaa.Da
open Go.RowKit Go.Proofs.YtaejkbjepbifcaaW.PrintWords
set_option linter.unusedVariables false
set_option linter.unusedSimpArgs false
/-- An empty array has been made. -/
def Init (W : World) (x : Nat) (e : Ending) (w' : World) : Prop := e = .returned (.tuple #[]) ∧ ∃ g, W.heap.size ≤ g ∧ Mem w' x g (DA.init 51200) ∧ Kp W w' (fun k => k = x)
theorem boxed {W : World} {x : Nat} {v : Value} (h : W.heap[x]? = some (.cells #[v] 62 (0, 0))) (n : Nat) (hn : n ≤ 1073741824) :
    Mem ((W.setCell ⟨x, 0, none⟩ (.slice (some ⟨W.heap.size, 0, none⟩) n n)).alloc (zeros n)) x W.heap.size ⟨n, fun _ => 0, fun _ => 0⟩ ∧ Kp W ((W.setCell ⟨x, 0, none⟩ (.slice (some ⟨W.heap.size, 0, none⟩) n n)).alloc (zeros n)) (fun k => k = x) := by
  have hs : (W.setCell ⟨x, 0, none⟩ (.slice (some ⟨W.heap.size, 0, none⟩) n n)).heap.size = W.heap.size := size_setCell _ _ _
  have hx := (Array.getElem?_eq_some_iff.1 h).1
  have a := arr_new (W.setCell ⟨x, 0, none⟩ (.slice (some ⟨W.heap.size, 0, none⟩) n n)) n hn
  rw [hs] at a
  exact ⟨⟨a, ((below_alloc (Below.refl _ _) _).block x (by rw [hs]; exact hx)).trans (setCell_heap h), by omega⟩, (((Kp.self W (fun k => k = x)).setCell ⟨x, 0, none⟩ _ (show x = x from rfl)).alloc _)⟩
set_option maxHeartbeats 8000000 in
set_option maxRecDepth 100000 in
theorem init_calls (W : World) (x : Nat) (v : Value) (hx : W.heap[x]? = some (.cells #[v] 62 (0, 0))) :
    Calls Try.prog 37 #[.pointer (some ⟨x, 0, none⟩)] W fun e w' => Init W x e w' := by
  have bx : W.cell? ⟨x, 0, none⟩ = some v := by unfold World.cell?; simp [hx]
  have bf : W.frozen? ⟨x, 0, none⟩ = false := by unfold World.frozen?; simp [hx]
  have hxl : x < W.heap.size := (Array.getElem?_eq_some_iff.1 hx).1
  obtain ⟨Z, hZ⟩ : ∃ Z, Z = zeros 51200 := ⟨_, rfl⟩
  have hmk : ∀ w : World, (Instr.makeSlice 62 (.int .i64 51200) (.int .i64 51200)).run Try.prog w = .ok (.slice (some ⟨w.heap.size, 0, none⟩) 51200 51200) (w.alloc Z) := fun w => by
    rw [hZ]; exact make_run w 51200 (by omega)
  have HA := Aside0.mk (boxed hx 51200 (by omega))
  rw [← hZ] at HA
  have HX := Aside0.mk hx
  clear hx hZ
  go_enter Try.func37, Try.ntmps37
  go_upto_region 1 with fail
  obtain ⟨g, hg⟩ : ∃ g, W.heap.size = g := ⟨_, rfl⟩
  obtain ⟨W1, hW1⟩ : ∃ W1, W1 = (W.setCell ⟨x, 0, none⟩ (.slice (some ⟨g, 0, none⟩) 51200 51200)).alloc Z := ⟨_, rfl⟩
  have hmk2 := HA.out
  rw [hg, ← hW1] at hmk2
  rw [hg, ← hW1]
  have HG := Aside0.mk hg
  have M := Aside0.mk hmk2.1
  have K := Aside0.mk hmk2.2
  clear HA hW1 hmk2 bx bf hmk HX hxl hg
  have hxg : x ≠ g := M.out.ne
  have hgx := hxg.symm
  have bx := M.out.box
  have t0 := M.out.base 0 (show 0 < 51200 by omega)
  have t1 := M.out.chk 0 (show 0 < 51200 by omega)
  rw [Nat.zero_mul] at t0
  rw [Nat.zero_mul, Nat.zero_add] at t1
  have f0 := M.out.froz 0
  have f1 := M.out.froz 1
  go_wp2_with fail
  have m1 := (M.out.putB 0 (show 0 < 51200 by omega) 1 (by omega) (by omega)).putC 0 (show 0 < 51200 by omega) (-1) (by omega) (by omega)
  have k1 := (K.out.setNew ⟨g, 0 * 2, none⟩ (.int .i32 1) (show W.heap.size ≤ g by have := HG.out; omega)).setNew ⟨g, 0 * 2 + 1, none⟩ (.int .i32 (-1)) (show W.heap.size ≤ g by have := HG.out; omega)
  rw [Nat.zero_mul, Nat.zero_add] at m1 k1
  obtain ⟨W2, hW2⟩ : ∃ W2, W2 = (W1.setCell ⟨g, 0, none⟩ (.int .i32 1)).setCell ⟨g, 1, none⟩ (.int .i32 (-1)) := ⟨_, rfl⟩
  rw [← hW2] at m1 k1 ⊢
  have M2 := Aside0.mk m1
  have K2 := Aside0.mk k1
  clear m1 k1 hW2 M K bx t0 t1 f0 f1
  go_loopg [3] 51199 (fun kq y3 w' => ∃ i : Nat, y3 = .int .i64 (i : Int) ∧ Aside0 (1 ≤ i ∧ i + kq = 51200) ∧ Aside0 (Mem w' x g ⟨51200, fun j => if j = 0 then 1 else if j < i then -((j : Int) - 1) else 0, fun j => if j = 0 then -1 else if j < i then -((j : Int) + 1) else 0⟩) ∧ Aside0 (Kp W w' (fun k => k = x)))
  case atStart => exact ⟨1, rfl, ⟨by omega⟩, ⟨M2.out.ext rfl (fun i hi => by
    show (if i = 0 then 1 else if i < 1 then -((i : Int) - 1) else 0) = upd (fun _ => 0) 0 1 i ∧ (if i = 0 then -1 else if i < 1 then -((i : Int) + 1) else 0) = upd (fun _ => 0) 0 (-1) i
    unfold upd
    by_cases h : i = 0
    · simp [h]
    · have : ¬ i < 1 := by omega
      simp [h, this])⟩, K2⟩
  case round =>
    clear M2 K2
    obtain ⟨i, rfl, HI, M, K⟩ := hrel
    obtain ⟨i1, i2⟩ := HI.out
    by_cases hi : i < 51200
    · have hiz : (i : Int) < 51200 := by omega
      have bx := M.out.box
      have c1 := M.out.base i hi
      have c2 := M.out.chk i hi
      have f1 := M.out.froz (i * 2)
      have f2 := M.out.froz (i * 2 + 1)
      cases gk with
      | zero => omega
      | succ kz =>
      go_wp2_with fail
      go_roundg kz
      case measure => omega
      case rel => exact ⟨i + 1, congrArg (Value.int .i64) (by omega), ⟨by omega⟩, ⟨((M.out.putB i hi (-((i : Int) - 1)) (by omega) (by omega)).putC i hi (-((i : Int) + 1)) (by omega) (by omega)).ext rfl (fun j hj => by
        show (if j = 0 then 1 else if j < i + 1 then -((j : Int) - 1) else 0) = upd (fun j => if j = 0 then 1 else if j < i then -((j : Int) - 1) else 0) i (-((i : Int) - 1)) j ∧ (if j = 0 then -1 else if j < i + 1 then -((j : Int) + 1) else 0) = upd (fun j => if j = 0 then -1 else if j < i then -((j : Int) + 1) else 0) i (-((i : Int) + 1)) j
        simp only [upd]
        by_cases e : j = i
        · subst e; rw [if_neg (by omega), if_pos (by omega), if_pos rfl, if_neg (by omega), if_pos (by omega), if_pos rfl]; exact ⟨rfl, rfl⟩
        · rw [if_neg e, if_neg e]
          by_cases h1 : j = 0
          · simp [h1]
          · by_cases h2 : j < i
            · rw [if_neg h1, if_neg h1, if_neg h1, if_neg h1, if_pos h2, if_pos h2, if_pos (by omega), if_pos (by omega)]; exact ⟨rfl, rfl⟩
            · rw [if_neg h1, if_neg h1, if_neg h1, if_neg h1, if_neg h2, if_neg h2, if_neg (by omega), if_neg (by omega)]; exact ⟨rfl, rfl⟩)⟩, ⟨(K.out.setNew _ _ (by have := HG.out; show W.heap.size ≤ g; omega)).setNew _ _ (by have := HG.out; show W.heap.size ≤ g; omega)⟩⟩
    · have hiz : ¬ (i : Int) < 51200 := by omega
      obtain rfl : i = 51200 := by omega
      have bx := M.out.box
      have c1 : wr.cell? ⟨g, 2, none⟩ = _ := M.out.base 1 (show 1 < 51200 by omega)
      have c2 : wr.cell? ⟨g, 102399, none⟩ = _ := M.out.chk 51199 (show 51199 < 51200 by omega)
      have f1 := M.out.froz 2
      have f2 := M.out.froz 102399
      go_wp2_with fail
      go_end0
      have a := (M.out.putB 1 (show 1 < 51200 by omega) (-51199) (by omega) (by omega)).putC 51199 (show 51199 < 51200 by omega) (-1) (by omega) (by omega)
      refine ⟨rfl, g, by have := HG.out; omega, a.ext rfl (fun j hj => ?_), (K.out.setNew _ _ (by have := HG.out; show W.heap.size ≤ g; omega)).setNew _ _ (by have := HG.out; show W.heap.size ≤ g; omega)⟩
      have hj' : j < 51200 := hj
      show (if j = 0 then 1 else if j = 1 then -(((51200 : Nat) : Int) - 1) else -((j : Int) - 1)) = upd (fun j => if j = 0 then 1 else if j < 51200 then -((j : Int) - 1) else 0) 1 (-51199) j ∧ (if j = 0 then -1 else if j = 51200 - 1 then -1 else -((j : Int) + 1)) = upd (fun j => if j = 0 then -1 else if j < 51200 then -((j : Int) + 1) else 0) 51199 (-1) j
      simp only [upd]
      constructor
      · by_cases h0 : j = 0
        · simp [h0]
        · by_cases h1 : j = 1
          · subst h1; rfl
          · rw [if_neg h0, if_neg h1, if_neg h1, if_neg h0, if_pos hj']
      · by_cases h0 : j = 0
        · simp [h0]
        · by_cases h1 : j = 51199
          · subst h1; rfl
          · rw [if_neg h0, if_neg (by omega), if_neg h1, if_neg h0, if_pos hj']
end Go.Proofs.Ytaejkbjepbifcaa.Da
namespace Go.Proofs.Ytaejkbjepbifcaa.Da
set_option linter.unusedVariables false
set_option linter.unusedSimpArgs false
theorem run_snoc (s : DA) (p : Nat) (w : List Int) (c : Int) : s.run p (w ++ [c]) = (s.run p w).bind (fun q => s.step q c) := by
  induction w generalizing p with
  | nil =>
    show (match s.step p c with | none => none | some q => s.run q []) = _
    cases h : s.step p c <;> simp [DA.run, h]
  | cons d w ih =>
    show (match s.step p d with | none => none | some q => s.run q (w ++ [c])) = (match s.step p d with | none => none | some q => s.run q w).bind _
    cases s.step p d with
    | none => rfl
    | some q => exact ih q
theorem subw_append (L : Keys) (a b : List Int) : subw L (a ++ b) = subw (subw L a) b := by
  induction a generalizing L with
  | nil => rfl
  | cons c a ih => exact ih (sub L c)
theorem subw_nil (w : List Int) : subw [] w = [] := by
  induction w with
  | nil => rfl
  | cons c w ih => exact ih
/-- The key that is a text's first bytes. -/
def hitAt (L : Keys) (w : List Int) (i : Nat) : Option Int := here (subw L (w.take (i + 1)))
def hitsTo (L : Keys) (w : List Int) : Nat → List (Int × Int)
  | 0 => []
  | k + 1 => hitsTo L w k ++ (match hitAt L w k with | none => [] | some v => [(v, (k : Int) + 1)])
/-- The state of a search: the first i bytes have been followed to cell q. -/
structure Sk (s : DA) (L : Keys) (w : List Int) (i q : Nat) : Prop where
  run : s.run 0 (w.take i) = some q
  le : i ≤ w.length
theorem take_ok {w : List Int} (hw : Okw w) (i : Nat) : Okw (w.take i) := fun c h => hw c (List.mem_of_mem_take h)
theorem Sk.told {s : DA} {L : Keys} {w : List Int} {i q : Nat} (k : Sk s L w i q) (g : Good s 0 L) (hw : Okw w) : subw L (w.take i) ≠ [] ∧ s.term q = here (subw L (w.take i)) ∧ 1 ≤ s.B q := by
  have h := g (w.take i) (take_ok hw i)
  unfold Told at h
  rw [k.run] at h
  exact h
theorem take_succ {w : List Int} {i : Nat} (h : i < w.length) : w.take (i + 1) = w.take i ++ [w.getD i 0] := by
  rw [List.take_succ_eq_append_getElem h, List.getD_eq_getElem?_getD, List.getElem?_eq_getElem h]; rfl
theorem Sk.start (s : DA) (L : Keys) (w : List Int) : Sk s L w 0 0 := ⟨by simp [DA.run], Nat.zero_le _⟩
theorem Sk.go {s : DA} {L : Keys} {w : List Int} {i q r : Nat} (k : Sk s L w i q) (h : i < w.length) (hs : s.step q (w.getD i 0) = some r) : Sk s L w (i + 1) r :=
  ⟨by rw [take_succ h, run_snoc, k.run]; exact hs, h⟩
theorem Sk.hit {s : DA} {L : Keys} {w : List Int} {i r : Nat} (k : Sk s L w (i + 1) r) (g : Good s 0 L) (hw : Okw w) : hitAt L w i = s.term r := (k.told g hw).2.1.symm
theorem Sk.stop {s : DA} {L : Keys} {w : List Int} {i q : Nat} (k : Sk s L w i q) (g : Good s 0 L) (hw : Okw w) (h : i < w.length) (hs : s.step q (w.getD i 0) = none) : subw L (w.take (i + 1)) = [] := by
  have h2 := g (w.take (i + 1)) (take_ok hw _)
  unfold Told at h2
  rw [take_succ h, run_snoc, k.run] at h2
  simp only [Option.bind_some, hs] at h2
  rw [take_succ h]
  exact h2
theorem none_on {L : Keys} {w : List Int} {i : Nat} (h : subw L (w.take i) = []) {j : Nat} (hj : i ≤ j) : subw L (w.take j) = [] := by
  have e : w.take j = w.take i ++ (w.drop i).take (j - i) := by
    rw [← List.take_add]; congr 1; omega
  rw [e, subw_append, h, subw_nil]
theorem hits_stop {L : Keys} {w : List Int} {i : Nat} (h : subw L (w.take (i + 1)) = []) {j : Nat} (hj : i ≤ j) : hitsTo L w j = hitsTo L w i := by
  induction j with
  | zero => rw [show i = 0 by omega]
  | succ j ih =>
    by_cases e : i = j + 1
    · rw [e]
    · have := ih (by omega)
      have h0 : hitAt L w j = none := by
        unfold hitAt
        rw [none_on h (by omega)]; rfl
      simp only [hitsTo, h0, List.append_nil]
      exact this
theorem hits_none {L : Keys} {w : List Int} {i : Nat} (h : hitAt L w i = none) : hitsTo L w (i + 1) = hitsTo L w i := by
  simp only [hitsTo, h, List.append_nil]
theorem hits_some {L : Keys} {w : List Int} {i : Nat} {v : Int} (h : hitAt L w i = some v) : hitsTo L w (i + 1) = hitsTo L w i ++ [(v, (i : Int) + 1)] := by
  simp only [hitsTo, h]
theorem hits_len (L : Keys) (w : List Int) (k : Nat) : (hitsTo L w k).length ≤ k := by
  induction k with
  | zero => exact Nat.le_refl _
  | succ k ih =>
    simp only [hitsTo]
    cases hitAt L w k <;> simp <;> omega
/-- What the search of a whole text finds. -/
def found (L : Keys) (w : List Int) : Option Int := if w = [] then none else here (subw L w)
/-- A step in the array's own numbers. -/
theorem step_far {s : DA} {q : Nat} {c : Int} (h : (s.n : Int) ≤ s.B q + c) : s.step q c = none := by
  unfold DA.step
  rw [if_neg (fun e => by have := e.1; omega)]
theorem step_off {s : DA} {q : Nat} {c : Int} (h : s.C (s.B q + c).toNat ≠ (q : Int)) : s.step q c = none := by
  unfold DA.step
  rw [if_neg (fun e => h e.2)]
theorem step_on {s : DA} {q : Nat} {c : Int} (h1 : s.B q + c < (s.n : Int)) (h2 : s.C (s.B q + c).toNat = (q : Int)) : s.step q c = some (s.B q + c).toNat := by
  unfold DA.step
  rw [if_pos ⟨h1, h2⟩]
theorem term_far {s : DA} {q : Nat} (h : (s.n : Int) ≤ s.B q) : s.term q = none := by
  unfold DA.term
  rw [if_neg (fun e => by have := e.1.1; omega)]
theorem term_off {s : DA} {q : Nat} (h : s.C (s.B q).toNat ≠ (q : Int)) : s.term q = none := by
  unfold DA.term
  rw [if_neg (fun e => h e.1.2)]
theorem term_no {s : DA} {q : Nat} (h : 0 < s.B (s.B q).toNat) : s.term q = none := by
  unfold DA.term
  rw [if_neg (fun e => by have := e.2; omega)]
theorem term_on {s : DA} {q : Nat} (h1 : s.B q < (s.n : Int)) (h2 : s.C (s.B q).toNat = (q : Int)) (h3 : s.B (s.B q).toNat ≤ 0) : s.term q = some (-(s.B (s.B q).toNat)) := by
  unfold DA.term
  rw [if_pos ⟨⟨h1, h2⟩, h3⟩]
/-- The cells behind the last used one do not matter. -/
theorem cut_at {s : DA} {m : Nat} (hm : m ≤ s.n) (h : ∀ j, m ≤ j → j < s.n → s.C j < 0) (q : Int) (p : Nat) : DA.at_ ⟨m, s.B, s.C⟩ q p ↔ s.at_ q p := by
  constructor
  · rintro ⟨h1, h2⟩
    exact ⟨by have h1 : q < (m : Int) := h1; omega, h2⟩
  · rintro ⟨h1, h2⟩
    refine ⟨?_, h2⟩
    show q < (m : Int)
    rcases Int.lt_or_le q m with e | e
    · exact e
    · have := h q.toNat (by omega) (by omega)
      omega
theorem cut_step {s : DA} {m : Nat} (hm : m ≤ s.n) (h : ∀ j, m ≤ j → j < s.n → s.C j < 0) (p : Nat) (c : Int) : DA.step ⟨m, s.B, s.C⟩ p c = s.step p c := by
  unfold DA.step
  have := cut_at hm h (s.B p + c) p
  by_cases e : s.at_ (s.B p + c) p
  · rw [if_pos e, if_pos (this.2 e)]
  · rw [if_neg e, if_neg (fun k => e (this.1 k))]
theorem cut_run {s : DA} {m : Nat} (hm : m ≤ s.n) (h : ∀ j, m ≤ j → j < s.n → s.C j < 0) (w : List Int) : ∀ p, DA.run ⟨m, s.B, s.C⟩ p w = s.run p w := by
  induction w with
  | nil => intro p; rfl
  | cons c w ih =>
    intro p
    simp only [DA.run]
    rw [cut_step hm h]
    cases s.step p c with
    | none => rfl
    | some q => exact ih q
theorem cut_term {s : DA} {m : Nat} (hm : m ≤ s.n) (h : ∀ j, m ≤ j → j < s.n → s.C j < 0) (q : Nat) : DA.term ⟨m, s.B, s.C⟩ q = s.term q := by
  unfold DA.term
  have := cut_at hm h (s.B q) q
  by_cases e : s.at_ (s.B q) q
  · have e2 := this.2 e
    simp only [e, e2, true_and]
  · have e2 : ¬ DA.at_ ⟨m, s.B, s.C⟩ (s.B q) q := fun k => e (this.1 k)
    simp only [e, e2, false_and, if_false]
theorem cut_good {s : DA} {m p : Nat} {L : Keys} (hm : m ≤ s.n) (h : ∀ j, m ≤ j → j < s.n → s.C j < 0) (g : Good s p L) : Good ⟨m, s.B, s.C⟩ p L := by
  intro w hw
  have := g w hw
  unfold Told at this ⊢
  rw [cut_run hm h]
  cases e : s.run p w with
  | none => rw [e] at this; exact this
  | some q =>
    rw [e] at this
    simp only at this ⊢
    rw [cut_term hm h]
    exact this
end Go.Proofs.Ytaejkbjepbifcaa.Da
namespace Go.Proofs.Ytaejkbjepbifcaa.Da
open Go.RowKit Go.Maps Go.ChangeShapes Go.Proofs.YtaejkbjepbifcaaW.PrintWords
set_option linter.unusedVariables false
set_option linter.unusedSimpArgs false
/-- All keys with their identifiers. -/
def keysAll (ss : List ByteArray) (ds : List Int) : Keys := keysOf ss ds 0 (List.range ss.length)
abbrev intZeros (n : Nat) : Obj := .cells (madeCells #[.int .i64 0] n) 3 (0, 0)
theorem make_ints (W : World) (n : Nat) (hn : n ≤ 1073741824) : (Instr.makeSlice 23 (.int .i64 (n : Int)) (.int .i64 (n : Int))).run Try.prog W = .ok (.slice (some ⟨W.heap.size, 0, none⟩) n n) (W.alloc (intZeros n)) := by
  obtain ⟨i, hi, hz⟩ := Option.map_eq_some_iff.1 info_int
  simp only [Prod.mk.injEq] at hz
  obtain ⟨h1, h2, h3⟩ := hz
  have := run_make (P := Try.prog) W 23 3 i _ Try.underlying23 hi h1 .i64 .i64 (n : Int) (n : Int) (by omega) (by omega) (by rw [h3]; omega) (by omega)
  rw [this, h2]
  simp only [Int.toNat_natCast, Nat.mul_one]
  rfl
/-- The branches so far. -/
structure BrS (W w : World) (bb n i : Nat) : Prop where
  kp : Kp W w (fun _ => False)
  ge : W.heap.size ≤ bb
  ar : ∃ cur, w.heap[bb]? = some (.cells cur 3 (0, 0)) ∧ cur.size = n ∧ ∀ q, q < i → cur[q]? = some (.int .i64 (q : Int))
theorem brs_start (W : World) (n : Nat) : BrS W (W.alloc (intZeros n)) W.heap.size n 0 := ⟨(Kp.self W _).alloc _, Nat.le_refl _, _, blk_new W _, by rw [size_madeCells], fun q h => absurd h (Nat.not_lt_zero _)⟩
theorem BrS.facts {W w : World} {bb n i : Nat} (h : BrS W w bb n i) (hi : i < n) : (∃ v, w.cell? ⟨bb, i, none⟩ = some v) ∧ w.frozen? ⟨bb, i, none⟩ = false := by
  obtain ⟨cur, h1, h2, h3⟩ := h.ar
  constructor
  · unfold World.cell?; simp [h1, h2, hi]
  · unfold World.frozen?; simp [h1]
theorem BrS.put {W w : World} {bb n i : Nat} (h : BrS W w bb n i) (hi : i < n) : BrS W (w.setCell ⟨bb, i, none⟩ (.int .i64 (i : Int))) bb n (i + 1) := by
  obtain ⟨cur, h1, h2, h3⟩ := h.ar
  refine ⟨h.kp.setNew _ _ h.ge, h.ge, _, setCell_heap h1, by simpa using h2, fun q hq => ?_⟩
  rw [Array.getElem?_setIfInBounds]
  by_cases e : i = q
  · subst e; rw [if_pos rfl, if_pos (by omega)]
  · rw [if_neg e]; exact h3 q (by omega)
theorem BrS.brc {W w : World} {bb n : Nat} (h : BrS W w bb n n) : BrC w bb (List.range n) := by
  obtain ⟨cur, h1, h2, h3⟩ := h.ar
  refine ⟨(Array.getElem?_eq_some_iff.1 h1).1, fun j hj => ?_⟩
  rw [List.length_range] at hj
  have e : (List.range n).getD j 0 = j := by rw [List.getD_eq_getElem?_getD, List.getElem?_range hj]; rfl
  rw [e]
  unfold World.cell?
  simp [h1, h3 j hj]
theorem not_used_init (i : Nat) : ¬ (DA.init 51200).used i := by
  rintro ⟨h1, h2, h3⟩
  have h2' : i < 51200 := h2
  simp only [DA.init] at h3
  rw [if_neg (by omega)] at h3
  split at h3 <;> omega
/-- What is built. -/
def BldP (W W' : World) (x g : Nat) (L : Keys) (g' : Nat) (s' : DA) : Prop := Arr W' g' s' ∧ Good s' 0 L ∧ 0 < s'.n ∧ (g' = g ∨ W.heap.size ≤ g') ∧ Kp W W' (fun k => k = x ∨ k = g)
theorem add_pre {W w : World} {x g bb kb ko ib io : Nat} {ss : List ByteArray} {ds : List Int} (M : Mem W x g (DA.init 51200)) (S : Src W kb ko ss ib io ds) (hne : ss ≠ []) (hok : Okk (keysAll ss ds)) (has : Asc (keysAll ss ds)) (ht : tot (keysAll ss ds) ≤ 32000) (ap : kb ≠ x ∧ kb ≠ g ∧ ib ≠ x ∧ ib ≠ g) (h : BrS W w bb ss.length ss.length) :
    Pre w x g 0 255 0 bb kb ko ib io (DA.init 51200) ss ds (List.range ss.length) := by
  have hx := M.xlt
  have hg := M.toArr.lt
  have hge := h.ge
  refine ⟨M.far h.kp id id, ⟨_, _, ring_init 51200 (by omega)⟩, ⟨fun i hi => absurd hi (not_used_init i), by show 51200 ≤ _; omega, by show 51200 ≤ 51200; omega⟩, Nat.le_refl _, ?_, fun i hi => absurd hi (not_used_init i), fun i hi => absurd hi (not_used_init i), Or.inl ⟨rfl, rfl, not_used_init⟩, S.step h.kp id id, h.brc, ?_, fun z hz => List.mem_range.1 hz, by rw [List.length_range]; exact S.few, hok, has, ⟨ap.1, ap.2.1, ap.2.2.1, ap.2.2.2, by omega, by omega⟩, by omega⟩
  · show 255 + 512 * (1 + tot (keysAll ss ds)) ≤ _
    omega
  · intro e
    have : (List.range ss.length).length = 0 := by rw [e]; rfl
    rw [List.length_range] at this
    exact hne (List.length_eq_zero_iff.1 this)
theorem good_used {s : DA} {L : Keys} (g : Good s 0 L) (hk : Okk L) : ∃ u, s.used u := by
  obtain ⟨q, h1, h2, h3⟩ := good_child g hk
  exact ⟨q.toNat, by omega, by omega, by omega⟩
theorem bld_done {W w1 w2 w3 : World} {x g bb : Nat} {ss : List ByteArray} {ds : List Int} {e e' : Ending} {U : Nat} (hk : Kp W w1 (fun _ => False)) (M : Mem W x g (DA.init 51200)) (hok : Okk (keysAll ss ds)) (E : AddE w1 x g 0 U (DA.init 51200) (keysAll ss ds) e w2) :
    ∃ g1 s1 u, Mem w2 x g1 s1 ∧ s1.used u ∧ (∀ e' w3, Cut w2 x g1 s1 e' w3 → e' = .returned (.tuple #[]) ∧ ∃ g' s', Mem w3 x g' s' ∧ BldP W w3 x g (keysAll ss ds) g' s') := by
  obtain ⟨_, g1, s1, hg, hm, hkp, hf, hgood, _, _, _⟩ := E
  obtain ⟨u, hu⟩ := good_used hgood hok
  refine ⟨g1, s1, u, hm, hu, ?_⟩
  rintro e' w3 ⟨rfl, g', m, hg', hm1, hm2, hcut, hmem, hkp2⟩
  refine ⟨rfl, g', _, hmem, hmem.toArr, cut_good hm2 hcut hgood, hm1, ?_, ?_⟩
  · have h1 := hk.size
    have h2 := hkp.size
    rcases hg' with h | h
    · rcases hg with h3 | h3
      · exact Or.inl (h.trans h3)
      · right; omega
    · right; omega
  · exact ((hk.trans hkp).trans hkp2).mono (fun i hi h => by rcases h with (h | h) | h; exact h.elim; exact h; exact Or.inl h)
noncomputable def btail : Code := pth [true, true, true, true, true, true] (Try.f26.body.getD .skip)
set_option maxHeartbeats 16000000 in
set_option maxRecDepth 100000 in
theorem bld_tail (w : World) (x g kb ko ib io Nc Dc : Nat) (ss : List ByteArray) (ds : List Int) (HM : Aside0 (Mem w x g (DA.init 51200))) (HSRC : Aside0 (Src w kb ko ss ib io ds)) (HNE : Aside0 (ss ≠ [])) (HOK : Aside0 (Okk (keysAll ss ds))) (HAS : Aside0 (Asc (keysAll ss ds))) (HT : Aside0 (tot (keysAll ss ds) ≤ 32000)) (HAP : Aside0 (kb ≠ x ∧ kb ≠ g ∧ ib ≠ x ∧ ib ≠ g)) {Q : Exit → Act → World → Prop} {v2 v3 v4 v5 v7 v8 v9 v10 v11 v12 v13 v14 v15 v16 v17 v18 v19 v20 v21 v22 v23 v24 v25 v26 v27 v28 v29 v30 v31 v32 v33 v34 v35 v36 v37 v38 v39 v40 v41 v42 v43 v44 v45 v46 v47 v48 v49 v50 v51 v52 v53 v54 v55 v56 v57 v58 v59 v60 v61 v62 v63 v64 v65 v66 v67 v68 v69 v70 v71 v72 v73 v74 v75 v76 v77 v78 v79 v80 : Value}
    (hN : Aside0 (∀ (n12 n13 n62 n63 n64 n65 n66 n67 n68 n69 n70 n71 n72 n73 n74 n75 n76 n77 n78 n79 n80 : Value) (g' : Nat) (s' : DA) (w' : World), Aside0 (BldP w w' x g (keysAll ss ds) g' s') → Q .ret ⟨#[.slice (some ⟨kb, ko, none⟩) ss.length Nc, .slice (some ⟨ib, io, none⟩) ss.length Dc, v2, v3, .slice (some ⟨g', 0, none⟩) s'.n s'.n, .nilIface, .pointer (some ⟨x, 0, none⟩), v7, v8, v9, v10, v11, n12, n13, v14, v15, v16, v17, v18, v19, v20, v21, v22, v23, v24, v25, v26, v27, v28, v29, v30, v31, v32, v33, v34, v35, v36, v37, v38, v39, v40, v41, v42, v43, v44, v45, v46, v47, v48, v49, v50, v51, v52, v53, v54, v55, v56, v57, v58, v59, v60, v61, n62, n63, n64, n65, n66, n67, n68, n69, n70, n71, n72, n73, n74, n75, n76, n77, n78, n79, n80], []⟩ w')) :
    Code.wp Try.prog btail Q ⟨#[.slice (some ⟨kb, ko, none⟩) ss.length Nc, .slice (some ⟨ib, io, none⟩) ss.length Dc, v2, v3, v4, v5, .pointer (some ⟨x, 0, none⟩), v7, v8, v9, v10, v11, v12, v13, v14, v15, v16, v17, v18, v19, v20, v21, v22, v23, v24, v25, v26, v27, v28, v29, v30, v31, v32, v33, v34, v35, v36, v37, v38, v39, v40, v41, v42, v43, v44, v45, v46, v47, v48, v49, v50, v51, v52, v53, v54, v55, v56, v57, v58, v59, v60, v61, v62, v63, v64, v65, v66, v67, v68, v69, v70, v71, v72, v73, v74, v75, v76, v77, v78, v79, v80], []⟩ w := by
  conv => arg 2; whnf
  conv => arg 4; zeta
  have hfew := HSRC.out.few
  obtain ⟨Z, hZ⟩ : ∃ Z, Z = intZeros ss.length := ⟨_, rfl⟩
  have hmk : ∀ w : World, (Instr.makeSlice 23 (.int .i64 (ss.length : Int)) (.int .i64 (ss.length : Int))).run Try.prog w = .ok (.slice (some ⟨w.heap.size, 0, none⟩) ss.length ss.length) (w.alloc Z) := fun w => by
    rw [hZ]; exact make_ints w ss.length (by omega)
  have hb := brs_start w ss.length
  rw [← hZ] at hb
  obtain ⟨bb, hbb⟩ : ∃ bb, w.heap.size = bb := ⟨_, rfl⟩
  have hge : bb = w.heap.size := hbb.symm
  have HGE := Aside0.mk hge
  rw [hbb] at hb
  have HB0 := Aside0.mk hb
  clear hZ hb hge
  go_upto_region 22 with fail
  try rw [hbb]
  clear hmk hbb
  go_wp2_with fail
  go_loopg [13, 67] ss.length (fun kq v13 v67 w' => ∃ (i : Nat), v67 = .int .i64 (i : Int) ∧ Aside0 (i + kq = ss.length) ∧ Aside0 (BrS w w' bb ss.length i))
  case atStart => exact ⟨0, rfl, ⟨by omega⟩, HB0⟩
  case round =>
    clear HB0
    obtain ⟨i, rfl, HI, HB⟩ := hrel
    have hi := HI.out
    by_cases hil : i < ss.length
    · have hiz : (i : Int) < (ss.length : Int) := by omega
      obtain ⟨⟨v, hc⟩, hf⟩ := HB.out.facts hil
      cases gk with
      | zero => omega
      | succ kz =>
      go_wp2_with fail
      go_roundg kz
      case measure => omega
      case rel => exact ⟨i + 1, congrArg (Value.int .i64) (by omega), ⟨by omega⟩, ⟨HB.out.put hil⟩⟩
    · have hiz : ¬ (i : Int) < (ss.length : Int) := by omega
      have hie : i = ss.length := by omega
      rw [hie] at HB
      have hadd := add_at (tot (keysAll ss ds) + 1) wr x g 0 255 0 bb kb ko ib io ss.length Nc Dc (DA.init 51200) ss ds (List.range ss.length) 0 0 rfl rfl (Nat.lt_succ_self _) (add_pre HM.out HSRC.out HNE.out HOK.out HAS.out HT.out HAP.out HB.out)
      rw [List.length_range, HSRC.out.len] at hadd
      have HADD := Aside0.mk hadd
      have HK := Aside0.mk HB.out.kp
      clear hadd hie
      go_wp2_with (first | (go_at_call 41; refine HADD.out.mono ?_; rintro e_ w2 hE; have HE := Aside0.mk hE; obtain rfl : e_ = .returned (.tuple #[]) := hE.1; clear hE; obtain ⟨g1, s1, u, hm, hu, hcut⟩ := bld_done (w3 := w2) (bb := bb) (e' := .returned (.tuple #[])) HK.out HM.out HOK.out HE.out; have HTR := Aside0.mk (truncate_calls w2 x g1 u s1 hm hu); have HCUT := Aside0.mk hcut; clear hm hu hcut) | (go_at_call 42; refine HTR.out.mono ?_; rintro e_ w3 hE; obtain ⟨rfl, g', s', hm3, hbld⟩ := HCUT.out _ _ hE; have HBLD := Aside0.mk hbld; have bx3 := hm3.box; clear hE hm3 hbld))
      exact hN.out _ _ _ _ _ _ _ _ _ _ _ _ _ _ _ _ _ _ _ _ _ g' s' _ HBLD
end Go.Proofs.Ytaejkbjepbifcaa.Da
