/- The tree of a filter of features: its plain form (an arena of nodes), and how it lies in memory. -/
import Derived.Test.YtckdpckdabfkbaaPBx
import Derived.Test.YtckdpckdabfkbaaPlain
import Derived.Deep.LoopGhost
import Derived.Handy
namespace Go.Proofs.Ytckdpckdabfkbaa.Filter
open Go.RowKit Go.Proofs.YtckdpckdabfkbaaW.PrintWords Go.Proofs.Ytckdpckdabfkbaa.Plain

/-- Each node: its edges (the text, and the node that it leads to), in order. Node 0 is the root. -/
abbrev Ar := List (List (ByteArray × Nat))
def hit (v s : ByteArray) : Bool := (v.toList == [0]) || (v.toList == s.toList)
def hix (L : List (ByteArray × Nat)) (s : ByteArray) : Option Nat := L.findIdx? (fun e => hit e.1 s)
def fan (A : Ar) (n : Nat) : List (ByteArray × Nat) := A.getD n []
def kid (A : Ar) (n j : Nat) : Nat := ((fan A n).getD j (ByteArray.empty, 0)).2
/-- Does a filter take features? -/
def mt (A : Ar) : Nat → List ByteArray → Bool
  | _, [] => false
  | n, s :: r => match hix (fan A n) s with
    | none => false
    | some j => if fan A (kid A n j) = [] then true else mt A (kid A n j) r
/-- A list is put in. -/
def put : Ar → Nat → List ByteArray → Ar
  | A, _, [] => A
  | A, n, s :: r => match hix (fan A n) s with
    | some j => if fan A (kid A n j) = [] then A else if r = [] then A.set (kid A n j) [] else put A (kid A n j) r
    | none => put (A.set n (fan A n ++ [(s, A.length)]) ++ [[]]) A.length r
def build (fl : List (List ByteArray)) : Ar := fl.foldl (fun A f => put A 0 f) [[]]

theorem mt_longer (A : Ar) : ∀ (a b : List ByteArray) (n : Nat), mt A n a = true → mt A n (a ++ b) = true
  | [], b, n, h => by simp [mt] at h
  | s :: r, b, n, h => by
    simp only [mt, List.cons_append] at h ⊢
    cases hj : hix (fan A n) s with
    | none => rw [hj] at h; cases h
    | some j =>
      rw [hj] at h
      simp only at h ⊢
      by_cases hl : fan A (kid A n j) = []
      · rw [if_pos hl]
      · rw [if_neg hl] at h ⊢
        exact mt_longer A r b _ h

def Wf (A : Ar) : Prop := 0 < A.length ∧ ∀ n j, n < A.length → j < (fan A n).length → kid A n j < A.length ∧ kid A n j ≠ 0
/-- What putting in does: leaves stay leaves, other nodes are cleared or get more edges behind theirs. -/
def Le (A B : Ar) : Prop := A.length ≤ B.length ∧ ∀ n, n < A.length → (n ≠ 0 ∧ fan B n = []) ∨ ((n = 0 ∨ fan A n ≠ []) ∧ fan A n <+: fan B n)

theorem hix_lt {L : List (ByteArray × Nat)} {s : ByteArray} {j : Nat} (h : hix L s = some j) : j < L.length := by
  unfold hix at h
  rw [List.findIdx?_eq_some_iff_getElem] at h
  exact h.1
theorem hix_prefix {L M : List (ByteArray × Nat)} {s : ByteArray} {j : Nat} (h : hix L s = some j) (hp : L <+: M) : hix M s = some j := by
  obtain ⟨t, rfl⟩ := hp
  unfold hix at h ⊢
  rw [List.findIdx?_append, h]
  rfl
theorem kid_prefix {A B : Ar} {n j : Nat} (hp : fan A n <+: fan B n) (hj : j < (fan A n).length) : kid B n j = kid A n j := by
  obtain ⟨t, ht⟩ := hp
  unfold kid
  rw [← ht, List.getD_eq_getElem?_getD, List.getD_eq_getElem?_getD, List.getElem?_append_left hj]

theorem Le.mt {A B : Ar} (hA : Wf A) (h : Le A B) : ∀ (x : List ByteArray) (n : Nat), n < A.length → (n = 0 ∨ fan B n ≠ []) → mt A n x = true → mt B n x = true
  | [], n, _, _, hm => by simp [Filter.mt] at hm
  | s :: r, n, hn, hl, hm => by
    simp only [Filter.mt] at hm ⊢
    cases hj : hix (fan A n) s with
    | none => rw [hj] at hm; cases hm
    | some j =>
      rw [hj] at hm
      simp only at hm
      have hlt := hix_lt hj
      rcases h.2 n hn with ⟨h0, h1⟩ | ⟨-, hp⟩
      · rcases hl with hl | hl
        · exact absurd hl h0
        · exact absurd h1 hl
      · rw [hix_prefix hj hp]
        simp only
        rw [kid_prefix hp hlt]
        obtain ⟨hk, hk0⟩ := hA.2 n j hn hlt
        by_cases hb : fan B (kid A n j) = []
        · rw [if_pos hb]
        · rw [if_neg hb]
          have ha : fan A (kid A n j) ≠ [] := by
            rcases h.2 _ hk with ⟨_, h1⟩ | ⟨h1, _⟩
            · exact absurd h1 hb
            · rcases h1 with h1 | h1
              · exact absurd h1 hk0
              · exact h1
          rw [if_neg ha] at hm
          exact Le.mt hA h r _ hk (.inr hb) hm
theorem fan_set {A : Ar} {n m : Nat} {L : List (ByteArray × Nat)} (hn : n < A.length) : fan (A.set n L) m = if m = n then L else fan A m := by
  unfold fan
  rw [List.getD_eq_getElem?_getD, List.getD_eq_getElem?_getD, List.getElem?_set]
  by_cases h : m = n
  · subst h; simp [hn]
  · rw [if_neg (Ne.symm h), if_neg h]
theorem fan_app {A : Ar} {m : Nat} : fan (A ++ [[]]) m = fan A m := by
  unfold fan
  rw [List.getD_eq_getElem?_getD, List.getD_eq_getElem?_getD, List.getElem?_append]
  by_cases h : m < A.length
  · rw [if_pos h]
  · rw [if_neg h, List.getElem?_eq_none (Nat.le_of_not_lt h)]
    rcases Nat.lt_or_ge (m - A.length) 1 with h2 | h2
    · have : m - A.length = 0 := by omega
      rw [this]; rfl
    · rw [List.getElem?_eq_none (by simpa using h2)]
theorem fan_over {A : Ar} {m : Nat} (h : A.length ≤ m) : fan A m = [] := by
  unfold fan
  rw [List.getD_eq_getElem?_getD, List.getElem?_eq_none h]; rfl

/-- While a list is put in: against the tree C that was there before. -/
structure Mid (C A : Ar) (n : Nat) : Prop where
  wf : Wf A
  le : Le C A
  lt : n < A.length
  ok : n = 0 ∨ C.length ≤ n ∨ fan A n ≠ []

theorem Mid.put {C : Ar} (hC : Wf C) : ∀ (f : List ByteArray) (A : Ar) (n : Nat), Mid C A n → Wf (put A n f) ∧ Le C (put A n f)
  | [], A, n, h => by simp only [Filter.put]; exact ⟨h.wf, h.le⟩
  | s :: r, A, n, h => by
    obtain ⟨wf, le, hn, ok⟩ := h
    simp only [Filter.put]
    cases hj : hix (fan A n) s with
    | some j =>
      simp only
      have hlt := hix_lt hj
      obtain ⟨hk, hk0⟩ := wf.2 n j hn hlt
      by_cases hl : fan A (kid A n j) = []
      · rw [if_pos hl]; exact ⟨wf, le⟩
      · rw [if_neg hl]
        by_cases hr : r = []
        · rw [if_pos hr]
          refine ⟨⟨by rw [List.length_set]; exact wf.1, fun m i hm hi => ?_⟩, ⟨by rw [List.length_set]; exact le.1, fun m hm => ?_⟩⟩
          · rw [List.length_set] at hm ⊢
            rw [fan_set hk] at hi
            have e : fan (A.set (kid A n j) []) m = if m = kid A n j then [] else fan A m := fan_set hk
            by_cases hmk : m = kid A n j
            · rw [if_pos hmk] at hi; simp at hi
            · rw [if_neg hmk] at hi e
              have : kid (A.set (kid A n j) []) m i = kid A m i := by unfold kid at e ⊢; rw [e]
              rw [this]
              exact wf.2 m i hm hi
          · rw [fan_set hk]
            by_cases hmk : m = kid A n j
            · rw [if_pos hmk]; exact .inl ⟨by omega, rfl⟩
            · rw [if_neg hmk]; exact le.2 m hm
        · rw [if_neg hr]
          exact Mid.put hC r A _ ⟨wf, le, hk, .inr (.inr hl)⟩
    | none =>
      simp only
      have e : ∀ m, fan (A.set n (fan A n ++ [(s, A.length)]) ++ [[]]) m = if m = n then fan A n ++ [(s, A.length)] else fan A m := fun m => by rw [fan_app, fan_set hn]
      refine Mid.put hC r _ _ ⟨⟨by simp, fun m i hm hi => ?_⟩, ⟨by simp; have := le.1; omega, fun m hm => ?_⟩, by simp, .inr (.inl le.1)⟩
      · have hlen : (A.set n (fan A n ++ [(s, A.length)]) ++ [[]]).length = A.length + 1 := by simp
        rw [hlen]
        rw [e] at hi
        have ek : kid (A.set n (fan A n ++ [(s, A.length)]) ++ [[]]) m i = ((if m = n then fan A n ++ [(s, A.length)] else fan A m).getD i (ByteArray.empty, 0)).2 := by
          unfold kid; rw [e]
        rw [ek]
        by_cases hmn : m = n
        · rw [if_pos hmn] at hi ⊢
          rw [List.length_append, List.length_singleton] at hi
          by_cases hi2 : i < (fan A n).length
          · have : ((fan A n ++ [(s, A.length)]).getD i (ByteArray.empty, 0)).2 = kid A n i := by
              unfold kid
              rw [List.getD_eq_getElem?_getD, List.getD_eq_getElem?_getD, List.getElem?_append_left hi2]
            rw [this]
            have := wf.2 n i hn hi2
            exact ⟨by omega, this.2⟩
          · have hi3 : i = (fan A n).length := by omega
            subst hi3
            rw [List.getD_eq_getElem?_getD]
            simp only [List.getElem?_concat_length, Option.getD_some]
            have := wf.1
            exact ⟨by omega, by omega⟩
        · rw [if_neg hmn] at hi ⊢
          by_cases hm2 : m < A.length
          · have := wf.2 m i hm2 hi
            exact ⟨by unfold kid at this; omega, this.2⟩
          · rw [fan_over (Nat.le_of_not_lt hm2)] at hi; simp at hi
      · rw [e]
        by_cases hmn : m = n
        · rw [if_pos hmn]
          subst hmn
          rcases ok with ok | ok | ok
          · subst ok
            rcases le.2 0 hm with ⟨h0, _⟩ | ⟨_, hp⟩
            · exact absurd rfl h0
            · exact .inr ⟨.inl rfl, hp.trans (List.prefix_append _ _)⟩
          · omega
          · rcases le.2 m hm with ⟨_, h1⟩ | ⟨h0, hp⟩
            · exact absurd h1 ok
            · exact .inr ⟨h0, hp.trans (List.prefix_append _ _)⟩
        · rw [if_neg hmn]
          exact le.2 m hm

theorem Le.refl (A : Ar) : ∀ n, n < A.length → (n ≠ 0 ∧ fan A n = []) ∨ ((n = 0 ∨ fan A n ≠ []) ∧ fan A n <+: fan A n) := fun n _ => by
  by_cases h0 : n = 0
  · exact .inr ⟨.inl h0, List.prefix_refl _⟩
  · by_cases h : fan A n = []
    · exact .inl ⟨h0, h⟩
    · exact .inr ⟨.inr h, List.prefix_refl _⟩
theorem put_le {A : Ar} (hA : Wf A) (f : List ByteArray) : Wf (put A 0 f) ∧ Le A (put A 0 f) := Mid.put hA f A 0 ⟨hA, ⟨Nat.le_refl _, Le.refl A⟩, hA.1, .inl rfl⟩
theorem puts {x : List ByteArray} : ∀ (l : List (List ByteArray)) (A : Ar), Wf A → Wf (l.foldl (fun A f => put A 0 f) A) ∧ (mt A 0 x = true → mt (l.foldl (fun A f => put A 0 f) A) 0 x = true)
  | [], A, h => ⟨h, id⟩
  | f :: l, A, h => by
    obtain ⟨h1, h2⟩ := put_le h f
    obtain ⟨h3, h4⟩ := puts l _ h1
    exact ⟨h3, fun hm => h4 (Le.mt h h2 x 0 h.1 (.inl rfl) hm)⟩
theorem wf0 : Wf [[]] := ⟨by simp, fun n j hn hj => by
  have : n = 0 := by simpa using hn
  subst this
  simp [fan] at hj⟩
theorem build_more (a b : List (List ByteArray)) (x : List ByteArray) (h : mt (build a) 0 x = true) : mt (build (a ++ b)) 0 x = true := by
  unfold build at h ⊢
  rw [List.foldl_append]
  exact (puts b _ (puts (x := x) a _ wf0).1).2 h
end Go.Proofs.Ytckdpckdabfkbaa.Filter
