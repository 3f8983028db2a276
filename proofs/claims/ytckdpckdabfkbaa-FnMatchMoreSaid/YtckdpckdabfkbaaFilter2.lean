/- The tree of a filter in memory: an edge more, a node cleared. -/
import Derived.Test.YtckdpckdabfkbaaFilter1
namespace Go.Proofs.Ytckdpckdabfkbaa.Filter
open Go.RowKit Go.Proofs.YtckdpckdabfkbaaW.PrintWords Go.Proofs.Ytckdpckdabfkbaa.Plain
set_option linter.unusedVariables false
section
variable {w X : World} {base : Nat} {T : Ar} {nb : Nat → Nat} {fv : Nat → Value} {eb : Nat → List Nat} {τ : Nat → Option (Nat × Nat)}

theorem Inv.clear (h : Inv w base T nb fv eb τ) {n : Nat} (hn : n < T.length) (hs : w.heap.size ≤ X.heap.size)
    (hold : ∀ b, b < w.heap.size → b ≠ nb n → X.heap[b]? = w.heap[b]?) (hnode : ∃ t, X.heap[nb n]? = some (.cells #[.slice none 0 0] t (0, 0))) :
    Inv X base (T.set n []) nb (fun i => if i = n then .slice none 0 0 else fv i) (fun i => if i = n then [] else eb i) τ := by
  have ef : ∀ m, fan (T.set n []) m = if m = n then [] else fan T m := fun m => fan_set hn
  have ek : ∀ m j, m ≠ n → kid (T.set n []) m j = kid T m j := fun m j hm => by unfold kid; rw [ef, if_neg hm]
  have tn := (h.node n hn).1
  have far : ∀ {b t}, τ b = some t → t ≠ (n, 0) → X.heap[b]? = w.heap[b]? := fun {b t} hb ht => hold b (h.lt b t hb).2 (fun e => by rw [e, tn] at hb; exact ht (Option.some.inj hb).symm)
  refine ⟨fun b t ht => ⟨(h.lt b t ht).1, Nat.lt_of_lt_of_le (h.lt b t ht).2 hs⟩, fun i hi => ?_, fun i hi => ?_, fun i hi hz => ?_, fun i hi => ?_, fun i => ?_, fun i hi j hj => ?_⟩
  all_goals try rw [List.length_set] at *
  · refine ⟨(h.node i hi).1, ?_⟩
    by_cases hin : i = n
    · subst hin; simp only [if_true]; exact hnode
    · simp only [if_neg hin]
      rw [far (h.node i hi).1 (by simp [hin])]
      exact (h.node i hi).2
  · by_cases hin : i = n
    · simp only [if_pos hin]
      exact Kd.R_nil _ _ _ _ _
    · simp only [if_neg hin]
      exact Kd.R_move (h.row i hi) (fun k hk => far hk (by simp))
  · by_cases hin : i = n
    · simp only [if_pos hin]
    · simp only [if_neg hin] at hz ⊢
      exact h.nil i hi hz
  · rw [ef]
    by_cases hin : i = n
    · simp only [if_pos hin]; rfl
    · simp only [if_neg hin]; exact h.len i hi
  · rw [ef]
    by_cases hin : i = n
    · simp only [if_pos hin]; exact Nat.lt_of_le_of_lt (Nat.zero_le _) (h.few i)
    · simp only [if_neg hin]; exact h.few i
  · rw [ef] at hj
    by_cases hin : i = n
    · simp only [if_pos hin] at hj; simp at hj
    · rw [ef, ek i j hin]
      simp only [if_neg hin] at hj ⊢
      obtain ⟨h1, h2, h3⟩ := h.edge i hi j hj
      exact ⟨h1, h2, by rw [far h1 (by simp)]; exact h3⟩

theorem Inv.grow (h : Inv w base T nb fv eb τ) {n : Nat} (hn : n < T.length) (hs : w.heap.size ≤ X.heap.size) (hbs : base ≤ w.heap.size) {g1 g3 : Nat} {v1 : Value} {s : ByteArray}
    (hg1 : w.heap.size ≤ g1) (hg3 : w.heap.size ≤ g3)
    (hold : ∀ b, b < w.heap.size → b ≠ nb n → some b ≠ (fv n).ownBlock → X.heap[b]? = w.heap[b]?)
    (hnode : ∃ t, X.heap[nb n]? = some (.cells #[v1] t (0, 0))) (hrow : kP.R 59 X base (fun _ => True) v1 (eb n ++ [g1]))
    (hat : v1.ownBlock = (fv n).ownBlock ∨ ∃ b, v1.ownBlock = some b ∧ w.heap.size ≤ b)
    (he1 : X.heap[g1]? = some (.cells #[.string s, ptr g3] 58 (0, 0)))
    (he3 : X.heap[g3]? = some (.cells #[.slice none 0 0] 50 (0, 0))) :
    Inv X base (T.set n (fan T n ++ [(s, T.length)]) ++ [[]]) (fun i => if i = T.length then g3 else nb i) (fun i => if i = n then v1 else if i = T.length then .slice none 0 0 else fv i)
      (fun i => if i = n then eb n ++ [g1] else if i = T.length then [] else eb i)
      (fun b => if b = g1 then some (n, (fan T n).length + 2) else if b = g3 then some (T.length, 0) else if v1.ownBlock = some b then some (n, 1) else τ b) := by
  have hne13 : g1 ≠ g3 := blk_ne he1 he3 (by decide)
  have hown : ∀ k, v1.ownBlock = some k → ∃ cells, X.heap[k]? = some (.cells cells 59 (0, 0)) := fun k hk => by
    obtain ⟨_, inner, ho, _⟩ := hrow
    exact own_typed ho k hk
  have hob : ∀ k, v1.ownBlock = some k → base ≤ k := fun k hk => by
    obtain ⟨_, inner, ho, _⟩ := hrow
    exact own_base ho k hk
  have hr1 : ∀ k, v1.ownBlock = some k → k ≠ g1 ∧ k ≠ g3 := fun k hk => by
    obtain ⟨cells, hc⟩ := hown k hk
    exact ⟨blk_ne hc he1 (by decide), blk_ne hc he3 (by decide)⟩
  have ef : ∀ m, fan (T.set n (fan T n ++ [(s, T.length)]) ++ [[]]) m = if m = n then fan T n ++ [(s, T.length)] else fan T m := fun m => by rw [fan_app, fan_set hn]
  have el : (T.set n (fan T n ++ [(s, T.length)]) ++ [[]]).length = T.length + 1 := by simp
  have tn := (h.node n hn).1
  have hnT : n ≠ T.length := by omega
  -- old blocks
  have old : ∀ {b t}, τ b = some t → b ≠ g1 ∧ b ≠ g3 := fun {b t} hb => by have := (h.lt b t hb).2; exact ⟨by omega, by omega⟩
  have orow : ∀ {b t}, τ b = some t → t ≠ (n, 1) → some b ≠ (fv n).ownBlock ∧ v1.ownBlock ≠ some b := fun {b t} hb ht => by
    have h1 : some b ≠ (fv n).ownBlock := fun e => by
      have : τ b = some (n, 1) := (h.row n hn).1 b e.symm
      rw [hb] at this
      exact ht (Option.some.inj this)
    refine ⟨h1, fun e => ?_⟩
    rcases hat with h2 | ⟨c, h2, h3⟩
    · exact h1 (by rw [← h2, e])
    · rw [h2] at e
      have := (h.lt b t hb).2
      have e2 := Option.some.inj e
      omega
  have far : ∀ {b t}, τ b = some t → t ≠ (n, 0) → t ≠ (n, 1) → X.heap[b]? = w.heap[b]? := fun {b t} hb h0 h1 =>
    hold b (h.lt b t hb).2 (fun e => by rw [e, tn] at hb; exact h0 (Option.some.inj hb).symm) (orow hb h1).1
  have tau : ∀ {b t}, τ b = some t → t ≠ (n, 1) → (if b = g1 then some (n, (fan T n).length + 2) else if b = g3 then some (T.length, 0) else if v1.ownBlock = some b then some (n, 1) else τ b) = some t := fun {b t} hb ht => by
    rw [if_neg (old hb).1, if_neg (old hb).2, if_neg (orow hb ht).2, hb]
  refine ⟨fun b t ht => ?_, fun i hi => ?_, fun i hi => ?_, fun i hi hz => ?_, fun i hi => ?_, fun i => ?_, fun i hi j hj => ?_⟩
  · by_cases h1 : b = g1
    · subst h1; exact ⟨by omega, blk_lt he1⟩
    · rw [if_neg h1] at ht
      by_cases h3 : b = g3
      · subst h3; exact ⟨by omega, blk_lt he3⟩
      · rw [if_neg h3] at ht
        by_cases h4 : v1.ownBlock = some b
        · obtain ⟨cells, hc⟩ := hown b h4
          exact ⟨hob b h4, blk_lt hc⟩
        · rw [if_neg h4] at ht
          exact ⟨(h.lt b t ht).1, Nat.lt_of_lt_of_le (h.lt b t ht).2 hs⟩
  · rw [el] at hi
    by_cases hiT : i = T.length
    · subst hiT
      simp only [if_true, if_neg (Ne.symm hnT)]
      rw [if_neg (Ne.symm hne13)]
      exact ⟨rfl, _, he3⟩
    · have hi' : i < T.length := by omega
      simp only [if_neg hiT]
      refine ⟨tau (h.node i hi').1 (by simp), ?_⟩
      by_cases hin : i = n
      · subst hin; simp only [if_true]; exact hnode
      · simp only [if_neg hin]
        rw [far (h.node i hi').1 (by simp [hin]) (by simp)]
        exact (h.node i hi').2
  · rw [el] at hi
    by_cases hin : i = n
    · subst hin
      simp only [if_true]
      refine ⟨fun k hk => ?_, ?_⟩
      · simp only
        rw [if_neg (hr1 k hk).1, if_neg (hr1 k hk).2, if_pos hk]
      · obtain ⟨_, inner, ho, hr⟩ := hrow
        exact ⟨inner, ho, hr.imp_ (fun _ _ hp => hp)⟩
    · simp only [if_neg hin]
      by_cases hiT : i = T.length
      · simp only [if_pos hiT]
        exact Kd.R_nil _ _ _ _ _
      · simp only [if_neg hiT]
        have hi' : i < T.length := by omega
        exact Kd.R_mono (Kd.R_move (h.row i hi') (fun k hk => far hk (by simp) (by simp [hin]))) (fun k hk => tau hk (by simp [hin]))
  · rw [el] at hi
    by_cases hin : i = n
    · simp only [if_pos hin] at hz; simp at hz
    · simp only [if_neg hin] at hz ⊢
      by_cases hiT : i = T.length
      · simp only [if_pos hiT]
      · simp only [if_neg hiT] at hz ⊢
        exact h.nil i (by omega) hz
  · rw [el] at hi
    rw [ef]
    by_cases hin : i = n
    · subst hin
      simp only [if_true, List.length_append, List.length_singleton]
      rw [h.len i hn]
    · simp only [if_neg hin]
      by_cases hiT : i = T.length
      · simp only [if_pos hiT]
        rw [hiT, fan_over (Nat.le_refl _)]; rfl
      · simp only [if_neg hiT]
        exact h.len i (by omega)
  · rw [ef, el]
    have := h.few i
    by_cases hin : i = n
    · subst hin; simp only [if_true, List.length_append, List.length_singleton]; omega
    · simp only [if_neg hin]; omega
  · rw [el] at hi
    rw [ef] at hj
    by_cases hin : i = n
    · subst hin
      rw [if_pos rfl, List.length_append, List.length_singleton] at hj
      simp only [if_true]
      have ek : kid (T.set i (fan T i ++ [(s, T.length)]) ++ [[]]) i j = ((fan T i ++ [(s, T.length)]).getD j (ByteArray.empty, 0)).2 := by
        unfold kid; rw [ef, if_pos rfl]
      rw [ek, ef, if_pos rfl, el]
      by_cases hj2 : j < (fan T i).length
      · have hj3 : j < (eb i).length := by rw [h.len i hn]; exact hj2
        obtain ⟨h1, h2, h3⟩ := h.edge i hn j hj2
        have e1 : (eb i ++ [g1]).getD j 0 = (eb i).getD j 0 := by
          rw [List.getD_eq_getElem?_getD, List.getD_eq_getElem?_getD, List.getElem?_append_left hj3]
        have e2 : (fan T i ++ [(s, T.length)]).getD j (ByteArray.empty, 0) = (fan T i).getD j (ByteArray.empty, 0) := by
          rw [List.getD_eq_getElem?_getD, List.getD_eq_getElem?_getD, List.getElem?_append_left hj2]
        rw [e1, e2]
        have h2' : ((fan T i).getD j (ByteArray.empty, 0)).2 < T.length := h2
        refine ⟨tau h1 (by simp), by omega, ?_⟩
        rw [far h1 (by simp) (by simp), h3, if_neg (by omega)]
        rfl
      · have hj3 : j = (fan T i).length := by omega
        subst hj3
        have e1 : (eb i ++ [g1]).getD (fan T i).length 0 = g1 := by
          rw [← h.len i hn, List.getD_eq_getElem?_getD]; simp
        have e2 : (fan T i ++ [(s, T.length)]).getD (fan T i).length (ByteArray.empty, 0) = (s, T.length) := by
          rw [List.getD_eq_getElem?_getD]; simp
        rw [e1, e2]
        exact ⟨by rw [if_pos rfl], by simp, by simp only [if_true]; exact he1⟩
    · rw [if_neg hin] at hj
      have ek : kid (T.set n (fan T n ++ [(s, T.length)]) ++ [[]]) i j = kid T i j := by unfold kid; rw [ef, if_neg hin]
      rw [ek, ef, if_neg hin, el]
      simp only [if_neg hin]
      by_cases hiT : i = T.length
      · rw [hiT, fan_over (Nat.le_refl _)] at hj; simp at hj
      · simp only [if_neg hiT]
        obtain ⟨h1, h2, h3⟩ := h.edge i (by omega) j hj
        refine ⟨tau h1 (by simp), by omega, ?_⟩
        rw [far h1 (by simp) (by simp), h3, if_neg (by omega)]
end
end Go.Proofs.Ytckdpckdabfkbaa.Filter
