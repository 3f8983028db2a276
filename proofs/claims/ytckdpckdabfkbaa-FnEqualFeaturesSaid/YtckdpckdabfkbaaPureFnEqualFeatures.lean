/- FnEqualFeatures: for every two lists of texts the law comes to true: EqualFeatures of them is whether they are the same list, and of one text and itself it is true. -/
import Derived.Test.YtckdpckdabfkbaaPFnEqualFeaturesx1
namespace Go.Proofs.Ytckdpckdabfkbaa.Pure
open Go.RowKit Go.Proofs.Ytckdpckdabfkbaa.PFnEqualFeatures Go.Proofs.YtckdpckdabfkbaaW.PrintWords Go.Proofs.YtckdpckdabfkbaaW.PrintLast

theorem fits3_some (l : List ByteArray) (hl : l.length ≤ 140737488351232) : ∃ k b, laws_zzFits3.f k l = some b := by
  have loop : ∀ d k (i : Int), 0 ≤ i → (l.length : Int) - i ≤ (d : Nat) → d < k → ∃ b, laws_zzFits3.l0 k l (l.length : Int) i = some b := by
    intro d
    induction d with
    | zero =>
      intro k i h0 h1 hk
      obtain ⟨k, rfl⟩ : ∃ m, k = m + 1 := ⟨k - 1, by omega⟩
      exact ⟨true, by simp only [laws_zzFits3.l0]; rw [if_neg (by omega)]⟩
    | succ d ih =>
      intro k i h0 h1 hk
      obtain ⟨k, rfl⟩ : ∃ m, k = m + 1 := ⟨k - 1, by omega⟩
      by_cases hlt : i < (l.length : Int)
      · simp only [laws_zzFits3.l0]
        rw [if_pos hlt, if_pos h0, if_pos hlt]
        by_cases hs : ((rdOf ByteArray.empty l i).size : Int) > 2147483647
        · rw [if_pos hs]; exact ⟨_, rfl⟩
        · rw [if_neg hs, show wrap64 (i + 1) = i + 1 by unfold wrap64; omega]
          exact ih k (i + 1) (by omega) (by omega) (by omega)
      · exact ⟨true, by simp only [laws_zzFits3.l0]; rw [if_neg hlt]⟩
  obtain ⟨b, hb⟩ := loop l.length (l.length + 1) 0 (by omega) (by omega) (by omega)
  by_cases hc : (l.length : Int) > 2147483647
  · exact ⟨0, false, by unfold laws_zzFits3.f; rw [if_pos hc]⟩
  · exact ⟨l.length + 1, b, by unfold laws_zzFits3.f; rw [if_neg hc]; exact hb⟩

theorem eq_some (a b : List ByteArray) (hl : a.length ≤ 140737488351232) : ∃ k r, tokenizer_EqualFeatures.f k a b = some r ∧ laws_same_string.f k a b = some r ∧ (a = b → r = true) := by
  by_cases hlen : (a.length : Int) = (b.length : Int)
  · have loop : ∀ d k (i : Int), 0 ≤ i → (a.length : Int) - i ≤ (d : Nat) → d < k → ∃ r, tokenizer_EqualFeatures.l0 k a b (a.length : Int) i = some r ∧ laws_same_string.l0 k a b (a.length : Int) i = some r ∧ (a = b → r = true) := by
      intro d
      induction d with
      | zero =>
        intro k i h0 h1 hk
        obtain ⟨k, rfl⟩ : ∃ m, k = m + 1 := ⟨k - 1, by omega⟩
        exact ⟨true, by simp only [tokenizer_EqualFeatures.l0]; rw [if_neg (by omega)], by simp only [laws_same_string.l0]; rw [if_neg (by omega)], fun _ => rfl⟩
      | succ d ih =>
        intro k i h0 h1 hk
        obtain ⟨k, rfl⟩ : ∃ m, k = m + 1 := ⟨k - 1, by omega⟩
        by_cases hlt : i < (a.length : Int)
        · simp only [tokenizer_EqualFeatures.l0, laws_same_string.l0]
          have hlb : i < (b.length : Int) := by omega
          simp only [hlt, h0, hlb, if_true]
          by_cases hs : (rdOf ByteArray.empty a i).toList = (rdOf ByteArray.empty b i).toList
          · rw [if_pos hs, show wrap64 (i + 1) = i + 1 by unfold wrap64; omega]
            obtain ⟨r, h⟩ := ih k (i + 1) (by omega) (by omega) (by omega)
            exact ⟨r, h.1, by simp only [hs, if_true]; exact h.2.1, h.2.2⟩
          · rw [if_neg hs]
            refine ⟨false, rfl, by simp [hs], fun h => ?_⟩
            exact absurd (by rw [h]) hs
        · exact ⟨true, by simp only [tokenizer_EqualFeatures.l0]; rw [if_neg hlt], by simp only [laws_same_string.l0]; rw [if_neg hlt], fun _ => rfl⟩
    obtain ⟨r, h1, h2, h3⟩ := loop a.length (a.length + 1) 0 (by omega) (by omega) (by omega)
    exact ⟨a.length + 1, r, by unfold tokenizer_EqualFeatures.f; rw [if_pos hlen]; exact h1, by unfold laws_same_string.f; rw [if_pos hlen]; exact h2, h3⟩
  · exact ⟨0, false, by unfold tokenizer_EqualFeatures.f; rw [if_neg hlen], by unfold laws_same_string.f; rw [if_neg hlen], fun h => absurd (by rw [h]) hlen⟩

theorem FnEqualFeatures (a b : List ByteArray) (ha : a.length ≤ 140737488351232) (hb : b.length ≤ 140737488351232) : ∃ k, laws_FnEqualFeatures.f k a b = some true := by
  obtain ⟨k1, b1, h1⟩ := fits3_some a ha
  obtain ⟨k2, b2, h2⟩ := fits3_some b hb
  obtain ⟨k3, r, h3, h4, _⟩ := eq_some a b ha
  obtain ⟨k4, r', h5, _, hr'⟩ := eq_some [⟨#[120]⟩] [⟨#[120]⟩] (by simp)
  rw [hr' rfl] at h5
  have up : ∀ {β : Type} {g : Nat → Option β} (_ : ∀ k, LeO (g k) (g (k + 1))) {k : Nat} {r : β}, g k = some r → k ≤ k1 + k2 + k3 + k4 → g (k1 + k2 + k3 + k4) = some r := fun hm _ _ h hk => at_rounds hm hk h
  have g1 := up (laws_zzFits3.mono a) h1 (by omega)
  have g2 := up (laws_zzFits3.mono b) h2 (by omega)
  have g3 := up (tokenizer_EqualFeatures.mono a b) h3 (by omega)
  have g4 := up (laws_same_string.mono a b) h4 (by omega)
  have g5 := up (tokenizer_EqualFeatures.mono _ _) h5 (by omega)
  have e3 : ∀ x, impl_EqualFeatures.f (k1 + k2 + k3 + k4) a b = some x ↔ r = x := by intro x; unfold impl_EqualFeatures.f; rw [g3]; simp
  have e5 : impl_EqualFeatures.f (k1 + k2 + k3 + k4) [⟨#[120]⟩] [⟨#[120]⟩] = some true := by unfold impl_EqualFeatures.f; rw [g5]; simp
  have j0 : ∀ c, laws_FnEqualFeatures.j0 (k1 + k2 + k3 + k4 + 1) a b c = some true := by
    intro c
    simp only [laws_FnEqualFeatures.j0]
    cases c
    · rw [if_neg (by simp), (e3 r).2 rfl, g4, e5]; simp
    · simp
  refine ⟨k1 + k2 + k3 + k4 + 1, ?_⟩
  unfold laws_FnEqualFeatures.f
  rw [at_rounds (laws_zzFits3.mono a) (Nat.le_succ _) g1, at_rounds (laws_zzFits3.mono b) (Nat.le_succ _) g2]
  simp only [Option.bind_some, j0]
  simp
end Go.Proofs.Ytckdpckdabfkbaa.Pure
