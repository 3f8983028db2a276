/- The tests of the laws on filters: each gives an answer; what follows of it. -/
import Derived.Test.YtckdpckdabfkbaaFilter4
namespace Go.Proofs.Ytckdpckdabfkbaa.Filter
open Go.RowKit Go.Proofs.YtckdpckdabfkbaaW.PrintWords Go.Proofs.Ytckdpckdabfkbaa.Plain Go.Proofs.Ytckdpckdabfkbaa.PB

theorem fits3_ev (l : List ByteArray) (hl : l.length ≤ 140737488351232) : ∃ b, Ev (fun k => laws_zzFits3.f k l) b ∧ (b = true → l.length ≤ 2147483647) := by
  have loop : ∀ (d i : Nat), l.length - i ≤ d → i ≤ l.length → ∃ b, Ev (fun k => laws_zzFits3.l0 k l (l.length : Int) (i : Int)) b := by
    intro d
    induction d with
    | zero =>
      intro i hd hi
      exact ⟨true, Ev.step (f := fun _ => some true) (fun k => by simp only [laws_zzFits3.l0]; rw [if_neg (by omega)]) (Ev.now _)⟩
    | succ d ih =>
      intro i hd hi
      by_cases hlt : i < l.length
      · have ew : wrap64 ((i : Int) + 1) = ((i + 1 : Nat) : Int) := by rw [wrap_ok (by omega) (by omega)]; omega
        by_cases hs : ((rdOf ByteArray.empty l (i : Int)).size : Int) > 2147483647
        · exact ⟨false, Ev.step (f := fun _ => some false) (fun k => by simp only [laws_zzFits3.l0]; rw [if_pos (by omega), if_pos (by omega), if_pos (by omega), if_pos hs]) (Ev.now _)⟩
        · obtain ⟨b, h1⟩ := ih (i + 1) (by omega) (by omega)
          exact ⟨b, Ev.step (fun k => by simp only [laws_zzFits3.l0]; rw [if_pos (by omega), if_pos (by omega), if_pos (by omega), if_neg hs, ew]) h1⟩
      · exact ih i (by omega) hi
  by_cases hc : (l.length : Int) > 2147483647
  · exact ⟨false, Ev.congr (f := fun _ => some false) (fun k => by unfold laws_zzFits3.f; rw [if_pos hc]) (Ev.now _), fun h => by cases h⟩
  · obtain ⟨b, h1⟩ := loop l.length 0 (by omega) (by omega)
    exact ⟨b, Ev.congr (f := fun k => laws_zzFits3.l0 k l (l.length : Int) ((0 : Nat) : Int)) (fun k => by unfold laws_zzFits3.f; rw [if_neg hc]; rfl) h1, fun _ => by omega⟩

theorem rd_get (l : List (List ByteArray)) (i : Nat) (h : i < l.length) : rd_L1 l (i : Int) = l[i] := by simp [rd_L1, h]

theorem fits6_ev (l : List (List ByteArray)) (hl : l.length ≤ 140737488351232) (hl2 : ∀ x ∈ l, x.length ≤ 140737488351232) : ∃ b, Ev (fun k => laws_zzFits6.f k l) b ∧ (b = true → l.length ≤ 2147483647 ∧ ∀ x ∈ l, x.length ≤ 2147483647) := by
  have loop : ∀ (d i : Nat), l.length - i ≤ d → i ≤ l.length → (∀ x ∈ l.take i, x.length ≤ 2147483647) → ∃ b, Ev (fun k => laws_zzFits6.l0 k l (l.length : Int) (i : Int)) b ∧ (b = true → ∀ x ∈ l, x.length ≤ 2147483647) := by
    intro d
    induction d with
    | zero =>
      intro i hd hi ht
      rw [List.take_of_length_le (by omega)] at ht
      exact ⟨true, Ev.step (f := fun _ => some true) (fun k => by simp only [laws_zzFits6.l0]; rw [if_neg (by omega)]) (Ev.now _), fun _ => ht⟩
    | succ d ih =>
      intro i hd hi ht
      by_cases hlt : i < l.length
      · have ew : wrap64 ((i : Int) + 1) = ((i + 1 : Nat) : Int) := by rw [wrap_ok (by omega) (by omega)]; omega
        obtain ⟨b0, e0, g0⟩ := fits3_ev l[i] (hl2 _ (List.getElem_mem _))
        have st : ∀ k, laws_zzFits6.l0 (k + 1) l (l.length : Int) (i : Int) = (laws_zzFits3.f k l[i]).bind fun t => if t = true then laws_zzFits6.l0 k l (l.length : Int) ((i + 1 : Nat) : Int) else some false := fun k => by
          simp only [laws_zzFits6.l0]; rw [if_pos (by omega), if_pos (by omega), if_pos (by omega), rd_get l i hlt, ew]
        cases b0 with
        | false => exact ⟨false, Ev.step st (Ev.bind e0 (evn (by decide) (Ev.now _))), fun h => by cases h⟩
        | true =>
          obtain ⟨b, h1, h2⟩ := ih (i + 1) (by omega) (by omega) (by
            rw [List.take_succ_eq_append_getElem hlt]
            intro x hx
            rcases List.mem_append.1 hx with hx | hx
            · exact ht x hx
            · rw [List.mem_singleton] at hx; subst hx; exact g0 rfl)
          exact ⟨b, Ev.step st (Ev.bind e0 (evp rfl h1)), h2⟩
      · exact ih i (by omega) hi ht
  by_cases hc : (l.length : Int) > 2147483647
  · exact ⟨false, Ev.congr (f := fun _ => some false) (fun k => by unfold laws_zzFits6.f; rw [if_pos hc]) (Ev.now _), fun h => by cases h⟩
  · obtain ⟨b, h1, h2⟩ := loop l.length 0 (by omega) (by omega) (by simp)
    exact ⟨b, Ev.congr (f := fun k => laws_zzFits6.l0 k l (l.length : Int) ((0 : Nat) : Int)) (fun k => by unfold laws_zzFits6.f; rw [if_neg hc]; rfl) h1, fun h => ⟨by omega, h2 h⟩⟩

theorem few_ev (l : List (List ByteArray)) (hl : l.length ≤ 140737488351232) (hl2 : ∀ x ∈ l, x.length ≤ 140737488351232) : ∃ b, Ev (fun k => laws_few.f k l) b := by
  have loop : ∀ (d i : Nat) (n : Int), l.length - i ≤ d → i ≤ l.length → ∃ b, Ev (fun k => laws_few.l0 k l n (l.length : Int) (i : Int)) b := by
    intro d
    induction d with
    | zero =>
      intro i n hd hi
      exact ⟨_, Ev.step (f := fun _ => some (decide (n ≤ 4000))) (fun k => by simp only [laws_few.l0]; rw [if_neg (by omega)]) (Ev.now _)⟩
    | succ d ih =>
      intro i n hd hi
      by_cases hlt : i < l.length
      · have ew : wrap64 ((i : Int) + 1) = ((i + 1 : Nat) : Int) := by rw [wrap_ok (by omega) (by omega)]; omega
        have hm : l[i].length ≤ 140737488351232 := hl2 _ (List.getElem_mem _)
        have inner : ∀ (q j : Nat) (n : Int), l[i].length - j ≤ q → j ≤ l[i].length → ∃ b, Ev (fun k => laws_few.l1 k l n (i : Int) (l.length : Int) (i : Int) (l[i].length : Int) (j : Int)) b := by
          intro q
          induction q with
          | zero =>
            intro j n hq hj
            obtain ⟨b, h1⟩ := ih (i + 1) n (by omega) (by omega)
            exact ⟨b, Ev.step (fun k => by simp only [laws_few.l1]; rw [if_neg (by omega), ew]) h1⟩
          | succ q ih2 =>
            intro j n hq hj
            by_cases hlt2 : j < l[i].length
            · have ew2 : wrap64 ((j : Int) + 1) = ((j + 1 : Nat) : Int) := by rw [wrap_ok (by omega) (by omega)]; omega
              obtain ⟨b, h1⟩ := ih2 (j + 1) (wrap64 (n + (wrap64 (((rdOf ByteArray.empty l[i] (j : Int)).size : Int) + 1)))) (by omega) (by omega)
              exact ⟨b, Ev.step (fun k => by simp only [laws_few.l1]; rw [if_pos (by omega), if_pos (by omega), if_pos (by omega), if_pos (by omega), rd_get l i hlt, if_pos (by omega), ew2]) h1⟩
            · exact ih2 j n (by omega) hj
        obtain ⟨b, h1⟩ := inner l[i].length 0 n (by omega) (by omega)
        exact ⟨b, Ev.step (fun k => by simp only [laws_few.l0]; rw [if_pos (by omega), if_pos (by omega), if_pos (by omega), rd_get l i hlt]; rfl) h1⟩
      · exact ih i n (by omega) hi
  obtain ⟨b, h1⟩ := loop l.length 0 0 (by omega) (by omega)
  exact ⟨b, h1⟩

theorem small_ev (l : List (List ByteArray)) (hl : l.length ≤ 140737488351232) (hl2 : ∀ x ∈ l, x.length ≤ 140737488351232) : ∃ b, Ev (fun k => laws_smallLists.f k l) b ∧ (b = true → l.length ≤ 30) := by
  by_cases hc : (l.length : Int) ≤ 30
  · obtain ⟨b, h1⟩ := few_ev l hl hl2
    have unf : ∀ k, laws_smallLists.f k l = (laws_few.f k l).bind fun t => some t := fun k => by unfold laws_smallLists.f; rw [if_pos hc]
    exact ⟨b, Ev.congr unf (Ev.bind h1 (Ev.now _)), fun _ => by omega⟩
  · exact ⟨false, Ev.congr (f := fun _ => some false) (fun k => by unfold laws_smallLists.f; rw [if_neg hc]) (Ev.now _), fun h => by cases h⟩

theorem has_ev (l : List ByteArray) (s : ByteArray) (hl : l.length ≤ 140737488351232) : ∃ b, Ev (fun k => laws_has_string.f k l s) b := by
  have loop : ∀ (d i : Nat), l.length - i ≤ d → i ≤ l.length → ∃ b, Ev (fun k => laws_has_string.l0 k l s (l.length : Int) (i : Int)) b := by
    intro d
    induction d with
    | zero =>
      intro i hd hi
      exact ⟨false, Ev.step (f := fun _ => some false) (fun k => by simp only [laws_has_string.l0]; rw [if_neg (by omega)]) (Ev.now _)⟩
    | succ d ih =>
      intro i hd hi
      by_cases hlt : i < l.length
      · have ew : wrap64 ((i : Int) + 1) = ((i + 1 : Nat) : Int) := by rw [wrap_ok (by omega) (by omega)]; omega
        by_cases hs : (rdOf ByteArray.empty l (i : Int)).toList = s.toList
        · exact ⟨true, Ev.step (f := fun _ => some true) (fun k => by simp only [laws_has_string.l0]; rw [if_pos (by omega), if_pos (by omega), if_pos (by omega), if_pos hs]) (Ev.now _)⟩
        · obtain ⟨b, h1⟩ := ih (i + 1) (by omega) (by omega)
          exact ⟨b, Ev.step (fun k => by simp only [laws_has_string.l0]; rw [if_pos (by omega), if_pos (by omega), if_pos (by omega), if_neg hs, ew]) h1⟩
      · exact ih i (by omega) hi
  obtain ⟨b, h1⟩ := loop l.length 0 (by omega) (by omega)
  exact ⟨b, h1⟩

theorem noAny_ev (l : List (List ByteArray)) (hl : l.length ≤ 140737488351232) (hl2 : ∀ x ∈ l, x.length ≤ 140737488351232) : ∃ b, Ev (fun k => laws_noAny.f k l) b ∧ (b = true → l.length ≤ 30) := by
  have loop : ∀ (d i : Nat), l.length - i ≤ d → i ≤ l.length → ∃ b, Ev (fun k => laws_noAny.l0 k l (l.length : Int) (i : Int)) b ∧ (b = true → l.length ≤ 30) := by
    intro d
    induction d with
    | zero =>
      intro i hd hi
      obtain ⟨b, h1, h2⟩ := small_ev l hl hl2
      exact ⟨b, Ev.step (f := fun k => (laws_smallLists.f k l).bind fun t => some t) (fun k => by simp only [laws_noAny.l0]; rw [if_neg (by omega)]) (Ev.bind h1 (Ev.now _)), h2⟩
    | succ d ih =>
      intro i hd hi
      by_cases hlt : i < l.length
      · have ew : wrap64 ((i : Int) + 1) = ((i + 1 : Nat) : Int) := by rw [wrap_ok (by omega) (by omega)]; omega
        obtain ⟨b0, e0⟩ := has_ev l[i] ⟨#[0]⟩ (hl2 _ (List.getElem_mem _))
        have st : ∀ k, laws_noAny.l0 (k + 1) l (l.length : Int) (i : Int) = (laws_has_string.f k l[i] ⟨#[0]⟩).bind fun t => if t = true then some false else laws_noAny.l0 k l (l.length : Int) ((i + 1 : Nat) : Int) := fun k => by
          simp only [laws_noAny.l0]; rw [if_pos (by omega), if_pos (by omega), if_pos (by omega), rd_get l i hlt, ew]
        cases b0 with
        | true => exact ⟨false, Ev.step st (Ev.bind e0 (evp rfl (Ev.now _))), fun h => by cases h⟩
        | false =>
          obtain ⟨b, h1, h2⟩ := ih (i + 1) (by omega) (by omega)
          exact ⟨b, Ev.step st (Ev.bind e0 (evn (by decide) h1)), h2⟩
      · exact ih i (by omega) hi
  obtain ⟨b, h1, h2⟩ := loop l.length 0 (by omega) (by omega)
  exact ⟨b, h1, h2⟩

theorem copied_ev (l : List (List ByteArray)) (hl : l.length ≤ 4294967296) (hl2 : ∀ x ∈ l, x.length < 8796093022208) : Ev (fun k => impl_copied.f k l) l := by
  have clone : ∀ x : List ByteArray, x.length < 8796093022208 → slices_Clone_string_string.f x = some x := fun x hx => by
    unfold slices_Clone_string_string.f
    simp only [Option.bind_some, List.nil_append]
    rw [if_pos (by simpa using hx)]
  have loop : ∀ (d i : Nat), l.length - i ≤ d → i ≤ l.length → Ev (fun k => impl_copied.l0 k (l.take i) l (l.length : Int) (i : Int)) l := by
    intro d
    induction d with
    | zero =>
      intro i hd hi
      exact Ev.step (f := fun _ => some l) (fun k => by simp only [impl_copied.l0]; rw [if_neg (by omega), List.take_of_length_le (by omega)]) (Ev.now _)
    | succ d ih =>
      intro i hd hi
      by_cases hlt : i < l.length
      · have ew : wrap64 ((i : Int) + 1) = ((i + 1 : Nat) : Int) := by rw [wrap_ok (by omega) (by omega)]; omega
        have h1 := ih (i + 1) (by omega) (by omega)
        rw [List.take_succ_eq_append_getElem hlt] at h1
        refine Ev.step (fun k => ?_) h1
        simp only [impl_copied.l0]
        rw [if_pos (by omega), if_pos (by omega), if_pos (by omega), rd_get l i hlt, clone _ (hl2 _ (List.getElem_mem _)), Option.bind_some, if_pos (by rw [List.length_take]; omega), ew]
      · exact ih i (by omega) hi
  exact loop l.length 0 (by omega) (by omega)
theorem same_ev : laws_same_bool.f 5 [true, false] [true, false] = some true := by decide +kernel
end Go.Proofs.Ytckdpckdabfkbaa.Filter
