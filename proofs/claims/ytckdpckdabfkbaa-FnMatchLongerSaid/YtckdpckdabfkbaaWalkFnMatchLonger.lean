/- The walk of the law FnMatchLonger. -/
import Derived.Test.YtckdpckdabfkbaaFilter6
namespace Go.Proofs.Ytckdpckdabfkbaa.WalkFnMatchLonger
open Go.RowKit Go.Proofs.YtckdpckdabfkbaaW.PrintWords Go.Proofs.Ytckdpckdabfkbaa.Plain Go.Proofs.Ytckdpckdabfkbaa.PB Go.Proofs.Ytckdpckdabfkbaa.Filter
set_option linter.unusedVariables false
set_option linter.unusedSimpArgs false
theorem pair_row (W : World) (A1 A2 : Option Addr) (c1 c2 n2 : Nat) (a1 a2 : List ByteArray) (hr1 : Kd.C Kd.string W A1 a1.length a1) (hc1 : a1.length ≤ c1) (hn : n2 = a2.length) (hr2 : Kd.C Kd.string W A2 a2.length a2) (hc2 : a2.length ≤ c2) :
    Kd.C (Kd.slice 9 Kd.string) (W.alloc (.cells #[.slice A1 a1.length c1, .slice A2 n2 c2] 22)) (some ⟨W.heap.size, 0, none⟩) 2 [a1, a2] := by
  subst hn
  exact C_lists W W.heap.size rfl (0, 0) [.slice A1 a1.length c1, .slice A2 a2.length c2] [a1, a2] rfl (by simp) (fun j p u hp hu => by
    match j with
    | 0 =>
      simp only [List.getElem?_cons_zero, Option.some.injEq] at hp hu
      subst hp hu
      exact ⟨_, _, rfl, hc1, hr1⟩
    | 1 =>
      simp only [List.getElem?_cons_succ, List.getElem?_cons_zero, Option.some.injEq] at hp hu
      subst hp hu
      exact ⟨_, _, rfl, hc2, hr2⟩
    | j + 2 => simp at hp)
theorem own0 (W : World) (base : Nat) (hb : base ≤ W.heap.size) : Kd.R Kd.string 9 (W.alloc (.cells #[] 9)) base (fun _ => True) (.slice (some ⟨W.heap.size, 0, none⟩) 0 0) [] :=
  Kd.R_of_own (World.ownsRow_made W #[] 0 hb (by decide) rfl) (fun _ _ => trivial)
theorem tot_le (m : Nat) : ∀ l : List (List ByteArray), (∀ x ∈ l, x.length ≤ m) → tot l ≤ l.length * m
  | [], _ => by simp [tot]
  | x :: l, h => by
    have h1 := tot_le m l (fun y hy => h y (List.mem_cons_of_mem _ hy))
    have h2 := h x List.mem_cons_self
    simp only [tot, List.map_cons, List.sum_cons, List.length_cons] at h1 ⊢
    rw [Nat.add_mul]
    omega
/-- Two answers, as the row tells them. -/
theorem two_bools {w : World} {A : Option Addr} {b1 b2 : Bool} (h : Kd.C Kd.bool w A 2 [b1, b2]) : ∃ a, A = some a ∧ w.cell? a = some (.bool b1) ∧ w.cell? ⟨a.block, a.off + 1, none⟩ = some (.bool b2) := by
  obtain ⟨a, rfl, h0⟩ := ReadsOf.at_ (Kd.reads_of_C (enc := Value.bool) (d := false) (h1 := fun _ => rfl) h) 0 (by decide) (by decide)
  obtain ⟨a', e, h1⟩ := ReadsOf.at_ (Kd.reads_of_C (enc := Value.bool) (d := false) (h1 := fun _ => rfl) h) 1 (by decide) (by decide)
  obtain rfl := Option.some.inj e
  have e0 : a.add 0 = a := by unfold Addr.add; simp
  exact ⟨a, rfl, by rw [← e0]; exact h0, h1⟩
set_option maxHeartbeats 8000000 in
set_option maxRecDepth 100000 in
theorem walk (A0 : Option Addr) (c0 : Nat) (a0 : (List (List ByteArray))) (A1 : Option Addr) (c1 : Nat) (a1 : (List ByteArray)) (A2 : Option Addr) (c2 : Nat) (a2 : (List ByteArray)) (w : World) (hr0 : Kd.C (Kd.slice 9 Kd.string) w A0 a0.length a0) (hc0 : a0.length ≤ c0) (hg0 : a0.length * 24 ≤ 140737488351232 ∧ ∀ y0 ∈ a0, y0.length * 16 ≤ 140737488351232 ∧ ∀ y1 ∈ y0, y1.size ≤ 140737488351232) (hr1 : Kd.C Kd.string w A1 a1.length a1) (hc1 : a1.length ≤ c1) (hg1 : a1.length * 16 ≤ 140737488351232 ∧ ∀ y0 ∈ a1, y0.size ≤ 140737488351232) (hr2 : Kd.C Kd.string w A2 a2.length a2) (hc2 : a2.length ≤ c2) (hg2 : a2.length * 16 ≤ 140737488351232 ∧ ∀ y0 ∈ a2, y0.size ≤ 140737488351232) :
    Calls Try.prog 5 #[.slice A0 a0.length c0, .slice A1 a1.length c1, .slice A2 a2.length c2] w fun e w' => e = .returned (.bool true) ∧ Below w.heap.size w w' := by
  have HR0 := Aside0.mk hr0
  have HR1 := Aside0.mk hr1
  have HR2 := Aside0.mk hr2
  obtain ⟨h01, h02⟩ := hg0
  have h02' : ∀ y ∈ a0, y.length ≤ 140737488351232 := fun y hy => by have := (h02 y hy).1; omega
  obtain ⟨b0, ⟨k0, e0⟩, g0⟩ := fits6_ev a0 (by omega) h02'
  obtain ⟨b1, ⟨k1, e1⟩, g1⟩ := fits3_ev a1 (by omega)
  obtain ⟨b2, ⟨k2, e2⟩, g2⟩ := fits3_ev a2 (by omega)
  obtain ⟨bn, ⟨kn, en⟩, gn⟩ := noAny_ev a0 (by omega) h02'
  obtain ⟨bs, ⟨ks, es⟩, gs⟩ := small_ev a0 (by omega) h02'
  obtain ⟨bf, ⟨kf, ef⟩, gf⟩ := small_ev [a1, a2] (by simp) (fun y hy => by
    rcases List.mem_cons.1 hy with h | h
    · subst h; omega
    · rw [List.mem_singleton] at h; subst h; omega)
  have E0 := Aside0.mk (e0 _ (Nat.le_refl _))
  have E1 := Aside0.mk (e1 _ (Nat.le_refl _))
  have E2 := Aside0.mk (e2 _ (Nat.le_refl _))
  have EN := Aside0.mk (en _ (Nat.le_refl _))
  have ES := Aside0.mk (es _ (Nat.le_refl _))
  have EF := Aside0.mk (ef _ (Nat.le_refl _))
  have Q0 := Aside0.mk fun (W : World) (h : Below w.heap.size w W) => laws_zzFits6.calls k0 A0 c0 a0 b0 W (Kd.C_below HR0.out h) hc0 E0.out
  have Q1 := Aside0.mk fun (W : World) (h : Below w.heap.size w W) => laws_zzFits3.calls k1 A1 c1 a1 b1 W (Kd.C_below HR1.out h) hc1 E1.out
  have Q2 := Aside0.mk fun (W : World) (h : Below w.heap.size w W) => laws_zzFits3.calls k2 A2 c2 a2 b2 W (Kd.C_below HR2.out h) hc2 E2.out
  have QN := Aside0.mk fun (W : World) (h : Below w.heap.size w W) => laws_noAny.calls kn A0 c0 a0 bn W (Kd.C_below HR0.out h) hc0 EN.out
  have QS := Aside0.mk fun (W : World) (h : Below w.heap.size w W) => laws_smallLists.calls ks A0 c0 a0 bs W (Kd.C_below HR0.out h) hc0 ES.out
  have QF := Aside0.mk fun (W : World) (h : Below w.heap.size w W) => laws_smallLists.calls kf (some ⟨W.heap.size, 0, none⟩) 2 [a1, a2] bf _ (pair_row W A1 A2 c1 c2 a2.length a1 a2 (Kd.C_below HR1.out h) hc1 rfl (Kd.C_below HR2.out h) hc2) (Nat.le_refl _) EF.out
  have QT := Aside0.mk fun (W : World) => takes_calls W
  clear e0 e1 e2 en es ef hr0 hr1 hr2 hg1 hg2 h01 h02 h02'
  have HB := Aside0.mk (Below.refl w.heap.size w)
  cases b0 with
  | false =>
    go_enter Try.func5, Try.ntmps5
    go_wp2_with (first | (with_reducible refine Calls.mono (Q0.out _ HB.out) ?_; skip; rintro _ W_ ⟨rfl, D_⟩; have HB_ : Aside0 (Below w.heap.size w W_) := ⟨by obtain ⟨m_, e_⟩ := D_.out; rw [e_]; exact pw_below_drewN (HB.out) m_⟩; clear HB D_; have HB := HB_; clear HB_) | (with_reducible refine Calls.mono (Q1.out _ HB.out) ?_; skip; rintro _ W_ ⟨rfl, D_⟩; have HB_ : Aside0 (Below w.heap.size w W_) := ⟨by obtain ⟨m_, e_⟩ := D_.out; rw [e_]; exact pw_below_drewN (HB.out) m_⟩; clear HB D_; have HB := HB_; clear HB_) | (with_reducible refine Calls.mono (Q2.out _ HB.out) ?_; skip; rintro _ W_ ⟨rfl, D_⟩; have HB_ : Aside0 (Below w.heap.size w W_) := ⟨by obtain ⟨m_, e_⟩ := D_.out; rw [e_]; exact pw_below_drewN (HB.out) m_⟩; clear HB D_; have HB := HB_; clear HB_) | (with_reducible refine Calls.mono (QN.out _ HB.out) ?_; skip; rintro _ W_ ⟨rfl, D_⟩; have HB_ : Aside0 (Below w.heap.size w W_) := ⟨by obtain ⟨m_, e_⟩ := D_.out; rw [e_]; exact pw_below_drewN (HB.out) m_⟩; clear HB D_; have HB := HB_; clear HB_) | (with_reducible refine Calls.mono (QS.out _ HB.out) ?_; skip; rintro _ W_ ⟨rfl, D_⟩; have HB_ : Aside0 (Below w.heap.size w W_) := ⟨by obtain ⟨m_, e_⟩ := D_.out; rw [e_]; exact pw_below_drewN (HB.out) m_⟩; clear HB D_; have HB := HB_; clear HB_) | (with_reducible refine Calls.mono (QF.out _ HB.out) ?_; skip; rintro _ W_ ⟨rfl, D_⟩; have HB_ : Aside0 (Below w.heap.size w W_) := ⟨by obtain ⟨m_, e_⟩ := D_.out; rw [e_]; exact pw_below_drewN (below_alloc HB.out _) m_⟩; clear HB D_; have HB := HB_; clear HB_) | (with_reducible refine Calls.mono (QT.out _) ?_; skip; rintro _ wt_ ⟨rfl, B_⟩; have HB_ := Aside0.mk (HB.out.trans (B_.mono HB.out.size)); clear HB; have HB := HB_; clear HB_ B_))
    go_ret
    exact ⟨rfl, HB.out⟩
  | true =>
  cases b1 with
  | false =>
    go_enter Try.func5, Try.ntmps5
    go_wp2_with (first | (with_reducible refine Calls.mono (Q0.out _ HB.out) ?_; skip; rintro _ W_ ⟨rfl, D_⟩; have HB_ : Aside0 (Below w.heap.size w W_) := ⟨by obtain ⟨m_, e_⟩ := D_.out; rw [e_]; exact pw_below_drewN (HB.out) m_⟩; clear HB D_; have HB := HB_; clear HB_) | (with_reducible refine Calls.mono (Q1.out _ HB.out) ?_; skip; rintro _ W_ ⟨rfl, D_⟩; have HB_ : Aside0 (Below w.heap.size w W_) := ⟨by obtain ⟨m_, e_⟩ := D_.out; rw [e_]; exact pw_below_drewN (HB.out) m_⟩; clear HB D_; have HB := HB_; clear HB_) | (with_reducible refine Calls.mono (Q2.out _ HB.out) ?_; skip; rintro _ W_ ⟨rfl, D_⟩; have HB_ : Aside0 (Below w.heap.size w W_) := ⟨by obtain ⟨m_, e_⟩ := D_.out; rw [e_]; exact pw_below_drewN (HB.out) m_⟩; clear HB D_; have HB := HB_; clear HB_) | (with_reducible refine Calls.mono (QN.out _ HB.out) ?_; skip; rintro _ W_ ⟨rfl, D_⟩; have HB_ : Aside0 (Below w.heap.size w W_) := ⟨by obtain ⟨m_, e_⟩ := D_.out; rw [e_]; exact pw_below_drewN (HB.out) m_⟩; clear HB D_; have HB := HB_; clear HB_) | (with_reducible refine Calls.mono (QS.out _ HB.out) ?_; skip; rintro _ W_ ⟨rfl, D_⟩; have HB_ : Aside0 (Below w.heap.size w W_) := ⟨by obtain ⟨m_, e_⟩ := D_.out; rw [e_]; exact pw_below_drewN (HB.out) m_⟩; clear HB D_; have HB := HB_; clear HB_) | (with_reducible refine Calls.mono (QF.out _ HB.out) ?_; skip; rintro _ W_ ⟨rfl, D_⟩; have HB_ : Aside0 (Below w.heap.size w W_) := ⟨by obtain ⟨m_, e_⟩ := D_.out; rw [e_]; exact pw_below_drewN (below_alloc HB.out _) m_⟩; clear HB D_; have HB := HB_; clear HB_) | (with_reducible refine Calls.mono (QT.out _) ?_; skip; rintro _ wt_ ⟨rfl, B_⟩; have HB_ := Aside0.mk (HB.out.trans (B_.mono HB.out.size)); clear HB; have HB := HB_; clear HB_ B_))
    go_ret
    exact ⟨rfl, HB.out⟩
  | true =>
  cases b2 with
  | false =>
    go_enter Try.func5, Try.ntmps5
    go_wp2_with (first | (with_reducible refine Calls.mono (Q0.out _ HB.out) ?_; skip; rintro _ W_ ⟨rfl, D_⟩; have HB_ : Aside0 (Below w.heap.size w W_) := ⟨by obtain ⟨m_, e_⟩ := D_.out; rw [e_]; exact pw_below_drewN (HB.out) m_⟩; clear HB D_; have HB := HB_; clear HB_) | (with_reducible refine Calls.mono (Q1.out _ HB.out) ?_; skip; rintro _ W_ ⟨rfl, D_⟩; have HB_ : Aside0 (Below w.heap.size w W_) := ⟨by obtain ⟨m_, e_⟩ := D_.out; rw [e_]; exact pw_below_drewN (HB.out) m_⟩; clear HB D_; have HB := HB_; clear HB_) | (with_reducible refine Calls.mono (Q2.out _ HB.out) ?_; skip; rintro _ W_ ⟨rfl, D_⟩; have HB_ : Aside0 (Below w.heap.size w W_) := ⟨by obtain ⟨m_, e_⟩ := D_.out; rw [e_]; exact pw_below_drewN (HB.out) m_⟩; clear HB D_; have HB := HB_; clear HB_) | (with_reducible refine Calls.mono (QN.out _ HB.out) ?_; skip; rintro _ W_ ⟨rfl, D_⟩; have HB_ : Aside0 (Below w.heap.size w W_) := ⟨by obtain ⟨m_, e_⟩ := D_.out; rw [e_]; exact pw_below_drewN (HB.out) m_⟩; clear HB D_; have HB := HB_; clear HB_) | (with_reducible refine Calls.mono (QS.out _ HB.out) ?_; skip; rintro _ W_ ⟨rfl, D_⟩; have HB_ : Aside0 (Below w.heap.size w W_) := ⟨by obtain ⟨m_, e_⟩ := D_.out; rw [e_]; exact pw_below_drewN (HB.out) m_⟩; clear HB D_; have HB := HB_; clear HB_) | (with_reducible refine Calls.mono (QF.out _ HB.out) ?_; skip; rintro _ W_ ⟨rfl, D_⟩; have HB_ : Aside0 (Below w.heap.size w W_) := ⟨by obtain ⟨m_, e_⟩ := D_.out; rw [e_]; exact pw_below_drewN (below_alloc HB.out _) m_⟩; clear HB D_; have HB := HB_; clear HB_) | (with_reducible refine Calls.mono (QT.out _) ?_; skip; rintro _ wt_ ⟨rfl, B_⟩; have HB_ := Aside0.mk (HB.out.trans (B_.mono HB.out.size)); clear HB; have HB := HB_; clear HB_ B_))
    go_ret
    exact ⟨rfl, HB.out⟩
  | true =>
  by_cases hcase : bn = true ∨ (a0.length = 1 ∧ bs = true)
  · have h30 : a0.length ≤ 30 := by
      rcases hcase with h | ⟨_, h⟩
      · exact gn h
      · exact gs h
    cases bf with
    | false =>
      cases bn with
      | true =>
        go_enter Try.func5, Try.ntmps5
        go_wp2_with (first | (with_reducible refine Calls.mono (Q0.out _ HB.out) ?_; skip; rintro _ W_ ⟨rfl, D_⟩; have HB_ : Aside0 (Below w.heap.size w W_) := ⟨by obtain ⟨m_, e_⟩ := D_.out; rw [e_]; exact pw_below_drewN (HB.out) m_⟩; clear HB D_; have HB := HB_; clear HB_) | (with_reducible refine Calls.mono (Q1.out _ HB.out) ?_; skip; rintro _ W_ ⟨rfl, D_⟩; have HB_ : Aside0 (Below w.heap.size w W_) := ⟨by obtain ⟨m_, e_⟩ := D_.out; rw [e_]; exact pw_below_drewN (HB.out) m_⟩; clear HB D_; have HB := HB_; clear HB_) | (with_reducible refine Calls.mono (Q2.out _ HB.out) ?_; skip; rintro _ W_ ⟨rfl, D_⟩; have HB_ : Aside0 (Below w.heap.size w W_) := ⟨by obtain ⟨m_, e_⟩ := D_.out; rw [e_]; exact pw_below_drewN (HB.out) m_⟩; clear HB D_; have HB := HB_; clear HB_) | (with_reducible refine Calls.mono (QN.out _ HB.out) ?_; skip; rintro _ W_ ⟨rfl, D_⟩; have HB_ : Aside0 (Below w.heap.size w W_) := ⟨by obtain ⟨m_, e_⟩ := D_.out; rw [e_]; exact pw_below_drewN (HB.out) m_⟩; clear HB D_; have HB := HB_; clear HB_) | (with_reducible refine Calls.mono (QS.out _ HB.out) ?_; skip; rintro _ W_ ⟨rfl, D_⟩; have HB_ : Aside0 (Below w.heap.size w W_) := ⟨by obtain ⟨m_, e_⟩ := D_.out; rw [e_]; exact pw_below_drewN (HB.out) m_⟩; clear HB D_; have HB := HB_; clear HB_) | (with_reducible refine Calls.mono (QF.out _ HB.out) ?_; skip; rintro _ W_ ⟨rfl, D_⟩; have HB_ : Aside0 (Below w.heap.size w W_) := ⟨by obtain ⟨m_, e_⟩ := D_.out; rw [e_]; exact pw_below_drewN (below_alloc HB.out _) m_⟩; clear HB D_; have HB := HB_; clear HB_) | (with_reducible refine Calls.mono (QT.out _) ?_; skip; rintro _ wt_ ⟨rfl, B_⟩; have HB_ := Aside0.mk (HB.out.trans (B_.mono HB.out.size)); clear HB; have HB := HB_; clear HB_ B_))
        go_ret
        exact ⟨rfl, HB.out⟩
      | false =>
        obtain ⟨hl1, rfl⟩ : a0.length = 1 ∧ bs = true := by
          rcases hcase with h | h
          · cases h
          · exact h
        have hq : ((a0.length : Int) != 1) = false := by rw [hl1]; rfl
        clear hl1
        go_enter Try.func5, Try.ntmps5
        go_wp2_with (first | (with_reducible refine Calls.mono (Q0.out _ HB.out) ?_; skip; rintro _ W_ ⟨rfl, D_⟩; have HB_ : Aside0 (Below w.heap.size w W_) := ⟨by obtain ⟨m_, e_⟩ := D_.out; rw [e_]; exact pw_below_drewN (HB.out) m_⟩; clear HB D_; have HB := HB_; clear HB_) | (with_reducible refine Calls.mono (Q1.out _ HB.out) ?_; skip; rintro _ W_ ⟨rfl, D_⟩; have HB_ : Aside0 (Below w.heap.size w W_) := ⟨by obtain ⟨m_, e_⟩ := D_.out; rw [e_]; exact pw_below_drewN (HB.out) m_⟩; clear HB D_; have HB := HB_; clear HB_) | (with_reducible refine Calls.mono (Q2.out _ HB.out) ?_; skip; rintro _ W_ ⟨rfl, D_⟩; have HB_ : Aside0 (Below w.heap.size w W_) := ⟨by obtain ⟨m_, e_⟩ := D_.out; rw [e_]; exact pw_below_drewN (HB.out) m_⟩; clear HB D_; have HB := HB_; clear HB_) | (with_reducible refine Calls.mono (QN.out _ HB.out) ?_; skip; rintro _ W_ ⟨rfl, D_⟩; have HB_ : Aside0 (Below w.heap.size w W_) := ⟨by obtain ⟨m_, e_⟩ := D_.out; rw [e_]; exact pw_below_drewN (HB.out) m_⟩; clear HB D_; have HB := HB_; clear HB_) | (with_reducible refine Calls.mono (QS.out _ HB.out) ?_; skip; rintro _ W_ ⟨rfl, D_⟩; have HB_ : Aside0 (Below w.heap.size w W_) := ⟨by obtain ⟨m_, e_⟩ := D_.out; rw [e_]; exact pw_below_drewN (HB.out) m_⟩; clear HB D_; have HB := HB_; clear HB_) | (with_reducible refine Calls.mono (QF.out _ HB.out) ?_; skip; rintro _ W_ ⟨rfl, D_⟩; have HB_ : Aside0 (Below w.heap.size w W_) := ⟨by obtain ⟨m_, e_⟩ := D_.out; rw [e_]; exact pw_below_drewN (below_alloc HB.out _) m_⟩; clear HB D_; have HB := HB_; clear HB_) | (with_reducible refine Calls.mono (QT.out _) ?_; skip; rintro _ wt_ ⟨rfl, B_⟩; have HB_ := Aside0.mk (HB.out.trans (B_.mono HB.out.size)); clear HB; have HB := HB_; clear HB_ B_))
        go_ret
        exact ⟨rfl, HB.out⟩
    | true =>
      have hT : tot a0 ≤ 900000000000 := by
        have h_ := tot_le 2147483647 a0 (g0 rfl).2
        have : a0.length * 2147483647 ≤ 30 * 2147483647 := Nat.mul_le_mul_right _ h30
        omega
      obtain ⟨kc, ec⟩ := copied_ev a0 (by omega) (fun x hx => by have := (g0 rfl).2 x hx; omega)
      have EC := Aside0.mk (ec _ (Nat.le_refl _))
      have HT := Aside0.mk hT
      clear ec hT h30
      cases bn with
      | true =>
        go_enter Try.func5, Try.ntmps5
        have HL1 : Aside0 (a1.length ≤ 2147483647) := ⟨g1 rfl⟩
        have HL2 : Aside0 (a2.length ≤ 2147483647) := ⟨g2 rfl⟩
        clear g0 g1 g2 gn gs gf
        go_wp2_with (first | (with_reducible refine Calls.mono (Q0.out _ HB.out) ?_; skip; rintro _ W_ ⟨rfl, D_⟩; have HB_ : Aside0 (Below w.heap.size w W_) := ⟨by obtain ⟨m_, e_⟩ := D_.out; rw [e_]; exact pw_below_drewN (HB.out) m_⟩; clear HB D_; have HB := HB_; clear HB_) | (with_reducible refine Calls.mono (Q1.out _ HB.out) ?_; skip; rintro _ W_ ⟨rfl, D_⟩; have HB_ : Aside0 (Below w.heap.size w W_) := ⟨by obtain ⟨m_, e_⟩ := D_.out; rw [e_]; exact pw_below_drewN (HB.out) m_⟩; clear HB D_; have HB := HB_; clear HB_) | (with_reducible refine Calls.mono (Q2.out _ HB.out) ?_; skip; rintro _ W_ ⟨rfl, D_⟩; have HB_ : Aside0 (Below w.heap.size w W_) := ⟨by obtain ⟨m_, e_⟩ := D_.out; rw [e_]; exact pw_below_drewN (HB.out) m_⟩; clear HB D_; have HB := HB_; clear HB_) | (with_reducible refine Calls.mono (QN.out _ HB.out) ?_; skip; rintro _ W_ ⟨rfl, D_⟩; have HB_ : Aside0 (Below w.heap.size w W_) := ⟨by obtain ⟨m_, e_⟩ := D_.out; rw [e_]; exact pw_below_drewN (HB.out) m_⟩; clear HB D_; have HB := HB_; clear HB_) | (with_reducible refine Calls.mono (QS.out _ HB.out) ?_; skip; rintro _ W_ ⟨rfl, D_⟩; have HB_ : Aside0 (Below w.heap.size w W_) := ⟨by obtain ⟨m_, e_⟩ := D_.out; rw [e_]; exact pw_below_drewN (HB.out) m_⟩; clear HB D_; have HB := HB_; clear HB_) | (with_reducible refine Calls.mono (QF.out _ HB.out) ?_; skip; rintro _ W_ ⟨rfl, D_⟩; have HB_ : Aside0 (Below w.heap.size w W_) := ⟨by obtain ⟨m_, e_⟩ := D_.out; rw [e_]; exact pw_below_drewN (below_alloc HB.out _) m_⟩; clear HB D_; have HB := HB_; clear HB_) | ((with_reducible refine gate_builtin (b := .append) (xs := #[.tmp 44, .tmp 45]) rfl ?_); at_builtin; refine Kd.R_append_rows Kd.string (w0 := w) w.heap.size rfl (.tmp 44) (.tmp 45) 22 9 (.string ⟨#[]⟩) 16 rfl Try.underlying22 (by kernel_rfl) rfl (by decide) (by omega) _ [] a1 _ _ _ (fun _ => True) (fun _ => False) rfl rfl ?_ ?_ (fun _ _ h => h) (fun _ h_ => h_.elim) (fun _ _ => trivial) ?_ ?_ ?_ ?_; exact own0 _ _ HB.out.size; exact Kd.C_below HR1.out (below_alloc HB.out _); exact below_alloc HB.out _; (rw [Own.size_alloc]; have := HB.out.size; omega); (have := HL1.out; simp; omega); intro v1 w1 hR1 hB1 hG1 hA1; rw [List.nil_append] at hR1; obtain ⟨A8, c8, e8⟩ := Kd.R_slice hR1; subst e8; clear HB; have HB := Aside0.mk hB1; have HV8 := Aside0.mk hR1; clear hR1 hB1 hG1 hA1) | ((with_reducible refine gate_builtin (b := .append) (xs := #[.tmp 46, .tmp 47]) rfl ?_); at_builtin; refine Kd.R_append_rows Kd.string (w0 := w) w.heap.size rfl (.tmp 46) (.tmp 47) 22 9 (.string ⟨#[]⟩) 16 rfl Try.underlying22 (by kernel_rfl) rfl (by decide) (by omega) _ a1 a2 _ _ _ (fun _ => True) (fun _ => False) rfl rfl ?_ ?_ (fun _ _ h => h) (fun _ h_ => h_.elim) (fun _ _ => trivial) ?_ ?_ ?_ ?_; exact HV8.out; exact Kd.C_below HR2.out HB.out; exact HB.out; (exact HB.out.size); (have := HL1.out; have := HL2.out; omega); intro v1 w1 hR1 hB1 hG1 hA1; obtain ⟨A9, c9, e9⟩ := Kd.R_slice hR1; subst e9; clear HB; have HB := Aside0.mk hB1; have HV9 := Aside0.mk hR1; clear hR1 hB1 hG1 hA1))
        obtain ⟨hl9, hC9⟩ : (a1 ++ a2).length ≤ c9 ∧ Kd.C Kd.string w1 A9 (a1 ++ a2).length (a1 ++ a2) := by
          obtain ⟨Ax, cx, ex, hlx, hCx⟩ := Kd.R_reads HV9.out
          injection ex with ex1 ex2 ex3
          subst ex1 ex3
          exact ⟨hlx, hCx⟩
        have HP := pair_row w1 A1 A9 c1 c9 (a1.length + a2.length) a1 (a1 ++ a2) (Kd.C_below HR1.out HB.out) hc1 (by simp) hC9 hl9
        have HM := Aside0.mk (implMatch_calls kc _ A0 c0 a0 (some ⟨w1.heap.size, 0, none⟩) 2 [a1, a1 ++ a2] (Kd.C_below HR0.out (below_alloc HB.out _)) hc0 HP (Nat.le_refl _) EC.out HT.out (by simp))
        clear HP hC9 hl9
        refine HM.out.mono ?_
        rintro _ W2 ⟨v, rfl, hR, B2⟩
        obtain ⟨A7, c7, rfl, hl7, hC7⟩ := Kd.R_reads hR
        have hB2 : Below w.heap.size w W2 := (below_alloc HB.out _).trans (B2.mono (by rw [Own.size_alloc]; have := HB.out.size; omega))
        clear HB
        have HB := Aside0.mk hB2
        have hlong := mt_longer (build a0) a1 a2 0
        obtain ⟨m1, hm1⟩ : ∃ b, b = mt (build a0) 0 a1 := ⟨_, rfl⟩
        obtain ⟨m2, hm2⟩ : ∃ b, b = mt (build a0) 0 (a1 ++ a2) := ⟨_, rfl⟩
        have hC7' : Kd.C Kd.bool W2 A7 2 [m1, m2] := by rw [hm1, hm2]; exact hC7
        rw [← hm1, ← hm2] at hlong
        obtain ⟨a7, rfl, gg0, gg1⟩ := two_bools hC7'
        clear hm1 hm2 hC7 hC7' hR B2 hB2 hl7 HV8 HV9 HM
        cases m1 with
        | true =>
          cases m2 with
          | false => cases hlong rfl
          | true =>
            clear hlong
            go_wp2_with (first | (with_reducible refine Calls.mono (QT.out _) ?_; skip; rintro _ wt_ ⟨rfl, B_⟩; have HB_ := Aside0.mk (HB.out.trans (B_.mono HB.out.size)); clear HB; have HB := HB_; clear HB_ B_))
            go_ret
            exact ⟨rfl, HB.out⟩
        | false =>
          clear hlong
          go_wp2_with (first | (with_reducible refine Calls.mono (QT.out _) ?_; skip; rintro _ wt_ ⟨rfl, B_⟩; have HB_ := Aside0.mk (HB.out.trans (B_.mono HB.out.size)); clear HB; have HB := HB_; clear HB_ B_))
          go_ret
          exact ⟨rfl, HB.out⟩
      | false =>
        obtain ⟨hl1, rfl⟩ : a0.length = 1 ∧ bs = true := by
          rcases hcase with h | h
          · cases h
          · exact h
        have hq : ((a0.length : Int) != 1) = false := by rw [hl1]; rfl
        clear hl1
        go_enter Try.func5, Try.ntmps5
        have HL1 : Aside0 (a1.length ≤ 2147483647) := ⟨g1 rfl⟩
        have HL2 : Aside0 (a2.length ≤ 2147483647) := ⟨g2 rfl⟩
        clear g0 g1 g2 gn gs gf
        go_wp2_with (first | (with_reducible refine Calls.mono (Q0.out _ HB.out) ?_; skip; rintro _ W_ ⟨rfl, D_⟩; have HB_ : Aside0 (Below w.heap.size w W_) := ⟨by obtain ⟨m_, e_⟩ := D_.out; rw [e_]; exact pw_below_drewN (HB.out) m_⟩; clear HB D_; have HB := HB_; clear HB_) | (with_reducible refine Calls.mono (Q1.out _ HB.out) ?_; skip; rintro _ W_ ⟨rfl, D_⟩; have HB_ : Aside0 (Below w.heap.size w W_) := ⟨by obtain ⟨m_, e_⟩ := D_.out; rw [e_]; exact pw_below_drewN (HB.out) m_⟩; clear HB D_; have HB := HB_; clear HB_) | (with_reducible refine Calls.mono (Q2.out _ HB.out) ?_; skip; rintro _ W_ ⟨rfl, D_⟩; have HB_ : Aside0 (Below w.heap.size w W_) := ⟨by obtain ⟨m_, e_⟩ := D_.out; rw [e_]; exact pw_below_drewN (HB.out) m_⟩; clear HB D_; have HB := HB_; clear HB_) | (with_reducible refine Calls.mono (QN.out _ HB.out) ?_; skip; rintro _ W_ ⟨rfl, D_⟩; have HB_ : Aside0 (Below w.heap.size w W_) := ⟨by obtain ⟨m_, e_⟩ := D_.out; rw [e_]; exact pw_below_drewN (HB.out) m_⟩; clear HB D_; have HB := HB_; clear HB_) | (with_reducible refine Calls.mono (QS.out _ HB.out) ?_; skip; rintro _ W_ ⟨rfl, D_⟩; have HB_ : Aside0 (Below w.heap.size w W_) := ⟨by obtain ⟨m_, e_⟩ := D_.out; rw [e_]; exact pw_below_drewN (HB.out) m_⟩; clear HB D_; have HB := HB_; clear HB_) | (with_reducible refine Calls.mono (QF.out _ HB.out) ?_; skip; rintro _ W_ ⟨rfl, D_⟩; have HB_ : Aside0 (Below w.heap.size w W_) := ⟨by obtain ⟨m_, e_⟩ := D_.out; rw [e_]; exact pw_below_drewN (below_alloc HB.out _) m_⟩; clear HB D_; have HB := HB_; clear HB_) | ((with_reducible refine gate_builtin (b := .append) (xs := #[.tmp 44, .tmp 45]) rfl ?_); at_builtin; refine Kd.R_append_rows Kd.string (w0 := w) w.heap.size rfl (.tmp 44) (.tmp 45) 22 9 (.string ⟨#[]⟩) 16 rfl Try.underlying22 (by kernel_rfl) rfl (by decide) (by omega) _ [] a1 _ _ _ (fun _ => True) (fun _ => False) rfl rfl ?_ ?_ (fun _ _ h => h) (fun _ h_ => h_.elim) (fun _ _ => trivial) ?_ ?_ ?_ ?_; exact own0 _ _ HB.out.size; exact Kd.C_below HR1.out (below_alloc HB.out _); exact below_alloc HB.out _; (rw [Own.size_alloc]; have := HB.out.size; omega); (have := HL1.out; simp; omega); intro v1 w1 hR1 hB1 hG1 hA1; rw [List.nil_append] at hR1; obtain ⟨A8, c8, e8⟩ := Kd.R_slice hR1; subst e8; clear HB; have HB := Aside0.mk hB1; have HV8 := Aside0.mk hR1; clear hR1 hB1 hG1 hA1) | ((with_reducible refine gate_builtin (b := .append) (xs := #[.tmp 46, .tmp 47]) rfl ?_); at_builtin; refine Kd.R_append_rows Kd.string (w0 := w) w.heap.size rfl (.tmp 46) (.tmp 47) 22 9 (.string ⟨#[]⟩) 16 rfl Try.underlying22 (by kernel_rfl) rfl (by decide) (by omega) _ a1 a2 _ _ _ (fun _ => True) (fun _ => False) rfl rfl ?_ ?_ (fun _ _ h => h) (fun _ h_ => h_.elim) (fun _ _ => trivial) ?_ ?_ ?_ ?_; exact HV8.out; exact Kd.C_below HR2.out HB.out; exact HB.out; (exact HB.out.size); (have := HL1.out; have := HL2.out; omega); intro v1 w1 hR1 hB1 hG1 hA1; obtain ⟨A9, c9, e9⟩ := Kd.R_slice hR1; subst e9; clear HB; have HB := Aside0.mk hB1; have HV9 := Aside0.mk hR1; clear hR1 hB1 hG1 hA1))
        obtain ⟨hl9, hC9⟩ : (a1 ++ a2).length ≤ c9 ∧ Kd.C Kd.string w1 A9 (a1 ++ a2).length (a1 ++ a2) := by
          obtain ⟨Ax, cx, ex, hlx, hCx⟩ := Kd.R_reads HV9.out
          injection ex with ex1 ex2 ex3
          subst ex1 ex3
          exact ⟨hlx, hCx⟩
        have HP := pair_row w1 A1 A9 c1 c9 (a1.length + a2.length) a1 (a1 ++ a2) (Kd.C_below HR1.out HB.out) hc1 (by simp) hC9 hl9
        have HM := Aside0.mk (implMatch_calls kc _ A0 c0 a0 (some ⟨w1.heap.size, 0, none⟩) 2 [a1, a1 ++ a2] (Kd.C_below HR0.out (below_alloc HB.out _)) hc0 HP (Nat.le_refl _) EC.out HT.out (by simp))
        clear HP hC9 hl9
        refine HM.out.mono ?_
        rintro _ W2 ⟨v, rfl, hR, B2⟩
        obtain ⟨A7, c7, rfl, hl7, hC7⟩ := Kd.R_reads hR
        have hB2 : Below w.heap.size w W2 := (below_alloc HB.out _).trans (B2.mono (by rw [Own.size_alloc]; have := HB.out.size; omega))
        clear HB
        have HB := Aside0.mk hB2
        have hlong := mt_longer (build a0) a1 a2 0
        obtain ⟨m1, hm1⟩ : ∃ b, b = mt (build a0) 0 a1 := ⟨_, rfl⟩
        obtain ⟨m2, hm2⟩ : ∃ b, b = mt (build a0) 0 (a1 ++ a2) := ⟨_, rfl⟩
        have hC7' : Kd.C Kd.bool W2 A7 2 [m1, m2] := by rw [hm1, hm2]; exact hC7
        rw [← hm1, ← hm2] at hlong
        obtain ⟨a7, rfl, gg0, gg1⟩ := two_bools hC7'
        clear hm1 hm2 hC7 hC7' hR B2 hB2 hl7 HV8 HV9 HM
        cases m1 with
        | true =>
          cases m2 with
          | false => cases hlong rfl
          | true =>
            clear hlong
            go_wp2_with (first | (with_reducible refine Calls.mono (QT.out _) ?_; skip; rintro _ wt_ ⟨rfl, B_⟩; have HB_ := Aside0.mk (HB.out.trans (B_.mono HB.out.size)); clear HB; have HB := HB_; clear HB_ B_))
            go_ret
            exact ⟨rfl, HB.out⟩
        | false =>
          clear hlong
          go_wp2_with (first | (with_reducible refine Calls.mono (QT.out _) ?_; skip; rintro _ wt_ ⟨rfl, B_⟩; have HB_ := Aside0.mk (HB.out.trans (B_.mono HB.out.size)); clear HB; have HB := HB_; clear HB_ B_))
          go_ret
          exact ⟨rfl, HB.out⟩
  · cases bn with
    | true => exact absurd (.inl rfl) hcase
    | false =>
      by_cases hl1 : a0.length = 1
      · cases bs with
        | true => exact absurd (.inr ⟨hl1, rfl⟩) hcase
        | false =>
          have hq : ((a0.length : Int) != 1) = false := by rw [hl1]; rfl
          clear hl1
          go_enter Try.func5, Try.ntmps5
          go_wp2_with (first | (with_reducible refine Calls.mono (Q0.out _ HB.out) ?_; skip; rintro _ W_ ⟨rfl, D_⟩; have HB_ : Aside0 (Below w.heap.size w W_) := ⟨by obtain ⟨m_, e_⟩ := D_.out; rw [e_]; exact pw_below_drewN (HB.out) m_⟩; clear HB D_; have HB := HB_; clear HB_) | (with_reducible refine Calls.mono (Q1.out _ HB.out) ?_; skip; rintro _ W_ ⟨rfl, D_⟩; have HB_ : Aside0 (Below w.heap.size w W_) := ⟨by obtain ⟨m_, e_⟩ := D_.out; rw [e_]; exact pw_below_drewN (HB.out) m_⟩; clear HB D_; have HB := HB_; clear HB_) | (with_reducible refine Calls.mono (Q2.out _ HB.out) ?_; skip; rintro _ W_ ⟨rfl, D_⟩; have HB_ : Aside0 (Below w.heap.size w W_) := ⟨by obtain ⟨m_, e_⟩ := D_.out; rw [e_]; exact pw_below_drewN (HB.out) m_⟩; clear HB D_; have HB := HB_; clear HB_) | (with_reducible refine Calls.mono (QN.out _ HB.out) ?_; skip; rintro _ W_ ⟨rfl, D_⟩; have HB_ : Aside0 (Below w.heap.size w W_) := ⟨by obtain ⟨m_, e_⟩ := D_.out; rw [e_]; exact pw_below_drewN (HB.out) m_⟩; clear HB D_; have HB := HB_; clear HB_) | (with_reducible refine Calls.mono (QS.out _ HB.out) ?_; skip; rintro _ W_ ⟨rfl, D_⟩; have HB_ : Aside0 (Below w.heap.size w W_) := ⟨by obtain ⟨m_, e_⟩ := D_.out; rw [e_]; exact pw_below_drewN (HB.out) m_⟩; clear HB D_; have HB := HB_; clear HB_) | (with_reducible refine Calls.mono (QF.out _ HB.out) ?_; skip; rintro _ W_ ⟨rfl, D_⟩; have HB_ : Aside0 (Below w.heap.size w W_) := ⟨by obtain ⟨m_, e_⟩ := D_.out; rw [e_]; exact pw_below_drewN (below_alloc HB.out _) m_⟩; clear HB D_; have HB := HB_; clear HB_) | (with_reducible refine Calls.mono (QT.out _) ?_; skip; rintro _ wt_ ⟨rfl, B_⟩; have HB_ := Aside0.mk (HB.out.trans (B_.mono HB.out.size)); clear HB; have HB := HB_; clear HB_ B_))
          go_ret
          exact ⟨rfl, HB.out⟩
      · have hq : ((a0.length : Int) != 1) = true := by rw [bne_iff_ne]; omega
        clear hl1
        go_enter Try.func5, Try.ntmps5
        go_wp2_with (first | (with_reducible refine Calls.mono (Q0.out _ HB.out) ?_; skip; rintro _ W_ ⟨rfl, D_⟩; have HB_ : Aside0 (Below w.heap.size w W_) := ⟨by obtain ⟨m_, e_⟩ := D_.out; rw [e_]; exact pw_below_drewN (HB.out) m_⟩; clear HB D_; have HB := HB_; clear HB_) | (with_reducible refine Calls.mono (Q1.out _ HB.out) ?_; skip; rintro _ W_ ⟨rfl, D_⟩; have HB_ : Aside0 (Below w.heap.size w W_) := ⟨by obtain ⟨m_, e_⟩ := D_.out; rw [e_]; exact pw_below_drewN (HB.out) m_⟩; clear HB D_; have HB := HB_; clear HB_) | (with_reducible refine Calls.mono (Q2.out _ HB.out) ?_; skip; rintro _ W_ ⟨rfl, D_⟩; have HB_ : Aside0 (Below w.heap.size w W_) := ⟨by obtain ⟨m_, e_⟩ := D_.out; rw [e_]; exact pw_below_drewN (HB.out) m_⟩; clear HB D_; have HB := HB_; clear HB_) | (with_reducible refine Calls.mono (QN.out _ HB.out) ?_; skip; rintro _ W_ ⟨rfl, D_⟩; have HB_ : Aside0 (Below w.heap.size w W_) := ⟨by obtain ⟨m_, e_⟩ := D_.out; rw [e_]; exact pw_below_drewN (HB.out) m_⟩; clear HB D_; have HB := HB_; clear HB_) | (with_reducible refine Calls.mono (QS.out _ HB.out) ?_; skip; rintro _ W_ ⟨rfl, D_⟩; have HB_ : Aside0 (Below w.heap.size w W_) := ⟨by obtain ⟨m_, e_⟩ := D_.out; rw [e_]; exact pw_below_drewN (HB.out) m_⟩; clear HB D_; have HB := HB_; clear HB_) | (with_reducible refine Calls.mono (QF.out _ HB.out) ?_; skip; rintro _ W_ ⟨rfl, D_⟩; have HB_ : Aside0 (Below w.heap.size w W_) := ⟨by obtain ⟨m_, e_⟩ := D_.out; rw [e_]; exact pw_below_drewN (below_alloc HB.out _) m_⟩; clear HB D_; have HB := HB_; clear HB_) | (with_reducible refine Calls.mono (QT.out _) ?_; skip; rintro _ wt_ ⟨rfl, B_⟩; have HB_ := Aside0.mk (HB.out.trans (B_.mono HB.out.size)); clear HB; have HB := HB_; clear HB_ B_))
        go_ret
        exact ⟨rfl, HB.out⟩
end Go.Proofs.Ytckdpckdabfkbaa.WalkFnMatchLonger
