/- The walk of the law FnMatchMore. -/
import Derived.Test.YtckdpckdabfkbaaFilter6
namespace Go.Proofs.Ytckdpckdabfkbaa.WalkFnMatchMore
open Go.RowKit Go.Proofs.YtckdpckdabfkbaaW.PrintWords Go.Proofs.Ytckdpckdabfkbaa.Plain Go.Proofs.Ytckdpckdabfkbaa.PB Go.Proofs.Ytckdpckdabfkbaa.Filter
set_option linter.unusedVariables false
set_option linter.unusedSimpArgs false
theorem pair_row (W : World) (A1 A2 : Option Addr) (c1 c2 n2 : Nat) (a1 a2 : List ByteArray) (hr1 : Kd.C Kd.string W A1 a1.length a1) (hc1 : a1.length ≤ c1) (hn : n2 = a2.length) (hr2 : Kd.C Kd.string W A2 a2.length a2) (hc2 : a2.length ≤ c2) :
    Kd.C (Kd.slice 9 Kd.string) (W.alloc (.cells #[.slice A1 a1.length c1, .slice A2 n2 c2] 22)) (some ⟨W.heap.size, 0, none⟩) 2 [a1, a2] := by
  subst hn
  exact C_lists W W.heap.size rfl (0, 0) [.slice A1 a1.length c1, .slice A2 a2.length c2] [a1, a2] rfl (by simp) (fun j p u hp hu => by
    match j with
    | 0 =>
      simp only [List.getElem?_cons_zero, Option.some.injEq] at hp hu
      subst hp hu
      exact ⟨_, _, rfl, hc1, hr1⟩
    | 1 =>
      simp only [List.getElem?_cons_succ, List.getElem?_cons_zero, Option.some.injEq] at hp hu
      subst hp hu
      exact ⟨_, _, rfl, hc2, hr2⟩
    | j + 2 => simp at hp)
theorem own0 (W : World) (base : Nat) (hb : base ≤ W.heap.size) : Kd.R Kd.string 9 (W.alloc (.cells #[] 9)) base (fun _ => True) (.slice (some ⟨W.heap.size, 0, none⟩) 0 0) [] :=
  Kd.R_of_own (World.ownsRow_made W #[] 0 hb (by decide) rfl) (fun _ _ => trivial)
theorem tot_le (m : Nat) : ∀ l : List (List ByteArray), (∀ x ∈ l, x.length ≤ m) → tot l ≤ l.length * m
  | [], _ => by simp [tot]
  | x :: l, h => by
    have h1 := tot_le m l (fun y hy => h y (List.mem_cons_of_mem _ hy))
    have h2 := h x List.mem_cons_self
    simp only [tot, List.map_cons, List.sum_cons, List.length_cons] at h1 ⊢
    rw [Nat.add_mul]
    omega
/-- Two answers, as the row tells them. -/
theorem two_bools {w : World} {A : Option Addr} {b1 b2 : Bool} (h : Kd.C Kd.bool w A 2 [b1, b2]) : ∃ a, A = some a ∧ w.cell? a = some (.bool b1) ∧ w.cell? ⟨a.block, a.off + 1, none⟩ = some (.bool b2) := by
  obtain ⟨a, rfl, h0⟩ := ReadsOf.at_ (Kd.reads_of_C (enc := Value.bool) (d := false) (h1 := fun _ => rfl) h) 0 (by decide) (by decide)
  obtain ⟨a', e, h1⟩ := ReadsOf.at_ (Kd.reads_of_C (enc := Value.bool) (d := false) (h1 := fun _ => rfl) h) 1 (by decide) (by decide)
  obtain rfl := Option.some.inj e
  have e0 : a.add 0 = a := by unfold Addr.add; simp
  exact ⟨a, rfl, by rw [← e0]; exact h0, h1⟩
/-- The heads of the rows of a list of lists. -/
def hdK : Kd (Option Addr × Nat × Nat) := Kd.scalar (fun h => .slice h.1 h.2.1 h.2.2) (fun _ => rfl)
def Heads (w : World) (hs : List (Option Addr × Nat × Nat)) (xs : List (List ByteArray)) : Prop :=
  hs.length = xs.length ∧ ∀ (j : Nat) (p : List ByteArray) (q : Option Addr × Nat × Nat), xs[j]? = some p → hs[j]? = some q → q.2.1 = p.length ∧ p.length ≤ q.2.2 ∧ Kd.string.C w q.1 p.length p
theorem heads {w : World} {A : Option Addr} {n : Nat} {xs : List (List ByteArray)} (h : (Kd.slice 9 Kd.string).C w A n xs) : ∃ hs, hdK.C w A n hs ∧ Heads w hs xs := by
  obtain ⟨hl, hm, h⟩ := h
  by_cases h0 : 0 < n
  · obtain ⟨ad, rfl, h3⟩ := h h0
    have : ∀ j : Nat, ∃ q : Option Addr × Nat × Nat, ∀ p, xs[j]? = some p → (q.2.1 = p.length ∧ p.length ≤ q.2.2 ∧ Kd.string.C w q.1 p.length p) ∧ w.cell? (ad.add j) = some (.slice q.1 q.2.1 q.2.2) := fun j => by
      cases hj : xs[j]? with
      | none => exact ⟨(none, 0, 0), fun p hp => by cases hp⟩
      | some p =>
        obtain ⟨c, hc, hk, hu⟩ := h3 j p hj
        obtain ⟨B, d, rfl, hd, hC⟩ := hk
        refine ⟨(B, p.length, d), fun p' hp => ?_⟩
        obtain rfl := Option.some.inj hp
        refine ⟨⟨rfl, hd, hC⟩, ?_⟩
        have := hu 0 _ rfl
        have e : (Kd.slice 9 Kd.string).sz = 1 := rfl
        rw [e, Nat.mul_one, Nat.add_zero] at this
        exact this
    obtain ⟨f, hf⟩ := Classical.axiomOfChoice this
    have hg : ∀ j q, ((List.range xs.length).map f)[j]? = some q → q = f j ∧ j < xs.length := fun j q hq => by
      rw [List.getElem?_map] at hq
      cases hr : (List.range xs.length)[j]? with
      | none => rw [hr] at hq; cases hq
      | some i =>
        rw [hr] at hq
        obtain ⟨h1, h2⟩ := List.getElem?_eq_some_iff.1 hr
        rw [List.getElem_range] at h2
        rw [List.length_range] at h1
        subst h2
        exact ⟨(Option.some.inj hq).symm, h1⟩
    refine ⟨(List.range xs.length).map f, ⟨by simp [hl], hm, fun _ => ⟨ad, rfl, fun j q hq => ?_⟩⟩, by simp, fun j p q hp hq => ?_⟩
    · obtain ⟨rfl, hlt⟩ := hg j q hq
      refine ⟨[.slice (f j).1 (f j).2.1 (f j).2.2], rfl, rfl, fun i u hu => ?_⟩
      cases i with
      | succ i => simp at hu
      | zero =>
        simp at hu
        subst hu
        have e : hdK.sz = 1 := rfl
        rw [e, Nat.mul_one, Nat.add_zero]
        exact (hf j _ (List.getElem?_eq_getElem hlt)).2
    · obtain ⟨rfl, _⟩ := hg j q hq
      exact (hf j p hp).1
  · obtain rfl : n = 0 := by omega
    obtain rfl := List.eq_nil_of_length_eq_zero hl
    exact ⟨[], ⟨rfl, hm, fun h => absurd h h0⟩, rfl, fun j p q hp => by simp at hp⟩
theorem unheads {w : World} {A : Option Addr} {n : Nat} {hs : List (Option Addr × Nat × Nat)} {xs : List (List ByteArray)} (h : hdK.C w A n hs) (hh : Heads w hs xs) : (Kd.slice 9 Kd.string).C w A n xs := by
  refine ⟨by rw [← hh.1]; exact h.1, h.2.1, fun h0 => ?_⟩
  obtain ⟨ad, e, hc⟩ := h.2.2 h0
  refine ⟨ad, e, fun j p hp => ?_⟩
  have hlt : j < hs.length := by rw [hh.1]; exact (List.getElem?_eq_some_iff.1 hp).1
  have hq := List.getElem?_eq_getElem hlt
  obtain ⟨h1, h2, h3⟩ := hh.2 j p _ hp hq
  obtain ⟨c, h4, h5, h6⟩ := hc j _ hq
  have h5' : c = [.slice hs[j].1 hs[j].2.1 hs[j].2.2] := h5
  subst h5'
  exact ⟨_, rfl, ⟨hs[j].1, hs[j].2.2, by rw [h1], h2, h3⟩, h6⟩
theorem Heads.app {w : World} {a b : List (Option Addr × Nat × Nat)} {xs ys : List (List ByteArray)} (h1 : Heads w a xs) (h2 : Heads w b ys) : Heads w (a ++ b) (xs ++ ys) := by
  refine ⟨by rw [List.length_append, List.length_append, h1.1, h2.1], fun j p q hp hq => ?_⟩
  by_cases hlt : j < xs.length
  · rw [List.getElem?_append_left hlt] at hp
    rw [List.getElem?_append_left (by rw [h1.1]; exact hlt)] at hq
    exact h1.2 j p q hp hq
  · rw [List.getElem?_append_right (by omega)] at hp
    rw [List.getElem?_append_right (by rw [h1.1]; omega), h1.1] at hq
    exact h2.2 _ p q hp hq
theorem Heads.below {w W : World} {a : List (Option Addr × Nat × Nat)} {xs : List (List ByteArray)} (h : Heads w a xs) (hb : Below w.heap.size w W) : Heads W a xs :=
  ⟨h.1, fun j p q hp hq => let ⟨h1, h2, h3⟩ := h.2 j p q hp hq; ⟨h1, h2, Kd.C_below h3 hb⟩⟩
theorem own0h (W : World) (base : Nat) (hb : base ≤ W.heap.size) : Kd.R hdK 22 (W.alloc (.cells #[] 22)) base (fun _ => True) (.slice (some ⟨W.heap.size, 0, none⟩) 0 0) [] :=
  Kd.R_of_own (World.ownsRow_made W #[] 0 hb (by decide) rfl) (fun _ _ => trivial)
theorem tot_app (a b : List (List ByteArray)) : tot (a ++ b) = tot a + tot b := by simp [tot]
set_option maxHeartbeats 8000000 in
set_option maxRecDepth 100000 in
theorem walk (A0 : Option Addr) (c0 : Nat) (a0 : (List (List ByteArray))) (A1 : Option Addr) (c1 : Nat) (a1 : (List (List ByteArray))) (A2 : Option Addr) (c2 : Nat) (a2 : (List (List ByteArray))) (w : World) (hr0 : Kd.C (Kd.slice 9 Kd.string) w A0 a0.length a0) (hc0 : a0.length ≤ c0) (hg0 : a0.length * 24 ≤ 140737488351232 ∧ ∀ y0 ∈ a0, y0.length * 16 ≤ 140737488351232 ∧ ∀ y1 ∈ y0, y1.size ≤ 140737488351232) (hr1 : Kd.C (Kd.slice 9 Kd.string) w A1 a1.length a1) (hc1 : a1.length ≤ c1) (hg1 : a1.length * 24 ≤ 140737488351232 ∧ ∀ y0 ∈ a1, y0.length * 16 ≤ 140737488351232 ∧ ∀ y1 ∈ y0, y1.size ≤ 140737488351232) (hr2 : Kd.C (Kd.slice 9 Kd.string) w A2 a2.length a2) (hc2 : a2.length ≤ c2) (hg2 : a2.length * 24 ≤ 140737488351232 ∧ ∀ y0 ∈ a2, y0.length * 16 ≤ 140737488351232 ∧ ∀ y1 ∈ y0, y1.size ≤ 140737488351232) :
    Calls Try.prog 6 #[.slice A0 a0.length c0, .slice A1 a1.length c1, .slice A2 a2.length c2] w fun e w' => e = .returned (.bool true) ∧ Below w.heap.size w w' := by
  have HR0 := Aside0.mk hr0
  have HR1 := Aside0.mk hr1
  have HR2 := Aside0.mk hr2
  have h0' : ∀ y ∈ a0, y.length ≤ 140737488351232 := fun y hy => by have := (hg0.2 y hy).1; omega
  have h1' : ∀ y ∈ a1, y.length ≤ 140737488351232 := fun y hy => by have := (hg1.2 y hy).1; omega
  have h2' : ∀ y ∈ a2, y.length ≤ 140737488351232 := fun y hy => by have := (hg2.2 y hy).1; omega
  have l0 := hg0.1
  have l1 := hg1.1
  have l2 := hg2.1
  obtain ⟨b0, ⟨k0, e0⟩, g0⟩ := fits6_ev a0 (by omega) h0'
  obtain ⟨b1, ⟨k1, e1⟩, g1⟩ := fits6_ev a1 (by omega) h1'
  obtain ⟨b2, ⟨k2, e2⟩, g2⟩ := fits6_ev a2 (by omega) h2'
  obtain ⟨bn, ⟨kn, en⟩, gn⟩ := noAny_ev a0 (by omega) h0'
  obtain ⟨bm, ⟨km, em⟩, gm⟩ := noAny_ev a1 (by omega) h1'
  obtain ⟨bs, ⟨ks, es⟩, gs⟩ := small_ev a2 (by omega) h2'
  have E0 := Aside0.mk (e0 _ (Nat.le_refl _))
  have E1 := Aside0.mk (e1 _ (Nat.le_refl _))
  have E2 := Aside0.mk (e2 _ (Nat.le_refl _))
  have EN := Aside0.mk (en _ (Nat.le_refl _))
  have EM := Aside0.mk (em _ (Nat.le_refl _))
  have ES := Aside0.mk (es _ (Nat.le_refl _))
  have Q0 := Aside0.mk fun (W : World) (h : Below w.heap.size w W) => laws_zzFits6.calls k0 A0 c0 a0 b0 W (Kd.C_below HR0.out h) hc0 E0.out
  have Q1 := Aside0.mk fun (W : World) (h : Below w.heap.size w W) => laws_zzFits6.calls k1 A1 c1 a1 b1 W (Kd.C_below HR1.out h) hc1 E1.out
  have Q2 := Aside0.mk fun (W : World) (h : Below w.heap.size w W) => laws_zzFits6.calls k2 A2 c2 a2 b2 W (Kd.C_below HR2.out h) hc2 E2.out
  have QN0 := Aside0.mk fun (W : World) (h : Below w.heap.size w W) => laws_noAny.calls kn A0 c0 a0 bn W (Kd.C_below HR0.out h) hc0 EN.out
  have QN1 := Aside0.mk fun (W : World) (h : Below w.heap.size w W) => laws_noAny.calls km A1 c1 a1 bm W (Kd.C_below HR1.out h) hc1 EM.out
  have QS := Aside0.mk fun (W : World) (h : Below w.heap.size w W) => laws_smallLists.calls ks A2 c2 a2 bs W (Kd.C_below HR2.out h) hc2 ES.out
  have QT := Aside0.mk fun (W : World) => takes_calls W
  clear e0 e1 e2 en em es hr0 hr1 hr2 hg0 hg1 hg2 h0' h1' h2'
  have HB := Aside0.mk (Below.refl w.heap.size w)
  cases b0 with
  | false =>
    go_enter Try.func6, Try.ntmps6
    go_wp2_with (first | (with_reducible refine Calls.mono (Q0.out _ HB.out) ?_; skip; rintro _ W_ ⟨rfl, D_⟩; have HB_ : Aside0 (Below w.heap.size w W_) := ⟨by obtain ⟨m_, e_⟩ := D_.out; rw [e_]; exact pw_below_drewN (HB.out) m_⟩; clear HB D_; have HB := HB_; clear HB_) | (with_reducible refine Calls.mono (Q1.out _ HB.out) ?_; skip; rintro _ W_ ⟨rfl, D_⟩; have HB_ : Aside0 (Below w.heap.size w W_) := ⟨by obtain ⟨m_, e_⟩ := D_.out; rw [e_]; exact pw_below_drewN (HB.out) m_⟩; clear HB D_; have HB := HB_; clear HB_) | (with_reducible refine Calls.mono (Q2.out _ HB.out) ?_; skip; rintro _ W_ ⟨rfl, D_⟩; have HB_ : Aside0 (Below w.heap.size w W_) := ⟨by obtain ⟨m_, e_⟩ := D_.out; rw [e_]; exact pw_below_drewN (HB.out) m_⟩; clear HB D_; have HB := HB_; clear HB_) | (with_reducible refine Calls.mono (QN0.out _ HB.out) ?_; skip; rintro _ W_ ⟨rfl, D_⟩; have HB_ : Aside0 (Below w.heap.size w W_) := ⟨by obtain ⟨m_, e_⟩ := D_.out; rw [e_]; exact pw_below_drewN (HB.out) m_⟩; clear HB D_; have HB := HB_; clear HB_) | (with_reducible refine Calls.mono (QN1.out _ HB.out) ?_; skip; rintro _ W_ ⟨rfl, D_⟩; have HB_ : Aside0 (Below w.heap.size w W_) := ⟨by obtain ⟨m_, e_⟩ := D_.out; rw [e_]; exact pw_below_drewN (HB.out) m_⟩; clear HB D_; have HB := HB_; clear HB_) | (with_reducible refine Calls.mono (QS.out _ HB.out) ?_; skip; rintro _ W_ ⟨rfl, D_⟩; have HB_ : Aside0 (Below w.heap.size w W_) := ⟨by obtain ⟨m_, e_⟩ := D_.out; rw [e_]; exact pw_below_drewN (HB.out) m_⟩; clear HB D_; have HB := HB_; clear HB_) | (with_reducible refine Calls.mono (QT.out _) ?_; skip; rintro _ wt_ ⟨rfl, B_⟩; have HB_ := Aside0.mk (HB.out.trans (B_.mono HB.out.size)); clear HB; have HB := HB_; clear HB_ B_))
    go_ret
    exact ⟨rfl, HB.out⟩
  | true =>
  cases b1 with
  | false =>
    go_enter Try.func6, Try.ntmps6
    go_wp2_with (first | (with_reducible refine Calls.mono (Q0.out _ HB.out) ?_; skip; rintro _ W_ ⟨rfl, D_⟩; have HB_ : Aside0 (Below w.heap.size w W_) := ⟨by obtain ⟨m_, e_⟩ := D_.out; rw [e_]; exact pw_below_drewN (HB.out) m_⟩; clear HB D_; have HB := HB_; clear HB_) | (with_reducible refine Calls.mono (Q1.out _ HB.out) ?_; skip; rintro _ W_ ⟨rfl, D_⟩; have HB_ : Aside0 (Below w.heap.size w W_) := ⟨by obtain ⟨m_, e_⟩ := D_.out; rw [e_]; exact pw_below_drewN (HB.out) m_⟩; clear HB D_; have HB := HB_; clear HB_) | (with_reducible refine Calls.mono (Q2.out _ HB.out) ?_; skip; rintro _ W_ ⟨rfl, D_⟩; have HB_ : Aside0 (Below w.heap.size w W_) := ⟨by obtain ⟨m_, e_⟩ := D_.out; rw [e_]; exact pw_below_drewN (HB.out) m_⟩; clear HB D_; have HB := HB_; clear HB_) | (with_reducible refine Calls.mono (QN0.out _ HB.out) ?_; skip; rintro _ W_ ⟨rfl, D_⟩; have HB_ : Aside0 (Below w.heap.size w W_) := ⟨by obtain ⟨m_, e_⟩ := D_.out; rw [e_]; exact pw_below_drewN (HB.out) m_⟩; clear HB D_; have HB := HB_; clear HB_) | (with_reducible refine Calls.mono (QN1.out _ HB.out) ?_; skip; rintro _ W_ ⟨rfl, D_⟩; have HB_ : Aside0 (Below w.heap.size w W_) := ⟨by obtain ⟨m_, e_⟩ := D_.out; rw [e_]; exact pw_below_drewN (HB.out) m_⟩; clear HB D_; have HB := HB_; clear HB_) | (with_reducible refine Calls.mono (QS.out _ HB.out) ?_; skip; rintro _ W_ ⟨rfl, D_⟩; have HB_ : Aside0 (Below w.heap.size w W_) := ⟨by obtain ⟨m_, e_⟩ := D_.out; rw [e_]; exact pw_below_drewN (HB.out) m_⟩; clear HB D_; have HB := HB_; clear HB_) | (with_reducible refine Calls.mono (QT.out _) ?_; skip; rintro _ wt_ ⟨rfl, B_⟩; have HB_ := Aside0.mk (HB.out.trans (B_.mono HB.out.size)); clear HB; have HB := HB_; clear HB_ B_))
    go_ret
    exact ⟨rfl, HB.out⟩
  | true =>
  cases b2 with
  | false =>
    go_enter Try.func6, Try.ntmps6
    go_wp2_with (first | (with_reducible refine Calls.mono (Q0.out _ HB.out) ?_; skip; rintro _ W_ ⟨rfl, D_⟩; have HB_ : Aside0 (Below w.heap.size w W_) := ⟨by obtain ⟨m_, e_⟩ := D_.out; rw [e_]; exact pw_below_drewN (HB.out) m_⟩; clear HB D_; have HB := HB_; clear HB_) | (with_reducible refine Calls.mono (Q1.out _ HB.out) ?_; skip; rintro _ W_ ⟨rfl, D_⟩; have HB_ : Aside0 (Below w.heap.size w W_) := ⟨by obtain ⟨m_, e_⟩ := D_.out; rw [e_]; exact pw_below_drewN (HB.out) m_⟩; clear HB D_; have HB := HB_; clear HB_) | (with_reducible refine Calls.mono (Q2.out _ HB.out) ?_; skip; rintro _ W_ ⟨rfl, D_⟩; have HB_ : Aside0 (Below w.heap.size w W_) := ⟨by obtain ⟨m_, e_⟩ := D_.out; rw [e_]; exact pw_below_drewN (HB.out) m_⟩; clear HB D_; have HB := HB_; clear HB_) | (with_reducible refine Calls.mono (QN0.out _ HB.out) ?_; skip; rintro _ W_ ⟨rfl, D_⟩; have HB_ : Aside0 (Below w.heap.size w W_) := ⟨by obtain ⟨m_, e_⟩ := D_.out; rw [e_]; exact pw_below_drewN (HB.out) m_⟩; clear HB D_; have HB := HB_; clear HB_) | (with_reducible refine Calls.mono (QN1.out _ HB.out) ?_; skip; rintro _ W_ ⟨rfl, D_⟩; have HB_ : Aside0 (Below w.heap.size w W_) := ⟨by obtain ⟨m_, e_⟩ := D_.out; rw [e_]; exact pw_below_drewN (HB.out) m_⟩; clear HB D_; have HB := HB_; clear HB_) | (with_reducible refine Calls.mono (QS.out _ HB.out) ?_; skip; rintro _ W_ ⟨rfl, D_⟩; have HB_ : Aside0 (Below w.heap.size w W_) := ⟨by obtain ⟨m_, e_⟩ := D_.out; rw [e_]; exact pw_below_drewN (HB.out) m_⟩; clear HB D_; have HB := HB_; clear HB_) | (with_reducible refine Calls.mono (QT.out _) ?_; skip; rintro _ wt_ ⟨rfl, B_⟩; have HB_ := Aside0.mk (HB.out.trans (B_.mono HB.out.size)); clear HB; have HB := HB_; clear HB_ B_))
    go_ret
    exact ⟨rfl, HB.out⟩
  | true =>
  cases bn with
  | false =>
    go_enter Try.func6, Try.ntmps6
    go_wp2_with (first | (with_reducible refine Calls.mono (Q0.out _ HB.out) ?_; skip; rintro _ W_ ⟨rfl, D_⟩; have HB_ : Aside0 (Below w.heap.size w W_) := ⟨by obtain ⟨m_, e_⟩ := D_.out; rw [e_]; exact pw_below_drewN (HB.out) m_⟩; clear HB D_; have HB := HB_; clear HB_) | (with_reducible refine Calls.mono (Q1.out _ HB.out) ?_; skip; rintro _ W_ ⟨rfl, D_⟩; have HB_ : Aside0 (Below w.heap.size w W_) := ⟨by obtain ⟨m_, e_⟩ := D_.out; rw [e_]; exact pw_below_drewN (HB.out) m_⟩; clear HB D_; have HB := HB_; clear HB_) | (with_reducible refine Calls.mono (Q2.out _ HB.out) ?_; skip; rintro _ W_ ⟨rfl, D_⟩; have HB_ : Aside0 (Below w.heap.size w W_) := ⟨by obtain ⟨m_, e_⟩ := D_.out; rw [e_]; exact pw_below_drewN (HB.out) m_⟩; clear HB D_; have HB := HB_; clear HB_) | (with_reducible refine Calls.mono (QN0.out _ HB.out) ?_; skip; rintro _ W_ ⟨rfl, D_⟩; have HB_ : Aside0 (Below w.heap.size w W_) := ⟨by obtain ⟨m_, e_⟩ := D_.out; rw [e_]; exact pw_below_drewN (HB.out) m_⟩; clear HB D_; have HB := HB_; clear HB_) | (with_reducible refine Calls.mono (QN1.out _ HB.out) ?_; skip; rintro _ W_ ⟨rfl, D_⟩; have HB_ : Aside0 (Below w.heap.size w W_) := ⟨by obtain ⟨m_, e_⟩ := D_.out; rw [e_]; exact pw_below_drewN (HB.out) m_⟩; clear HB D_; have HB := HB_; clear HB_) | (with_reducible refine Calls.mono (QS.out _ HB.out) ?_; skip; rintro _ W_ ⟨rfl, D_⟩; have HB_ : Aside0 (Below w.heap.size w W_) := ⟨by obtain ⟨m_, e_⟩ := D_.out; rw [e_]; exact pw_below_drewN (HB.out) m_⟩; clear HB D_; have HB := HB_; clear HB_) | (with_reducible refine Calls.mono (QT.out _) ?_; skip; rintro _ wt_ ⟨rfl, B_⟩; have HB_ := Aside0.mk (HB.out.trans (B_.mono HB.out.size)); clear HB; have HB := HB_; clear HB_ B_))
    go_ret
    exact ⟨rfl, HB.out⟩
  | true =>
  cases bm with
  | false =>
    go_enter Try.func6, Try.ntmps6
    go_wp2_with (first | (with_reducible refine Calls.mono (Q0.out _ HB.out) ?_; skip; rintro _ W_ ⟨rfl, D_⟩; have HB_ : Aside0 (Below w.heap.size w W_) := ⟨by obtain ⟨m_, e_⟩ := D_.out; rw [e_]; exact pw_below_drewN (HB.out) m_⟩; clear HB D_; have HB := HB_; clear HB_) | (with_reducible refine Calls.mono (Q1.out _ HB.out) ?_; skip; rintro _ W_ ⟨rfl, D_⟩; have HB_ : Aside0 (Below w.heap.size w W_) := ⟨by obtain ⟨m_, e_⟩ := D_.out; rw [e_]; exact pw_below_drewN (HB.out) m_⟩; clear HB D_; have HB := HB_; clear HB_) | (with_reducible refine Calls.mono (Q2.out _ HB.out) ?_; skip; rintro _ W_ ⟨rfl, D_⟩; have HB_ : Aside0 (Below w.heap.size w W_) := ⟨by obtain ⟨m_, e_⟩ := D_.out; rw [e_]; exact pw_below_drewN (HB.out) m_⟩; clear HB D_; have HB := HB_; clear HB_) | (with_reducible refine Calls.mono (QN0.out _ HB.out) ?_; skip; rintro _ W_ ⟨rfl, D_⟩; have HB_ : Aside0 (Below w.heap.size w W_) := ⟨by obtain ⟨m_, e_⟩ := D_.out; rw [e_]; exact pw_below_drewN (HB.out) m_⟩; clear HB D_; have HB := HB_; clear HB_) | (with_reducible refine Calls.mono (QN1.out _ HB.out) ?_; skip; rintro _ W_ ⟨rfl, D_⟩; have HB_ : Aside0 (Below w.heap.size w W_) := ⟨by obtain ⟨m_, e_⟩ := D_.out; rw [e_]; exact pw_below_drewN (HB.out) m_⟩; clear HB D_; have HB := HB_; clear HB_) | (with_reducible refine Calls.mono (QS.out _ HB.out) ?_; skip; rintro _ W_ ⟨rfl, D_⟩; have HB_ : Aside0 (Below w.heap.size w W_) := ⟨by obtain ⟨m_, e_⟩ := D_.out; rw [e_]; exact pw_below_drewN (HB.out) m_⟩; clear HB D_; have HB := HB_; clear HB_) | (with_reducible refine Calls.mono (QT.out _) ?_; skip; rintro _ wt_ ⟨rfl, B_⟩; have HB_ := Aside0.mk (HB.out.trans (B_.mono HB.out.size)); clear HB; have HB := HB_; clear HB_ B_))
    go_ret
    exact ⟨rfl, HB.out⟩
  | true =>
  cases bs with
  | false =>
    go_enter Try.func6, Try.ntmps6
    go_wp2_with (first | (with_reducible refine Calls.mono (Q0.out _ HB.out) ?_; skip; rintro _ W_ ⟨rfl, D_⟩; have HB_ : Aside0 (Below w.heap.size w W_) := ⟨by obtain ⟨m_, e_⟩ := D_.out; rw [e_]; exact pw_below_drewN (HB.out) m_⟩; clear HB D_; have HB := HB_; clear HB_) | (with_reducible refine Calls.mono (Q1.out _ HB.out) ?_; skip; rintro _ W_ ⟨rfl, D_⟩; have HB_ : Aside0 (Below w.heap.size w W_) := ⟨by obtain ⟨m_, e_⟩ := D_.out; rw [e_]; exact pw_below_drewN (HB.out) m_⟩; clear HB D_; have HB := HB_; clear HB_) | (with_reducible refine Calls.mono (Q2.out _ HB.out) ?_; skip; rintro _ W_ ⟨rfl, D_⟩; have HB_ : Aside0 (Below w.heap.size w W_) := ⟨by obtain ⟨m_, e_⟩ := D_.out; rw [e_]; exact pw_below_drewN (HB.out) m_⟩; clear HB D_; have HB := HB_; clear HB_) | (with_reducible refine Calls.mono (QN0.out _ HB.out) ?_; skip; rintro _ W_ ⟨rfl, D_⟩; have HB_ : Aside0 (Below w.heap.size w W_) := ⟨by obtain ⟨m_, e_⟩ := D_.out; rw [e_]; exact pw_below_drewN (HB.out) m_⟩; clear HB D_; have HB := HB_; clear HB_) | (with_reducible refine Calls.mono (QN1.out _ HB.out) ?_; skip; rintro _ W_ ⟨rfl, D_⟩; have HB_ : Aside0 (Below w.heap.size w W_) := ⟨by obtain ⟨m_, e_⟩ := D_.out; rw [e_]; exact pw_below_drewN (HB.out) m_⟩; clear HB D_; have HB := HB_; clear HB_) | (with_reducible refine Calls.mono (QS.out _ HB.out) ?_; skip; rintro _ W_ ⟨rfl, D_⟩; have HB_ : Aside0 (Below w.heap.size w W_) := ⟨by obtain ⟨m_, e_⟩ := D_.out; rw [e_]; exact pw_below_drewN (HB.out) m_⟩; clear HB D_; have HB := HB_; clear HB_) | (with_reducible refine Calls.mono (QT.out _) ?_; skip; rintro _ wt_ ⟨rfl, B_⟩; have HB_ := Aside0.mk (HB.out.trans (B_.mono HB.out.size)); clear HB; have HB := HB_; clear HB_ B_))
    go_ret
    exact ⟨rfl, HB.out⟩
  | true =>
  have HL0 : Aside0 (a0.length ≤ 30) := ⟨gn rfl⟩
  have HL1 : Aside0 (a1.length ≤ 30) := ⟨gm rfl⟩
  have HL2 : Aside0 (a2.length ≤ 30) := ⟨gs rfl⟩
  have t0 : tot a0 ≤ 300000000000 := by
    have h_ := tot_le 2147483647 a0 (g0 rfl).2
    have : a0.length * 2147483647 ≤ 30 * 2147483647 := Nat.mul_le_mul_right _ HL0.out
    omega
  have t1 : tot a1 ≤ 300000000000 := by
    have h_ := tot_le 2147483647 a1 (g1 rfl).2
    have : a1.length * 2147483647 ≤ 30 * 2147483647 := Nat.mul_le_mul_right _ HL1.out
    omega
  obtain ⟨ka, ea⟩ := copied_ev a0 (by have := HL0.out; omega) (fun x hx => by have := (g0 rfl).2 x hx; omega)
  obtain ⟨kb, eb⟩ := copied_ev (a0 ++ a1) (by have := HL0.out; have := HL1.out; simp; omega) (fun x hx => by
    rcases List.mem_append.1 hx with hx | hx
    · have := (g0 rfl).2 x hx; omega
    · have := (g1 rfl).2 x hx; omega)
  have EA := Aside0.mk (ea _ (Nat.le_refl _))
  have EB := Aside0.mk (eb _ (Nat.le_refl _))
  have HT0 : Aside0 (tot a0 ≤ 900000000000) := ⟨by omega⟩
  have HT1 : Aside0 (tot (a0 ++ a1) ≤ 900000000000) := ⟨by rw [tot_app]; omega⟩
  clear ea eb t0 t1 g0 g1 g2 gn gm gs l0 l1 l2
  go_enter Try.func6, Try.ntmps6
  go_wp2_with (first | (with_reducible refine Calls.mono (Q0.out _ HB.out) ?_; skip; rintro _ W_ ⟨rfl, D_⟩; have HB_ : Aside0 (Below w.heap.size w W_) := ⟨by obtain ⟨m_, e_⟩ := D_.out; rw [e_]; exact pw_below_drewN (HB.out) m_⟩; clear HB D_; have HB := HB_; clear HB_) | (with_reducible refine Calls.mono (Q1.out _ HB.out) ?_; skip; rintro _ W_ ⟨rfl, D_⟩; have HB_ : Aside0 (Below w.heap.size w W_) := ⟨by obtain ⟨m_, e_⟩ := D_.out; rw [e_]; exact pw_below_drewN (HB.out) m_⟩; clear HB D_; have HB := HB_; clear HB_) | (with_reducible refine Calls.mono (Q2.out _ HB.out) ?_; skip; rintro _ W_ ⟨rfl, D_⟩; have HB_ : Aside0 (Below w.heap.size w W_) := ⟨by obtain ⟨m_, e_⟩ := D_.out; rw [e_]; exact pw_below_drewN (HB.out) m_⟩; clear HB D_; have HB := HB_; clear HB_) | (with_reducible refine Calls.mono (QN0.out _ HB.out) ?_; skip; rintro _ W_ ⟨rfl, D_⟩; have HB_ : Aside0 (Below w.heap.size w W_) := ⟨by obtain ⟨m_, e_⟩ := D_.out; rw [e_]; exact pw_below_drewN (HB.out) m_⟩; clear HB D_; have HB := HB_; clear HB_) | (with_reducible refine Calls.mono (QN1.out _ HB.out) ?_; skip; rintro _ W_ ⟨rfl, D_⟩; have HB_ : Aside0 (Below w.heap.size w W_) := ⟨by obtain ⟨m_, e_⟩ := D_.out; rw [e_]; exact pw_below_drewN (HB.out) m_⟩; clear HB D_; have HB := HB_; clear HB_) | (with_reducible refine Calls.mono (QS.out _ HB.out) ?_; skip; rintro _ W_ ⟨rfl, D_⟩; have HB_ : Aside0 (Below w.heap.size w W_) := ⟨by obtain ⟨m_, e_⟩ := D_.out; rw [e_]; exact pw_below_drewN (HB.out) m_⟩; clear HB D_; have HB := HB_; clear HB_) | (with_reducible refine Calls.mono (QT.out _) ?_; skip; rintro _ wt_ ⟨rfl, B_⟩; have HB_ := Aside0.mk (HB.out.trans (B_.mono HB.out.size)); clear HB; have HB := HB_; clear HB_ B_))
  refine (implMatch_calls ka _ A0 c0 a0 A2 c2 a2 (Kd.C_below HR0.out HB.out) hc0 (Kd.C_below HR2.out HB.out) hc2 EA.out HT0.out (by have := HL2.out; omega)).mono ?_
  rintro _ W5 ⟨v5, rfl, hR5, B5⟩
  obtain ⟨A5, c5, rfl, hl5, hC5⟩ := Kd.R_reads hR5
  have HB5 := Aside0.mk (HB.out.trans (B5.mono HB.out.size))
  have HC5 : Aside0 (Kd.C Kd.bool W5 A5 a2.length (a2.map (mt (build a0) 0))) := ⟨by have := hC5; rwa [List.length_map] at this⟩
  rw [List.length_map]
  obtain ⟨hs0, hh0, he0⟩ := heads HR0.out
  obtain ⟨hs1, hh1, he1⟩ := heads HR1.out
  have HH0 := Aside0.mk (Kd.C_below hh0 HB5.out)
  have HH1 := Aside0.mk (Kd.C_below hh1 HB5.out)
  have HE0 := Aside0.mk (he0.below HB5.out)
  have HE1 := Aside0.mk (he1.below HB5.out)
  clear hR5 B5 HB hl5 hC5 hh0 hh1 he0 he1
  have H5 := Aside0.mk (Below.refl W5.heap.size W5)
  go_wp2_with (first | ((with_reducible refine gate_builtin (b := .append) (xs := #[.tmp 40, .tmp 41]) rfl ?_); at_builtin; refine Kd.R_append_rows hdK (w0 := W5) W5.heap.size rfl (.tmp 40) (.tmp 41) 27 22 (.slice none 0 0) 24 rfl Try.underlying27 (by kernel_rfl) rfl (by decide) (by omega) _ [] hs0 _ _ _ (fun _ => True) (fun _ => False) rfl rfl ?_ ?_ (fun _ _ h => h) (fun _ h_ => h_.elim) (fun _ _ => trivial) ?_ ?_ ?_ ?_; exact own0h _ _ H5.out.size; exact Kd.C_below HH0.out (below_alloc H5.out _); exact below_alloc H5.out _; (rw [Own.size_alloc]; have := H5.out.size; omega); (have := HL0.out; simp; omega); intro v1 w1 hR1 hB1 hG1 hA1; rw [List.nil_append] at hR1; have := HE0.out.1; obtain ⟨A8, c8, e8⟩ : ∃ A c, v1 = .slice A (a0.length) c := (by obtain ⟨A_, c_, e_⟩ := Kd.R_slice hR1; exact ⟨A_, c_, by rw [e_]; simp; omega⟩); subst e8; clear H5; have H5 := Aside0.mk hB1; have HV8 := Aside0.mk hR1; clear hR1 hB1 hG1 hA1) | ((with_reducible refine gate_builtin (b := .append) (xs := #[.tmp 42, .tmp 43]) rfl ?_); at_builtin; refine Kd.R_append_rows hdK (w0 := W5) W5.heap.size rfl (.tmp 42) (.tmp 43) 27 22 (.slice none 0 0) 24 rfl Try.underlying27 (by kernel_rfl) rfl (by decide) (by omega) _ hs0 hs1 _ _ _ (fun _ => True) (fun _ => False) rfl rfl ?_ ?_ (fun _ _ h => h) (fun _ h_ => h_.elim) (fun _ _ => trivial) ?_ ?_ ?_ ?_; exact HV8.out; exact Kd.C_below HH1.out H5.out; exact H5.out; (exact H5.out.size); (have := HL0.out; have := HL1.out; have := HE0.out.1; omega); intro v1 w1 hR1 hB1 hG1 hA1; have := HE0.out.1; have := HE1.out.1; obtain ⟨A9, c9, e9⟩ : ∃ A c, v1 = .slice A (a0.length + a1.length) c := (by obtain ⟨A_, c_, e_⟩ := Kd.R_slice hR1; exact ⟨A_, c_, by rw [e_]; simp; omega⟩); subst e9; clear H5; have H5 := Aside0.mk hB1; have HV9 := Aside0.mk hR1; clear hR1 hB1 hG1 hA1))
  obtain ⟨hl9, hC9⟩ : a0.length + a1.length ≤ c9 ∧ hdK.C w1 A9 (a0.length + a1.length) (hs0 ++ hs1) := by
    obtain ⟨Ax, cx, ex, hlx, hCx⟩ := Kd.R_reads HV9.out
    have he : (hs0 ++ hs1).length = a0.length + a1.length := by rw [List.length_append, HE0.out.1, HE1.out.1]
    rw [he] at ex hlx hCx
    injection ex with ex1 ex2 ex3
    subst ex1 ex3
    exact ⟨hlx, hCx⟩
  have hC9' := unheads hC9 ((HE0.out.below H5.out).app (HE1.out.below H5.out))
  rw [← List.length_append] at hl9 hC9'
  rw [← List.length_append]
  refine (implMatch_calls kb _ A9 c9 (a0 ++ a1) A2 c2 a2 hC9' hl9 (Kd.C_below HR2.out (HB5.out.trans (H5.out.mono HB5.out.size))) hc2 EB.out HT1.out (by have := HL2.out; omega)).mono ?_
  rintro _ W6 ⟨v6, rfl, hR6, B6⟩
  obtain ⟨A6, c6, rfl, hl6, hC6⟩ := Kd.R_reads hR6
  have HB6 := Aside0.mk ((HB5.out.trans (H5.out.mono HB5.out.size)).trans (B6.mono (by have := HB5.out.size; have := H5.out.size; omega)))
  have HC6 : Aside0 (Kd.C Kd.bool W6 A6 a2.length (a2.map (mt (build (a0 ++ a1)) 0))) := ⟨by have := hC6; rwa [List.length_map] at this⟩
  have HC7 : Aside0 (Kd.C Kd.bool W6 A5 a2.length (a2.map (mt (build a0) 0))) := ⟨Kd.C_below HC5.out (H5.out.trans (B6.mono H5.out.size))⟩
  rw [List.length_map]
  clear hR6 B6 hl6 hC6 H5 HC5 HB5 HH0 HH1 HE0 HE1 hl9 hC9 hC9' HV8 HV9
  have hqq : ((a2.length : Int) != (a2.length : Int)) = false := by simp
  go_wp2_with fail
  go_loopg [61] a2.length (fun kq v61 w' => ∃ (i : Nat), v61 = .int .i64 i ∧ Aside0 (i + kq = a2.length) ∧ Aside0 (w' = W6))
  case atStart => exact ⟨0, rfl, ⟨by omega⟩, ⟨rfl⟩⟩
  case round =>
    obtain ⟨i, rfl, ⟨hik⟩, ⟨hw⟩⟩ := hrel
    subst hw
    have HK := Aside0.mk hik
    clear hik
    by_cases q1 : (i : Int) < (a2.length : Int)
    · have hi : i < a2.length := by omega
      obtain ⟨ad5, rfl, z5⟩ := ReadsOf.at_ (Kd.reads_of_C (enc := Value.bool) (d := false) (h1 := fun _ => rfl) HC7.out) i (by omega) q1
      obtain ⟨ad6, rfl, z6⟩ := ReadsOf.at_ (Kd.reads_of_C (enc := Value.bool) (d := false) (h1 := fun _ => rfl) HC6.out) i (by omega) q1
      obtain ⟨x5, hx5⟩ : ∃ b, b = mt (build a0) 0 a2[i] := ⟨_, rfl⟩
      obtain ⟨x6, hx6⟩ : ∃ b, b = mt (build (a0 ++ a1)) 0 a2[i] := ⟨_, rfl⟩
      have himp : x5 = true → x6 = true := fun h => by rw [hx6]; exact build_more a0 a1 _ (by rw [← hx5]; exact h)
      have z5' : wr.cell? (ad5.add i) = some (.bool x5) := by
        rw [hx5]
        have h_ := z5
        simpa [rdOf, List.getD_eq_getElem?_getD, List.getElem?_map, List.getElem?_eq_getElem hi] using h_
      have z6' : wr.cell? (ad6.add i) = some (.bool x6) := by
        rw [hx6]
        have h_ := z6
        simpa [rdOf, List.getD_eq_getElem?_getD, List.getElem?_map, List.getElem?_eq_getElem hi] using h_
      clear z5 z6 hx5 hx6
      have p1 : (0 : Int) ≤ i := by omega
      have q1b := decide_eq_true q1
      have HL2' := HL2.out
      cases x5 with
      | true =>
        obtain rfl := himp rfl
        clear himp
        go_wp2_with fail
        have HK' := HK.out
        cases gk with
        | zero => omega
        | succ k1 =>
          go_roundg k1
          case measure => omega
          case rel => exact ⟨i + 1, rfl, ⟨by omega⟩, ⟨rfl⟩⟩
      | false =>
        clear himp
        go_wp2_with fail
        have HK' := HK.out
        cases gk with
        | zero => omega
        | succ k1 =>
          go_roundg k1
          case measure => omega
          case rel => exact ⟨i + 1, rfl, ⟨by omega⟩, ⟨rfl⟩⟩
    · have q1b := decide_eq_false q1
      have HB := HB6
      clear HB6
      go_wp2_with (first | (with_reducible refine Calls.mono (QT.out _) ?_; skip; rintro _ wt_ ⟨rfl, B_⟩; have HB_ := Aside0.mk (HB.out.trans (B_.mono HB.out.size)); clear HB; have HB := HB_; clear HB_ B_))
      go_ret
      exact ⟨rfl, HB.out⟩
end Go.Proofs.Ytckdpckdabfkbaa.WalkFnMatchMore
