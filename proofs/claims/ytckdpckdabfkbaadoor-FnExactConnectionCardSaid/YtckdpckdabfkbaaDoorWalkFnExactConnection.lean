/- The walk of the law FnExactConnection. -/
import Derived.Deep.DeepMust
import Derived.Outline
import Derived.Test.YtckdpckdabfkbaaDoorConnL
import Derived.Test.YtckdpckdabfkbaaDoorSnt
namespace Go.Proofs.YtckdpckdabfkbaaDoor.WalkFnExactConnection
open Go.RowKit Go.Proofs.YtckdpckdabfkbaaDoorW.PrintWords Go.Proofs.YtckdpckdabfkbaaDoor.Plain Go.Proofs.YtckdpckdabfkbaaDoor.Num Go.Proofs.YtckdpckdabfkbaaDoor.PA
set_option linter.unusedVariables false
set_option linter.unusedSimpArgs false
set_option maxHeartbeats 4000000 in
set_option maxRecDepth 100000 in
theorem walk (a0 : Int) (a1 : Int) (A2 : Option Addr) (c2 : Nat) (a2 : (List Int)) (a3 : Int) (a4 : Int) (w : World) (hL : laidMet Tryd.prog Rows.fnExactConnectionRow.laid w) (hg0 : (Lit.int .i64 a0).wf = true) (hg1 : (Lit.int .i64 a1).wf = true) (hr2 : Kd.C (Kd.int .i64) w A2 a2.length a2) (hc2 : a2.length ≤ c2) (hg2 : a2.length * 8 ≤ 140737488351232 ∧ ∀ y0 ∈ a2, (Lit.int .i64 y0).wf = true) (hg3 : (Lit.int .i64 a3).wf = true) (hg4 : (Lit.int .i64 a4).wf = true) :
    Calls Tryd.prog 4 #[.int .i64 a0, .int .i64 a1, .slice A2 a2.length c2, .int .i64 a3, .int .i64 a4] w fun e w' => e = .returned (.bool true) ∧ Below w.heap.size w w' := by
  have HS := Aside0.mk (snt_of_laid hL)
  have HR := Aside0.mk hr2
  clear hL hr2 hg0 hg1 hg2 hg3 hg4
  by_cases h1 : (a2.length : Int) > 2147483647
  · go_enter Tryd.func4, Tryd.ntmps4
    go_wp2_with fail
    go_ret
    exact ⟨rfl, Below.refl _ _⟩
  by_cases h2 : (a2.length : Int) > 400
  · go_enter Tryd.func4, Tryd.ntmps4
    go_wp2_with (go_at_call 7; refine (costs_calls _ HS.out).mono ?_; rintro _ W1 ⟨rfl, hB1⟩)
    go_ret
    exact ⟨rfl, hB1⟩
  obtain ⟨⟨r1, r2, r3, r4⟩, ⟨k, hk⟩, hsc⟩ := conn_ev a0 a1 a2 a3 a4 (by omega)
  have SP := Aside0.mk (spec_ConnectionAt.calls k a0 a1 A2 c2 a2 a3 a4 r1 r2 r3 r4 w HR.out hc2 (hk k (Nat.le_refl _)))
  clear hk
  go_enter Tryd.func4, Tryd.ntmps4
  go_wp2_with fail
  with_reducible refine Calls.mono SP.out ?_
  rintro _ W1 ⟨v1, rfl, hR, hB⟩
  have HB1 := Aside0.mk hB
  clear SP
  rcases hsc with h | ⟨h, hbad⟩ | ⟨R, C, p, q, rfl, rfl, rfl, rfl, g1, g2, g3, g4, gl, gp, gq, gi, h⟩
  · simp only at h
    subst h
    clear hR hB
    go_wp2_with (go_at_call 7; refine (costs_calls _ (HS.out.below HB1.out)).mono ?_; rintro _ W2 ⟨rfl, hB2⟩)
    go_ret
    exact ⟨rfl, HB1.out.trans (hB2.mono HB1.out.size)⟩
  · simp only [Prod.mk.injEq] at h
    obtain ⟨rfl, rfl⟩ := h
    have CB := Aside0.mk (connBad_calls W1 a0 a1 A2 c2 a2 a3 a4 hbad)
    clear hR hB hbad
    go_wp2_with fail
    with_reducible refine Calls.mono CB.out ?_
    rintro _ W2 ⟨rfl, rfl⟩
    go_wp2_with (go_at_call 7; refine (costs_calls _ (HS.out.below HB1.out)).mono ?_; rintro _ W2 ⟨rfl, hB2⟩)
    go_ret
    exact ⟨rfl, HB1.out.trans (hB2.mono HB1.out.size)⟩
  · simp only [Prod.mk.injEq] at h
    obtain ⟨rfl, rfl, rfl, rfl⟩ := h
    obtain ⟨A1, c1, rfl, hc1, hC1, -⟩ := R_row hR
    have CO := Aside0.mk (connOk_calls W1 (HS.out.below HB1.out) R C A2 c2 a2 p q (Kd.C_below HR.out HB1.out) hc2 g1 g2 g3 g4 gl gp gq gi)
    have hwl : (wct R C (w16 a2) a2.length).length = 16 + 2 * a2.length := by rw [wct_len, w16_len, Nat.min_self]
    have hn4 : a2.length ≤ 400 := by omega
    have HC1 : Aside0 (Kd.C (Kd.int .u8) W1 A1 (wct R C (w16 a2) a2.length).length (wct R C (w16 a2) a2.length)) := ⟨hC1⟩
    have HN := Aside0.mk hwl
    have HN4 := Aside0.mk hn4
    generalize hx : ((w16 a2)[R * q + p]'(by rw [w16_len]; exact gi)) = x at CO ⊢
    generalize wct R C (w16 a2) a2.length = ll at *
    clear hx hR hB g1 g2 g3 g4 gl gp gq gi hC1 hwl hn4
    go_wp2_with fail
    with_reducible refine Calls.mono CO.out ?_
    rintro _ W2 ⟨A2', c2', rfl, hc2', hC2, hB2⟩
    have HB2 := Aside0.mk (HB1.out.trans (hB2.mono HB1.out.size))
    have SM := Aside0.mk (same_calls W2 A2' A1 c2' c1 (16 + 2 * a2.length) ll HN.out hC2 hc2' (by rw [← HN.out]; exact Kd.C_below HC1.out hB2) (by rw [← HN.out]; exact hc1) (by rw [HN.out]; have := HN4.out; omega))
    rw [HN.out]
    clear hC2 hB2 hc2' CO
    go_wp2_with (first | (with_reducible refine Calls.mono SM.out ?_; rintro _ W3 ⟨rfl, ⟨⟨q_, rfl⟩⟩⟩) | (go_at_call 7; refine (costs_calls _ (HS.out.below (pw_below_drewN HB2.out _))).mono ?_; rintro _ W4 ⟨rfl, hB4⟩))
    go_ret
    exact ⟨rfl, (pw_below_drewN HB2.out _).trans (hB4.mono HB2.out.size)⟩
end Go.Proofs.YtckdpckdabfkbaaDoor.WalkFnExactConnection
