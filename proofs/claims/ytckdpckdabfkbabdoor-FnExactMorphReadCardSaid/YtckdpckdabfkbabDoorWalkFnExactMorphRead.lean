/- The walk of the law FnExactMorphRead. -/
import Derived.Test.YtckdpckdabfkbabDoorMorphL
import Derived.Test.YtckdpckdabfkbabDoorSnt
namespace Go.Proofs.YtckdpckdabfkbabDoor.WalkFnExactMorphRead
open Go.RowKit Go.Proofs.YtckdpckdabfkbabDoorW.PrintWords Go.Proofs.YtckdpckdabfkbabDoor.Plain Go.Proofs.YtckdpckdabfkbabDoor.Num
set_option linter.unusedVariables false
set_option linter.unusedSimpArgs false
theorem byte_of {y : Int} (h : (Lit.int .u8 y).wf = true) : 0 ≤ y ∧ y < 256 := by
  simp [Lit.wf, IntKind.min, IntKind.max, IntKind.bits, IntKind.signed] at h
  omega
set_option maxHeartbeats 4000000 in
set_option maxRecDepth 100000 in
theorem walk (A0 : Option Addr) (c0 : Nat) (a0 : (List Int)) (w : World) (hL : laidMet Tryd.prog Rows.fnExactMorphReadRow.laid w) (hr0 : Kd.C (Kd.int .u8) w A0 a0.length a0) (hc0 : a0.length ≤ c0) (hg0 : a0.length * 1 ≤ 140737488351232 ∧ ∀ y0 ∈ a0, (Lit.int .u8 y0).wf = true) :
    Calls Tryd.prog 3 #[.slice A0 a0.length c0] w fun e w' => e = .returned (.bool true) ∧ Below w.heap.size w w' := by
  have HS := Aside0.mk (snt_of_laid hL)
  have HR := Aside0.mk hr0
  have HBy : Aside0 (∀ y ∈ a0, 0 ≤ y ∧ y < 256) := ⟨fun y hy => byte_of (hg0.2 y hy)⟩
  have hsz := hg0.1
  clear hL hr0 hg0
  by_cases h1 : (a0.length : Int) > 2147483647
  · go_enter Tryd.func3, Tryd.ntmps3
    go_wp2_with fail
    go_ret
    exact ⟨rfl, Below.refl _ _⟩
  · by_cases h2 : (a0.length : Int) > 2000
    · go_enter Tryd.func3, Tryd.ntmps3
      go_wp2_with (go_at_call 8; refine (weighs_calls _ HS.out).mono ?_; rintro _ W1 ⟨rfl, hB1⟩)
      go_ret
      exact ⟨rfl, hB1⟩
    · have SP := Aside0.mk (specRead_calls w A0 c0 a0 HR.out hc0 HBy.out (by omega))
      go_enter Tryd.func3, Tryd.ntmps3
      go_wp2_with fail
      with_reducible refine Calls.mono SP.out ?_
      rintro _ W1 (⟨h8, rfl, hB1⟩ | ⟨l, h8, hl, (⟨hbad, rfl, hB1⟩ | ⟨hsh, rfl, hB1⟩ | ⟨hfit, A, c, rfl, hlc, hC1, hB1⟩)⟩)
      · have HB1 := Aside0.mk hB1
        have MR := Aside0.mk (morphRead_calls W1 A0 c0 a0 (HS.out.below hB1) (Kd.C_below HR.out hB1) hc0 HBy.out (by omega))
        clear hB1 SP
        go_wp2_with fail
        with_reducible refine Calls.mono MR.out ?_
        rintro _ W2 (⟨l, A, c, g8, hl, hfit, rfl, hlc, hC2, hB2⟩ | ⟨hbad, rfl, hB2⟩)
        · omega
        · have HB2 := Aside0.mk (HB1.out.trans (hB2.mono HB1.out.size))
          clear hB2 hbad MR
          go_wp2_with (go_at_call 8; refine (weighs_calls _ (HS.out.below HB2.out)).mono ?_; rintro _ W3 ⟨rfl, hB3⟩)
          go_ret
          exact ⟨rfl, HB2.out.trans (hB3.mono HB2.out.size)⟩
      · have HB1 := Aside0.mk hB1
        clear hB1 SP hl hbad
        go_wp2_with (go_at_call 8; refine (weighs_calls _ (HS.out.below HB1.out)).mono ?_; rintro _ W3 ⟨rfl, hB3⟩)
        go_ret
        exact ⟨rfl, HB1.out.trans (hB3.mono HB1.out.size)⟩
      · have HB1 := Aside0.mk hB1
        have HL := Aside0.mk hl
        have MR := Aside0.mk (morphRead_calls W1 A0 c0 a0 (HS.out.below hB1) (Kd.C_below HR.out hB1) hc0 HBy.out (by omega))
        clear hB1 SP hl
        go_wp2_with fail
        with_reducible refine Calls.mono MR.out ?_
        rintro _ W2 (⟨l', A, c, g8, hl, hfit, rfl, hlc, hC2, hB2⟩ | ⟨hbad, rfl, hB2⟩)
        · exfalso
          have := HL.out
          omega
        · have HB2 := Aside0.mk (HB1.out.trans (hB2.mono HB1.out.size))
          clear hB2 hbad MR
          go_wp2_with (go_at_call 8; refine (weighs_calls _ (HS.out.below HB2.out)).mono ?_; rintro _ W3 ⟨rfl, hB3⟩)
          go_ret
          exact ⟨rfl, HB2.out.trans (hB3.mono HB2.out.size)⟩
      · have HB1 := Aside0.mk hB1
        have HL := Aside0.mk hl
        have HC1 := Aside0.mk hC1
        have HF := Aside0.mk hfit
        have MR := Aside0.mk (morphRead_calls W1 A0 c0 a0 (HS.out.below hB1) (Kd.C_below HR.out hB1) hc0 HBy.out (by omega))
        clear hB1 SP hl hC1 hfit
        go_wp2_with fail
        with_reducible refine Calls.mono MR.out ?_
        rintro _ W2 (⟨l', A', c', g8, hl, hfit', rfl, hlc', hC2, hB2⟩ | ⟨hbad, rfl, hB2⟩)
        · obtain rfl : l' = l := by have := HL.out; omega
          have HB2 := Aside0.mk (HB1.out.trans (hB2.mono HB1.out.size))
          have hfit := HF.out
          have hm : (mrd a0 l').length = l' := by simp [mrd]
          have SM := same3_calls W2 A' A c' c (mrd a0 l') (by rw [hm]; exact hC2) (by omega) (by rw [hm]; exact Kd.C_below HC1.out hB2) (by omega)
          rw [hm] at SM
          have HSM := Aside0.mk SM
          clear SM hm hC2 hB2 hl hfit' hfit MR g8
          go_wp2_with (first | (with_reducible refine Calls.mono HSM.out ?_; rintro _ W3 ⟨rfl, ⟨⟨q, rfl⟩⟩⟩) | (go_at_call 8; refine (weighs_calls _ (HS.out.below (pw_below_drewN HB2.out _))).mono ?_; rintro _ W4 ⟨rfl, hB4⟩))
          go_ret
          exact ⟨rfl, (pw_below_drewN HB2.out _).trans (hB4.mono HB2.out.size)⟩
        · exfalso
          rcases hbad with h | ⟨l', h3, h4⟩
          · omega
          · have := HL.out
            have := HF.out
            omega
end Go.Proofs.YtckdpckdabfkbabDoor.WalkFnExactMorphRead
