/- The walk of the law FnMorphCut. -/
import Derived.Test.YtckdpckdabfkbabDoorMorphC
import Derived.Test.YtckdpckdabfkbabDoorSnt
namespace Go.Proofs.YtckdpckdabfkbabDoor.WalkFnMorphCut
open Go.RowKit Go.Proofs.YtckdpckdabfkbabDoorW.PrintWords Go.Proofs.YtckdpckdabfkbabDoor.Plain Go.Proofs.YtckdpckdabfkbabDoor.Num
set_option linter.unusedVariables false
set_option linter.unusedSimpArgs false
theorem wrt_bytes (ms : List T3) (i : Nat) : ∀ x ∈ wrt ms i, 0 ≤ x ∧ x < 256 := fun x hx => by
  unfold wrt at hx
  rcases List.mem_append.1 hx with hx | hx
  · exact leb_one _ _ x hx
  · obtain ⟨m, _, hx⟩ := List.mem_flatMap.1 hx
    unfold mby at hx
    rcases List.mem_append.1 hx with hx | hx
    · rcases List.mem_append.1 hx with hx | hx <;> exact leb_one _ _ x hx
    · exact leb_one _ _ x hx
theorem wrt_head (ms : List T3) (i at_ : Nat) (hm : ms.length ≤ 200) (h8 : 8 ≤ at_) : valb (((wrt ms i).take at_).take 8) = ms.length := by
  rw [List.take_take, Nat.min_eq_left h8]
  have : (wrt ms i).take 8 = leb 8 ((ms.length : Int) % 18446744073709551616) := by
    unfold wrt
    rw [List.take_append_of_le_length (by simp [leb_length]), List.take_of_length_le (by simp [leb_length])]
  rw [this, leb8]
  simp only [valb]
  omega
set_option maxHeartbeats 4000000 in
set_option maxRecDepth 100000 in
theorem walk (A0 : Option Addr) (c0 : Nat) (a0 : (List (Int × Int × Int))) (a1 : Int) (w : World) (hL : laidMet Tryd.prog Rows.fnMorphCutRow.laid w) (hr0 : Kd.C (Kd.pair (Kd.int .i64) (Kd.pair (Kd.int .i64) (Kd.int .i64))) w A0 a0.length a0) (hc0 : a0.length ≤ c0) (hg0 : a0.length * 24 ≤ 140737488351232 ∧ ∀ y0 ∈ a0, (Lit.int .i64 y0.1).wf = true ∧ (Lit.int .i64 y0.2.1).wf = true ∧ (Lit.int .i64 y0.2.2).wf = true) (hg1 : (Lit.int .i64 a1).wf = true) :
    Calls Tryd.prog 4 #[.slice A0 a0.length c0, .int .i64 a1] w fun e w' => e = .returned (.bool true) ∧ Below w.heap.size w w' := by
  have HS := Aside0.mk (snt_of_laid hL)
  have hr0' : (tri .i64).C w A0 a0.length a0 := hr0
  have HR := Aside0.mk hr0'
  clear hL hr0 hr0' hg0 hg1
  by_cases h1 : (a0.length : Int) > 2147483647
  · go_enter Tryd.func4, Tryd.ntmps4
    go_wp2_with fail
    go_ret
    exact ⟨rfl, Below.refl _ _⟩
  · have SM := Aside0.mk (small16_calls w A0 c0 a0 HR.out hc0)
    go_enter Tryd.func4, Tryd.ntmps4
    go_wp2_with fail
    with_reducible refine Calls.mono SM.out ?_
    rintro _ W1 ⟨b, rfl, hb, hB1⟩
    have HB1 := Aside0.mk hB1
    clear hB1 SM
    cases b with
    | false =>
      clear hb
      go_wp2_with (go_at_call 8; refine (weighs_calls _ (HS.out.below HB1.out)).mono ?_; rintro _ W2 ⟨rfl, hB2⟩)
      go_ret
      exact ⟨rfl, HB1.out.trans (hB2.mono HB1.out.size)⟩
    | true =>
      have hl := hb rfl
      have MB := Aside0.mk (morphBytes_calls W1 A0 c0 a0 (Kd.C_below HR.out HB1.out) hc0 (by omega))
      have HL := Aside0.mk hl
      clear hb hl
      go_wp2_with fail
      with_reducible refine Calls.mono MB.out ?_
      rintro _ W2 ⟨v, rfl, hR, hB2⟩
      obtain ⟨data, hd⟩ : ∃ data, data = wrt (a0.map conv) a0.length := ⟨_, rfl⟩
      rw [← hd] at hR
      obtain ⟨A, c, rfl, hc, hC, -⟩ := R_row hR
      have HD := Aside0.mk hd
      have HC := Aside0.mk hC
      have HB2 := Aside0.mk (HB1.out.trans (hB2.mono HB1.out.size))
      have hdl : data.length = 8 + 6 * a0.length := by rw [hd, wrt_len]; simp
      have HDL := Aside0.mk hdl
      clear hR hB2 hd hC hdl MB
      by_cases c1 : a1 < 0
      · go_wp2_with (go_at_call 8; refine (weighs_calls _ (HS.out.below HB2.out)).mono ?_; rintro _ W3 ⟨rfl, hB3⟩)
        go_ret
        exact ⟨rfl, HB2.out.trans (hB3.mono HB2.out.size)⟩
      · by_cases c2 : a1 ≥ (data.length : Int)
        · go_wp2_with (go_at_call 8; refine (weighs_calls _ (HS.out.below HB2.out)).mono ?_; rintro _ W3 ⟨rfl, hB3⟩)
          go_ret
          exact ⟨rfl, HB2.out.trans (hB3.mono HB2.out.size)⟩
        · obtain ⟨k, rfl⟩ := Int.eq_ofNat_of_zero_le (show 0 ≤ a1 by omega)
          have hk : k < data.length := by omega
          have hkl : (data.take k).length = k := by simp; omega
          have MR := morphRead_calls W2 A c (data.take k) (HS.out.below HB2.out) (Kd.C_take HC.out (by omega)) (by omega) (fun x hx => by
            have := List.mem_of_mem_take hx
            rw [HD.out] at this
            exact wrt_bytes _ _ x this) (by have := HDL.out; have := HL.out; omega)
          rw [hkl] at MR
          have HMR := Aside0.mk MR
          have HKL := Aside0.mk hkl
          have p1 : (0 : Int) ≤ k := by omega
          have p2 : (k : Int) ≤ data.length := by omega
          have p3 : (data.length : Int) ≤ c := by omega
          have p4 : (k : Int) ≤ c := by omega
          clear MR hkl
          go_wp2_with fail
          with_reducible refine Calls.mono HMR.out ?_
          rintro _ W3 (⟨l, A', c', g8, hl, hfit, rfl, hlc, hC2, hB3⟩ | ⟨hbad, rfl, hB3⟩)
          · exfalso
            rw [HKL.out] at g8 hfit
            have hv := wrt_head (a0.map conv) a0.length k (by have := HL.out; simpa using this) g8
            rw [← HD.out, hl] at hv
            have := HDL.out
            simp at hv
            omega
          · have HB3 := Aside0.mk (HB2.out.trans (hB3.mono HB2.out.size))
            clear hB3 hbad HMR
            go_wp2_with (go_at_call 8; refine (weighs_calls _ (HS.out.below HB3.out)).mono ?_; rintro _ W4 ⟨rfl, hB4⟩)
            go_ret
            exact ⟨rfl, HB3.out.trans (hB4.mono HB3.out.size)⟩
end Go.Proofs.YtckdpckdabfkbabDoor.WalkFnMorphCut
