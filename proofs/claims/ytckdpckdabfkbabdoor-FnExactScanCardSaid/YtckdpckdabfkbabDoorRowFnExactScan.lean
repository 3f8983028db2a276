/- The row of the law FnExactScan out of its walk: each argument is opened into plain data; the walk says that the call returns true and changes nothing that was there. -/
import Derived.Test.YtckdpckdabfkbabDoorRows
import Derived.Test.YtckdpckdabfkbabDoorOpen
import Derived.Test.YtckdpckdabfkbabDoorWalkFnExactScan
import Derived.Test.YtckdpckdabfkbabDoorTie
import Derived.Test.YtckdpckdabfkbabDoorCards
import Derived.WalkKit
import Derived.ProofKit
import Derived.OpenShut
import Derived.ShutString
import Derived.ChangeOld
import Derived.Below
import Derived.SizedLaws
import Derived.LaidMore
import Derived.Stop.Joined
import Derived.SevenTiedAt
import Derived.MakeChecks
import Derived.Lay
namespace Go.Proofs.YtckdpckdabfkbabDoor.fnExactScan
open Go.ChangeShapes Go.WideShapes Go.ChangeAt Go.RowKit Go.Proofs.YtckdpckdabfkbabDoor.Open Go.Proofs.YtckdpckdabfkbabDoorW.PrintWords
open Go.ChangeMaps (open_string shut_string)
set_option linter.unusedVariables false
set_option linter.unusedSimpArgs false
theorem own : ownKnob Tryd.prog.godebug = none := by kernel_rfl
theorem laidOut : laidOutB Tryd.prog = true := by kernel_rfl
theorem opens0 : Opens Tryd.prog 38 (Kd.pair (Kd.slice 21 (Kd.int .i32)) (Kd.pair (Kd.slice 21 (Kd.int .i32)) (Kd.pair Kd.bool (Kd.pair Kd.bool (Kd.int .i64))))) (fun a => (a.1.length * 4 ≤ 140737488351232 ∧ ∀ y0 ∈ a.1, (Lit.int .i32 y0).wf = true) ∧ (a.2.1.length * 4 ≤ 140737488351232 ∧ ∀ y0 ∈ a.2.1, (Lit.int .i32 y0).wf = true) ∧ (True) ∧ (True) ∧ ((Lit.int .i64 a.2.2.2.2).wf = true)) := Opens.imp (opens_struct (by kernel_rfl) Tryd.underlying38 (fields_cons rfl (opens_slice (B := 4) (by kernel_rfl) Tryd.underlying36 (by kernel_rfl) (opens_int (by kernel_rfl) Tryd.underlying21)) (fields_cons rfl (opens_slice (B := 4) (by kernel_rfl) Tryd.underlying36 (by kernel_rfl) (opens_int (by kernel_rfl) Tryd.underlying21)) (fields_cons rfl (opens_bool (by kernel_rfl) Tryd.underlying4) (fields_cons rfl (opens_bool (by kernel_rfl) Tryd.underlying4) (fields_last rfl (opens_int (by kernel_rfl) Tryd.underlying3))))))) (fun _ h => h)
theorem opens1 : Opens Tryd.prog 22 (Kd.slice 5 (Kd.int .u8)) (fun a => a.length * 1 ≤ 140737488351232 ∧ ∀ y0 ∈ a, (Lit.int .u8 y0).wf = true) := Opens.imp (opens_slice (B := 1) (by kernel_rfl) Tryd.underlying22 (by kernel_rfl) (opens_int (by kernel_rfl) Tryd.underlying5)) (fun _ h => h)
theorem opens2 : Opens Tryd.prog 4 Kd.bool (fun a => True) := Opens.imp (opens_bool (by kernel_rfl) Tryd.underlying4) (fun _ h => h)
set_option maxRecDepth 100000 in
theorem door_met (os : Os) (args : Array Value) : laidMetH Tryd.prog Rows.fnExactScanRow.laid ((World.laidAll Tryd.prog os Rows.fnExactScanRow.laid).forCall (fun _ _ => 0) ⟨#[], args, []⟩).memory := by
  rw [MakeChecks.laidMetH_plain _ _ _ (by kernel_rfl)]; exact laidMet_laidAll _ (by kernel_rfl) (by kernel_rfl)
set_option maxHeartbeats 2000000 in
set_option maxRecDepth 100000 in
theorem lifted (os : Os) (started : os.Started) (H : Type) (enc : TypeId × Value → H) :
    ReturnsInHanded {} Tryd.checked os 7 .any (fun w args => (Rows.fnExactScanSpec.pre enc Tryd.prog Tryd.f7 [] false w args ∧ laidMetH Tryd.prog Rows.fnExactScanRow.laid w) ∧ sizedMet enc Tryd.prog Tryd.f7 (OpenSpec.ofChange Rows.fnExactScanSpec) false w args)
      (Rows.fnExactScanSpec.post enc Tryd.prog Tryd.f7 false true false false) := by
  refine returnsInHanded_of_change_and (C := Tryd.checked) (X := fun w _ => laidMetH Tryd.prog Rows.fnExactScanRow.laid w) (fun _ _ _ hh h => h.of_heap hh) own started (by kernel_rfl) Tryd.func7
    (ChangeSpec.witness_shaped (enc := enc) (C := Tryd.checked) (os := os) (X := fun w _ => laidMetH Tryd.prog Rows.fnExactScanRow.laid w) false (World.laidAll Tryd.prog os Rows.fnExactScanRow.laid) #[.agg #[.slice none 0 0, .slice none 0 0, .bool false, .bool false, .int .i64 0], .slice none 0 0, .bool false] 8 (World.laidAll_os _ _ _) (World.shaped_of_ZipB (by kernel_rfl) (by kernel_rfl)) (by kernel_rfl) (by kernel_rfl) (by kernel_rfl) (door_met os _)) ?_
  intro W base args ds gs before hval0 hW hcnd hsz0 hLH _
  have hL : laidMet Tryd.prog Rows.fnExactScanRow.laid W := by rw [MakeChecks.laidMetH_plain _ _ _ (by kernel_rfl)] at hLH; exact hLH
  have hsz : (DataW.weightsEach Tryd.prog (Tryd.f7.params.toList ++ Rows.fnExactScanSpec.plain.varTypes Tryd.prog) (ds ++ gs)).all (· ≤ reachBytes) = true := hsz0
  have hval : ∀ (j : Nat) t v, Tryd.f7.params[j]? = some t → args[j]? = some v → Value.okWide Tryd.prog W .any base t v := hval0
  have hW' := hW
  obtain ⟨p, q, hA0, hV, rfl, hfz, hnd⟩ := hW
  have hA : DataW.TrodAll enc Tryd.prog W 0 (fun _ => true) true Tryd.f7.params.toList args.toList ds p := hA0
  rw [Tryd.params7] at hA hval hsz
  obtain ⟨v0, vs0, d0, ds0, p0, q0, hargs, rfl, rfl, h0, r0⟩ := trodAll_cons hA
  obtain ⟨v1, vs1, d1, ds1, p1, q1, rfl, rfl, rfl, h1, r1⟩ := trodAll_cons r0
  obtain ⟨v2, vs2, d2, ds2, p2, q2, rfl, rfl, rfl, h2, r2⟩ := trodAll_cons r1
  obtain ⟨rfl, rfl, rfl⟩ := trodAll_nil r2
  obtain rfl : args = #[v0, v1, v2] := by cases args; simp_all
  obtain ⟨rfl, rfl⟩ := trodVars_none hV
  obtain ⟨a0, ha0, hg0⟩ := open_arg opens0 hsz (j := 0) rfl rfl h0
  have k0 := h0
  have lt0 : ∀ x ∈ p0, x.block < W.heap.size := by obtain ⟨m, hm⟩ := k0; exact DataW.trod_lt m _ _ _ hm
  obtain ⟨cs0, rfl, -⟩ := okWide_struct Tryd.underlying38 (hval 0 38 v0 rfl rfl)
  obtain ⟨cl0⟩ := cs0
  obtain ⟨a0_0, a0_1, a0_2, a0_3, a0_4⟩ := a0
  have hz0 : Kd.K (Kd.pair (Kd.slice 21 (Kd.int .i32)) (Kd.pair (Kd.slice 21 (Kd.int .i32)) (Kd.pair Kd.bool (Kd.pair Kd.bool (Kd.int .i64))))) W (⟨a0_0, a0_1, a0_2, a0_3, a0_4⟩) cl0 := ha0
  clear ha0
  obtain ⟨_, _, rfl, ⟨Aa0_0, ca0_0, rfl, hca0_0, hra0_0⟩, ⟨_, _, rfl, ⟨Aa0_1, ca0_1, rfl, hca0_1, hra0_1⟩, ⟨_, _, rfl, rfl, ⟨_, _, rfl, rfl, rfl⟩⟩⟩⟩ := hz0
  obtain ⟨hga0_0, hga0_1, hga0_2, hga0_3, hga0_4⟩ := hg0
  obtain ⟨a1, ha1, hg1⟩ := open_arg opens1 hsz (j := 1) rfl rfl h1
  have k1 := h1
  have lt1 : ∀ x ∈ p1, x.block < W.heap.size := by obtain ⟨m, hm⟩ := k1; exact DataW.trod_lt m _ _ _ hm
  obtain ⟨A1, len1, c1, rfl⟩ := okWide_slice Tryd.underlying22 (hval 1 22 v1 rfl rfl)
  obtain ⟨B1, b1, hcs1, hc1, hr1⟩ := ha1
  simp only [Value.cells, List.cons.injEq, Value.slice.injEq, and_true] at hcs1
  obtain ⟨rfl, rfl, rfl⟩ := hcs1
  obtain ⟨a2, ha2, hg2⟩ := open_arg opens2 hsz (j := 2) rfl rfl h2
  have k2 := h2
  have lt2 : ∀ x ∈ p2, x.block < W.heap.size := by obtain ⟨m, hm⟩ := k2; exact DataW.trod_lt m _ _ _ hm
  obtain ⟨b2, rfl, rfl, rfl⟩ := open_bool Tryd.underlying4 (hval 2 4 v2 rfl rfl) h2
  have hcs2 := ha2
  simp only [Kd.bool, Kd.scalar, Value.cells, List.cons.injEq, Value.bool.injEq, and_true, true_and] at hcs2
  obtain rfl : a2 = b2 := hcs2.symm
  clear hA0 hval0 hsz0 hsz
  refine (Go.Proofs.YtckdpckdabfkbabDoor.Scan.walk_exact Aa0_0 ca0_0 a0_0 Aa0_1 ca0_1 a0_1 a0_2 a0_3 a0_4 A1 c1 a1 a2 W hL hra0_0 hca0_0 hga0_0 hra0_1 hca0_1 hga0_1 hga0_4 hr1 hc1 hg1).mono fun e W' ⟨he, bel⟩ => ?_
  subst he
  exact ⟨_, rfl, _, _, _, [], _, [], hW', trodAll_mk1 (shut_bool Tryd.underlying4 _), (trodAll_cons_mk (Below.trod laidOut (by kernel_rfl) (of_decide_eq_true (by kernel_rfl)) k0 bel lt0) (trodAll_cons_mk (Below.trod laidOut (by kernel_rfl) (of_decide_eq_true (by kernel_rfl)) k1 bel lt1) (trodAll_cons_mk (Below.trod laidOut (by kernel_rfl) (of_decide_eq_true (by kernel_rfl)) k2 bel lt2) trodAll_mk0))), rfl, bel.frame _, fun h => by cases h⟩
theorem over : Rows.fnExactScanRow.holds Tryd.pinned (OpenSpec.ofChange Rows.fnExactScanSpec) :=
  OpenClaim.holds_of_wide 7 Tryd.f7 rfl rfl rfl rfl rfl rfl rfl ⟨rfl, rfl, rfl, rfl, rfl⟩ rfl rfl rfl rfl rfl (by kernel_rfl) Tryd.func7 (by kernel_rfl)
    (of_decide_eq_true (by kernel_rfl)) (by unfold Func.isWrapper; first | (rw [if_pos (by decide +kernel)]; kernel_rfl) | (rw [if_neg (by decide +kernel)]; exact ⟨rfl, rfl⟩))
    (fun os started H enc _ => lifted os started H enc)
theorem proved : Rows.FnExactScanSaid := over
theorem card : Rows.FnExactScanCardSaid :=
  Claim7.holds_tied_plain_at .later [] [.data, .listed, .pinned] true (true, "f4ddff57b11be66e765cd1819a31015736e657600427e53e5d76cd10e1171945") true
    proved (fun _ h => by cases h) (by kernel_rfl) (fun _ h => by cases h) fnExactScan_row_tie rfl ⟨rfl, rfl⟩ (by kernel_rfl) rfl
    (fun f fn hf hfn => by
      obtain rfl : f = 7 := Option.some.inj ((show Tryd.prog.funcNamed "pub-kaeriten/laws.FnExactScan" = some 7 by kernel_rfl).symm.trans hf) |>.symm
      obtain rfl : fn = Tryd.f7 := (Option.some.inj (Tryd.func7.symm.trans hfn)).symm
      exact ⟨by kernel_rfl, fun j t ht => by
        rw [Tryd.params7] at ht
        have hm : t ∈ [38, 22, 4] := by simpa using Array.mem_of_getElem? ht
        have hall : ([38, 22, 4].all fun u => !Tryd.prog.wantsStandIn u) = true := by kernel_rfl
        exact (show Tryd.prog.wantsStandIn t = false by simpa using List.all_eq_true.1 hall t hm)⟩)
    (by kernel_rfl)
#print axioms card
end Go.Proofs.YtckdpckdabfkbabDoor.fnExactScan
namespace Go.Proofs.YtckdpckdabfkbabDoor
/-- The row, under a short name, for the claim. -/
theorem fnExactScan_holds : Rows.FnExactScanCardSaid := fnExactScan.card
end Go.Proofs.YtckdpckdabfkbabDoor
