/- The row of the law FnExactConnection out of its walk: each argument is opened into plain data; the walk says that the call returns true and changes nothing that was there. -/
import Derived.Test.YtckdpckdabfkbaaDoorRows
import Derived.Test.YtckdpckdabfkbaaDoorOpen
import Derived.Test.YtckdpckdabfkbaaDoorWalkFnExactConnection
import Derived.Test.YtckdpckdabfkbaaDoorTie
import Derived.Test.YtckdpckdabfkbaaDoorCards
import Derived.WalkKit
import Derived.ProofKit
import Derived.OpenShut
import Derived.ShutString
import Derived.ChangeOld
import Derived.Below
import Derived.SizedLaws
import Derived.LaidMore
import Derived.Stop.Joined
import Derived.SevenTiedAt
import Derived.MakeChecks
namespace Go.Proofs.YtckdpckdabfkbaaDoor.fnExactConnection
open Go.ChangeShapes Go.WideShapes Go.ChangeAt Go.RowKit Go.Proofs.YtckdpckdabfkbaaDoor.Open Go.Proofs.YtckdpckdabfkbaaDoorW.PrintWords
open Go.ChangeMaps (open_string shut_string)
set_option linter.unusedVariables false
theorem own : ownKnob Tryd.prog.godebug = none := by kernel_rfl
theorem laidOut : laidOutB Tryd.prog = true := by kernel_rfl
theorem opens0 : Opens Tryd.prog 3 (Kd.int .i64) (fun a => (Lit.int .i64 a).wf = true) := Opens.imp (opens_int (by kernel_rfl) Tryd.underlying3) (fun _ h => h)
theorem opens1 : Opens Tryd.prog 3 (Kd.int .i64) (fun a => (Lit.int .i64 a).wf = true) := Opens.imp (opens_int (by kernel_rfl) Tryd.underlying3) (fun _ h => h)
theorem opens2 : Opens Tryd.prog 27 (Kd.slice 3 (Kd.int .i64)) (fun a => a.length * 8 ≤ 140737488351232 ∧ ∀ y0 ∈ a, (Lit.int .i64 y0).wf = true) := Opens.imp (opens_slice (B := 8) (by kernel_rfl) Tryd.underlying27 (by kernel_rfl) (opens_int (by kernel_rfl) Tryd.underlying3)) (fun _ h => h)
theorem opens3 : Opens Tryd.prog 3 (Kd.int .i64) (fun a => (Lit.int .i64 a).wf = true) := Opens.imp (opens_int (by kernel_rfl) Tryd.underlying3) (fun _ h => h)
theorem opens4 : Opens Tryd.prog 3 (Kd.int .i64) (fun a => (Lit.int .i64 a).wf = true) := Opens.imp (opens_int (by kernel_rfl) Tryd.underlying3) (fun _ h => h)
set_option maxRecDepth 100000 in
theorem door_met (os : Os) (args : Array Value) : laidMetH Tryd.prog Rows.fnExactConnectionRow.laid ((World.doorLaid Tryd.prog 400 os).forCall (fun _ _ => 0) ⟨#[], args, []⟩).memory :=
  laidMetH_of_parts3 (fuel := 8) (laidMet_of_run' 8 (by kernel_rfl) (by kernel_rfl)) (by kernel_rfl) (by kernel_rfl)
set_option maxHeartbeats 2000000 in
set_option maxRecDepth 100000 in
theorem lifted (os : Os) (started : os.Started) (H : Type) (enc : TypeId × Value → H) :
    ReturnsInHanded {} Tryd.checked os 4 .any (fun w args => (Rows.fnExactConnectionSpec.pre enc Tryd.prog Tryd.f4 [] false w args ∧ laidMetH Tryd.prog Rows.fnExactConnectionRow.laid w) ∧ sizedMet enc Tryd.prog Tryd.f4 (OpenSpec.ofChange Rows.fnExactConnectionSpec) false w args)
      (Rows.fnExactConnectionSpec.post enc Tryd.prog Tryd.f4 false true false false) := by
  refine returnsInHanded_of_change_and (C := Tryd.checked) (X := fun w _ => laidMetH Tryd.prog Rows.fnExactConnectionRow.laid w) (fun _ _ _ hh h => h.of_heap hh) own started (by kernel_rfl) Tryd.func4
    (ChangeSpec.witness_shaped (enc := enc) (C := Tryd.checked) (os := os) (X := fun w _ => laidMetH Tryd.prog Rows.fnExactConnectionRow.laid w) false (World.doorLaid Tryd.prog 400 os) #[.int .i64 0, .int .i64 0, .slice none 0 0, .int .i64 0, .int .i64 0] 8 rfl (World.shaped_of_RefB (by kernel_rfl) (by kernel_rfl)) (by kernel_rfl) (by kernel_rfl) (by kernel_rfl) (door_met os _)) ?_
  intro W base args ds gs before hval0 hW hcnd hsz0 hLH _
  have hL : laidMet Tryd.prog Rows.fnExactConnectionRow.laid W := by rw [MakeChecks.laidMetH_plain _ _ _ (by kernel_rfl)] at hLH; exact hLH
  have hsz : (DataW.weightsEach Tryd.prog (Tryd.f4.params.toList ++ Rows.fnExactConnectionSpec.plain.varTypes Tryd.prog) (ds ++ gs)).all (· ≤ reachBytes) = true := hsz0
  have hval : ∀ (j : Nat) t v, Tryd.f4.params[j]? = some t → args[j]? = some v → Value.okWide Tryd.prog W .any base t v := hval0
  have hW' := hW
  obtain ⟨p, q, hA0, hV, rfl, hfz, hnd⟩ := hW
  have hA : DataW.TrodAll enc Tryd.prog W 0 (fun _ => true) true Tryd.f4.params.toList args.toList ds p := hA0
  rw [Tryd.params4] at hA hval hsz
  obtain ⟨v0, vs0, d0, ds0, p0, q0, hargs, rfl, rfl, h0, r0⟩ := trodAll_cons hA
  obtain ⟨v1, vs1, d1, ds1, p1, q1, rfl, rfl, rfl, h1, r1⟩ := trodAll_cons r0
  obtain ⟨v2, vs2, d2, ds2, p2, q2, rfl, rfl, rfl, h2, r2⟩ := trodAll_cons r1
  obtain ⟨v3, vs3, d3, ds3, p3, q3, rfl, rfl, rfl, h3, r3⟩ := trodAll_cons r2
  obtain ⟨v4, vs4, d4, ds4, p4, q4, rfl, rfl, rfl, h4, r4⟩ := trodAll_cons r3
  obtain ⟨rfl, rfl, rfl⟩ := trodAll_nil r4
  obtain rfl : args = #[v0, v1, v2, v3, v4] := by cases args; simp_all
  obtain ⟨rfl, rfl⟩ := trodVars_none hV
  obtain ⟨a0, ha0, hg0⟩ := open_arg opens0 hsz (j := 0) rfl rfl h0
  have k0 := h0
  have lt0 : ∀ x ∈ p0, x.block < W.heap.size := by obtain ⟨m, hm⟩ := k0; exact DataW.trod_lt m _ _ _ hm
  obtain ⟨b0, rfl, rfl, rfl, _⟩ := open_int Tryd.underlying3 (hval 0 3 v0 rfl rfl) h0
  have hcs0 := ha0
  simp only [Kd.int, Kd.scalar, Value.cells, List.cons.injEq, Value.int.injEq, and_true, true_and] at hcs0
  obtain rfl : a0 = b0 := hcs0.symm
  obtain ⟨a1, ha1, hg1⟩ := open_arg opens1 hsz (j := 1) rfl rfl h1
  have k1 := h1
  have lt1 : ∀ x ∈ p1, x.block < W.heap.size := by obtain ⟨m, hm⟩ := k1; exact DataW.trod_lt m _ _ _ hm
  obtain ⟨b1, rfl, rfl, rfl, _⟩ := open_int Tryd.underlying3 (hval 1 3 v1 rfl rfl) h1
  have hcs1 := ha1
  simp only [Kd.int, Kd.scalar, Value.cells, List.cons.injEq, Value.int.injEq, and_true, true_and] at hcs1
  obtain rfl : a1 = b1 := hcs1.symm
  obtain ⟨a2, ha2, hg2⟩ := open_arg opens2 hsz (j := 2) rfl rfl h2
  have k2 := h2
  have lt2 : ∀ x ∈ p2, x.block < W.heap.size := by obtain ⟨m, hm⟩ := k2; exact DataW.trod_lt m _ _ _ hm
  obtain ⟨A2, len2, c2, rfl⟩ := okWide_slice Tryd.underlying27 (hval 2 27 v2 rfl rfl)
  obtain ⟨B2, b2, hcs2, hc2, hr2⟩ := ha2
  simp only [Value.cells, List.cons.injEq, Value.slice.injEq, and_true] at hcs2
  obtain ⟨rfl, rfl, rfl⟩ := hcs2
  obtain ⟨a3, ha3, hg3⟩ := open_arg opens3 hsz (j := 3) rfl rfl h3
  have k3 := h3
  have lt3 : ∀ x ∈ p3, x.block < W.heap.size := by obtain ⟨m, hm⟩ := k3; exact DataW.trod_lt m _ _ _ hm
  obtain ⟨b3, rfl, rfl, rfl, _⟩ := open_int Tryd.underlying3 (hval 3 3 v3 rfl rfl) h3
  have hcs3 := ha3
  simp only [Kd.int, Kd.scalar, Value.cells, List.cons.injEq, Value.int.injEq, and_true, true_and] at hcs3
  obtain rfl : a3 = b3 := hcs3.symm
  obtain ⟨a4, ha4, hg4⟩ := open_arg opens4 hsz (j := 4) rfl rfl h4
  have k4 := h4
  have lt4 : ∀ x ∈ p4, x.block < W.heap.size := by obtain ⟨m, hm⟩ := k4; exact DataW.trod_lt m _ _ _ hm
  obtain ⟨b4, rfl, rfl, rfl, _⟩ := open_int Tryd.underlying3 (hval 4 3 v4 rfl rfl) h4
  have hcs4 := ha4
  simp only [Kd.int, Kd.scalar, Value.cells, List.cons.injEq, Value.int.injEq, and_true, true_and] at hcs4
  obtain rfl : a4 = b4 := hcs4.symm
  clear hA0 hval0 hsz0 hsz
  refine (Go.Proofs.YtckdpckdabfkbaaDoor.WalkFnExactConnection.walk a0 a1 A2 c2 a2 a3 a4 W hL hg0 hg1 hr2 hc2 hg2 hg3 hg4).mono fun e W' ⟨he, bel⟩ => ?_
  subst he
  exact ⟨_, rfl, _, _, _, [], _, [], hW', trodAll_mk1 (shut_bool Tryd.underlying4 _), (trodAll_cons_mk (Below.trod laidOut (by kernel_rfl) (of_decide_eq_true (by kernel_rfl)) k0 bel lt0) (trodAll_cons_mk (Below.trod laidOut (by kernel_rfl) (of_decide_eq_true (by kernel_rfl)) k1 bel lt1) (trodAll_cons_mk (Below.trod laidOut (by kernel_rfl) (of_decide_eq_true (by kernel_rfl)) k2 bel lt2) (trodAll_cons_mk (Below.trod laidOut (by kernel_rfl) (of_decide_eq_true (by kernel_rfl)) k3 bel lt3) (trodAll_cons_mk (Below.trod laidOut (by kernel_rfl) (of_decide_eq_true (by kernel_rfl)) k4 bel lt4) trodAll_mk0))))), rfl, bel.frame _, fun h => by cases h⟩
theorem over : Rows.fnExactConnectionRow.holds Tryd.pinned (OpenSpec.ofChange Rows.fnExactConnectionSpec) :=
  OpenClaim.holds_of_wide 4 Tryd.f4 rfl rfl rfl rfl rfl rfl rfl ⟨rfl, rfl, rfl, rfl, rfl⟩ rfl rfl rfl rfl rfl (by kernel_rfl) Tryd.func4 (by kernel_rfl)
    (of_decide_eq_true (by kernel_rfl)) (by unfold Func.isWrapper; first | (rw [if_pos (by decide +kernel)]; kernel_rfl) | (rw [if_neg (by decide +kernel)]; exact ⟨rfl, rfl⟩))
    (fun os started H enc _ => lifted os started H enc)
theorem proved : Rows.FnExactConnectionSaid := over
theorem card : Rows.FnExactConnectionCardSaid :=
  Claim7.holds_tied_plain_at .later [] [.sentinel, .sentinel, .sentinel] true (true, "c7f29c2cd87f7a9e6744237fc2463761c89a27abb9da2ef5e6f8944f78ef8c84") true
    proved (fun _ h => by cases h) (by kernel_rfl) (fun _ h => by cases h) fnExactConnection_row_tie rfl ⟨rfl, rfl⟩ (by kernel_rfl) rfl
    (fun f fn hf hfn => by
      obtain rfl : f = 4 := Option.some.inj ((show Tryd.prog.funcNamed "pub-kaeriten/laws.FnExactConnection" = some 4 by kernel_rfl).symm.trans hf) |>.symm
      obtain rfl : fn = Tryd.f4 := (Option.some.inj (Tryd.func4.symm.trans hfn)).symm
      exact ⟨by kernel_rfl, fun j t ht => by
        rw [Tryd.params4] at ht
        have hm : t ∈ [3, 3, 27, 3, 3] := by simpa using Array.mem_of_getElem? ht
        have hall : ([3, 3, 27, 3, 3].all fun u => !Tryd.prog.wantsStandIn u) = true := by kernel_rfl
        exact (show Tryd.prog.wantsStandIn t = false by simpa using List.all_eq_true.1 hall t hm)⟩)
    (by kernel_rfl)
#print axioms card
end Go.Proofs.YtckdpckdabfkbaaDoor.fnExactConnection
namespace Go.Proofs.YtckdpckdabfkbaaDoor
/-- The row, under a short name, for the claim. -/
theorem fnExactConnection_holds : Rows.FnExactConnectionCardSaid := fnExactConnection.card
end Go.Proofs.YtckdpckdabfkbaaDoor
