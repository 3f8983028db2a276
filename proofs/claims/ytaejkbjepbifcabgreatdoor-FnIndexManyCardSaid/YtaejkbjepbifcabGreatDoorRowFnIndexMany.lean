/- The row of the law FnIndexMany out of its walk: each argument is opened into plain data; the walk says that the call returns true and changes nothing that was there. -/
import Derived.Test.YtaejkbjepbifcabGreatDoorRows
import Derived.Test.YtaejkbjepbifcabGreatDoorKOpn
import Derived.Test.YtaejkbjepbifcabGreatDoorWalkFnIndexMany
import Derived.Test.YtaejkbjepbifcabGreatDoorTie
import Derived.Test.YtaejkbjepbifcabGreatDoorCards
import Derived.WalkKit
import Derived.ProofKit
import Derived.OpenShut
import Derived.ShutString
import Derived.ChangeOld
import Derived.Below
import Derived.SizedLaws
import Derived.LaidMore
import Derived.Stop.Joined
import Derived.SevenTiedAt
import Derived.MakeChecks
namespace Go.Proofs.YtaejkbjepbifcabGreatDoor.fnIndexMany
open Go.ChangeShapes Go.WideShapes Go.ChangeAt Go.RowKit Go.Proofs.YtaejkbjepbifcabGreatDoor.Open Go.Proofs.YtaejkbjepbifcabGreatDoorW.PrintWords
open Go.ChangeMaps (open_string shut_string)
set_option linter.unusedVariables false
set_option linter.unusedSimpArgs false
theorem own : ownKnob Tryz.prog.godebug = none := by kernel_rfl
theorem laidOut : laidOutB Tryz.prog = true := by kernel_rfl
theorem opens0 : Opens Tryz.prog 35 (Kd.int .u16) (fun a => (Lit.int .u16 a).wf = true) := Opens.imp (opens_int (by kernel_rfl) Tryz.underlying35) (fun _ h => h)
theorem opens1 : Opens Tryz.prog 5 (Kd.int .u8) (fun a => (Lit.int .u8 a).wf = true) := Opens.imp (opens_int (by kernel_rfl) Tryz.underlying5) (fun _ h => h)
theorem opens2 : Opens Tryz.prog 5 (Kd.int .u8) (fun a => (Lit.int .u8 a).wf = true) := Opens.imp (opens_int (by kernel_rfl) Tryz.underlying5) (fun _ h => h)
set_option maxRecDepth 100000 in
theorem door_met (os : Os) (args : Array Value) : laidMetH Tryz.prog Rows.fnIndexManyRow.laid ((World.doorLaid Tryz.prog 400 os).forCall (fun _ _ => 0) ⟨#[], args, []⟩).memory :=
  laidMetH_of_parts3 (fuel := 8) (laidMet_of_run' 8 (by kernel_rfl) (by kernel_rfl)) (by kernel_rfl) (by kernel_rfl)
set_option maxHeartbeats 2000000 in
set_option maxRecDepth 100000 in
theorem lifted (os : Os) (started : os.Started) (H : Type) (enc : TypeId × Value → H) :
    ReturnsInHanded {} Tryz.checked os 5 .any (fun w args => (Rows.fnIndexManySpec.pre enc Tryz.prog Tryz.f5 [] false w args ∧ laidMetH Tryz.prog Rows.fnIndexManyRow.laid w) ∧ sizedMet enc Tryz.prog Tryz.f5 (OpenSpec.ofChange Rows.fnIndexManySpec) false w args)
      (Rows.fnIndexManySpec.post enc Tryz.prog Tryz.f5 false true false false) := by
  refine returnsInHanded_of_change_and (C := Tryz.checked) (X := fun w _ => laidMetH Tryz.prog Rows.fnIndexManyRow.laid w) (fun _ _ _ hh h => h.of_heap hh) own started (by kernel_rfl) Tryz.func5
    (ChangeSpec.witness_shaped (enc := enc) (C := Tryz.checked) (os := os) (X := fun w _ => laidMetH Tryz.prog Rows.fnIndexManyRow.laid w) false (World.doorLaid Tryz.prog 400 os) #[.int .u16 0, .int .u8 0, .int .u8 0] 8 rfl (World.shaped_of_RefB (by kernel_rfl) (by kernel_rfl)) (by kernel_rfl) (by kernel_rfl) (by kernel_rfl) (door_met os _)) ?_
  intro W base args ds gs before hval0 hW hcnd hsz0 hLH _
  have hL : laidMet Tryz.prog Rows.fnIndexManyRow.laid W := by rw [MakeChecks.laidMetH_plain _ _ _ (by kernel_rfl)] at hLH; exact hLH
  have hsz : (DataW.weightsEach Tryz.prog (Tryz.f5.params.toList ++ Rows.fnIndexManySpec.plain.varTypes Tryz.prog) (ds ++ gs)).all (· ≤ reachBytes) = true := hsz0
  have hval : ∀ (j : Nat) t v, Tryz.f5.params[j]? = some t → args[j]? = some v → Value.okWide Tryz.prog W .any base t v := hval0
  have hW' := hW
  obtain ⟨p, q, hA0, hV, rfl, hfz, hnd⟩ := hW
  have hA : DataW.TrodAll enc Tryz.prog W 0 (fun _ => true) true Tryz.f5.params.toList args.toList ds p := hA0
  rw [Tryz.params5] at hA hval hsz
  obtain ⟨v0, vs0, d0, ds0, p0, q0, hargs, rfl, rfl, h0, r0⟩ := trodAll_cons hA
  obtain ⟨v1, vs1, d1, ds1, p1, q1, rfl, rfl, rfl, h1, r1⟩ := trodAll_cons r0
  obtain ⟨v2, vs2, d2, ds2, p2, q2, rfl, rfl, rfl, h2, r2⟩ := trodAll_cons r1
  obtain ⟨rfl, rfl, rfl⟩ := trodAll_nil r2
  obtain rfl : args = #[v0, v1, v2] := by cases args; simp_all
  obtain ⟨rfl, rfl⟩ := trodVars_none hV
  obtain ⟨a0, ha0, hg0⟩ := open_arg opens0 hsz (j := 0) rfl rfl h0
  have k0 := h0
  have lt0 : ∀ x ∈ p0, x.block < W.heap.size := by obtain ⟨m, hm⟩ := k0; exact DataW.trod_lt m _ _ _ hm
  obtain ⟨b0, rfl, rfl, rfl, _⟩ := open_int Tryz.underlying35 (hval 0 35 v0 rfl rfl) h0
  have hcs0 := ha0
  simp only [Kd.int, Kd.scalar, Value.cells, List.cons.injEq, Value.int.injEq, and_true, true_and] at hcs0
  obtain rfl : a0 = b0 := hcs0.symm
  obtain ⟨a1, ha1, hg1⟩ := open_arg opens1 hsz (j := 1) rfl rfl h1
  have k1 := h1
  have lt1 : ∀ x ∈ p1, x.block < W.heap.size := by obtain ⟨m, hm⟩ := k1; exact DataW.trod_lt m _ _ _ hm
  obtain ⟨b1, rfl, rfl, rfl, _⟩ := open_int Tryz.underlying5 (hval 1 5 v1 rfl rfl) h1
  have hcs1 := ha1
  simp only [Kd.int, Kd.scalar, Value.cells, List.cons.injEq, Value.int.injEq, and_true, true_and] at hcs1
  obtain rfl : a1 = b1 := hcs1.symm
  obtain ⟨a2, ha2, hg2⟩ := open_arg opens2 hsz (j := 2) rfl rfl h2
  have k2 := h2
  have lt2 : ∀ x ∈ p2, x.block < W.heap.size := by obtain ⟨m, hm⟩ := k2; exact DataW.trod_lt m _ _ _ hm
  obtain ⟨b2, rfl, rfl, rfl, _⟩ := open_int Tryz.underlying5 (hval 2 5 v2 rfl rfl) h2
  have hcs2 := ha2
  simp only [Kd.int, Kd.scalar, Value.cells, List.cons.injEq, Value.int.injEq, and_true, true_and] at hcs2
  obtain rfl : a2 = b2 := hcs2.symm
  clear hA0 hval0 hsz0 hsz
  refine (Go.Proofs.YtaejkbjepbifcabGreatDoor.Da.walk_ixmany a0 a1 a2 W hL hg0 hg1 hg2).mono fun e W' ⟨he, bel⟩ => ?_
  subst he
  exact ⟨_, rfl, _, _, _, [], _, [], hW', trodAll_mk1 (shut_bool Tryz.underlying4 _), (trodAll_cons_mk (Below.trod laidOut (by kernel_rfl) (of_decide_eq_true (by kernel_rfl)) k0 bel lt0) (trodAll_cons_mk (Below.trod laidOut (by kernel_rfl) (of_decide_eq_true (by kernel_rfl)) k1 bel lt1) (trodAll_cons_mk (Below.trod laidOut (by kernel_rfl) (of_decide_eq_true (by kernel_rfl)) k2 bel lt2) trodAll_mk0))), rfl, bel.frame _, fun h => by cases h⟩
theorem over : Rows.fnIndexManyRow.holds Tryz.pinned (OpenSpec.ofChange Rows.fnIndexManySpec) :=
  OpenClaim.holds_of_wide 5 Tryz.f5 rfl rfl rfl rfl rfl rfl rfl ⟨rfl, rfl, rfl, rfl, rfl⟩ rfl rfl rfl rfl rfl (by kernel_rfl) Tryz.func5 (by kernel_rfl)
    (of_decide_eq_true (by kernel_rfl)) (by unfold Func.isWrapper; first | (rw [if_pos (by decide +kernel)]; kernel_rfl) | (rw [if_neg (by decide +kernel)]; exact ⟨rfl, rfl⟩))
    (fun os started H enc _ => lifted os started H enc)
theorem proved : Rows.FnIndexManySaid := over
theorem card : Rows.FnIndexManyCardSaid :=
  Claim7.holds_tied_plain_at .later [] [.sentinel, .sentinel, .sentinel] true (true, "0fcb3b8314de2f28160ba4468c1dede4382be58df25d20aadf412d31407f3649") true
    proved (fun _ h => by cases h) (by kernel_rfl) (fun _ h => by cases h) fnIndexMany_row_tie rfl ⟨rfl, rfl⟩ (by kernel_rfl) rfl
    (fun f fn hf hfn => by
      obtain rfl : f = 5 := Option.some.inj ((show Tryz.prog.funcNamed "pub-kaeriten/laws.FnIndexMany" = some 5 by kernel_rfl).symm.trans hf) |>.symm
      obtain rfl : fn = Tryz.f5 := (Option.some.inj (Tryz.func5.symm.trans hfn)).symm
      exact ⟨by kernel_rfl, fun j t ht => by
        rw [Tryz.params5] at ht
        have hm : t ∈ [35, 5, 5] := by simpa using Array.mem_of_getElem? ht
        have hall : ([35, 5, 5].all fun u => !Tryz.prog.wantsStandIn u) = true := by kernel_rfl
        exact (show Tryz.prog.wantsStandIn t = false by simpa using List.all_eq_true.1 hall t hm)⟩)
    (by kernel_rfl)
#print axioms card
end Go.Proofs.YtaejkbjepbifcabGreatDoor.fnIndexMany
namespace Go.Proofs.YtaejkbjepbifcabGreatDoor
/-- The row, under a short name, for the claim. -/
theorem fnIndexMany_holds : Rows.FnIndexManyCardSaid := fnIndexMany.card
end Go.Proofs.YtaejkbjepbifcabGreatDoor
