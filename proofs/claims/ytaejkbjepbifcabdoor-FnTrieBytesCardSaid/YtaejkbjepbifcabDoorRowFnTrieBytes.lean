/- The row of the law FnTrieBytes out of its walk: each argument is opened into plain data; the walk says that the call returns true and changes nothing that was there. -/
import Derived.Test.YtaejkbjepbifcabDoorRows
import Derived.Test.YtaejkbjepbifcabDoorOpen
import Derived.Test.YtaejkbjepbifcabDoorWalkFnTrieBytes
import Derived.Test.YtaejkbjepbifcabDoorTie
import Derived.Test.YtaejkbjepbifcabDoorCards
import Derived.WalkKit
import Derived.ProofKit
import Derived.OpenShut
import Derived.ShutString
import Derived.ChangeOld
import Derived.Below
import Derived.SizedLaws
import Derived.LaidMore
import Derived.Stop.Joined
import Derived.SevenTiedAt
import Derived.MakeChecks
namespace Go.Proofs.YtaejkbjepbifcabDoor.fnTrieBytes
open Go.ChangeShapes Go.WideShapes Go.ChangeAt Go.RowKit Go.Proofs.YtaejkbjepbifcabDoor.Open Go.Proofs.YtaejkbjepbifcabDoorW.PrintWords
open Go.ChangeMaps (open_string shut_string)
set_option linter.unusedVariables false
set_option linter.unusedSimpArgs false
theorem own : ownKnob Tryd.prog.godebug = none := by kernel_rfl
theorem laidOut : laidOutB Tryd.prog = true := by kernel_rfl
theorem opens0 : Opens Tryd.prog 22 (Kd.slice 9 Kd.string) (fun a => a.length * 16 ≤ 140737488351232 ∧ ∀ y0 ∈ a, y0.size ≤ 140737488351232) := Opens.imp (opens_slice (B := 16) (by kernel_rfl) Tryd.underlying22 (by kernel_rfl) (opens_string (by kernel_rfl) Tryd.underlying9)) (fun _ h => h)
theorem opens1 : Opens Tryd.prog 23 (Kd.slice 3 (Kd.int .i64)) (fun a => a.length * 8 ≤ 140737488351232 ∧ ∀ y0 ∈ a, (Lit.int .i64 y0).wf = true) := Opens.imp (opens_slice (B := 8) (by kernel_rfl) Tryd.underlying23 (by kernel_rfl) (opens_int (by kernel_rfl) Tryd.underlying3)) (fun _ h => h)
theorem opens2 : Opens Tryd.prog 22 (Kd.slice 9 Kd.string) (fun a => a.length * 16 ≤ 140737488351232 ∧ ∀ y0 ∈ a, y0.size ≤ 140737488351232) := Opens.imp (opens_slice (B := 16) (by kernel_rfl) Tryd.underlying22 (by kernel_rfl) (opens_string (by kernel_rfl) Tryd.underlying9)) (fun _ h => h)
set_option maxRecDepth 100000 in
theorem door_met (os : Os) (args : Array Value) : laidMetH Tryd.prog Rows.fnTrieBytesRow.laid ((World.doorLaid Tryd.prog 400 os).forCall (fun _ _ => 0) ⟨#[], args, []⟩).memory :=
  laidMetH_of_parts3 (fuel := 8) (laidMet_of_run' 8 (by kernel_rfl) (by kernel_rfl)) (by kernel_rfl) (by kernel_rfl)
set_option maxHeartbeats 2000000 in
set_option maxRecDepth 100000 in
theorem lifted (os : Os) (started : os.Started) (H : Type) (enc : TypeId × Value → H) :
    ReturnsInHanded {} Tryd.checked os 3 .any (fun w args => (Rows.fnTrieBytesSpec.pre enc Tryd.prog Tryd.f3 [] false w args ∧ laidMetH Tryd.prog Rows.fnTrieBytesRow.laid w) ∧ sizedMet enc Tryd.prog Tryd.f3 (OpenSpec.ofChange Rows.fnTrieBytesSpec) false w args)
      (Rows.fnTrieBytesSpec.post enc Tryd.prog Tryd.f3 false true false false) := by
  refine returnsInHanded_of_change_and (C := Tryd.checked) (X := fun w _ => laidMetH Tryd.prog Rows.fnTrieBytesRow.laid w) (fun _ _ _ hh h => h.of_heap hh) own started (by kernel_rfl) Tryd.func3
    (ChangeSpec.witness_shaped (enc := enc) (C := Tryd.checked) (os := os) (X := fun w _ => laidMetH Tryd.prog Rows.fnTrieBytesRow.laid w) false (World.doorLaid Tryd.prog 400 os) #[.slice none 0 0, .slice none 0 0, .slice none 0 0] 8 rfl (World.shaped_of_RefB (by kernel_rfl) (by kernel_rfl)) (by kernel_rfl) (by kernel_rfl) (by kernel_rfl) (door_met os _)) ?_
  intro W base args ds gs before hval0 hW hcnd hsz0 hLH _
  have hL : laidMet Tryd.prog Rows.fnTrieBytesRow.laid W := by rw [MakeChecks.laidMetH_plain _ _ _ (by kernel_rfl)] at hLH; exact hLH
  have hsz : (DataW.weightsEach Tryd.prog (Tryd.f3.params.toList ++ Rows.fnTrieBytesSpec.plain.varTypes Tryd.prog) (ds ++ gs)).all (· ≤ reachBytes) = true := hsz0
  have hval : ∀ (j : Nat) t v, Tryd.f3.params[j]? = some t → args[j]? = some v → Value.okWide Tryd.prog W .any base t v := hval0
  have hW' := hW
  obtain ⟨p, q, hA0, hV, rfl, hfz, hnd⟩ := hW
  have hA : DataW.TrodAll enc Tryd.prog W 0 (fun _ => true) true Tryd.f3.params.toList args.toList ds p := hA0
  rw [Tryd.params3] at hA hval hsz
  obtain ⟨v0, vs0, d0, ds0, p0, q0, hargs, rfl, rfl, h0, r0⟩ := trodAll_cons hA
  obtain ⟨v1, vs1, d1, ds1, p1, q1, rfl, rfl, rfl, h1, r1⟩ := trodAll_cons r0
  obtain ⟨v2, vs2, d2, ds2, p2, q2, rfl, rfl, rfl, h2, r2⟩ := trodAll_cons r1
  obtain ⟨rfl, rfl, rfl⟩ := trodAll_nil r2
  obtain rfl : args = #[v0, v1, v2] := by cases args; simp_all
  obtain ⟨rfl, rfl⟩ := trodVars_none hV
  obtain ⟨a0, ha0, hg0⟩ := open_arg opens0 hsz (j := 0) rfl rfl h0
  have k0 := h0
  have lt0 : ∀ x ∈ p0, x.block < W.heap.size := by obtain ⟨m, hm⟩ := k0; exact DataW.trod_lt m _ _ _ hm
  obtain ⟨A0, len0, c0, rfl⟩ := okWide_slice Tryd.underlying22 (hval 0 22 v0 rfl rfl)
  obtain ⟨B0, b0, hcs0, hc0, hr0⟩ := ha0
  simp only [Value.cells, List.cons.injEq, Value.slice.injEq, and_true] at hcs0
  obtain ⟨rfl, rfl, rfl⟩ := hcs0
  obtain ⟨a1, ha1, hg1⟩ := open_arg opens1 hsz (j := 1) rfl rfl h1
  have k1 := h1
  have lt1 : ∀ x ∈ p1, x.block < W.heap.size := by obtain ⟨m, hm⟩ := k1; exact DataW.trod_lt m _ _ _ hm
  obtain ⟨A1, len1, c1, rfl⟩ := okWide_slice Tryd.underlying23 (hval 1 23 v1 rfl rfl)
  obtain ⟨B1, b1, hcs1, hc1, hr1⟩ := ha1
  simp only [Value.cells, List.cons.injEq, Value.slice.injEq, and_true] at hcs1
  obtain ⟨rfl, rfl, rfl⟩ := hcs1
  obtain ⟨a2, ha2, hg2⟩ := open_arg opens2 hsz (j := 2) rfl rfl h2
  have k2 := h2
  have lt2 : ∀ x ∈ p2, x.block < W.heap.size := by obtain ⟨m, hm⟩ := k2; exact DataW.trod_lt m _ _ _ hm
  obtain ⟨A2, len2, c2, rfl⟩ := okWide_slice Tryd.underlying22 (hval 2 22 v2 rfl rfl)
  obtain ⟨B2, b2, hcs2, hc2, hr2⟩ := ha2
  simp only [Value.cells, List.cons.injEq, Value.slice.injEq, and_true] at hcs2
  obtain ⟨rfl, rfl, rfl⟩ := hcs2
  clear hA0 hval0 hsz0 hsz
  refine (Go.Proofs.YtaejkbjepbifcabDoor.Da.walk_bytes A0 c0 a0 A1 c1 a1 A2 c2 a2 W hL hr0 hc0 hg0 hr1 hc1 hg1 hr2 hc2 hg2).mono fun e W' ⟨he, bel⟩ => ?_
  subst he
  exact ⟨_, rfl, _, _, _, [], _, [], hW', trodAll_mk1 (shut_bool Tryd.underlying4 _), (trodAll_cons_mk (Below.trod laidOut (by kernel_rfl) (of_decide_eq_true (by kernel_rfl)) k0 bel lt0) (trodAll_cons_mk (Below.trod laidOut (by kernel_rfl) (of_decide_eq_true (by kernel_rfl)) k1 bel lt1) (trodAll_cons_mk (Below.trod laidOut (by kernel_rfl) (of_decide_eq_true (by kernel_rfl)) k2 bel lt2) trodAll_mk0))), rfl, bel.frame _, fun h => by cases h⟩
theorem over : Rows.fnTrieBytesRow.holds Tryd.pinned (OpenSpec.ofChange Rows.fnTrieBytesSpec) :=
  OpenClaim.holds_of_wide 3 Tryd.f3 rfl rfl rfl rfl rfl rfl rfl ⟨rfl, rfl, rfl, rfl, rfl⟩ rfl rfl rfl rfl rfl (by kernel_rfl) Tryd.func3 (by kernel_rfl)
    (of_decide_eq_true (by kernel_rfl)) (by unfold Func.isWrapper; first | (rw [if_pos (by decide +kernel)]; kernel_rfl) | (rw [if_neg (by decide +kernel)]; exact ⟨rfl, rfl⟩))
    (fun os started H enc _ => lifted os started H enc)
theorem proved : Rows.FnTrieBytesSaid := over
theorem card : Rows.FnTrieBytesCardSaid :=
  Claim7.holds_tied_plain_at .later [] [.sentinel, .sentinel, .sentinel] true (true, "342d1d2bb6f27fa90b5366d247e63f7110223843e9fc65281fdc943cb5c85297") true
    proved (fun _ h => by cases h) (by kernel_rfl) (fun _ h => by cases h) fnTrieBytes_row_tie rfl ⟨rfl, rfl⟩ (by kernel_rfl) rfl
    (fun f fn hf hfn => by
      obtain rfl : f = 3 := Option.some.inj ((show Tryd.prog.funcNamed "pub-kaeriten/laws.FnTrieBytes" = some 3 by kernel_rfl).symm.trans hf) |>.symm
      obtain rfl : fn = Tryd.f3 := (Option.some.inj (Tryd.func3.symm.trans hfn)).symm
      exact ⟨by kernel_rfl, fun j t ht => by
        rw [Tryd.params3] at ht
        have hm : t ∈ [22, 23, 22] := by simpa using Array.mem_of_getElem? ht
        have hall : ([22, 23, 22].all fun u => !Tryd.prog.wantsStandIn u) = true := by kernel_rfl
        exact (show Tryd.prog.wantsStandIn t = false by simpa using List.all_eq_true.1 hall t hm)⟩)
    (by kernel_rfl)
#print axioms card
end Go.Proofs.YtaejkbjepbifcabDoor.fnTrieBytes
namespace Go.Proofs.YtaejkbjepbifcabDoor
/-- The row, under a short name, for the claim. -/
theorem fnTrieBytes_holds : Rows.FnTrieBytesCardSaid := fnTrieBytes.card
end Go.Proofs.YtaejkbjepbifcabDoor
