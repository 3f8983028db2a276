/- The row of the law FnUserRecordsWrong out of its walk: each argument is opened into plain data; the walk says that the call returns true and changes nothing that was there. -/
import Derived.Test.YtckdpckdabfkbabRows
import Derived.Test.YtckdpckdabfkbabOpen
import Derived.Test.YtckdpckdabfkbabWalkFnUserRecordsWrong
import Derived.WalkKit
import Derived.ProofKit
import Derived.OpenShut
import Derived.ShutString
import Derived.ChangeOld
import Derived.Below
import Derived.SizedLaws
namespace Go.Proofs.Ytckdpckdabfkbab.fnUserRecordsWrong
open Go.ChangeShapes Go.WideShapes Go.ChangeAt Go.RowKit Go.Proofs.Ytckdpckdabfkbab.Open Go.Proofs.YtckdpckdabfkbabW.PrintWords
open Go.ChangeMaps (open_string shut_string)
set_option linter.unusedVariables false
theorem own : ownKnob Try.prog.godebug = none := by kernel_rfl
theorem laidOut : laidOutB Try.prog = true := by kernel_rfl
theorem opens0 : Opens Try.prog 24 (Kd.pair Kd.string (Kd.pair (Kd.slice 9 Kd.string) (Kd.pair (Kd.slice 9 Kd.string) Kd.string))) (fun a => (a.1.size ≤ 140737488351232) ∧ (a.2.1.length * 16 ≤ 140737488351232 ∧ ∀ y0 ∈ a.2.1, y0.size ≤ 140737488351232) ∧ (a.2.2.1.length * 16 ≤ 140737488351232 ∧ ∀ y0 ∈ a.2.2.1, y0.size ≤ 140737488351232) ∧ (a.2.2.2.size ≤ 140737488351232)) := Opens.imp (opens_struct (by kernel_rfl) Try.underlying24 (fields_cons rfl (opens_string (by kernel_rfl) Try.underlying9) (fields_cons rfl (opens_slice (B := 16) (by kernel_rfl) Try.underlying22 (by kernel_rfl) (opens_string (by kernel_rfl) Try.underlying9)) (fields_cons rfl (opens_slice (B := 16) (by kernel_rfl) Try.underlying22 (by kernel_rfl) (opens_string (by kernel_rfl) Try.underlying9)) (fields_last rfl (opens_string (by kernel_rfl) Try.underlying9)))))) (fun _ h => h)
theorem opens1 : Opens Try.prog 5 (Kd.int .u8) (fun a => (Lit.int .u8 a).wf = true) := Opens.imp (opens_int (by kernel_rfl) Try.underlying5) (fun _ h => h)
set_option maxHeartbeats 2000000 in
set_option maxRecDepth 100000 in
theorem lifted (os : Os) (started : os.Started) (H : Type) (enc : TypeId × Value → H) :
    ReturnsInHanded {} Try.checked os 3 .any (Rows.fnUserRecordsWrongSpec.pre6 enc Try.prog Try.f3 Rows.fnUserRecordsWrongRow.domain false) (Rows.fnUserRecordsWrongSpec.post enc Try.prog Try.f3 false true false false) := by
  refine returnsInHanded_of_change_sized (C := Try.checked) own started (by kernel_rfl) Try.func3
    (ChangeSpec.witness6 (enc := enc) (C := Try.checked) false ⟨#[], #[.agg #[.string ByteArray.empty, .slice none 0 0, .slice none 0 0, .string ByteArray.empty], .int .u8 0], []⟩ 8 (by kernel_rfl) (by kernel_rfl) (by kernel_rfl) (by kernel_rfl)) ?_
  intro W base args ds gs before hval0 hW hcnd hsz0 _
  have hsz : (DataW.weightsEach Try.prog (Try.f3.params.toList ++ Rows.fnUserRecordsWrongSpec.plain.varTypes Try.prog) (ds ++ gs)).all (· ≤ reachBytes) = true := hsz0
  have hval : ∀ (j : Nat) t v, Try.f3.params[j]? = some t → args[j]? = some v → Value.okWide Try.prog W .any base t v := hval0
  have hW' := hW
  obtain ⟨p, q, hA0, hV, rfl, hfz, hnd⟩ := hW
  have hA : DataW.TrodAll enc Try.prog W 0 (fun _ => true) true Try.f3.params.toList args.toList ds p := hA0
  rw [Try.params3] at hA hval hsz
  obtain ⟨v0, vs0, d0, ds0, p0, q0, hargs, rfl, rfl, h0, r0⟩ := trodAll_cons hA
  obtain ⟨v1, vs1, d1, ds1, p1, q1, rfl, rfl, rfl, h1, r1⟩ := trodAll_cons r0
  obtain ⟨rfl, rfl, rfl⟩ := trodAll_nil r1
  obtain rfl : args = #[v0, v1] := by cases args; simp_all
  obtain ⟨rfl, rfl⟩ := trodVars_none hV
  obtain ⟨a0, ha0, hg0⟩ := open_arg opens0 hsz (j := 0) rfl rfl h0
  have k0 := h0
  have lt0 : ∀ x ∈ p0, x.block < W.heap.size := by obtain ⟨m, hm⟩ := k0; exact DataW.trod_lt m _ _ _ hm
  obtain ⟨cs0, rfl, -⟩ := okWide_struct Try.underlying24 (hval 0 24 v0 rfl rfl)
  obtain ⟨cl0⟩ := cs0
  obtain ⟨a0_0, a0_1, a0_2, a0_3⟩ := a0
  have hz0 : Kd.K (Kd.pair Kd.string (Kd.pair (Kd.slice 9 Kd.string) (Kd.pair (Kd.slice 9 Kd.string) Kd.string))) W (⟨a0_0, a0_1, a0_2, a0_3⟩) cl0 := ha0
  clear ha0
  obtain ⟨_, _, rfl, rfl, ⟨_, _, rfl, ⟨Aa0_1, ca0_1, rfl, hca0_1, hra0_1⟩, ⟨_, _, rfl, ⟨Aa0_2, ca0_2, rfl, hca0_2, hra0_2⟩, rfl⟩⟩⟩ := hz0
  obtain ⟨hga0_0, hga0_1, hga0_2, hga0_3⟩ := hg0
  obtain ⟨a1, ha1, hg1⟩ := open_arg opens1 hsz (j := 1) rfl rfl h1
  have k1 := h1
  have lt1 : ∀ x ∈ p1, x.block < W.heap.size := by obtain ⟨m, hm⟩ := k1; exact DataW.trod_lt m _ _ _ hm
  obtain ⟨b1, rfl, rfl, rfl, _⟩ := open_int Try.underlying5 (hval 1 5 v1 rfl rfl) h1
  have hcs1 := ha1
  simp only [Kd.int, Kd.scalar, Value.cells, List.cons.injEq, Value.int.injEq, and_true, true_and] at hcs1
  obtain rfl : a1 = b1 := hcs1.symm
  clear hA0 hval0 hsz0 hsz
  refine (WalkFnUserRecordsWrong.walk a0_0 Aa0_1 ca0_1 a0_1 Aa0_2 ca0_2 a0_2 a0_3 a1 W hga0_0 hra0_1 hca0_1 hga0_1 hra0_2 hca0_2 hga0_2 hga0_3 hg1).mono fun e W' ⟨he, bel⟩ => ?_
  subst he
  exact ⟨_, rfl, _, _, _, [], _, [], hW', trodAll_mk1 (shut_bool Try.underlying4 _), (trodAll_cons_mk (Below.trod laidOut (by kernel_rfl) (of_decide_eq_true (by kernel_rfl)) k0 bel lt0) (trodAll_cons_mk (Below.trod laidOut (by kernel_rfl) (of_decide_eq_true (by kernel_rfl)) k1 bel lt1) trodAll_mk0)), rfl, bel.frame _, fun h => by cases h⟩
theorem over : Rows.fnUserRecordsWrongRow.holds Try.pinned (OpenSpec.ofChange Rows.fnUserRecordsWrongSpec) :=
  OpenClaim.holds_of_wide 3 Try.f3 rfl rfl rfl rfl rfl rfl rfl ⟨rfl, rfl, rfl, rfl, rfl⟩ rfl rfl rfl rfl rfl (by kernel_rfl) Try.func3 (by kernel_rfl)
    (of_decide_eq_true (by kernel_rfl)) (by unfold Func.isWrapper; first | (rw [if_pos (by decide +kernel)]; kernel_rfl) | (rw [if_neg (by decide +kernel)]; exact ⟨rfl, rfl⟩))
    (fun os started H enc _ => lifted os started H enc)
theorem proved : Rows.FnUserRecordsWrongSaid := over
#print axioms proved
end Go.Proofs.Ytckdpckdabfkbab.fnUserRecordsWrong
namespace Go.Proofs.Ytckdpckdabfkbab
/-- The row, under a short name, for the claim. -/
theorem fnUserRecordsWrong_holds : Rows.FnUserRecordsWrongSaid := fnUserRecordsWrong.proved
end Go.Proofs.Ytckdpckdabfkbab
