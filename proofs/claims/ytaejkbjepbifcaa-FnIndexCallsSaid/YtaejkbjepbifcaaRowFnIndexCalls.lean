/- The row of the law FnIndexCalls out of its walk: each argument is opened into plain data; the walk says that the call returns true and changes nothing that was there. -/
import Derived.Test.YtaejkbjepbifcaaRows
import Derived.Test.YtaejkbjepbifcaaKOpn
import Derived.Test.YtaejkbjepbifcaaWalkFnIndexCalls
import Derived.WalkKit
import Derived.ProofKit
import Derived.OpenShut
import Derived.ShutString
import Derived.ChangeOld
import Derived.Below
import Derived.SizedLaws
namespace Go.Proofs.Ytaejkbjepbifcaa.fnIndexCalls
open Go.ChangeShapes Go.WideShapes Go.ChangeAt Go.RowKit Go.Proofs.Ytaejkbjepbifcaa.Open Go.Proofs.YtaejkbjepbifcaaW.PrintWords
open Go.ChangeMaps (open_string shut_string)
set_option linter.unusedVariables false
set_option linter.unusedSimpArgs false
theorem own : ownKnob Try.prog.godebug = none := by kernel_rfl
theorem laidOut : laidOutB Try.prog = true := by kernel_rfl
theorem opens0 : Opens Try.prog 22 (Kd.slice 9 Kd.string) (fun a => a.length * 16 ≤ 140737488351232 ∧ ∀ y0 ∈ a, y0.size ≤ 140737488351232) := Opens.imp (opens_slice (B := 16) (by kernel_rfl) Try.underlying22 (by kernel_rfl) (opens_string (by kernel_rfl) Try.underlying9)) (fun _ h => h)
theorem opens1 : Opens Try.prog 9 Kd.string (fun a => a.size ≤ 140737488351232) := Opens.imp (opens_string (by kernel_rfl) Try.underlying9) (fun _ h => h)
set_option maxHeartbeats 2000000 in
set_option maxRecDepth 100000 in
theorem lifted (os : Os) (started : os.Started) (H : Type) (enc : TypeId × Value → H) :
    ReturnsInHanded {} Try.checked os 8 .any (Rows.fnIndexCallsSpec.pre6 enc Try.prog Try.f8 Rows.fnIndexCallsRow.domain false) (Rows.fnIndexCallsSpec.post enc Try.prog Try.f8 false true false false) := by
  refine returnsInHanded_of_change_sized (C := Try.checked) own started (by kernel_rfl) Try.func8
    (ChangeSpec.witness6 (enc := enc) (C := Try.checked) false ⟨#[], #[.slice none 0 0, .string ByteArray.empty], []⟩ 8 (by kernel_rfl) (by kernel_rfl) (by kernel_rfl) (by kernel_rfl)) ?_
  intro W base args ds gs before hval0 hW hcnd hsz0 _
  have hsz : (DataW.weightsEach Try.prog (Try.f8.params.toList ++ Rows.fnIndexCallsSpec.plain.varTypes Try.prog) (ds ++ gs)).all (· ≤ reachBytes) = true := hsz0
  have hval : ∀ (j : Nat) t v, Try.f8.params[j]? = some t → args[j]? = some v → Value.okWide Try.prog W .any base t v := hval0
  have hW' := hW
  obtain ⟨p, q, hA0, hV, rfl, hfz, hnd⟩ := hW
  have hA : DataW.TrodAll enc Try.prog W 0 (fun _ => true) true Try.f8.params.toList args.toList ds p := hA0
  rw [Try.params8] at hA hval hsz
  obtain ⟨v0, vs0, d0, ds0, p0, q0, hargs, rfl, rfl, h0, r0⟩ := trodAll_cons hA
  obtain ⟨v1, vs1, d1, ds1, p1, q1, rfl, rfl, rfl, h1, r1⟩ := trodAll_cons r0
  obtain ⟨rfl, rfl, rfl⟩ := trodAll_nil r1
  obtain rfl : args = #[v0, v1] := by cases args; simp_all
  obtain ⟨rfl, rfl⟩ := trodVars_none hV
  obtain ⟨a0, ha0, hg0⟩ := open_arg opens0 hsz (j := 0) rfl rfl h0
  have k0 := h0
  have lt0 : ∀ x ∈ p0, x.block < W.heap.size := by obtain ⟨m, hm⟩ := k0; exact DataW.trod_lt m _ _ _ hm
  obtain ⟨A0, len0, c0, rfl⟩ := okWide_slice Try.underlying22 (hval 0 22 v0 rfl rfl)
  obtain ⟨B0, b0, hcs0, hc0, hr0⟩ := ha0
  simp only [Value.cells, List.cons.injEq, Value.slice.injEq, and_true] at hcs0
  obtain ⟨rfl, rfl, rfl⟩ := hcs0
  obtain ⟨a1, ha1, hg1⟩ := open_arg opens1 hsz (j := 1) rfl rfl h1
  have k1 := h1
  have lt1 : ∀ x ∈ p1, x.block < W.heap.size := by obtain ⟨m, hm⟩ := k1; exact DataW.trod_lt m _ _ _ hm
  obtain ⟨b1, rfl, rfl, rfl, _⟩ := open_string Try.underlying9 (hval 1 9 v1 rfl rfl) h1
  have hcs1 := ha1
  simp only [Kd.string, Kd.scalar, Value.cells, List.cons.injEq, Value.string.injEq, and_true, true_and] at hcs1
  obtain rfl : a1 = b1 := hcs1.symm
  clear hA0 hval0 hsz0 hsz
  refine (Go.Proofs.Ytaejkbjepbifcaa.Da.walk_ixcalls A0 c0 a0 a1 W hr0 hc0 hg0 hg1).mono fun e W' ⟨he, bel⟩ => ?_
  subst he
  exact ⟨_, rfl, _, _, _, [], _, [], hW', trodAll_mk1 (shut_bool Try.underlying4 _), (trodAll_cons_mk (Below.trod laidOut (by kernel_rfl) (of_decide_eq_true (by kernel_rfl)) k0 bel lt0) (trodAll_cons_mk (Below.trod laidOut (by kernel_rfl) (of_decide_eq_true (by kernel_rfl)) k1 bel lt1) trodAll_mk0)), rfl, bel.frame _, fun h => by cases h⟩
theorem over : Rows.fnIndexCallsRow.holds Try.pinned (OpenSpec.ofChange Rows.fnIndexCallsSpec) :=
  OpenClaim.holds_of_wide 8 Try.f8 rfl rfl rfl rfl rfl rfl rfl ⟨rfl, rfl, rfl, rfl, rfl⟩ rfl rfl rfl rfl rfl (by kernel_rfl) Try.func8 (by kernel_rfl)
    (of_decide_eq_true (by kernel_rfl)) (by unfold Func.isWrapper; first | (rw [if_pos (by decide +kernel)]; kernel_rfl) | (rw [if_neg (by decide +kernel)]; exact ⟨rfl, rfl⟩))
    (fun os started H enc _ => lifted os started H enc)
theorem proved : Rows.FnIndexCallsSaid := over
#print axioms proved
end Go.Proofs.Ytaejkbjepbifcaa.fnIndexCalls
namespace Go.Proofs.Ytaejkbjepbifcaa
/-- The row, under a short name, for the claim. -/
theorem fnIndexCalls_holds : Rows.FnIndexCallsSaid := fnIndexCalls.proved
end Go.Proofs.Ytaejkbjepbifcaa
