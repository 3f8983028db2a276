/- The row of the law FnTrieOrder out of its walk: each argument is opened into plain data; the walk says that the call returns true and changes nothing that was there. -/
import Derived.Test.YtaejkbjepbifcaaRows
import Derived.Test.YtaejkbjepbifcaaKOpn
import Derived.Test.YtaejkbjepbifcaaWalkFnTrieOrder
import Derived.WalkKit
import Derived.ProofKit
import Derived.OpenShut
import Derived.ShutString
import Derived.ChangeOld
import Derived.Below
import Derived.SizedLaws
namespace Go.Proofs.Ytaejkbjepbifcaa.fnTrieOrder
open Go.ChangeShapes Go.WideShapes Go.ChangeAt Go.RowKit Go.Proofs.Ytaejkbjepbifcaa.Open Go.Proofs.YtaejkbjepbifcaaW.PrintWords
open Go.ChangeMaps (open_string shut_string)
set_option linter.unusedVariables false
set_option linter.unusedSimpArgs false
theorem own : ownKnob Try.prog.godebug = none := by kernel_rfl
theorem laidOut : laidOutB Try.prog = true := by kernel_rfl
theorem opens0 : Opens Try.prog 22 (Kd.slice 9 Kd.string) (fun a => a.length * 16 ≤ 140737488351232 ∧ ∀ y0 ∈ a, y0.size ≤ 140737488351232) := Opens.imp (opens_slice (B := 16) (by kernel_rfl) Try.underlying22 (by kernel_rfl) (opens_string (by kernel_rfl) Try.underlying9)) (fun _ h => h)
theorem opens1 : Opens Try.prog 23 (Kd.slice 3 (Kd.int .i64)) (fun a => a.length * 8 ≤ 140737488351232 ∧ ∀ y0 ∈ a, (Lit.int .i64 y0).wf = true) := Opens.imp (opens_slice (B := 8) (by kernel_rfl) Try.underlying23 (by kernel_rfl) (opens_int (by kernel_rfl) Try.underlying3)) (fun _ h => h)
theorem opens2 : Opens Try.prog 5 (Kd.int .u8) (fun a => (Lit.int .u8 a).wf = true) := Opens.imp (opens_int (by kernel_rfl) Try.underlying5) (fun _ h => h)
theorem opens3 : Opens Try.prog 22 (Kd.slice 9 Kd.string) (fun a => a.length * 16 ≤ 140737488351232 ∧ ∀ y0 ∈ a, y0.size ≤ 140737488351232) := Opens.imp (opens_slice (B := 16) (by kernel_rfl) Try.underlying22 (by kernel_rfl) (opens_string (by kernel_rfl) Try.underlying9)) (fun _ h => h)
set_option maxHeartbeats 2000000 in
set_option maxRecDepth 100000 in
theorem lifted (os : Os) (started : os.Started) (H : Type) (enc : TypeId × Value → H) :
    ReturnsInHanded {} Try.checked os 5 .any (Rows.fnTrieOrderSpec.pre6 enc Try.prog Try.f5 Rows.fnTrieOrderRow.domain false) (Rows.fnTrieOrderSpec.post enc Try.prog Try.f5 false true false false) := by
  refine returnsInHanded_of_change_sized (C := Try.checked) own started (by kernel_rfl) Try.func5
    (ChangeSpec.witness6 (enc := enc) (C := Try.checked) false ⟨#[], #[.slice none 0 0, .slice none 0 0, .int .u8 0, .slice none 0 0], []⟩ 8 (by kernel_rfl) (by kernel_rfl) (by kernel_rfl) (by kernel_rfl)) ?_
  intro W base args ds gs before hval0 hW hcnd hsz0 _
  have hsz : (DataW.weightsEach Try.prog (Try.f5.params.toList ++ Rows.fnTrieOrderSpec.plain.varTypes Try.prog) (ds ++ gs)).all (· ≤ reachBytes) = true := hsz0
  have hval : ∀ (j : Nat) t v, Try.f5.params[j]? = some t → args[j]? = some v → Value.okWide Try.prog W .any base t v := hval0
  have hW' := hW
  obtain ⟨p, q, hA0, hV, rfl, hfz, hnd⟩ := hW
  have hA : DataW.TrodAll enc Try.prog W 0 (fun _ => true) true Try.f5.params.toList args.toList ds p := hA0
  rw [Try.params5] at hA hval hsz
  obtain ⟨v0, vs0, d0, ds0, p0, q0, hargs, rfl, rfl, h0, r0⟩ := trodAll_cons hA
  obtain ⟨v1, vs1, d1, ds1, p1, q1, rfl, rfl, rfl, h1, r1⟩ := trodAll_cons r0
  obtain ⟨v2, vs2, d2, ds2, p2, q2, rfl, rfl, rfl, h2, r2⟩ := trodAll_cons r1
  obtain ⟨v3, vs3, d3, ds3, p3, q3, rfl, rfl, rfl, h3, r3⟩ := trodAll_cons r2
  obtain ⟨rfl, rfl, rfl⟩ := trodAll_nil r3
  obtain rfl : args = #[v0, v1, v2, v3] := by cases args; simp_all
  obtain ⟨rfl, rfl⟩ := trodVars_none hV
  obtain ⟨a0, ha0, hg0⟩ := open_arg opens0 hsz (j := 0) rfl rfl h0
  have k0 := h0
  have lt0 : ∀ x ∈ p0, x.block < W.heap.size := by obtain ⟨m, hm⟩ := k0; exact DataW.trod_lt m _ _ _ hm
  obtain ⟨A0, len0, c0, rfl⟩ := okWide_slice Try.underlying22 (hval 0 22 v0 rfl rfl)
  obtain ⟨B0, b0, hcs0, hc0, hr0⟩ := ha0
  simp only [Value.cells, List.cons.injEq, Value.slice.injEq, and_true] at hcs0
  obtain ⟨rfl, rfl, rfl⟩ := hcs0
  obtain ⟨a1, ha1, hg1⟩ := open_arg opens1 hsz (j := 1) rfl rfl h1
  have k1 := h1
  have lt1 : ∀ x ∈ p1, x.block < W.heap.size := by obtain ⟨m, hm⟩ := k1; exact DataW.trod_lt m _ _ _ hm
  obtain ⟨A1, len1, c1, rfl⟩ := okWide_slice Try.underlying23 (hval 1 23 v1 rfl rfl)
  obtain ⟨B1, b1, hcs1, hc1, hr1⟩ := ha1
  simp only [Value.cells, List.cons.injEq, Value.slice.injEq, and_true] at hcs1
  obtain ⟨rfl, rfl, rfl⟩ := hcs1
  obtain ⟨a2, ha2, hg2⟩ := open_arg opens2 hsz (j := 2) rfl rfl h2
  have k2 := h2
  have lt2 : ∀ x ∈ p2, x.block < W.heap.size := by obtain ⟨m, hm⟩ := k2; exact DataW.trod_lt m _ _ _ hm
  obtain ⟨b2, rfl, rfl, rfl, _⟩ := open_int Try.underlying5 (hval 2 5 v2 rfl rfl) h2
  have hcs2 := ha2
  simp only [Kd.int, Kd.scalar, Value.cells, List.cons.injEq, Value.int.injEq, and_true, true_and] at hcs2
  obtain rfl : a2 = b2 := hcs2.symm
  obtain ⟨a3, ha3, hg3⟩ := open_arg opens3 hsz (j := 3) rfl rfl h3
  have k3 := h3
  have lt3 : ∀ x ∈ p3, x.block < W.heap.size := by obtain ⟨m, hm⟩ := k3; exact DataW.trod_lt m _ _ _ hm
  obtain ⟨A3, len3, c3, rfl⟩ := okWide_slice Try.underlying22 (hval 3 22 v3 rfl rfl)
  obtain ⟨B3, b3, hcs3, hc3, hr3⟩ := ha3
  simp only [Value.cells, List.cons.injEq, Value.slice.injEq, and_true] at hcs3
  obtain ⟨rfl, rfl, rfl⟩ := hcs3
  clear hA0 hval0 hsz0 hsz
  refine (Go.Proofs.Ytaejkbjepbifcaa.Da.walk_order A0 c0 a0 A1 c1 a1 a2 A3 c3 a3 W hr0 hc0 hg0 hr1 hc1 hg1 hg2 hr3 hc3 hg3).mono fun e W' ⟨he, bel⟩ => ?_
  subst he
  exact ⟨_, rfl, _, _, _, [], _, [], hW', trodAll_mk1 (shut_bool Try.underlying4 _), (trodAll_cons_mk (Below.trod laidOut (by kernel_rfl) (of_decide_eq_true (by kernel_rfl)) k0 bel lt0) (trodAll_cons_mk (Below.trod laidOut (by kernel_rfl) (of_decide_eq_true (by kernel_rfl)) k1 bel lt1) (trodAll_cons_mk (Below.trod laidOut (by kernel_rfl) (of_decide_eq_true (by kernel_rfl)) k2 bel lt2) (trodAll_cons_mk (Below.trod laidOut (by kernel_rfl) (of_decide_eq_true (by kernel_rfl)) k3 bel lt3) trodAll_mk0)))), rfl, bel.frame _, fun h => by cases h⟩
theorem over : Rows.fnTrieOrderRow.holds Try.pinned (OpenSpec.ofChange Rows.fnTrieOrderSpec) :=
  OpenClaim.holds_of_wide 5 Try.f5 rfl rfl rfl rfl rfl rfl rfl ⟨rfl, rfl, rfl, rfl, rfl⟩ rfl rfl rfl rfl rfl (by kernel_rfl) Try.func5 (by kernel_rfl)
    (of_decide_eq_true (by kernel_rfl)) (by unfold Func.isWrapper; first | (rw [if_pos (by decide +kernel)]; kernel_rfl) | (rw [if_neg (by decide +kernel)]; exact ⟨rfl, rfl⟩))
    (fun os started H enc _ => lifted os started H enc)
theorem proved : Rows.FnTrieOrderSaid := over
#print axioms proved
end Go.Proofs.Ytaejkbjepbifcaa.fnTrieOrder
namespace Go.Proofs.Ytaejkbjepbifcaa
/-- The row, under a short name, for the claim. -/
theorem fnTrieOrder_holds : Rows.FnTrieOrderSaid := fnTrieOrder.proved
end Go.Proofs.Ytaejkbjepbifcaa
