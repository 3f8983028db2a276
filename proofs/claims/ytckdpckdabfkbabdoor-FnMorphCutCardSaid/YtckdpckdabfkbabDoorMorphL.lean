/- The sanity check of the laws on rows of three, and the law FnExactMorphRead. -/
import Derived.Deep.DeepMust
import Derived.Outline
import Derived.Test.YtckdpckdabfkbabDoorMorphS
import Derived.Test.YtckdpckdabfkbabDoorArr3
import Derived.Test.YtckdpckdabfkbabDoorRows
import Derived.LaidMore
import Derived.Lib.LaidU8
namespace Go.Proofs.YtckdpckdabfkbabDoor.Num
open Go.RowKit Go.Proofs.YtckdpckdabfkbabDoorW.PrintWords Go.Proofs.YtckdpckdabfkbabDoor.Plain Go.Proofs.YtckdpckdabfkbabDoor.PA
set_option linter.unusedVariables false
set_option linter.unusedSimpArgs false

theorem Snt.below {w W : World} (h : Snt w) (hb : Below w.heap.size w W) : Snt W := by
  have hE : 4 < w.heap.size := by obtain ⟨a, h⟩ := h.eof; exact blk_lt_cell h
  have hU : 5 < w.heap.size := by obtain ⟨t, x, h⟩ := h.bad; exact blk_lt_cell h
  exact h.move (hb.block _ hE) (hb.block _ hU)
theorem C_one3 (w : World) (m : T3) (e : TypeId) (fr : Nat × Nat) : (tri .i64).C (w.alloc (.cells #[.int .i64 m.1, .int .i64 m.2.1, .int .i64 m.2.2] e fr)) (some ⟨w.heap.size, 0, none⟩) [m].length [m] := by
  refine ⟨rfl, by simp, fun _ => ⟨_, rfl, fun j p hj => ?_⟩⟩
  match j with
  | 0 =>
    simp only [List.getElem?_cons_zero, Option.some.injEq] at hj
    subst hj
    refine ⟨vals .i64 m, rfl, K_tri, fun i u hu => ?_⟩
    have e1 : (tri .i64).sz = 3 := rfl
    rw [Nat.zero_mul, Nat.zero_add]
    have : (⟨w.heap.size, 0, none⟩ : Addr).add i = ⟨w.heap.size, i, none⟩ := by unfold Addr.add; by_cases h : i = 0 <;> simp [h]
    rw [this, Own.alloc_cell]
    simpa [vals] using hu
  | j + 1 => simp at hj
def w14 : List Int := [1, 0, 0, 0, 0, 0, 0, 0, 1, 0, 2, 0, 253, 255]
set_option maxHeartbeats 4000000 in
set_option maxRecDepth 100000 in
theorem weighs_calls (w : World) (hs : Snt w) : Calls Tryd.prog 8 #[] w fun e w' => e = .returned (.bool true) ∧ Below w.heap.size w w' := by
  have HS := Aside0.mk hs
  clear hs
  go_enter Tryd.func8, Tryd.ntmps8
  go_wp2_with fail
  have M1 := morphBytes_calls (w.alloc (.cells #[.int .i64 1, .int .i64 2, .int .i64 (-3)] 30)) (some ⟨w.heap.size, 0, none⟩) 1 [(1, 2, -3)] (C_one3 w (1, 2, -3) _ _) (by decide) (by decide)
  have e14 : wrt ([((1 : Int), (2 : Int), (-3 : Int))].map conv) [((1 : Int), (2 : Int), (-3 : Int))].length = w14 := by decide +kernel
  rw [e14] at M1
  have HM1 := Aside0.mk M1
  clear M1 e14
  with_reducible refine Calls.mono HM1.out ?_
  rintro _ W1 ⟨v1, rfl, hR, hB⟩
  obtain ⟨A1, c1, rfl, hc1, hC1, -⟩ := R_row hR
  have hB1 : Below w.heap.size w W1 := (below_alloc (Below.refl _ _) _).trans (hB.mono (by rw [Own.size_alloc]; omega))
  have M2 := Aside0.mk (morphRead_calls W1 A1 c1 w14 (HS.out.below hB1) hC1 hc1 (by decide) (by decide))
  have HB1 := Aside0.mk hB1
  clear hR hB hC1 hc1 hB1 HM1
  go_wp2_with fail
  with_reducible refine Calls.mono M2.out ?_
  rintro _ W2 (⟨l, A, c, h8, hl, hfit, rfl, hlc, hC2, hB2⟩ | ⟨hbad, rfl, hB2⟩)
  · obtain rfl : l = 1 := by
      have : valb (w14.take 8) = 1 := by decide +kernel
      omega
    have hm : mrd w14 1 = [(1, 2, -3)] := by decide +kernel
    rw [hm] at hC2
    have HB2 := Aside0.mk (HB1.out.trans (hB2.mono HB1.out.size))
    have S := Aside0.mk (same3_calls (W2.alloc (.cells #[.int .i64 1, .int .i64 2, .int .i64 (-3)] 30)) A (some ⟨W2.heap.size, 0, none⟩) c 1 [(1, 2, -3)] (Kd.C_alloc hC2 _) hlc (C_one3 W2 (1, 2, -3) _ _) (by decide))
    clear hl hfit h8 hlc hC2 hB2 hm M2
    go_wp2_with fail
    with_reducible refine Calls.mono S.out ?_
    rintro _ W3 ⟨rfl, ⟨⟨q, rfl⟩⟩⟩
    go_wp2_with fail
    go_ret
    exact ⟨rfl, pw_below_drewN (below_alloc HB2.out _) q⟩
  · exfalso
    rcases hbad with h | ⟨l, h1, h2⟩
    · exact absurd h (by decide)
    · have : valb (w14.take 8) = 1 := by decide +kernel
      have h3 : w14.length = 14 := rfl
      omega
end Go.Proofs.YtckdpckdabfkbabDoor.Num
