/- laws.small16. -/
import Derived.Test.YtckdpckdabfkbabDoorMorphL
namespace Go.Proofs.YtckdpckdabfkbabDoor.Num
open Go.RowKit Go.Proofs.YtckdpckdabfkbabDoorW.PrintWords Go.Proofs.YtckdpckdabfkbabDoor.Plain Go.Proofs.YtckdpckdabfkbabDoor.PA
set_option linter.unusedVariables false
set_option linter.unusedSimpArgs false

def SmallP (l : List T3) (w : World) (e : Ending) (w' : World) : Prop := ∃ b, e = .returned (.bool b) ∧ (b = true → l.length ≤ 200) ∧ Below w.heap.size w w'
theorem le200 {n : Nat} (h : decide ((n : Int) ≤ 200) = true) : n ≤ 200 := by have := of_decide_eq_true h; omega
theorem idx3_0 (x y z : Value) (w : World) : (Instr.index 30 (.agg #[x, y, z]) (.int .i64 0)).run Tryd.prog w = .ok x w := by kernel_rfl
theorem idx3_1 (x y z : Value) (w : World) : (Instr.index 30 (.agg #[x, y, z]) (.int .i64 1)).run Tryd.prog w = .ok y w := by kernel_rfl
theorem idx3_2 (x y z : Value) (w : World) : (Instr.index 30 (.agg #[x, y, z]) (.int .i64 2)).run Tryd.prog w = .ok z w := by kernel_rfl
set_option maxHeartbeats 8000000 in
set_option maxRecDepth 100000 in
theorem small16_calls (w : World) (A : Option Addr) (c : Nat) (l : List T3) (hC : (tri .i64).C w A l.length l) (hc : l.length ≤ c) :
    Calls Tryd.prog 12 #[.slice A l.length c] w (SmallP l w) := by
  have HC := Aside0.mk hC
  have HM : Aside0 (l.length ≤ 9223372036854775807) := ⟨hC.2.1⟩
  have i0 := idx3_0
  have i1 := idx3_1
  have i2 := idx3_2
  clear hC
  go_enter Tryd.func12, Tryd.ntmps12
  go_wp2_with fail
  go_loopg [9] l.length (fun kq v9 w' => ∃ i : Nat, v9 = .int .i64 i ∧ Aside0 (i + kq = l.length) ∧ Aside0 (Below w.heap.size w w'))
  case atStart => exact ⟨0, rfl, ⟨by omega⟩, ⟨Below.refl _ _⟩⟩
  case round =>
    obtain ⟨i, rfl, HK, HB⟩ := hrel
    by_cases c1 : (i : Int) < (l.length : Int)
    · obtain ⟨ad, m, rfl, hm, y0, y1, y2⟩ := tri_at (Kd.C_below HC.out HB.out) i (by omega)
      obtain ⟨x0, x1, x2⟩ := m
      simp only at y0 y1 y2
      have p1 : (0 : Int) ≤ i := by omega
      have c1b := decide_eq_true c1
      have HBA : Aside0 (Below w.heap.size w (wr.alloc (.cells #[.int .i64 x0, .int .i64 x1, .int .i64 x2] 30))) := ⟨below_alloc HB.out _⟩
      clear hm
      by_cases b0 : x0 < -32768 ∨ x0 > 32767
      · rcases b0 with b0 | b0
        all_goals
          go_wp2_with fail
          refine wp_loop_rounds 5 ?_
          iterate 1 (rw [rounds_succ]; go_wp2_with fail)
          go_ret
          exact ⟨false, rfl, (fun h => by cases h), HBA.out⟩
      · have l0 : ¬ x0 < -32768 := fun h => b0 (.inl h)
        have m0 : ¬ x0 > 32767 := fun h => b0 (.inr h)
        by_cases b1 : x1 < -32768 ∨ x1 > 32767
        · rcases b1 with b1 | b1
          all_goals
            go_wp2_with fail
            refine wp_loop_rounds 5 ?_
            iterate 2 (rw [rounds_succ]; go_wp2_with fail)
            go_ret
            exact ⟨false, rfl, (fun h => by cases h), HBA.out⟩
        · have l1 : ¬ x1 < -32768 := fun h => b1 (.inl h)
          have m1 : ¬ x1 > 32767 := fun h => b1 (.inr h)
          by_cases b2 : x2 < -32768 ∨ x2 > 32767
          · rcases b2 with b2 | b2
            all_goals
              go_wp2_with fail
              refine wp_loop_rounds 5 ?_
              iterate 3 (rw [rounds_succ]; go_wp2_with fail)
              go_ret
              exact ⟨false, rfl, (fun h => by cases h), HBA.out⟩
          · have l2 : ¬ x2 < -32768 := fun h => b2 (.inl h)
            have m2 : ¬ x2 > 32767 := fun h => b2 (.inr h)
            clear b0 b1 b2
            go_wp2_with fail
            refine wp_loop_rounds 5 ?_
            iterate 4 (rw [rounds_succ]; go_wp2_with fail)
            have HK' := HK.out
            have HM' := HM.out
            cases gk with
            | zero => omega
            | succ k9 =>
              go_roundg k9
              case measure => omega
              case rel => exact ⟨i + 1, int_eq (by first | omega | (rw [wrap_ok (by omega) (by omega)]; omega)), ⟨by omega⟩, HBA⟩
    · have c1b := decide_eq_false c1
      go_wp2_with fail
      go_ret
      exact ⟨_, rfl, le200, HB.out⟩
end Go.Proofs.YtckdpckdabfkbabDoor.Num
