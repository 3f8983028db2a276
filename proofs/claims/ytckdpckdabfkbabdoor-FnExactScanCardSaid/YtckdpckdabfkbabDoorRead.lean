/- laws.readable: a range over a string. -/
import Derived.Test.YtckdpckdabfkbabDoorScan0
import Derived.Lib.OthersKept
import Derived.Laws.RangeAny
namespace Go.Proofs.YtckdpckdabfkbabDoor.Scan
open Go.RowKit Go.Proofs.YtckdpckdabfkbabDoorW.PrintWords Go.Proofs.YtckdpckdabfkbabDoor.Plain Go.Proofs.YtckdpckdabfkbabDoor.Num
set_option linter.unusedVariables false
set_option linter.unusedSimpArgs false
/-- No rune from p on is U+FFFD. -/
def noErr (D : ByteArray) : Nat → Nat → Bool
  | 0, _ => true
  | k + 1, p => if p < D.size then (if (rn D p).1 = 65533 then false else noErr D k (p + (rn D p).2)) else true
def rdb (D : ByteArray) : Bool := noErr D (D.size + 1) 0 && decide (D.size ≤ 300)
set_option maxHeartbeats 8000000 in
set_option maxRecDepth 100000 in
theorem readable_calls (D : ByteArray) (w : World) :
    Calls Tryd.prog 16 #[.string D] w fun e w' => e = .returned (.bool (rdb D)) ∧ Below w.heap.size w w' := by
  go_enter Tryd.func16, Tryd.ntmps16
  go_wp2
  go_loopg [4] D.size (fun kq v4 w' => ∃ p : Nat, Aside0 (D.size ≤ p + kq) ∧ Aside0 (w'.heap[w.heap.size]? = some (.stringIter D p)) ∧ Aside0 (Below w.heap.size w w') ∧ Aside0 (noErr D (kq + 1) p = noErr D (D.size + 1) 0))
  case atStart => exact ⟨0, ⟨by omega⟩, ⟨World.iter_heap w D 0⟩, ⟨(Below.refl _ _).alloc (Nat.le_refl _) _⟩, ⟨rfl⟩⟩
  case round =>
    obtain ⟨p, HM, HI, HB, HE⟩ := hrel
    have hm := HM.out
    have he := HE.out
    rw [noErr] at he
    by_cases hp : p < D.size
    · have hnx : ∀ ty, (Instr.next (.pointer (some ⟨w.heap.size, 0, none⟩)) true ty).run Tryd.prog wr = _ := fun ty => Lib.run_next_any_at wr w.heap.size D p ty HI.out hp
      rw [if_pos hp] at he
      obtain ⟨q1, q2, q3⟩ := rn_size D p hp
      cases gk with
      | zero => omega
      | succ k =>
      have HI2 := Aside0.mk (Lib.iterAt_heap wr w.heap.size D p (p + (Utf8.decode D p).2) HI.out)
      have HB2 := Aside0.mk (Lib.below_iterAt HB.out (k := w.heap.size) (Nat.le_refl _) D (p + (Utf8.decode D p).2))
      clear HI HB HE
      by_cases h : (rn D p).1 = 65533
      · rw [if_pos h] at he
        have HE := Aside0.mk he
        clear he
        have hb : (((Utf8.decode D p).1 : Int) == 65533) = true := by rw [beq_iff_eq]; have : (Utf8.decode D p).1 = 65533 := h; omega
        go_wp2
        go_ret
        exact ⟨by rw [rdb, ← HE.out]; rfl, HB2.out⟩
      · rw [if_neg h] at he
        have HE := Aside0.mk he
        clear he
        have hb : (((Utf8.decode D p).1 : Int) == 65533) = false := by rw [beq_eq_false_iff_ne]; have : ¬ (Utf8.decode D p).1 = 65533 := h; omega
        go_wp2
        go_roundg k
        case measure => omega
        case rel => exact ⟨p + (rn D p).2, ⟨by omega⟩, HI2, HB2, HE⟩
    · have hnx : ∀ ty, (Instr.next (.pointer (some ⟨w.heap.size, 0, none⟩)) true ty).run Tryd.prog wr = _ := fun ty => Lib.run_next_end_at wr w.heap.size D p ty HI.out hp
      rw [if_neg hp] at he
      have HE := Aside0.mk he
      clear he
      go_wp2
      go_ret
      refine ⟨?_, HB.out⟩
      rw [rdb, ← HE.out]
      by_cases h3 : D.size ≤ 300
      · have : (D.size : Int) ≤ 300 := by omega
        simp [h3, this]
      · have : ¬ (D.size : Int) ≤ 300 := by omega
        simp [h3, this]
end Go.Proofs.YtckdpckdabfkbabDoor.Scan
