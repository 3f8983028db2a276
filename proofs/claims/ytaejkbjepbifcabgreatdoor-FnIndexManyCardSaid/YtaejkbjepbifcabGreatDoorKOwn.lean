/- Small lemmas for walks: a new row of scalars, marked or not, reads as its list. -/
import Derived.Test.YtaejkbjepbifcabGreatDoorKWords
import Derived.Test.YtaejkbjepbifcabGreatDoorKMore
import Derived.Test.YtaejkbjepbifcabGreatDoorKNEv
import Derived.Laws.MakeOwn
import Derived.Lib.SlBytesConst
import Derived.WalkSpells
namespace Go.Proofs.YtaejkbjepbifcabGreatDoor.Own
open Go.RowKit Go.Proofs.YtaejkbjepbifcabGreatDoorW.PrintWords

theorem alloc_cell (w : World) (cs : Array Value) (e : TypeId) (fr : Nat × Nat) (i : Nat) : (w.alloc (.cells cs e fr)).cell? ⟨w.heap.size, i, none⟩ = cs[i]? := by
  unfold World.cell? World.alloc; simp

/-- A row of scalars that has just been laid reads as its list. -/
theorem C_alloc_new {α : Type} {enc : α → Value} {h1 : ∀ x, (enc x).oneCell' = true} (w : World) (xs : List α) (e : TypeId) (fr : Nat × Nat) (cs : Array Value) (hcs : cs = (xs.map enc).toArray) (hm : xs.length ≤ 9223372036854775807) :
    (Kd.scalar enc h1).C (w.alloc (.cells cs e fr)) (some ⟨w.heap.size, 0, none⟩) xs.length xs := by
  subst hcs
  refine ⟨rfl, hm, fun _ => ⟨_, rfl, fun j p hj => ⟨[enc p], rfl, rfl, fun i u hu => ?_⟩⟩⟩
  cases i with
  | succ i => simp at hu
  | zero =>
    simp at hu
    subst hu
    have : (⟨w.heap.size, 0, none⟩ : Addr).add (j * (Kd.scalar enc h1).sz + 0) = ⟨w.heap.size, j, none⟩ := by
      have : (Kd.scalar enc h1).sz = 1 := rfl
      rw [this]
      unfold Addr.add
      by_cases h : j = 0 <;> simp [h]
    rw [this, alloc_cell]
    simp [hj]

theorem size_alloc (w : World) (o : Obj) : (w.alloc o).heap.size = w.heap.size + 1 := by unfold World.alloc; simp

theorem isEmpty_bne (l : List UInt8) : l.isEmpty = !(l != []) := by cases l <;> rfl

section
variable {P : Program} {ops : Array Oper} {rest : List Oper} {o : Oper} {a : Act} {Q : Exit → Act → World → Prop} {α : Type}
open Go.Proofs.YtaejkbjepbifcabGreatDoorW.PrintWords.Kd
end

/-- The order of texts is that of their bytes. -/
theorem bl_eq : ∀ (x y : List UInt8), Op.bytesLess x y = decide (x < y)
  | [], [] => by simp [Op.bytesLess]
  | _ :: _, [] => by simp [Op.bytesLess]
  | [], _ :: _ => by simp [Op.bytesLess]
  | a :: x, b :: y => by
    rw [Op.bytesLess, bl_eq x y]
    simp only [List.cons_lt_cons_iff]
    by_cases h1 : a < b <;> by_cases h2 : a = b <;> by_cases h3 : x < y <;> simp [h1, h2, h3]
end Go.Proofs.YtaejkbjepbifcabGreatDoor.Own
