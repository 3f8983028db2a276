/- The walks over tries and what they compute: part 3 of several, put together by a program. -/
import Derived.Test.YtaejkbjepbifcabDoorJ0
import Derived.Test.YtaejkbjepbifcabDoorJ2
import Derived.Test.YtaejkbjepbifcabDoorProg
import Derived.Test.YtaejkbjepbifcabDoorKOwn
import Derived.Test.YtaejkbjepbifcabDoorWRepsOne
import Derived.Test.YtaejkbjepbifcabDoorPlain
import Derived.Deep.LoopGhost
import Derived.Handy
import Derived.Laws.CopyRow
import Derived.LaidEql
import Derived.StillTailTactics
import Derived.Deep.QuietTactic
import Derived.BigQuiet
import Derived.Deep.RegionWith
import Derived.Test.YtaejkbjepbifcabDoorShelf
import Derived.LoopN
import Derived.Lib.EndianBits
import Derived.Lib.Buffer
namespace Go.Proofs.YtaejkbjepbifcabDoor.PB
open Go.RowKit Go.Proofs.YtaejkbjepbifcabDoorW.PrintWords Go.Proofs.YtaejkbjepbifcabDoorW.PrintLast Go.Proofs.YtaejkbjepbifcabDoorW.PrintMore
attribute [local go_sem] max2_int min2_int max_two min_two max_three min_three max_four min_four   -- for this text's walks alone
set_option linter.unusedVariables false
set_option linter.unusedSimpArgs false

abbrev mk0 : Array Bool := #[false, false, false, false, false, false, false, false, false, false, false, false, false, false, false, false, false, false, false, false, false, false, false, false, false, false, false, false, false, false, false, false, false, false, false, false, false, false, false, false, false, false, false, false, false]
abbrev mk1 : Array Bool := #[true, false, false, false, false, false, false, false, false, false, false, false, false, false, false, false, false, false, false, false, false, false, false, false, false, false, false, false, false, false, false, false, false, false, false, false, false, false, false, false, false, false, false, false, false]
abbrev mk2 : Array Bool := #[true, true, false, false, false, false, false, false, false, false, false, false, false, false, false, false, false, false, false, false, false, false, false, false, false, false, false, false, false, false, false, false, false, false, false, false, false, false, false, false, false, false, false, false, false]
abbrev mk3 : Array Bool := #[true, true, true, false, false, false, false, false, false, false, false, false, false, false, false, false, false, false, false, false, false, false, false, false, false, false, false, false, false, false, false, false, false, false, false, false, false, false, false, false, false, false, false, false, false]
abbrev mk4 : Array Bool := #[true, true, true, true, false, false, false, false, false, false, false, false, false, false, false, false, false, false, false, false, false, false, false, false, false, false, false, false, false, false, false, false, false, false, false, false, false, false, false, false, false, false, false, false, false]
abbrev mk5 : Array Bool := #[true, true, true, true, true, false, false, false, false, false, false, false, false, false, false, false, false, false, false, false, false, false, false, false, false, false, false, false, false, false, false, false, false, false, false, false, false, false, false, false, false, false, false, false, false]
abbrev mk6 : Array Bool := #[true, true, true, true, true, true, false, false, false, false, false, false, false, false, false, false, false, false, false, false, false, false, false, false, false, false, false, false, false, false, false, false, false, false, false, false, false, false, false, false, false, false, false, false, false]
abbrev mk7 : Array Bool := #[true, true, true, true, true, true, true, false, false, false, false, false, false, false, false, false, false, false, false, false, false, false, false, false, false, false, false, false, false, false, false, false, false, false, false, false, false, false, false, false, false, false, false, false, false]
abbrev mk8 : Array Bool := #[true, true, true, true, true, true, true, true, false, false, false, false, false, false, false, false, false, false, false, false, false, false, false, false, false, false, false, false, false, false, false, false, false, false, false, false, false, false, false, false, false, false, false, false, false]
abbrev mk9 : Array Bool := #[true, true, true, true, true, true, true, true, true, false, false, false, false, false, false, false, false, false, false, false, false, false, false, false, false, false, false, false, false, false, false, false, false, false, false, false, false, false, false, false, false, false, false, false, false]
abbrev mk10 : Array Bool := #[true, true, true, true, true, true, true, true, true, true, false, false, false, false, false, false, false, false, false, false, false, false, false, false, false, false, false, false, false, false, false, false, false, false, false, false, false, false, false, false, false, false, false, false, false]
abbrev mk11 : Array Bool := #[true, true, true, true, true, true, true, true, true, true, true, false, false, false, false, false, false, false, false, false, false, false, false, false, false, false, false, false, false, false, false, false, false, false, false, false, false, false, false, false, false, false, false, false, false]
abbrev mk12 : Array Bool := #[true, true, true, true, true, true, true, true, true, true, true, true, false, false, false, false, false, false, false, false, false, false, false, false, false, false, false, false, false, false, false, false, false, false, false, false, false, false, false, false, false, false, false, false, false]
abbrev mk13 : Array Bool := #[true, true, true, true, true, true, true, true, true, true, true, true, true, false, false, false, false, false, false, false, false, false, false, false, false, false, false, false, false, false, false, false, false, false, false, false, false, false, false, false, false, false, false, false, false]
abbrev mk14 : Array Bool := #[true, true, true, true, true, true, true, true, true, true, true, true, true, true, false, false, false, false, false, false, false, false, false, false, false, false, false, false, false, false, false, false, false, false, false, false, false, false, false, false, false, false, false, false, false]
abbrev mk15 : Array Bool := #[true, true, true, true, true, true, true, true, true, true, true, true, true, true, true, false, false, false, false, false, false, false, false, false, false, false, false, false, false, false, false, false, false, false, false, false, false, false, false, false, false, false, false, false, false]
abbrev mk16 : Array Bool := #[true, true, true, true, true, true, true, true, true, true, true, true, true, true, true, true, false, false, false, false, false, false, false, false, false, false, false, false, false, false, false, false, false, false, false, false, false, false, false, false, false, false, false, false, false]
abbrev mk17 : Array Bool := #[true, true, true, true, true, true, true, true, true, true, true, true, true, true, true, true, true, false, false, false, false, false, false, false, false, false, false, false, false, false, false, false, false, false, false, false, false, false, false, false, false, false, false, false, false]
abbrev mk18 : Array Bool := #[true, true, true, true, true, true, true, true, true, true, true, true, true, true, true, true, true, true, false, false, false, false, false, false, false, false, false, false, false, false, false, false, false, false, false, false, false, false, false, false, false, false, false, false, false]
abbrev mk19 : Array Bool := #[true, true, true, true, true, true, true, true, true, true, true, true, true, true, true, true, true, true, true, false, false, false, false, false, false, false, false, false, false, false, false, false, false, false, false, false, false, false, false, false, false, false, false, false, false]
abbrev mk20 : Array Bool := #[true, true, true, true, true, true, true, true, true, true, true, true, true, true, true, true, true, true, true, true, false, false, false, false, false, false, false, false, false, false, false, false, false, false, false, false, false, false, false, false, false, false, false, false, false]
abbrev mk21 : Array Bool := #[true, true, true, true, true, true, true, true, true, true, true, true, true, true, true, true, true, true, true, true, true, false, false, false, false, false, false, false, false, false, false, false, false, false, false, false, false, false, false, false, false, false, false, false, false]
abbrev mk22 : Array Bool := #[true, true, true, true, true, true, true, true, true, true, true, true, true, true, true, true, true, true, true, true, true, true, false, false, false, false, false, false, false, false, false, false, false, false, false, false, false, false, false, false, false, false, false, false, false]
abbrev mk23 : Array Bool := #[true, true, true, true, true, true, true, true, true, true, true, true, true, true, true, true, true, true, true, true, true, true, true, false, false, false, false, false, false, false, false, false, false, false, false, false, false, false, false, false, false, false, false, false, false]
abbrev mk24 : Array Bool := #[true, true, true, true, true, true, true, true, true, true, true, true, true, true, true, true, true, true, true, true, true, true, true, true, false, false, false, false, false, false, false, false, false, false, false, false, false, false, false, false, false, false, false, false, false]
abbrev mk25 : Array Bool := #[true, true, true, true, true, true, true, true, true, true, true, true, true, true, true, true, true, true, true, true, true, true, true, true, true, false, false, false, false, false, false, false, false, false, false, false, false, false, false, false, false, false, false, false, false]
abbrev mk26 : Array Bool := #[true, true, true, true, true, true, true, true, true, true, true, true, true, true, true, true, true, true, true, true, true, true, true, true, true, true, false, false, false, false, false, false, false, false, false, false, false, false, false, false, false, false, false, false, false]
abbrev mk27 : Array Bool := #[true, true, true, true, true, true, true, true, true, true, true, true, true, true, true, true, true, true, true, true, true, true, true, true, true, true, true, false, false, false, false, false, false, false, false, false, false, false, false, false, false, false, false, false, false]
abbrev mk28 : Array Bool := #[true, true, true, true, true, true, true, true, true, true, true, true, true, true, true, true, true, true, true, true, true, true, true, true, true, true, true, true, false, false, false, false, false, false, false, false, false, false, false, false, false, false, false, false, false]
abbrev mk29 : Array Bool := #[true, true, true, true, true, true, true, true, true, true, true, true, true, true, true, true, true, true, true, true, true, true, true, true, true, true, true, true, true, false, false, false, false, false, false, false, false, false, false, false, false, false, false, false, false]
abbrev mk30 : Array Bool := #[true, true, true, true, true, true, true, true, true, true, true, true, true, true, true, true, true, true, true, true, true, true, true, true, true, true, true, true, true, true, false, false, false, false, false, false, false, false, false, false, false, false, false, false, false]
abbrev mk31 : Array Bool := #[true, true, true, true, true, true, true, true, true, true, true, true, true, true, true, true, true, true, true, true, true, true, true, true, true, true, true, true, true, true, true, false, false, false, false, false, false, false, false, false, false, false, false, false, false]
abbrev mk32 : Array Bool := #[true, true, true, true, true, true, true, true, true, true, true, true, true, true, true, true, true, true, true, true, true, true, true, true, true, true, true, true, true, true, true, true, false, false, false, false, false, false, false, false, false, false, false, false, false]
abbrev mk33 : Array Bool := #[true, true, true, true, true, true, true, true, true, true, true, true, true, true, true, true, true, true, true, true, true, true, true, true, true, true, true, true, true, true, true, true, true, false, false, false, false, false, false, false, false, false, false, false, false]
abbrev mk34 : Array Bool := #[true, true, true, true, true, true, true, true, true, true, true, true, true, true, true, true, true, true, true, true, true, true, true, true, true, true, true, true, true, true, true, true, true, true, false, false, false, false, false, false, false, false, false, false, false]
abbrev mk35 : Array Bool := #[true, true, true, true, true, true, true, true, true, true, true, true, true, true, true, true, true, true, true, true, true, true, true, true, true, true, true, true, true, true, true, true, true, true, true, false, false, false, false, false, false, false, false, false, false]
abbrev mk36 : Array Bool := #[true, true, true, true, true, true, true, true, true, true, true, true, true, true, true, true, true, true, true, true, true, true, true, true, true, true, true, true, true, true, true, true, true, true, true, true, false, false, false, false, false, false, false, false, false]
abbrev mk37 : Array Bool := #[true, true, true, true, true, true, true, true, true, true, true, true, true, true, true, true, true, true, true, true, true, true, true, true, true, true, true, true, true, true, true, true, true, true, true, true, true, false, false, false, false, false, false, false, false]
abbrev mk38 : Array Bool := #[true, true, true, true, true, true, true, true, true, true, true, true, true, true, true, true, true, true, true, true, true, true, true, true, true, true, true, true, true, true, true, true, true, true, true, true, true, true, false, false, false, false, false, false, false]
abbrev mk39 : Array Bool := #[true, true, true, true, true, true, true, true, true, true, true, true, true, true, true, true, true, true, true, true, true, true, true, true, true, true, true, true, true, true, true, true, true, true, true, true, true, true, true, false, false, false, false, false, false]
abbrev mk40 : Array Bool := #[true, true, true, true, true, true, true, true, true, true, true, true, true, true, true, true, true, true, true, true, true, true, true, true, true, true, true, true, true, true, true, true, true, true, true, true, true, true, true, true, false, false, false, false, false]
abbrev mk41 : Array Bool := #[true, true, true, true, true, true, true, true, true, true, true, true, true, true, true, true, true, true, true, true, true, true, true, true, true, true, true, true, true, true, true, true, true, true, true, true, true, true, true, true, true, false, false, false, false]
abbrev mk42 : Array Bool := #[true, true, true, true, true, true, true, true, true, true, true, true, true, true, true, true, true, true, true, true, true, true, true, true, true, true, true, true, true, true, true, true, true, true, true, true, true, true, true, true, true, true, false, false, false]
abbrev mk43 : Array Bool := #[true, true, true, true, true, true, true, true, true, true, true, true, true, true, true, true, true, true, true, true, true, true, true, true, true, true, true, true, true, true, true, true, true, true, true, true, true, true, true, true, true, true, true, false, false]
abbrev mk44 : Array Bool := #[true, true, true, true, true, true, true, true, true, true, true, true, true, true, true, true, true, true, true, true, true, true, true, true, true, true, true, true, true, true, true, true, true, true, true, true, true, true, true, true, true, true, true, true, false]
abbrev mk45 : Array Bool := #[true, true, true, true, true, true, true, true, true, true, true, true, true, true, true, true, true, true, true, true, true, true, true, true, true, true, true, true, true, true, true, true, true, true, true, true, true, true, true, true, true, true, true, true, true]
abbrev mk46 : Array Bool := #[true, true, true, true, true, true, true, true, true, true, true, true, true, true, true, true, true, true, true, true, true, false, true, false, false, false, false, false, false, false, false, false, false, false, false, false, false, false, false, false, false, false, false, false, false]
abbrev mk47 : Array Bool := #[true, true, true, true, true, true, true, true, true, true, true, true, true, true, true, true, true, true, true, true, true, false, true, true, false, false, false, false, false, false, false, false, false, false, false, false, false, false, false, false, false, false, false, false, false]
abbrev mk48 : Array Bool := #[true, true, true, true, true, true, true, true, true, true, true, true, true, true, true, true, true, true, true, true, true, false, true, true, true, false, false, false, false, false, false, false, false, false, false, false, false, false, false, false, false, false, false, false, false]
abbrev mk49 : Array Bool := #[true, true, true, true, true, true, true, true, true, true, true, true, true, true, true, true, true, true, true, true, true, false, true, true, true, true, false, false, false, false, false, false, false, false, false, false, false, false, false, false, false, false, false, false, false]
abbrev mk50 : Array Bool := #[true, true, true, true, true, true, true, true, true, true, true, true, true, true, true, true, true, true, true, true, true, true, true, true, true, true, true, true, true, true, true, true, true, true, false, true, false, false, false, false, false, false, false, false, false]
abbrev mk51 : Array Bool := #[true, true, true, true, true, true, true, true, true, true, true, true, true, true, true, true, true, true, true, true, true, true, true, true, true, true, true, true, true, true, true, true, true, true, false, true, true, false, false, false, false, false, false, false, false]
abbrev mk52 : Array Bool := #[true, true, true, true, true, true, true, true, true, true, true, true, true, true, true, true, true, true, true, true, true, true, true, true, true, true, true, true, true, true, true, true, true, true, false, true, true, true, false, false, false, false, false, false, false]
abbrev mk53 : Array Bool := #[true, true, true, true, true, true, true, true, true, true, true, true, true, true, true, true, true, true, true, true, true, true, true, true, true, true, true, true, true, true, true, true, true, true, false, true, true, true, true, false, false, false, false, false, false]
/-! ### laws_ordered: function 7 -/
def laws_ordered.l0 : Nat → List ByteArray → Bool → Int → Int → Option (Bool)
 | 0, _, _, _, _ => none
 | k + 1, x0, x1, x7, x8 => if x8 < x7 then (if 0 ≤ x8 then (if x8 < (x0.length : Int) then (if (rdOf ByteArray.empty x0 x8).toList = ([] : List UInt8) then (some false) else ((laws_clean.f k (([rdOf ByteArray.empty x0 x8] : List ByteArray))).bind fun t156 => (if t156 = true then (if x8 > 0 then (if 0 ≤ (wrap64 (x8 - 1)) then (if (wrap64 (x8 - 1)) < (x0.length : Int) then (if (Op.bytesLess ((rdOf ByteArray.empty x0 x8).toList) ((rdOf ByteArray.empty x0 (wrap64 (x8 - 1))).toList)) = true then (some false) else (if x1 = true then (if (rdOf ByteArray.empty x0 x8).toList = (rdOf ByteArray.empty x0 (wrap64 (x8 - 1))).toList then (some false) else (laws_ordered.l0 k x0 x1 x7 (wrap64 (x8 + 1)))) else (laws_ordered.l0 k x0 x1 x7 (wrap64 (x8 + 1))))) else (none)) else (none)) else (laws_ordered.l0 k x0 x1 x7 (wrap64 (x8 + 1)))) else (some false)))) else (none)) else (none)) else (some (decide ((x0.length : Int) > 0)))
def laws_ordered.f (k : Nat) (l0 : List ByteArray) (a1 : Bool) : Option (Bool) := laws_ordered.l0 k l0 a1 (l0.length : Int) 0
theorem laws_ordered.mono_l : ∀ k, (∀ y0 y1 y2 y3, LeO (laws_ordered.l0 k y0 y1 y2 y3) (laws_ordered.l0 (k + 1) y0 y1 y2 y3))
 | 0 => fun _ _ _ _ r h => by simp [laws_ordered.l0] at h
 | k + 1 => by
  have ih0 := laws_ordered.mono_l k
  ·intro y0 y1 y2 y3
   unfold laws_ordered.l0
   repeat' first
   | (with_reducible exact ih0 _ _ _ _)
   | (with_reducible exact laws_clean.mono _ _)
   | (with_reducible exact LeO.refl _)
   | (with_reducible exact LeO.none _)
   | (with_reducible refine LeO.ite ?_ ?_)
   | (with_reducible refine LeO.bind ?_ (fun _ => ?_))
   | exact ih0 _ _ _ _
   | exact laws_clean.mono _ _
   | exact LeO.none _
   | refine LeO.ite ?_ ?_
   | refine LeO.bind ?_ (fun _ => ?_)
theorem laws_ordered.mono : ∀ a0 a1 k, LeO (laws_ordered.f k a0 a1) (laws_ordered.f (k + 1) a0 a1) := by
 intro a0 a1 k
 have ih0 := laws_ordered.mono_l k
 unfold laws_ordered.f
 repeat' first
   | (with_reducible exact ih0 _ _ _ _)
   | (with_reducible exact laws_clean.mono _ _)
   | (with_reducible exact LeO.refl _)
   | (with_reducible exact LeO.none _)
   | (with_reducible refine LeO.ite ?_ ?_)
   | (with_reducible refine LeO.bind ?_ (fun _ => ?_))
   | exact ih0 _ _ _ _
   | exact laws_clean.mono _ _
   | exact LeO.none _
   | refine LeO.ite ?_ ?_
   | refine LeO.bind ?_ (fun _ => ?_)
def laws_ordered.T4 : Bool × List (List Nat × List Nat) := (true, [([], []), ([], []), ([0, 1], [0, 1]), ([2], [2]), ([3], [3]), ([4], [4]), ([5], [5]), ([5], [5]), ([6, 7, 5], [5, 6, 7]), ([8, 5], [5, 8]), ([9, 5], [5, 9]), ([10, 5, 5], [5, 10]), ([11, 5], [5, 11]), ([5, 12], [5, 12]), ([13, 11], [13]), ([14], [14]), ([15, 14], [14, 15]), ([16, 14, 14], [14, 16]), ([17], [17]), ([17], [17]), ([18, 19, 17], [17, 18, 19]), ([20, 17], [17, 20]), ([17], [17]), ([17], [17]), ([23, 17], [17, 23]), ([22, 24, 17], [17, 22, 24]), ([25, 17], [17, 25]), ([21, 26, 17], [17, 21, 26]), ([27, 17, 17], [17, 27]), ([28], [28]), ([29, 28, 28], [28, 29]), ([30], [30]), ([30], [30]), ([31, 32, 30], [30, 31, 32]), ([33, 30], [30, 33]), ([30], [30]), ([30], [30]), ([36, 30], [30, 36]), ([35, 37, 30], [30, 35, 37]), ([38, 30], [30, 38]), ([34, 39, 30], [30, 34, 39]), ([30, 40, 28], [28, 30, 40]), ([28, 41, 17], [17, 28, 41]), ([17, 42, 14], [14, 17, 42]), ([14, 43], [14, 43])])
def laws_ordered.B4 : List Nat := [0, 0, 3, 7, 15, 31, 63, 63, 255, 511, 1023, 2047, 4095, 8191, 16383, 32767, 65535, 131071, 262143, 262143, 1048575, 2097151, 262143, 262143, 8650751, 29622271, 63176703, 134217727, 268435455, 536870911, 1073741823, 2147483647, 2147483647, 8589934591, 17179869183, 2147483647, 2147483647, 70866960383, 242665652223, 517543559167, 1099511627775, 2199023255551, 4398046511103, 8796093022207, 17592186044415]
theorem laws_ordered.tab4 : rtab .any (opsOf Tryd.f7 4) = laws_ordered.T4 := by kernel_rfl
theorem laws_ordered.bits4 : waitsOk laws_ordered.T4.2 laws_ordered.B4 = true := by kernel_rfl
set_option maxHeartbeats 8000000 in
set_option maxRecDepth 100000 in
theorem laws_ordered.calls (k : Nat) (A0 : Option Addr) (c0 : Nat) (l0 : List ByteArray) (a1 : Bool) (r : Bool) (w : World) (hr0 : Kd.C Kd.string w A0 l0.length l0) (hc0 : l0.length ≤ c0) (h : laws_ordered.f k l0 a1 = some r) :
  Calls Tryd.prog 7 #[.slice A0 l0.length c0, .bool a1] w fun e w' => e = .returned (.bool r) ∧ Below w.heap.size w w' := by
 have HR0 := Aside0.mk hr0
 have HC0 := Aside0.mk hc0
 clear hr0 hc0
 have HB := Aside0.mk (Below.refl w.heap.size w)
 have H : (laws_ordered.l0 k l0 a1 (l0.length : Int) 0) = some r := h
 clear h
 have H' := Aside0.mk H
 clear H
 go_enter Tryd.func7, Tryd.ntmps7
 go_wp2
 go_loopg [8] k (fun kq v8 w' => ∃ (x8_1 : Int), v8 = .int .i64 x8_1 ∧ Aside0 (laws_ordered.l0 kq l0 a1 (l0.length : Int) x8_1 = some r) ∧ Aside0 (kq ≤ k) ∧ Aside0 (Below w.heap.size w w'))
 case atStart => exact ⟨(0), (by first | rfl | (simp; done) | (simp [*]; done)), H', ⟨Nat.le_refl _⟩, ⟨by repeat (first | (with_reducible first | exact HB.out | apply below_alloc | apply pw_below_drewN | apply below_drew1) | exact HB.out)⟩⟩
 case round =>
  clear H'
  try clear p2
  obtain ⟨x8_1, rfl, HA, HK1, HB⟩ := hrel
  cases gk with
  | zero => exact absurd HA.out (by simp [laws_ordered.l0])
  | succ k1 =>
   have H := HA.out
   clear HA
   simp only [laws_ordered.l0] at H
   by_cases c3 : x8_1 < (l0.length : Int)
   ·rw [if_pos c3] at H
    have c3b0 : decide (x8_1 < (l0.length : Int)) = true := decide_eq_true c3
    clear c3
    by_cases c4 : 0 ≤ x8_1
    ·rw [if_pos c4] at H
     have c4b0 : decide (0 ≤ x8_1) = true := decide_eq_true c4
     clear c4
     by_cases c5 : x8_1 < (l0.length : Int)
     ·rw [if_pos c5] at H
      have c5b0 : decide (x8_1 < (l0.length : Int)) = true := decide_eq_true c5
      clear c5
      by_cases c6 : (rdOf ByteArray.empty l0 x8_1).toList = ([] : List UInt8)
      ·rw [if_pos c6] at H
       have c6b0 : ((rdOf ByteArray.empty l0 x8_1).toList == ([] : List UInt8)) = true := beq_iff_eq.mpr c6
       have c6b1 : ((rdOf ByteArray.empty l0 x8_1).toList != ([] : List UInt8)) = false := bne_eq_false_iff_eq.mpr c6
       clear c6
       obtain rfl := Option.some.inj H
       try go_wp2
       have n0_ := Aside0.mk (below_drew1 HB.out)
       clear HB
       have HB := n0_
       clear n0_
       have p151 : 0 ≤ (x8_1 : Int) := of_decide_eq_true (by first | (with_reducible assumption) | assumption)
       have q151 : x8_1 < (l0.length : Int) := of_decide_eq_true (by first | (with_reducible assumption) | assumption)
       obtain ⟨ad151, e151, hx151_0⟩ := Kd.at_string HR0.out x8_1 p151 q151
       have hw151_0 := hx151_0
       cases e151
       replace hx151_0 := (HB.out.cell (World.block_lt_of_cell? w _ hx151_0)).trans hx151_0
       replace p151 := eq_true p151
       replace q151 := eq_true q151
       refine start_ (n := 45) (S := fun w' => w'.cell? (ad151.add (x8_1).toNat) = some (.string (rdOf ByteArray.empty l0 x8_1))) (ds := []) mk0 (by kernel_rfl) rfl rfl (((HB.out.cell (World.block_lt_of_cell? w _ hw151_0)).trans hw151_0)) (fun hHeld => ?_); refine with_tabW laws_ordered.tab4 laws_ordered.bits4 (fun HT_ HW_ => ?_)
       generalize wr.drew = w7 at HB hx151_0 hHeld ⊢
       refine pure_ (i := 0) (N := some 11) (v := ?_) (a' := ?_) mk1 rfl rfl (any_of HT_.out (by kernel_rfl)) (fun _ _ _ h => h) (Or.inl ⟨by rfl, ?_⟩) ?_ ?_
       rotate_left
       ·intro w'
        go_simp
        with_reducible rfl
       rotate_left
       ·simp only [Act.put, List.setIfInBounds_toArray, List.set_cons_zero, List.set_cons_succ, i64_w, i32_w]
        rfl
       refine pure_ (i := 1) (N := some 12) (v := ?_) (a' := ?_) mk2 rfl rfl (any_of HT_.out (by kernel_rfl)) (fun _ _ _ h => h) (Or.inl ⟨by rfl, ?_⟩) ?_ ?_
       rotate_left
       ·intro w'
        go_simp
        with_reducible rfl
       rotate_left
       ·simp only [Act.put, List.setIfInBounds_toArray, List.set_cons_zero, List.set_cons_succ, i64_w, i32_w]
        rfl
       refine pure_ (i := 2) (N := some 13) (v := ?_) (a' := ?_) mk3 rfl rfl (any_of HT_.out (by kernel_rfl)) (fun _ _ _ h => h) (Or.inl ⟨by rfl, ?_⟩) ?_ ?_
       rotate_left
       ·intro w'
        go_simp
        with_reducible rfl
       rotate_left
       ·simp only [Act.put, List.setIfInBounds_toArray, List.set_cons_zero, List.set_cons_succ, i64_w, i32_w]
        rfl
       refine take_ (i := 3) (N := some 14) (v := ?_) (a' := ?_) mk4 rfl rfl (take_ofW HT_.out HW_.out (by kernel_rfl)) (fun _ _ _ h => h) (Or.inl ⟨by rfl, ?_⟩) hHeld ?_ ?_
       rotate_left
       ·intro w' s0
        go_simp
        with_reducible rfl
       rotate_left
       ·simp only [Act.put, List.setIfInBounds_toArray, List.set_cons_zero, List.set_cons_succ, i64_w, i32_w]
        rfl
       refine pure_ (i := 4) (N := some 15) (v := ?_) (a' := ?_) mk5 rfl rfl (any_of HT_.out (by kernel_rfl)) (fun _ _ _ h => h) (Or.inl ⟨by rfl, ?_⟩) ?_ ?_
       rotate_left
       ·intro w'
        go_simp
        with_reducible rfl
       rotate_left
       ·simp only [Act.put, List.setIfInBounds_toArray, List.set_cons_zero, List.set_cons_succ, i64_w, i32_w]
        rfl
       refine pure_ (i := 5) (N := some 16) (v := ?_) (a' := ?_) mk6 rfl rfl (any_of HT_.out (by kernel_rfl)) (fun _ _ _ h => h) (Or.inl ⟨by rfl, ?_⟩) ?_ ?_
       rotate_left
       ·intro w'
        go_simp
        with_reducible rfl
       rotate_left
       ·simp only [Act.put, List.setIfInBounds_toArray, List.set_cons_zero, List.set_cons_succ, i64_w, i32_w]
        rfl
       refine pure_ (i := 6) (N := some 17) (v := undef) (a' := ?_) mk7 rfl rfl (any_of HT_.out (by kernel_rfl)) (fun _ _ _ h => h) (Or.inr ⟨by rfl, rfl⟩) ?_ ?_
       rotate_left
       ·simp only [Act.put, List.setIfInBounds_toArray, List.set_cons_zero, List.set_cons_succ, i64_w, i32_w]
        rfl
       refine pure_ (i := 7) (N := some 18) (v := undef) (a' := ?_) mk8 rfl rfl (any_of HT_.out (by kernel_rfl)) (fun _ _ _ h => h) (Or.inr ⟨by rfl, rfl⟩) ?_ ?_
       rotate_left
       ·simp only [Act.put, List.setIfInBounds_toArray, List.set_cons_zero, List.set_cons_succ, i64_w, i32_w]
        rfl
       refine pure_ (i := 8) (N := some 19) (v := undef) (a' := ?_) mk9 rfl rfl (any_of HT_.out (by kernel_rfl)) (fun _ _ _ h => h) (Or.inr ⟨by rfl, rfl⟩) ?_ ?_
       rotate_left
       ·simp only [Act.put, List.setIfInBounds_toArray, List.set_cons_zero, List.set_cons_succ, i64_w, i32_w]
        rfl
       refine pure_ (i := 9) (N := some 20) (v := undef) (a' := ?_) mk10 rfl rfl (any_of HT_.out (by kernel_rfl)) (fun _ _ _ h => h) (Or.inr ⟨by rfl, rfl⟩) ?_ ?_
       rotate_left
       ·simp only [Act.put, List.setIfInBounds_toArray, List.set_cons_zero, List.set_cons_succ, i64_w, i32_w]
        rfl
       refine pure_ (i := 10) (N := some 21) (v := undef) (a' := ?_) mk11 rfl rfl (any_of HT_.out (by kernel_rfl)) (fun _ _ _ h => h) (Or.inr ⟨by rfl, rfl⟩) ?_ ?_
       rotate_left
       ·simp only [Act.put, List.setIfInBounds_toArray, List.set_cons_zero, List.set_cons_succ, i64_w, i32_w]
        rfl
       refine pure_ (i := 11) (N := some 22) (v := undef) (a' := ?_) mk12 rfl rfl (any_of HT_.out (by kernel_rfl)) (fun _ _ _ h => h) (Or.inr ⟨by rfl, rfl⟩) ?_ ?_
       rotate_left
       ·simp only [Act.put, List.setIfInBounds_toArray, List.set_cons_zero, List.set_cons_succ, i64_w, i32_w]
        rfl
       refine pure_ (i := 12) (N := some 23) (v := undef) (a' := ?_) mk13 rfl rfl (any_of HT_.out (by kernel_rfl)) (fun _ _ _ h => h) (Or.inr ⟨by rfl, rfl⟩) ?_ ?_
       rotate_left
       ·simp only [Act.put, List.setIfInBounds_toArray, List.set_cons_zero, List.set_cons_succ, i64_w, i32_w]
        rfl
       refine pure_ (i := 13) (N := some 24) (v := ?_) (a' := ?_) mk14 rfl rfl (any_of HT_.out (by kernel_rfl)) (fun _ _ _ h => h) (Or.inl ⟨by rfl, ?_⟩) ?_ ?_
       rotate_left
       ·intro w'
        go_simp
        with_reducible rfl
       rotate_left
       ·simp only [Act.put, List.setIfInBounds_toArray, List.set_cons_zero, List.set_cons_succ, i64_w, i32_w]
        rfl
       refine pure_ (i := 14) (N := some 25) (v := ?_) (a' := ?_) mk15 rfl rfl (any_of HT_.out (by kernel_rfl)) (fun _ _ _ h => h) (Or.inl ⟨by rfl, ?_⟩) ?_ ?_
       rotate_left
       ·intro w'
        go_simp
        with_reducible rfl
       rotate_left
       ·simp only [Act.put, List.setIfInBounds_toArray, List.set_cons_zero, List.set_cons_succ, i64_w, i32_w]
        rfl
       refine pure_ (i := 15) (N := some 26) (v := undef) (a' := ?_) mk16 rfl rfl (any_of HT_.out (by kernel_rfl)) (fun _ _ _ h => h) (Or.inr ⟨by rfl, rfl⟩) ?_ ?_
       rotate_left
       ·simp only [Act.put, List.setIfInBounds_toArray, List.set_cons_zero, List.set_cons_succ, i64_w, i32_w]
        rfl
       refine pure_ (i := 16) (N := some 27) (v := undef) (a' := ?_) mk17 rfl rfl (any_of HT_.out (by kernel_rfl)) (fun _ _ _ h => h) (Or.inr ⟨by rfl, rfl⟩) ?_ ?_
       rotate_left
       ·simp only [Act.put, List.setIfInBounds_toArray, List.set_cons_zero, List.set_cons_succ, i64_w, i32_w]
        rfl
       refine pure_ (i := 17) (N := some 28) (v := undef) (a' := ?_) mk18 rfl rfl (any_of HT_.out (by kernel_rfl)) (fun _ _ _ h => h) (Or.inr ⟨by rfl, rfl⟩) ?_ ?_
       rotate_left
       ·simp only [Act.put, List.setIfInBounds_toArray, List.set_cons_zero, List.set_cons_succ, i64_w, i32_w]
        rfl
       refine pure_ (i := 18) (N := some 29) (v := undef) (a' := ?_) mk19 rfl rfl (any_of HT_.out (by kernel_rfl)) (fun _ _ _ h => h) (Or.inr ⟨by rfl, rfl⟩) ?_ ?_
       rotate_left
       ·simp only [Act.put, List.setIfInBounds_toArray, List.set_cons_zero, List.set_cons_succ, i64_w, i32_w]
        rfl
       refine pure_ (i := 19) (N := some 30) (v := undef) (a' := ?_) mk20 rfl rfl (any_of HT_.out (by kernel_rfl)) (fun _ _ _ h => h) (Or.inr ⟨by rfl, rfl⟩) ?_ ?_
       rotate_left
       ·simp only [Act.put, List.setIfInBounds_toArray, List.set_cons_zero, List.set_cons_succ, i64_w, i32_w]
        rfl
       refine pure_ (i := 20) (N := some 31) (v := undef) (a' := ?_) mk21 rfl rfl (any_of HT_.out (by kernel_rfl)) (fun _ _ _ h => h) (Or.inr ⟨by rfl, rfl⟩) ?_ ?_
       rotate_left
       ·simp only [Act.put, List.setIfInBounds_toArray, List.set_cons_zero, List.set_cons_succ, i64_w, i32_w]
        rfl
       refine pure_ (i := 21) (N := some 32) (v := undef) (a' := ?_) mk22 rfl rfl (any_of HT_.out (by kernel_rfl)) (fun _ _ _ h => h) (Or.inr ⟨by rfl, rfl⟩) ?_ ?_
       rotate_left
       ·simp only [Act.put, List.setIfInBounds_toArray, List.set_cons_zero, List.set_cons_succ, i64_w, i32_w]
        rfl
       refine pure_ (i := 22) (N := some 33) (v := undef) (a' := ?_) mk23 rfl rfl (any_of HT_.out (by kernel_rfl)) (fun _ _ _ h => h) (Or.inr ⟨by rfl, rfl⟩) ?_ ?_
       rotate_left
       ·simp only [Act.put, List.setIfInBounds_toArray, List.set_cons_zero, List.set_cons_succ, i64_w, i32_w]
        rfl
       refine pure_ (i := 23) (N := some 34) (v := undef) (a' := ?_) mk24 rfl rfl (any_of HT_.out (by kernel_rfl)) (fun _ _ _ h => h) (Or.inr ⟨by rfl, rfl⟩) ?_ ?_
       rotate_left
       ·simp only [Act.put, List.setIfInBounds_toArray, List.set_cons_zero, List.set_cons_succ, i64_w, i32_w]
        rfl
       refine pure_ (i := 24) (N := some 35) (v := undef) (a' := ?_) mk25 rfl rfl (any_of HT_.out (by kernel_rfl)) (fun _ _ _ h => h) (Or.inr ⟨by rfl, rfl⟩) ?_ ?_
       rotate_left
       ·simp only [Act.put, List.setIfInBounds_toArray, List.set_cons_zero, List.set_cons_succ, i64_w, i32_w]
        rfl
       refine pure_ (i := 25) (N := some 36) (v := undef) (a' := ?_) mk26 rfl rfl (any_of HT_.out (by kernel_rfl)) (fun _ _ _ h => h) (Or.inr ⟨by rfl, rfl⟩) ?_ ?_
       rotate_left
       ·simp only [Act.put, List.setIfInBounds_toArray, List.set_cons_zero, List.set_cons_succ, i64_w, i32_w]
        rfl
       refine pure_ (i := 26) (N := some 37) (v := undef) (a' := ?_) mk27 rfl rfl (any_of HT_.out (by kernel_rfl)) (fun _ _ _ h => h) (Or.inr ⟨by rfl, rfl⟩) ?_ ?_
       rotate_left
       ·simp only [Act.put, List.setIfInBounds_toArray, List.set_cons_zero, List.set_cons_succ, i64_w, i32_w]
        rfl
       refine pure_ (i := 27) (N := some 38) (v := undef) (a' := ?_) mk28 rfl rfl (any_of HT_.out (by kernel_rfl)) (fun _ _ _ h => h) (Or.inr ⟨by rfl, rfl⟩) ?_ ?_
       rotate_left
       ·simp only [Act.put, List.setIfInBounds_toArray, List.set_cons_zero, List.set_cons_succ, i64_w, i32_w]
        rfl
       refine pure_ (i := 28) (N := some 39) (v := undef) (a' := ?_) mk29 rfl rfl (any_of HT_.out (by kernel_rfl)) (fun _ _ _ h => h) (Or.inr ⟨by rfl, rfl⟩) ?_ ?_
       rotate_left
       ·simp only [Act.put, List.setIfInBounds_toArray, List.set_cons_zero, List.set_cons_succ, i64_w, i32_w]
        rfl
       refine pure_ (i := 29) (N := some 40) (v := undef) (a' := ?_) mk30 rfl rfl (any_of HT_.out (by kernel_rfl)) (fun _ _ _ h => h) (Or.inr ⟨by rfl, rfl⟩) ?_ ?_
       rotate_left
       ·simp only [Act.put, List.setIfInBounds_toArray, List.set_cons_zero, List.set_cons_succ, i64_w, i32_w]
        rfl
       refine pure_ (i := 30) (N := some 41) (v := undef) (a' := ?_) mk31 rfl rfl (any_of HT_.out (by kernel_rfl)) (fun _ _ _ h => h) (Or.inr ⟨by rfl, rfl⟩) ?_ ?_
       rotate_left
       ·simp only [Act.put, List.setIfInBounds_toArray, List.set_cons_zero, List.set_cons_succ, i64_w, i32_w]
        rfl
       refine pure_ (i := 31) (N := some 42) (v := undef) (a' := ?_) mk32 rfl rfl (any_of HT_.out (by kernel_rfl)) (fun _ _ _ h => h) (Or.inr ⟨by rfl, rfl⟩) ?_ ?_
       rotate_left
       ·simp only [Act.put, List.setIfInBounds_toArray, List.set_cons_zero, List.set_cons_succ, i64_w, i32_w]
        rfl
       refine pure_ (i := 32) (N := some 43) (v := undef) (a' := ?_) mk33 rfl rfl (any_of HT_.out (by kernel_rfl)) (fun _ _ _ h => h) (Or.inr ⟨by rfl, rfl⟩) ?_ ?_
       rotate_left
       ·simp only [Act.put, List.setIfInBounds_toArray, List.set_cons_zero, List.set_cons_succ, i64_w, i32_w]
        rfl
       refine pure_ (i := 33) (N := some 44) (v := undef) (a' := ?_) mk34 rfl rfl (any_of HT_.out (by kernel_rfl)) (fun _ _ _ h => h) (Or.inr ⟨by rfl, rfl⟩) ?_ ?_
       rotate_left
       ·simp only [Act.put, List.setIfInBounds_toArray, List.set_cons_zero, List.set_cons_succ, i64_w, i32_w]
        rfl
       refine pure_ (i := 34) (N := some 45) (v := undef) (a' := ?_) mk35 rfl rfl (any_of HT_.out (by kernel_rfl)) (fun _ _ _ h => h) (Or.inr ⟨by rfl, rfl⟩) ?_ ?_
       rotate_left
       ·simp only [Act.put, List.setIfInBounds_toArray, List.set_cons_zero, List.set_cons_succ, i64_w, i32_w]
        rfl
       refine pure_ (i := 35) (N := some 46) (v := undef) (a' := ?_) mk36 rfl rfl (any_of HT_.out (by kernel_rfl)) (fun _ _ _ h => h) (Or.inr ⟨by rfl, rfl⟩) ?_ ?_
       rotate_left
       ·simp only [Act.put, List.setIfInBounds_toArray, List.set_cons_zero, List.set_cons_succ, i64_w, i32_w]
        rfl
       refine pure_ (i := 36) (N := some 47) (v := undef) (a' := ?_) mk37 rfl rfl (any_of HT_.out (by kernel_rfl)) (fun _ _ _ h => h) (Or.inr ⟨by rfl, rfl⟩) ?_ ?_
       rotate_left
       ·simp only [Act.put, List.setIfInBounds_toArray, List.set_cons_zero, List.set_cons_succ, i64_w, i32_w]
        rfl
       refine pure_ (i := 37) (N := some 48) (v := undef) (a' := ?_) mk38 rfl rfl (any_of HT_.out (by kernel_rfl)) (fun _ _ _ h => h) (Or.inr ⟨by rfl, rfl⟩) ?_ ?_
       rotate_left
       ·simp only [Act.put, List.setIfInBounds_toArray, List.set_cons_zero, List.set_cons_succ, i64_w, i32_w]
        rfl
       refine pure_ (i := 38) (N := some 49) (v := undef) (a' := ?_) mk39 rfl rfl (any_of HT_.out (by kernel_rfl)) (fun _ _ _ h => h) (Or.inr ⟨by rfl, rfl⟩) ?_ ?_
       rotate_left
       ·simp only [Act.put, List.setIfInBounds_toArray, List.set_cons_zero, List.set_cons_succ, i64_w, i32_w]
        rfl
       refine pure_ (i := 39) (N := some 50) (v := undef) (a' := ?_) mk40 rfl rfl (any_of HT_.out (by kernel_rfl)) (fun _ _ _ h => h) (Or.inr ⟨by rfl, rfl⟩) ?_ ?_
       rotate_left
       ·simp only [Act.put, List.setIfInBounds_toArray, List.set_cons_zero, List.set_cons_succ, i64_w, i32_w]
        rfl
       refine pure_ (i := 40) (N := some 51) (v := undef) (a' := ?_) mk41 rfl rfl (any_of HT_.out (by kernel_rfl)) (fun _ _ _ h => h) (Or.inr ⟨by rfl, rfl⟩) ?_ ?_
       rotate_left
       ·simp only [Act.put, List.setIfInBounds_toArray, List.set_cons_zero, List.set_cons_succ, i64_w, i32_w]
        rfl
       refine pure_ (i := 41) (N := some 52) (v := undef) (a' := ?_) mk42 rfl rfl (any_of HT_.out (by kernel_rfl)) (fun _ _ _ h => h) (Or.inr ⟨by rfl, rfl⟩) ?_ ?_
       rotate_left
       ·simp only [Act.put, List.setIfInBounds_toArray, List.set_cons_zero, List.set_cons_succ, i64_w, i32_w]
        rfl
       refine pure_ (i := 42) (N := some 53) (v := undef) (a' := ?_) mk43 rfl rfl (any_of HT_.out (by kernel_rfl)) (fun _ _ _ h => h) (Or.inr ⟨by rfl, rfl⟩) ?_ ?_
       rotate_left
       ·simp only [Act.put, List.setIfInBounds_toArray, List.set_cons_zero, List.set_cons_succ, i64_w, i32_w]
        rfl
       refine pure_ (i := 43) (N := some 54) (v := undef) (a' := ?_) mk44 rfl rfl (any_of HT_.out (by kernel_rfl)) (fun _ _ _ h => h) (Or.inr ⟨by rfl, rfl⟩) ?_ ?_
       rotate_left
       ·simp only [Act.put, List.setIfInBounds_toArray, List.set_cons_zero, List.set_cons_succ, i64_w, i32_w]
        rfl
       refine pure_ (i := 44) (N := some 55) (v := ?_) (a' := ?_) mk45 rfl rfl (any_of HT_.out (by kernel_rfl)) (fun _ _ _ h => h) (Or.inl ⟨by rfl, ?_⟩) ?_ ?_
       rotate_left
       ·intro w'
        go_simp
        with_reducible rfl
       rotate_left
       ·simp only [Act.put, List.setIfInBounds_toArray, List.set_cons_zero, List.set_cons_succ, i64_w, i32_w]
        rfl
       refine done_ (done_of HT_.out (by kernel_rfl)) ?_
       try go_wp2
       go_ret
       exact ⟨by first | rfl | (simp [errW_none, errW_some] <;> rfl) | (simp [*, errW_none, errW_some] <;> rfl), by repeat (first | (with_reducible first | exact HB.out | apply below_alloc | apply pw_below_drewN | apply below_drew1) | exact HB.out)⟩
      ·rw [if_neg c6] at H
       have c6b0 : ((rdOf ByteArray.empty l0 x8_1).toList == ([] : List UInt8)) = false := beq_eq_false_iff_ne.mpr c6
       have c6b1 : ((rdOf ByteArray.empty l0 x8_1).toList != ([] : List UInt8)) = true := bne_iff_ne.mpr c6
       obtain ⟨y153, hy153⟩ : ∃ y_ : List ByteArray, y_ = (([rdOf ByteArray.empty l0 x8_1] : List ByteArray)) := ⟨_, rfl⟩
       replace H : ((laws_clean.f k1 y153).bind fun t156 => (if t156 = true then (if x8_1 > 0 then (if 0 ≤ (wrap64 (x8_1 - 1)) then (if (wrap64 (x8_1 - 1)) < (l0.length : Int) then (if (Op.bytesLess ((rdOf ByteArray.empty l0 x8_1).toList) ((rdOf ByteArray.empty l0 (wrap64 (x8_1 - 1))).toList)) = true then (some false) else (if a1 = true then (if (rdOf ByteArray.empty l0 x8_1).toList = (rdOf ByteArray.empty l0 (wrap64 (x8_1 - 1))).toList then (some false) else (laws_ordered.l0 k1 l0 a1 (l0.length : Int) (wrap64 (x8_1 + 1)))) else (laws_ordered.l0 k1 l0 a1 (l0.length : Int) (wrap64 (x8_1 + 1))))) else (none)) else (none)) else (laws_ordered.l0 k1 l0 a1 (l0.length : Int) (wrap64 (x8_1 + 1)))) else (some false))) = some r := by first | (rw [hy153]; with_reducible exact H) | (have H2_ := (Option.bind_some _ _).symm.trans H; rw [hy153]; with_reducible exact H2_) | (have H2_ := (Option.bind_some _ _).symm.trans H; with_reducible exact H2_) | with_reducible exact H | (rw [hy153]; exact H) | exact H
       have Ny153 := Aside0.mk hy153
       clear hy153
       replace H := Option.bind_eq_some_iff.mp H
       obtain ⟨t156, A80, H⟩ := H
       replace H : (if t156 = true then (if x8_1 > 0 then (if 0 ≤ (wrap64 (x8_1 - 1)) then (if (wrap64 (x8_1 - 1)) < (l0.length : Int) then (if (Op.bytesLess ((rdOf ByteArray.empty l0 x8_1).toList) ((rdOf ByteArray.empty l0 (wrap64 (x8_1 - 1))).toList)) = true then (some false) else (if a1 = true then (if (rdOf ByteArray.empty l0 x8_1).toList = (rdOf ByteArray.empty l0 (wrap64 (x8_1 - 1))).toList then (some false) else (laws_ordered.l0 k1 l0 a1 (l0.length : Int) (wrap64 (x8_1 + 1)))) else (laws_ordered.l0 k1 l0 a1 (l0.length : Int) (wrap64 (x8_1 + 1))))) else (none)) else (none)) else (laws_ordered.l0 k1 l0 a1 (l0.length : Int) (wrap64 (x8_1 + 1)))) else (some false)) = some r := H
       have A8 := Aside0.mk A80
       clear A80
       by_cases c9 : t156 = true
       ·subst c9
        have H1 : (if x8_1 > 0 then (if 0 ≤ (wrap64 (x8_1 - 1)) then (if (wrap64 (x8_1 - 1)) < (l0.length : Int) then (if (Op.bytesLess ((rdOf ByteArray.empty l0 x8_1).toList) ((rdOf ByteArray.empty l0 (wrap64 (x8_1 - 1))).toList)) = true then (some false) else (if a1 = true then (if (rdOf ByteArray.empty l0 x8_1).toList = (rdOf ByteArray.empty l0 (wrap64 (x8_1 - 1))).toList then (some false) else (laws_ordered.l0 k1 l0 a1 (l0.length : Int) (wrap64 (x8_1 + 1)))) else (laws_ordered.l0 k1 l0 a1 (l0.length : Int) (wrap64 (x8_1 + 1))))) else (none)) else (none)) else (laws_ordered.l0 k1 l0 a1 (l0.length : Int) (wrap64 (x8_1 + 1)))) = some r := by rw [if_pos rfl] at H; exact H
        clear H
        have H := H1
        clear H1
        by_cases c10 : x8_1 > 0
        ·rw [if_pos c10] at H
         have c10b0 : decide (0 < x8_1) = true := decide_eq_true c10
         clear c10
         obtain ⟨ji11, hji11⟩ : ∃ j_ : Int, (wrap64 (x8_1 - 1)) = j_ := ⟨_, rfl⟩
         replace H : (if 0 ≤ (ji11) then (if (ji11) < (l0.length : Int) then (if (Op.bytesLess ((rdOf ByteArray.empty l0 x8_1).toList) ((rdOf ByteArray.empty l0 (ji11)).toList)) = true then (some false) else (if a1 = true then (if (rdOf ByteArray.empty l0 x8_1).toList = (rdOf ByteArray.empty l0 (ji11)).toList then (some false) else (laws_ordered.l0 k1 l0 a1 (l0.length : Int) (wrap64 (x8_1 + 1)))) else (laws_ordered.l0 k1 l0 a1 (l0.length : Int) (wrap64 (x8_1 + 1))))) else (none)) else (none)) = some r := by first | (rw [hji11] at H; exact H) | (simp only [hji11] at H ⊢; exact H)
         (try rw [hji11] at A8)
         have hji11w : (IntKind.i64.wrap (x8_1 - 1)) = ji11 := (i64_w _).trans hji11
         by_cases c12 : 0 ≤ (ji11)
         ·rw [if_pos c12] at H
          have c12b0 : decide (0 ≤ (ji11)) = true := decide_eq_true c12
          clear c12
          by_cases c13 : (ji11) < (l0.length : Int)
          ·rw [if_pos c13] at H
           have c13b0 : decide ((ji11) < (l0.length : Int)) = true := decide_eq_true c13
           clear c13
           by_cases c14 : (Op.bytesLess ((rdOf ByteArray.empty l0 x8_1).toList) ((rdOf ByteArray.empty l0 (ji11)).toList)) = true
           ·rw [if_pos c14] at H
            have c14b0 : (Op.bytesLess ((rdOf ByteArray.empty l0 x8_1).toList) ((rdOf ByteArray.empty l0 (ji11)).toList)) = true := c14
            clear c14
            obtain rfl := Option.some.inj H
            try go_wp2
            have n0_ := Aside0.mk (below_drew1 HB.out)
            clear HB
            have HB := n0_
            clear n0_
            have p151 : 0 ≤ (x8_1 : Int) := of_decide_eq_true (by first | (with_reducible assumption) | assumption)
            have q151 : x8_1 < (l0.length : Int) := of_decide_eq_true (by first | (with_reducible assumption) | assumption)
            obtain ⟨ad151, e151, hx151_0⟩ := Kd.at_string HR0.out x8_1 p151 q151
            have hw151_0 := hx151_0
            cases e151
            replace hx151_0 := (HB.out.cell (World.block_lt_of_cell? w _ hx151_0)).trans hx151_0
            replace p151 := eq_true p151
            replace q151 := eq_true q151
            have p152 : 0 ≤ (x8_1 : Int) := of_decide_eq_true (by first | (with_reducible assumption) | assumption)
            have q152 : x8_1 < (l0.length : Int) := of_decide_eq_true (by first | (with_reducible assumption) | assumption)
            obtain ⟨ad152, e152, hx152_0⟩ := Kd.at_string HR0.out x8_1 p152 q152
            have hw152_0 := hx152_0
            obtain rfl : ad151 = ad152 := (by injection e152)
            replace hx152_0 := (HB.out.cell (World.block_lt_of_cell? w _ hx152_0)).trans hx152_0
            replace p152 := eq_true p152
            replace q152 := eq_true q152
            have p157 : 0 ≤ (x8_1 : Int) := of_decide_eq_true (by first | (with_reducible assumption) | assumption)
            have q157 : x8_1 < (l0.length : Int) := of_decide_eq_true (by first | (with_reducible assumption) | assumption)
            obtain ⟨ad157, e157, hx157_0⟩ := Kd.at_string HR0.out x8_1 p157 q157
            have hw157_0 := hx157_0
            obtain rfl : ad151 = ad157 := (by injection e157)
            replace hx157_0 := (HB.out.cell (World.block_lt_of_cell? w _ hx157_0)).trans hx157_0
            replace p157 := eq_true p157
            replace q157 := eq_true q157
            have p158 : 0 ≤ ((ji11) : Int) := of_decide_eq_true (by first | (with_reducible assumption) | assumption)
            have q158 : (ji11) < (l0.length : Int) := of_decide_eq_true (by first | (with_reducible assumption) | assumption)
            obtain ⟨ad158, e158, hx158_0⟩ := Kd.at_string HR0.out (ji11) p158 q158
            have hw158_0 := hx158_0
            obtain rfl : ad151 = ad158 := (by injection e158)
            replace hx158_0 := (HB.out.cell (World.block_lt_of_cell? w _ hx158_0)).trans hx158_0
            replace p158 := eq_true p158
            replace q158 := eq_true q158
            refine start_ (n := 45) (S := fun w' => w'.cell? (ad151.add (x8_1).toNat) = some (.string (rdOf ByteArray.empty l0 x8_1)) ∧ w'.cell? (ad151.add (x8_1).toNat) = some (.string (rdOf ByteArray.empty l0 x8_1)) ∧ w'.cell? (ad151.add (x8_1).toNat) = some (.string (rdOf ByteArray.empty l0 x8_1)) ∧ w'.cell? (ad151.add ((ji11)).toNat) = some (.string (rdOf ByteArray.empty l0 (ji11)))) (ds := []) mk0 (by kernel_rfl) rfl rfl ⟨((HB.out.cell (World.block_lt_of_cell? w _ hw151_0)).trans hw151_0), ((HB.out.cell (World.block_lt_of_cell? w _ hw152_0)).trans hw152_0), ((HB.out.cell (World.block_lt_of_cell? w _ hw157_0)).trans hw157_0), ((HB.out.cell (World.block_lt_of_cell? w _ hw158_0)).trans hw158_0)⟩ (fun hHeld => ?_); refine with_tabW laws_ordered.tab4 laws_ordered.bits4 (fun HT_ HW_ => ?_)
            generalize wr.drew = w15 at HB hx151_0 hx152_0 hx157_0 hx158_0 hHeld ⊢
            refine pure_ (i := 0) (N := some 11) (v := ?_) (a' := ?_) mk1 rfl rfl (any_of HT_.out (by kernel_rfl)) (fun _ _ _ h => h) (Or.inl ⟨by rfl, ?_⟩) ?_ ?_
            rotate_left
            ·intro w'
             go_simp
             with_reducible rfl
            rotate_left
            ·simp only [Act.put, List.setIfInBounds_toArray, List.set_cons_zero, List.set_cons_succ, i64_w, i32_w]
             rfl
            refine pure_ (i := 1) (N := some 12) (v := ?_) (a' := ?_) mk2 rfl rfl (any_of HT_.out (by kernel_rfl)) (fun _ _ _ h => h) (Or.inl ⟨by rfl, ?_⟩) ?_ ?_
            rotate_left
            ·intro w'
             go_simp
             with_reducible rfl
            rotate_left
            ·simp only [Act.put, List.setIfInBounds_toArray, List.set_cons_zero, List.set_cons_succ, i64_w, i32_w]
             rfl
            refine pure_ (i := 2) (N := some 13) (v := ?_) (a' := ?_) mk3 rfl rfl (any_of HT_.out (by kernel_rfl)) (fun _ _ _ h => h) (Or.inl ⟨by rfl, ?_⟩) ?_ ?_
            rotate_left
            ·intro w'
             go_simp
             with_reducible rfl
            rotate_left
            ·simp only [Act.put, List.setIfInBounds_toArray, List.set_cons_zero, List.set_cons_succ, i64_w, i32_w]
             rfl
            refine take_ (i := 3) (N := some 14) (v := ?_) (a' := ?_) mk4 rfl rfl (take_ofW HT_.out HW_.out (by kernel_rfl)) (fun _ _ _ h => h) (Or.inl ⟨by rfl, ?_⟩) hHeld ?_ ?_
            rotate_left
            ·rintro w' ⟨s0, s1, s2, s3⟩
             go_simp
             with_reducible rfl
            rotate_left
            ·simp only [Act.put, List.setIfInBounds_toArray, List.set_cons_zero, List.set_cons_succ, i64_w, i32_w]
             rfl
            refine pure_ (i := 4) (N := some 15) (v := ?_) (a' := ?_) mk5 rfl rfl (any_of HT_.out (by kernel_rfl)) (fun _ _ _ h => h) (Or.inl ⟨by rfl, ?_⟩) ?_ ?_
            rotate_left
            ·intro w'
             go_simp
             with_reducible rfl
            rotate_left
            ·simp only [Act.put, List.setIfInBounds_toArray, List.set_cons_zero, List.set_cons_succ, i64_w, i32_w]
             rfl
            refine pure_ (i := 5) (N := some 16) (v := ?_) (a' := ?_) mk6 rfl rfl (any_of HT_.out (by kernel_rfl)) (fun _ _ _ h => h) (Or.inl ⟨by rfl, ?_⟩) ?_ ?_
            rotate_left
            ·intro w'
             go_simp
             with_reducible rfl
            rotate_left
            ·simp only [Act.put, List.setIfInBounds_toArray, List.set_cons_zero, List.set_cons_succ, i64_w, i32_w]
             rfl
            refine pure_ (i := 6) (N := some 17) (v := ?_) (a' := ?_) mk7 rfl rfl (any_of HT_.out (by kernel_rfl)) (fun _ _ _ h => h) (Or.inl ⟨by rfl, ?_⟩) ?_ ?_
            rotate_left
            ·intro w'
             go_simp
             with_reducible rfl
            rotate_left
            ·simp only [Act.put, List.setIfInBounds_toArray, List.set_cons_zero, List.set_cons_succ, i64_w, i32_w]
             rfl
            refine pure_ (i := 7) (N := some 18) (v := ?_) (a' := ?_) mk8 rfl rfl (any_of HT_.out (by kernel_rfl)) (fun _ _ _ h => h) (Or.inl ⟨by rfl, ?_⟩) ?_ ?_
            rotate_left
            ·intro w'
             go_simp
             with_reducible rfl
            rotate_left
            ·simp only [Act.put, List.setIfInBounds_toArray, List.set_cons_zero, List.set_cons_succ, i64_w, i32_w]
             rfl
            refine pure_ (i := 8) (N := some 19) (v := ?_) (a' := ?_) mk9 rfl rfl (any_of HT_.out (by kernel_rfl)) (fun _ _ _ h => h) (Or.inl ⟨by rfl, ?_⟩) ?_ ?_
            rotate_left
            ·intro w'
             go_simp
             with_reducible rfl
            rotate_left
            ·simp only [Act.put, List.setIfInBounds_toArray, List.set_cons_zero, List.set_cons_succ, i64_w, i32_w]
             rfl
            refine take_ (i := 9) (N := some 20) (v := ?_) (a' := ?_) mk10 rfl rfl (take_ofW HT_.out HW_.out (by kernel_rfl)) (fun _ _ _ h => h) (Or.inl ⟨by rfl, ?_⟩) hHeld ?_ ?_
            rotate_left
            ·rintro w' ⟨s0, s1, s2, s3⟩
             go_simp
             with_reducible rfl
            rotate_left
            ·simp only [Act.put, List.setIfInBounds_toArray, List.set_cons_zero, List.set_cons_succ, i64_w, i32_w]
             rfl
            refine one_ (i := 10) (N := some 21) mk11 rfl rfl (one_of HT_.out (by kernel_rfl)) (by decide) (fun K hK => ?_)
            refine Kd.R_lit_step Kd.string _ 9 ?hg (N := 21) ?hd (xs := ([rdOf ByteArray.empty l0 x8_1] : List ByteArray)) (inner := [.string (rdOf ByteArray.empty l0 x8_1)]) (ok := fun _ => True) (okp := fun _ => True) ?hr ?hp (fun _ hk => hk) trivial (Below.refl _ _) (Nat.le_refl _) (by simp) ?_; (case hd => rfl); (case hg => rfl); (case hr => first | (go_simp; done) | (go_simp; rfl)); (case hp => exact (Reps.one (show Kd.M Kd.string _ _ _ (rdOf ByteArray.empty l0 x8_1) [.string (rdOf ByteArray.empty l0 x8_1)] from rfl) (Reps.none _ _)))
            intro v154 w16 ho17 hb hg_ hnew_
            clear hg_ hnew_
            (first | rw [← Ny153.out] at ho17 | (simp only [Int.reduceToNat] at ho17; rw [← Ny153.out] at ho17))
            have n0_ := Aside0.mk (Kd.R_lower ho17 (below_size (by repeat (first | (with_reducible first | exact HB.out | apply below_alloc | apply pw_below_drewN | apply below_drew1) | exact HB.out))))
            have n1_ := Aside0.mk (below_step (by repeat (first | (with_reducible first | exact HB.out | apply below_alloc | apply pw_below_drewN | apply below_drew1) | exact HB.out)) hb)
            clear HB
            have HO155 := n0_
            have HB := n1_
            clear n0_ n1_
            clear hb ho17
            obtain ⟨Ao18, co18, eo18⟩ := Kd.R_slice HO155.out
            (first | subst eo18 | (injection eo18 with f1_ f2_ f3_; have f4_ := f1_.symm; have f5_ := f3_.symm; clear f1_ f2_ f3_; subst f4_; subst f5_))
            refine hK.out _ _ ⟨((HB.out.cell (World.block_lt_of_cell? w _ hw151_0)).trans hw151_0), ((HB.out.cell (World.block_lt_of_cell? w _ hw152_0)).trans hw152_0), ((HB.out.cell (World.block_lt_of_cell? w _ hw157_0)).trans hw157_0), ((HB.out.cell (World.block_lt_of_cell? w _ hw158_0)).trans hw158_0)⟩ (fun hHeld => ?_)
            clear hK K
            refine norm_ (a' := ?_) ?_ ?_
            rotate_left
            ·show Act.put _ (some 21) _ = _
             simp only [Act.put, List.setIfInBounds_toArray, List.set_cons_zero, List.set_cons_succ, i64_w, i32_w]
             rfl
            refine one_ (i := 11) (N := some 22) mk12 rfl rfl (one_of HT_.out (by kernel_rfl)) (by decide) (fun K hK => ?_)
            refine goes_ Tryd.func9 (by kernel_rfl) rfl #[.slice Ao18 y153.length co18] (by rfl) rfl rfl (by (try simp only [List.map_toArray, List.map_cons, List.map_nil]); first | done | rfl | (simp only [List.length_drop, List.length_take]; rfl)) ?_
            with_reducible refine (laws_clean.calls k1 _ _ y153 true _ ?side1 ?side2 A8.out).mono ?_
            (case side1 => repeat (first | exact (Kd.R_reads' HO155.out).2.2 | (with_reducible refine Kd.C_alloc ?_ _) | (with_reducible refine Kd.C_drewN ?_ _) | (with_reducible refine Kd.C_drew ?_)))
            (case side2 => exact (Kd.R_reads' HO155.out).2.1)
            rintro e w' ⟨rfl, ⟨nd, rfl⟩⟩
            refine ⟨_, rfl, ?_⟩
            refine hK.out _ _ ⟨((HB.out.cell (World.block_lt_of_cell? w _ hw151_0)).trans hw151_0), ((HB.out.cell (World.block_lt_of_cell? w _ hw152_0)).trans hw152_0), ((HB.out.cell (World.block_lt_of_cell? w _ hw157_0)).trans hw157_0), ((HB.out.cell (World.block_lt_of_cell? w _ hw158_0)).trans hw158_0)⟩ (fun hHeld => ?_)
            clear hK K
            refine norm_ (a' := ?_) ?_ ?_
            rotate_left
            ·show Act.put _ (some 22) _ = _
             simp only [Act.put, List.setIfInBounds_toArray, List.set_cons_zero, List.set_cons_succ, i64_w, i32_w]
             rfl
            refine pure_ (i := 12) (N := some 23) (v := ?_) (a' := ?_) mk13 rfl rfl (any_of HT_.out (by kernel_rfl)) (fun _ _ _ h => h) (Or.inl ⟨by rfl, ?_⟩) ?_ ?_
            rotate_left
            ·intro w'
             go_simp
             with_reducible rfl
            rotate_left
            ·simp only [Act.put, List.setIfInBounds_toArray, List.set_cons_zero, List.set_cons_succ, i64_w, i32_w]
             rfl
            refine pure_ (i := 13) (N := some 24) (v := ?_) (a' := ?_) mk14 rfl rfl (any_of HT_.out (by kernel_rfl)) (fun _ _ _ h => h) (Or.inl ⟨by rfl, ?_⟩) ?_ ?_
            rotate_left
            ·intro w'
             go_simp
             with_reducible rfl
            rotate_left
            ·simp only [Act.put, List.setIfInBounds_toArray, List.set_cons_zero, List.set_cons_succ, i64_w, i32_w]
             rfl
            refine pure_ (i := 14) (N := some 25) (v := ?_) (a' := ?_) mk15 rfl rfl (any_of HT_.out (by kernel_rfl)) (fun _ _ _ h => h) (Or.inl ⟨by rfl, ?_⟩) ?_ ?_
            rotate_left
            ·intro w'
             go_simp
             with_reducible rfl
            rotate_left
            ·simp only [Act.put, List.setIfInBounds_toArray, List.set_cons_zero, List.set_cons_succ, i64_w, i32_w]
             rfl
            refine pure_ (i := 15) (N := some 26) (v := ?_) (a' := ?_) mk16 rfl rfl (any_of HT_.out (by kernel_rfl)) (fun _ _ _ h => h) (Or.inl ⟨by rfl, ?_⟩) ?_ ?_
            rotate_left
            ·intro w'
             go_simp
             with_reducible rfl
            rotate_left
            ·simp only [Act.put, List.setIfInBounds_toArray, List.set_cons_zero, List.set_cons_succ, i64_w, i32_w]
             rfl
            refine pure_ (i := 16) (N := some 27) (v := ?_) (a' := ?_) mk17 rfl rfl (any_of HT_.out (by kernel_rfl)) (fun _ _ _ h => h) (Or.inl ⟨by rfl, ?_⟩) ?_ ?_
            rotate_left
            ·intro w'
             go_simp
             with_reducible rfl
            rotate_left
            ·simp only [Act.put, List.setIfInBounds_toArray, List.set_cons_zero, List.set_cons_succ, i64_w, i32_w]
             rfl
            refine pure_ (i := 17) (N := some 28) (v := ?_) (a' := ?_) mk18 rfl rfl (any_of HT_.out (by kernel_rfl)) (fun _ _ _ h => h) (Or.inl ⟨by rfl, ?_⟩) ?_ ?_
            rotate_left
            ·intro w'
             go_simp
             with_reducible rfl
            rotate_left
            ·simp only [Act.put, List.setIfInBounds_toArray, List.set_cons_zero, List.set_cons_succ, i64_w, i32_w]
             rfl
            refine pure_ (i := 18) (N := some 29) (v := ?_) (a' := ?_) mk19 rfl rfl (any_of HT_.out (by kernel_rfl)) (fun _ _ _ h => h) (Or.inl ⟨by rfl, ?_⟩) ?_ ?_
            rotate_left
            ·intro w'
             go_simp
             with_reducible rfl
            rotate_left
            ·simp only [Act.put, List.setIfInBounds_toArray, List.set_cons_zero, List.set_cons_succ, i64_w, i32_w]
             rfl
            refine pure_ (i := 19) (N := some 30) (v := ?_) (a' := ?_) mk20 rfl rfl (any_of HT_.out (by kernel_rfl)) (fun _ _ _ h => h) (Or.inl ⟨by rfl, ?_⟩) ?_ ?_
            rotate_left
            ·intro w'
             go_simp
             with_reducible rfl
            rotate_left
            ·simp only [Act.put, List.setIfInBounds_toArray, List.set_cons_zero, List.set_cons_succ, i64_w, i32_w]
             rfl
            refine pure_ (i := 20) (N := some 31) (v := ?_) (a' := ?_) mk21 rfl rfl (any_of HT_.out (by kernel_rfl)) (fun _ _ _ h => h) (Or.inl ⟨by rfl, ?_⟩) ?_ ?_
            rotate_left
            ·intro w'
             go_simp
             with_reducible rfl
            rotate_left
            ·simp only [Act.put, List.setIfInBounds_toArray, List.set_cons_zero, List.set_cons_succ, i64_w, i32_w]
             rfl
            refine pure_ (i := 22) (N := some 33) (v := ?_) (a' := ?_) mk46 rfl rfl (any_of HT_.out (by kernel_rfl)) (fun _ _ _ h => h) (Or.inl ⟨by rfl, ?_⟩) ?_ ?_
            rotate_left
            ·intro w'
             go_simp
             with_reducible rfl
            rotate_left
            ·simp only [Act.put, List.setIfInBounds_toArray, List.set_cons_zero, List.set_cons_succ, i64_w, i32_w]
             rfl
            refine pure_ (i := 23) (N := some 34) (v := ?_) (a' := ?_) mk47 rfl rfl (any_of HT_.out (by kernel_rfl)) (fun _ _ _ h => h) (Or.inl ⟨by rfl, ?_⟩) ?_ ?_
            rotate_left
            ·intro w'
             go_simp
             with_reducible rfl
            rotate_left
            ·simp only [Act.put, List.setIfInBounds_toArray, List.set_cons_zero, List.set_cons_succ, i64_w, i32_w]
             rfl
            refine pure_ (i := 24) (N := some 35) (v := ?_) (a' := ?_) mk48 rfl rfl (any_of HT_.out (by kernel_rfl)) (fun _ _ _ h => h) (Or.inl ⟨by rfl, ?_⟩) ?_ ?_
            rotate_left
            ·intro w'
             go_simp
             with_reducible rfl
            rotate_left
            ·simp only [Act.put, List.setIfInBounds_toArray, List.set_cons_zero, List.set_cons_succ, i64_w, i32_w]
             rfl
            refine pure_ (i := 25) (N := some 36) (v := ?_) (a' := ?_) mk49 rfl rfl (any_of HT_.out (by kernel_rfl)) (fun _ _ _ h => h) (Or.inl ⟨by rfl, ?_⟩) ?_ ?_
            rotate_left
            ·intro w'
             go_simp
             with_reducible rfl
            rotate_left
            ·simp only [Act.put, List.setIfInBounds_toArray, List.set_cons_zero, List.set_cons_succ, i64_w, i32_w]
             rfl
            refine take_ (i := 21) (N := some 32) (v := ?_) (a' := ?_) mk26 rfl rfl (take_ofW HT_.out HW_.out (by kernel_rfl)) (fun _ _ _ h => h) (Or.inl ⟨by rfl, ?_⟩) hHeld ?_ ?_
            rotate_left
            ·rintro w' ⟨s0, s1, s2, s3⟩
             go_simp
             with_reducible rfl
            rotate_left
            ·simp only [Act.put, List.setIfInBounds_toArray, List.set_cons_zero, List.set_cons_succ, i64_w, i32_w]
             rfl
            refine take_ (i := 26) (N := some 37) (v := ?_) (a' := ?_) mk27 rfl rfl (take_ofW HT_.out HW_.out (by kernel_rfl)) (fun _ _ _ h => h) (Or.inl ⟨by rfl, ?_⟩) hHeld ?_ ?_
            rotate_left
            ·rintro w' ⟨s0, s1, s2, s3⟩
             go_simp
             with_reducible rfl
            rotate_left
            ·simp only [Act.put, List.setIfInBounds_toArray, List.set_cons_zero, List.set_cons_succ, i64_w, i32_w]
             rfl
            refine pure_ (i := 27) (N := some 38) (v := ?_) (a' := ?_) mk28 rfl rfl (any_of HT_.out (by kernel_rfl)) (fun _ _ _ h => h) (Or.inl ⟨by rfl, ?_⟩) ?_ ?_
            rotate_left
            ·intro w'
             go_simp
             with_reducible rfl
            rotate_left
            ·simp only [Act.put, List.setIfInBounds_toArray, List.set_cons_zero, List.set_cons_succ, i64_w, i32_w]
             rfl
            refine pure_ (i := 28) (N := some 39) (v := ?_) (a' := ?_) mk29 rfl rfl (any_of HT_.out (by kernel_rfl)) (fun _ _ _ h => h) (Or.inl ⟨by rfl, ?_⟩) ?_ ?_
            rotate_left
            ·intro w'
             go_simp
             with_reducible rfl
            rotate_left
            ·simp only [Act.put, List.setIfInBounds_toArray, List.set_cons_zero, List.set_cons_succ, i64_w, i32_w]
             rfl
            refine pure_ (i := 29) (N := some 40) (v := undef) (a' := ?_) mk30 rfl rfl (any_of HT_.out (by kernel_rfl)) (fun _ _ _ h => h) (Or.inr ⟨by rfl, rfl⟩) ?_ ?_
            rotate_left
            ·simp only [Act.put, List.setIfInBounds_toArray, List.set_cons_zero, List.set_cons_succ, i64_w, i32_w]
             rfl
            refine pure_ (i := 30) (N := some 41) (v := undef) (a' := ?_) mk31 rfl rfl (any_of HT_.out (by kernel_rfl)) (fun _ _ _ h => h) (Or.inr ⟨by rfl, rfl⟩) ?_ ?_
            rotate_left
            ·simp only [Act.put, List.setIfInBounds_toArray, List.set_cons_zero, List.set_cons_succ, i64_w, i32_w]
             rfl
            refine pure_ (i := 31) (N := some 42) (v := undef) (a' := ?_) mk32 rfl rfl (any_of HT_.out (by kernel_rfl)) (fun _ _ _ h => h) (Or.inr ⟨by rfl, rfl⟩) ?_ ?_
            rotate_left
            ·simp only [Act.put, List.setIfInBounds_toArray, List.set_cons_zero, List.set_cons_succ, i64_w, i32_w]
             rfl
            refine pure_ (i := 32) (N := some 43) (v := undef) (a' := ?_) mk33 rfl rfl (any_of HT_.out (by kernel_rfl)) (fun _ _ _ h => h) (Or.inr ⟨by rfl, rfl⟩) ?_ ?_
            rotate_left
            ·simp only [Act.put, List.setIfInBounds_toArray, List.set_cons_zero, List.set_cons_succ, i64_w, i32_w]
             rfl
            refine pure_ (i := 33) (N := some 44) (v := undef) (a' := ?_) mk34 rfl rfl (any_of HT_.out (by kernel_rfl)) (fun _ _ _ h => h) (Or.inr ⟨by rfl, rfl⟩) ?_ ?_
            rotate_left
            ·simp only [Act.put, List.setIfInBounds_toArray, List.set_cons_zero, List.set_cons_succ, i64_w, i32_w]
             rfl
            refine pure_ (i := 34) (N := some 45) (v := undef) (a' := ?_) mk35 rfl rfl (any_of HT_.out (by kernel_rfl)) (fun _ _ _ h => h) (Or.inr ⟨by rfl, rfl⟩) ?_ ?_
            rotate_left
            ·simp only [Act.put, List.setIfInBounds_toArray, List.set_cons_zero, List.set_cons_succ, i64_w, i32_w]
             rfl
            refine pure_ (i := 35) (N := some 46) (v := undef) (a' := ?_) mk36 rfl rfl (any_of HT_.out (by kernel_rfl)) (fun _ _ _ h => h) (Or.inr ⟨by rfl, rfl⟩) ?_ ?_
            rotate_left
            ·simp only [Act.put, List.setIfInBounds_toArray, List.set_cons_zero, List.set_cons_succ, i64_w, i32_w]
             rfl
            refine pure_ (i := 36) (N := some 47) (v := undef) (a' := ?_) mk37 rfl rfl (any_of HT_.out (by kernel_rfl)) (fun _ _ _ h => h) (Or.inr ⟨by rfl, rfl⟩) ?_ ?_
            rotate_left
            ·simp only [Act.put, List.setIfInBounds_toArray, List.set_cons_zero, List.set_cons_succ, i64_w, i32_w]
             rfl
            refine pure_ (i := 37) (N := some 48) (v := undef) (a' := ?_) mk38 rfl rfl (any_of HT_.out (by kernel_rfl)) (fun _ _ _ h => h) (Or.inr ⟨by rfl, rfl⟩) ?_ ?_
            rotate_left
            ·simp only [Act.put, List.setIfInBounds_toArray, List.set_cons_zero, List.set_cons_succ, i64_w, i32_w]
             rfl
            refine pure_ (i := 38) (N := some 49) (v := undef) (a' := ?_) mk39 rfl rfl (any_of HT_.out (by kernel_rfl)) (fun _ _ _ h => h) (Or.inr ⟨by rfl, rfl⟩) ?_ ?_
            rotate_left
            ·simp only [Act.put, List.setIfInBounds_toArray, List.set_cons_zero, List.set_cons_succ, i64_w, i32_w]
             rfl
            refine pure_ (i := 39) (N := some 50) (v := undef) (a' := ?_) mk40 rfl rfl (any_of HT_.out (by kernel_rfl)) (fun _ _ _ h => h) (Or.inr ⟨by rfl, rfl⟩) ?_ ?_
            rotate_left
            ·simp only [Act.put, List.setIfInBounds_toArray, List.set_cons_zero, List.set_cons_succ, i64_w, i32_w]
             rfl
            refine pure_ (i := 40) (N := some 51) (v := undef) (a' := ?_) mk41 rfl rfl (any_of HT_.out (by kernel_rfl)) (fun _ _ _ h => h) (Or.inr ⟨by rfl, rfl⟩) ?_ ?_
            rotate_left
            ·simp only [Act.put, List.setIfInBounds_toArray, List.set_cons_zero, List.set_cons_succ, i64_w, i32_w]
             rfl
            refine pure_ (i := 41) (N := some 52) (v := undef) (a' := ?_) mk42 rfl rfl (any_of HT_.out (by kernel_rfl)) (fun _ _ _ h => h) (Or.inr ⟨by rfl, rfl⟩) ?_ ?_
            rotate_left
            ·simp only [Act.put, List.setIfInBounds_toArray, List.set_cons_zero, List.set_cons_succ, i64_w, i32_w]
             rfl
            refine pure_ (i := 42) (N := some 53) (v := ?_) (a' := ?_) mk43 rfl rfl (any_of HT_.out (by kernel_rfl)) (fun _ _ _ h => h) (Or.inl ⟨by rfl, ?_⟩) ?_ ?_
            rotate_left
            ·intro w'
             go_simp
             with_reducible rfl
            rotate_left
            ·simp only [Act.put, List.setIfInBounds_toArray, List.set_cons_zero, List.set_cons_succ, i64_w, i32_w]
             rfl
            refine pure_ (i := 43) (N := some 54) (v := ?_) (a' := ?_) mk44 rfl rfl (any_of HT_.out (by kernel_rfl)) (fun _ _ _ h => h) (Or.inl ⟨by rfl, ?_⟩) ?_ ?_
            rotate_left
            ·intro w'
             go_simp
             with_reducible rfl
            rotate_left
            ·simp only [Act.put, List.setIfInBounds_toArray, List.set_cons_zero, List.set_cons_succ, i64_w, i32_w]
             rfl
            refine pure_ (i := 44) (N := some 55) (v := ?_) (a' := ?_) mk45 rfl rfl (any_of HT_.out (by kernel_rfl)) (fun _ _ _ h => h) (Or.inl ⟨by rfl, ?_⟩) ?_ ?_
            rotate_left
            ·intro w'
             go_simp
             with_reducible rfl
            rotate_left
            ·simp only [Act.put, List.setIfInBounds_toArray, List.set_cons_zero, List.set_cons_succ, i64_w, i32_w]
             rfl
            refine done_ (done_of HT_.out (by kernel_rfl)) ?_
            try go_wp2
            go_ret
            exact ⟨by first | rfl | (simp [errW_none, errW_some] <;> rfl) | (simp only [← hji11]; first | rfl | (simp [errW_none, errW_some] <;> rfl)) | (simp [*, errW_none, errW_some] <;> rfl), by repeat (first | (with_reducible first | exact HB.out | apply below_alloc | apply pw_below_drewN | apply below_drew1) | exact HB.out)⟩
           ·rw [if_neg c14] at H
            have c14b0 : (Op.bytesLess ((rdOf ByteArray.empty l0 x8_1).toList) ((rdOf ByteArray.empty l0 (ji11)).toList)) = false := by simpa using c14
            clear c14
            by_cases c19 : a1 = true
            ·subst c19
             have H1 : (if (rdOf ByteArray.empty l0 x8_1).toList = (rdOf ByteArray.empty l0 (ji11)).toList then (some false) else (laws_ordered.l0 k1 l0 true (l0.length : Int) (wrap64 (x8_1 + 1)))) = some r := by rw [if_pos rfl] at H; exact H
             clear H
             have H := H1
             clear H1
             by_cases c20 : (rdOf ByteArray.empty l0 x8_1).toList = (rdOf ByteArray.empty l0 (ji11)).toList
             ·rw [if_pos c20] at H
              have c20b0 : ((rdOf ByteArray.empty l0 x8_1).toList == (rdOf ByteArray.empty l0 (ji11)).toList) = true := beq_iff_eq.mpr c20
              have c20b1 : ((rdOf ByteArray.empty l0 x8_1).toList != (rdOf ByteArray.empty l0 (ji11)).toList) = false := bne_eq_false_iff_eq.mpr c20
              clear c20
              obtain rfl := Option.some.inj H
              try go_wp2
              have n0_ := Aside0.mk (below_drew1 HB.out)
              clear HB
              have HB := n0_
              clear n0_
              have p151 : 0 ≤ (x8_1 : Int) := of_decide_eq_true (by first | (with_reducible assumption) | assumption)
              have q151 : x8_1 < (l0.length : Int) := of_decide_eq_true (by first | (with_reducible assumption) | assumption)
              obtain ⟨ad151, e151, hx151_0⟩ := Kd.at_string HR0.out x8_1 p151 q151
              have hw151_0 := hx151_0
              cases e151
              replace hx151_0 := (HB.out.cell (World.block_lt_of_cell? w _ hx151_0)).trans hx151_0
              replace p151 := eq_true p151
              replace q151 := eq_true q151
              have p152 : 0 ≤ (x8_1 : Int) := of_decide_eq_true (by first | (with_reducible assumption) | assumption)
              have q152 : x8_1 < (l0.length : Int) := of_decide_eq_true (by first | (with_reducible assumption) | assumption)
              obtain ⟨ad152, e152, hx152_0⟩ := Kd.at_string HR0.out x8_1 p152 q152
              have hw152_0 := hx152_0
              obtain rfl : ad151 = ad152 := (by injection e152)
              replace hx152_0 := (HB.out.cell (World.block_lt_of_cell? w _ hx152_0)).trans hx152_0
              replace p152 := eq_true p152
              replace q152 := eq_true q152
              have p157 : 0 ≤ (x8_1 : Int) := of_decide_eq_true (by first | (with_reducible assumption) | assumption)
              have q157 : x8_1 < (l0.length : Int) := of_decide_eq_true (by first | (with_reducible assumption) | assumption)
              obtain ⟨ad157, e157, hx157_0⟩ := Kd.at_string HR0.out x8_1 p157 q157
              have hw157_0 := hx157_0
              obtain rfl : ad151 = ad157 := (by injection e157)
              replace hx157_0 := (HB.out.cell (World.block_lt_of_cell? w _ hx157_0)).trans hx157_0
              replace p157 := eq_true p157
              replace q157 := eq_true q157
              have p158 : 0 ≤ ((ji11) : Int) := of_decide_eq_true (by first | (with_reducible assumption) | assumption)
              have q158 : (ji11) < (l0.length : Int) := of_decide_eq_true (by first | (with_reducible assumption) | assumption)
              obtain ⟨ad158, e158, hx158_0⟩ := Kd.at_string HR0.out (ji11) p158 q158
              have hw158_0 := hx158_0
              obtain rfl : ad151 = ad158 := (by injection e158)
              replace hx158_0 := (HB.out.cell (World.block_lt_of_cell? w _ hx158_0)).trans hx158_0
              replace p158 := eq_true p158
              replace q158 := eq_true q158
              have p159 : 0 ≤ (x8_1 : Int) := of_decide_eq_true (by first | (with_reducible assumption) | assumption)
              have q159 : x8_1 < (l0.length : Int) := of_decide_eq_true (by first | (with_reducible assumption) | assumption)
              obtain ⟨ad159, e159, hx159_0⟩ := Kd.at_string HR0.out x8_1 p159 q159
              have hw159_0 := hx159_0
              obtain rfl : ad151 = ad159 := (by injection e159)
              replace hx159_0 := (HB.out.cell (World.block_lt_of_cell? w _ hx159_0)).trans hx159_0
              replace p159 := eq_true p159
              replace q159 := eq_true q159
              have p160 : 0 ≤ ((ji11) : Int) := of_decide_eq_true (by first | (with_reducible assumption) | assumption)
              have q160 : (ji11) < (l0.length : Int) := of_decide_eq_true (by first | (with_reducible assumption) | assumption)
              obtain ⟨ad160, e160, hx160_0⟩ := Kd.at_string HR0.out (ji11) p160 q160
              have hw160_0 := hx160_0
              obtain rfl : ad151 = ad160 := (by injection e160)
              replace hx160_0 := (HB.out.cell (World.block_lt_of_cell? w _ hx160_0)).trans hx160_0
              replace p160 := eq_true p160
              replace q160 := eq_true q160
              refine start_ (n := 45) (S := fun w' => w'.cell? (ad151.add (x8_1).toNat) = some (.string (rdOf ByteArray.empty l0 x8_1)) ∧ w'.cell? (ad151.add (x8_1).toNat) = some (.string (rdOf ByteArray.empty l0 x8_1)) ∧ w'.cell? (ad151.add (x8_1).toNat) = some (.string (rdOf ByteArray.empty l0 x8_1)) ∧ w'.cell? (ad151.add ((ji11)).toNat) = some (.string (rdOf ByteArray.empty l0 (ji11))) ∧ w'.cell? (ad151.add (x8_1).toNat) = some (.string (rdOf ByteArray.empty l0 x8_1)) ∧ w'.cell? (ad151.add ((ji11)).toNat) = some (.string (rdOf ByteArray.empty l0 (ji11)))) (ds := []) mk0 (by kernel_rfl) rfl rfl ⟨((HB.out.cell (World.block_lt_of_cell? w _ hw151_0)).trans hw151_0), ((HB.out.cell (World.block_lt_of_cell? w _ hw152_0)).trans hw152_0), ((HB.out.cell (World.block_lt_of_cell? w _ hw157_0)).trans hw157_0), ((HB.out.cell (World.block_lt_of_cell? w _ hw158_0)).trans hw158_0), ((HB.out.cell (World.block_lt_of_cell? w _ hw159_0)).trans hw159_0), ((HB.out.cell (World.block_lt_of_cell? w _ hw160_0)).trans hw160_0)⟩ (fun hHeld => ?_); refine with_tabW laws_ordered.tab4 laws_ordered.bits4 (fun HT_ HW_ => ?_)
              generalize wr.drew = w21 at HB hx151_0 hx152_0 hx157_0 hx158_0 hx159_0 hx160_0 hHeld ⊢
              refine pure_ (i := 0) (N := some 11) (v := ?_) (a' := ?_) mk1 rfl rfl (any_of HT_.out (by kernel_rfl)) (fun _ _ _ h => h) (Or.inl ⟨by rfl, ?_⟩) ?_ ?_
              rotate_left
              ·intro w'
               go_simp
               with_reducible rfl
              rotate_left
              ·simp only [Act.put, List.setIfInBounds_toArray, List.set_cons_zero, List.set_cons_succ, i64_w, i32_w]
               rfl
              refine pure_ (i := 1) (N := some 12) (v := ?_) (a' := ?_) mk2 rfl rfl (any_of HT_.out (by kernel_rfl)) (fun _ _ _ h => h) (Or.inl ⟨by rfl, ?_⟩) ?_ ?_
              rotate_left
              ·intro w'
               go_simp
               with_reducible rfl
              rotate_left
              ·simp only [Act.put, List.setIfInBounds_toArray, List.set_cons_zero, List.set_cons_succ, i64_w, i32_w]
               rfl
              refine pure_ (i := 2) (N := some 13) (v := ?_) (a' := ?_) mk3 rfl rfl (any_of HT_.out (by kernel_rfl)) (fun _ _ _ h => h) (Or.inl ⟨by rfl, ?_⟩) ?_ ?_
              rotate_left
              ·intro w'
               go_simp
               with_reducible rfl
              rotate_left
              ·simp only [Act.put, List.setIfInBounds_toArray, List.set_cons_zero, List.set_cons_succ, i64_w, i32_w]
               rfl
              refine take_ (i := 3) (N := some 14) (v := ?_) (a' := ?_) mk4 rfl rfl (take_ofW HT_.out HW_.out (by kernel_rfl)) (fun _ _ _ h => h) (Or.inl ⟨by rfl, ?_⟩) hHeld ?_ ?_
              rotate_left
              ·rintro w' ⟨s0, s1, s2, s3, s4, s5⟩
               go_simp
               with_reducible rfl
              rotate_left
              ·simp only [Act.put, List.setIfInBounds_toArray, List.set_cons_zero, List.set_cons_succ, i64_w, i32_w]
               rfl
              refine pure_ (i := 4) (N := some 15) (v := ?_) (a' := ?_) mk5 rfl rfl (any_of HT_.out (by kernel_rfl)) (fun _ _ _ h => h) (Or.inl ⟨by rfl, ?_⟩) ?_ ?_
              rotate_left
              ·intro w'
               go_simp
               with_reducible rfl
              rotate_left
              ·simp only [Act.put, List.setIfInBounds_toArray, List.set_cons_zero, List.set_cons_succ, i64_w, i32_w]
               rfl
              refine pure_ (i := 5) (N := some 16) (v := ?_) (a' := ?_) mk6 rfl rfl (any_of HT_.out (by kernel_rfl)) (fun _ _ _ h => h) (Or.inl ⟨by rfl, ?_⟩) ?_ ?_
              rotate_left
              ·intro w'
               go_simp
               with_reducible rfl
              rotate_left
              ·simp only [Act.put, List.setIfInBounds_toArray, List.set_cons_zero, List.set_cons_succ, i64_w, i32_w]
               rfl
              refine pure_ (i := 6) (N := some 17) (v := ?_) (a' := ?_) mk7 rfl rfl (any_of HT_.out (by kernel_rfl)) (fun _ _ _ h => h) (Or.inl ⟨by rfl, ?_⟩) ?_ ?_
              rotate_left
              ·intro w'
               go_simp
               with_reducible rfl
              rotate_left
              ·simp only [Act.put, List.setIfInBounds_toArray, List.set_cons_zero, List.set_cons_succ, i64_w, i32_w]
               rfl
              refine pure_ (i := 7) (N := some 18) (v := ?_) (a' := ?_) mk8 rfl rfl (any_of HT_.out (by kernel_rfl)) (fun _ _ _ h => h) (Or.inl ⟨by rfl, ?_⟩) ?_ ?_
              rotate_left
              ·intro w'
               go_simp
               with_reducible rfl
              rotate_left
              ·simp only [Act.put, List.setIfInBounds_toArray, List.set_cons_zero, List.set_cons_succ, i64_w, i32_w]
               rfl
              refine pure_ (i := 8) (N := some 19) (v := ?_) (a' := ?_) mk9 rfl rfl (any_of HT_.out (by kernel_rfl)) (fun _ _ _ h => h) (Or.inl ⟨by rfl, ?_⟩) ?_ ?_
              rotate_left
              ·intro w'
               go_simp
               with_reducible rfl
              rotate_left
              ·simp only [Act.put, List.setIfInBounds_toArray, List.set_cons_zero, List.set_cons_succ, i64_w, i32_w]
               rfl
              refine take_ (i := 9) (N := some 20) (v := ?_) (a' := ?_) mk10 rfl rfl (take_ofW HT_.out HW_.out (by kernel_rfl)) (fun _ _ _ h => h) (Or.inl ⟨by rfl, ?_⟩) hHeld ?_ ?_
              rotate_left
              ·rintro w' ⟨s0, s1, s2, s3, s4, s5⟩
               go_simp
               with_reducible rfl
              rotate_left
              ·simp only [Act.put, List.setIfInBounds_toArray, List.set_cons_zero, List.set_cons_succ, i64_w, i32_w]
               rfl
              refine one_ (i := 10) (N := some 21) mk11 rfl rfl (one_of HT_.out (by kernel_rfl)) (by decide) (fun K hK => ?_)
              refine Kd.R_lit_step Kd.string _ 9 ?hg (N := 21) ?hd (xs := ([rdOf ByteArray.empty l0 x8_1] : List ByteArray)) (inner := [.string (rdOf ByteArray.empty l0 x8_1)]) (ok := fun _ => True) (okp := fun _ => True) ?hr ?hp (fun _ hk => hk) trivial (Below.refl _ _) (Nat.le_refl _) (by simp) ?_; (case hd => rfl); (case hg => rfl); (case hr => first | (go_simp; done) | (go_simp; rfl)); (case hp => exact (Reps.one (show Kd.M Kd.string _ _ _ (rdOf ByteArray.empty l0 x8_1) [.string (rdOf ByteArray.empty l0 x8_1)] from rfl) (Reps.none _ _)))
              intro v154 w22 ho23 hb hg_ hnew_
              clear hg_ hnew_
              (first | rw [← Ny153.out] at ho23 | (simp only [Int.reduceToNat] at ho23; rw [← Ny153.out] at ho23))
              have n0_ := Aside0.mk (Kd.R_lower ho23 (below_size (by repeat (first | (with_reducible first | exact HB.out | apply below_alloc | apply pw_below_drewN | apply below_drew1) | exact HB.out))))
              have n1_ := Aside0.mk (below_step (by repeat (first | (with_reducible first | exact HB.out | apply below_alloc | apply pw_below_drewN | apply below_drew1) | exact HB.out)) hb)
              clear HB
              have HO155 := n0_
              have HB := n1_
              clear n0_ n1_
              clear hb ho23
              obtain ⟨Ao24, co24, eo24⟩ := Kd.R_slice HO155.out
              (first | subst eo24 | (injection eo24 with f1_ f2_ f3_; have f4_ := f1_.symm; have f5_ := f3_.symm; clear f1_ f2_ f3_; subst f4_; subst f5_))
              refine hK.out _ _ ⟨((HB.out.cell (World.block_lt_of_cell? w _ hw151_0)).trans hw151_0), ((HB.out.cell (World.block_lt_of_cell? w _ hw152_0)).trans hw152_0), ((HB.out.cell (World.block_lt_of_cell? w _ hw157_0)).trans hw157_0), ((HB.out.cell (World.block_lt_of_cell? w _ hw158_0)).trans hw158_0), ((HB.out.cell (World.block_lt_of_cell? w _ hw159_0)).trans hw159_0), ((HB.out.cell (World.block_lt_of_cell? w _ hw160_0)).trans hw160_0)⟩ (fun hHeld => ?_)
              clear hK K
              refine norm_ (a' := ?_) ?_ ?_
              rotate_left
              ·show Act.put _ (some 21) _ = _
               simp only [Act.put, List.setIfInBounds_toArray, List.set_cons_zero, List.set_cons_succ, i64_w, i32_w]
               rfl
              refine one_ (i := 11) (N := some 22) mk12 rfl rfl (one_of HT_.out (by kernel_rfl)) (by decide) (fun K hK => ?_)
              refine goes_ Tryd.func9 (by kernel_rfl) rfl #[.slice Ao24 y153.length co24] (by rfl) rfl rfl (by (try simp only [List.map_toArray, List.map_cons, List.map_nil]); first | done | rfl | (simp only [List.length_drop, List.length_take]; rfl)) ?_
              with_reducible refine (laws_clean.calls k1 _ _ y153 true _ ?side1 ?side2 A8.out).mono ?_
              (case side1 => repeat (first | exact (Kd.R_reads' HO155.out).2.2 | (with_reducible refine Kd.C_alloc ?_ _) | (with_reducible refine Kd.C_drewN ?_ _) | (with_reducible refine Kd.C_drew ?_)))
              (case side2 => exact (Kd.R_reads' HO155.out).2.1)
              rintro e w' ⟨rfl, ⟨nd, rfl⟩⟩
              refine ⟨_, rfl, ?_⟩
              refine hK.out _ _ ⟨((HB.out.cell (World.block_lt_of_cell? w _ hw151_0)).trans hw151_0), ((HB.out.cell (World.block_lt_of_cell? w _ hw152_0)).trans hw152_0), ((HB.out.cell (World.block_lt_of_cell? w _ hw157_0)).trans hw157_0), ((HB.out.cell (World.block_lt_of_cell? w _ hw158_0)).trans hw158_0), ((HB.out.cell (World.block_lt_of_cell? w _ hw159_0)).trans hw159_0), ((HB.out.cell (World.block_lt_of_cell? w _ hw160_0)).trans hw160_0)⟩ (fun hHeld => ?_)
              clear hK K
              refine norm_ (a' := ?_) ?_ ?_
              rotate_left
              ·show Act.put _ (some 22) _ = _
               simp only [Act.put, List.setIfInBounds_toArray, List.set_cons_zero, List.set_cons_succ, i64_w, i32_w]
               rfl
              refine pure_ (i := 12) (N := some 23) (v := ?_) (a' := ?_) mk13 rfl rfl (any_of HT_.out (by kernel_rfl)) (fun _ _ _ h => h) (Or.inl ⟨by rfl, ?_⟩) ?_ ?_
              rotate_left
              ·intro w'
               go_simp
               with_reducible rfl
              rotate_left
              ·simp only [Act.put, List.setIfInBounds_toArray, List.set_cons_zero, List.set_cons_succ, i64_w, i32_w]
               rfl
              refine pure_ (i := 13) (N := some 24) (v := ?_) (a' := ?_) mk14 rfl rfl (any_of HT_.out (by kernel_rfl)) (fun _ _ _ h => h) (Or.inl ⟨by rfl, ?_⟩) ?_ ?_
              rotate_left
              ·intro w'
               go_simp
               with_reducible rfl
              rotate_left
              ·simp only [Act.put, List.setIfInBounds_toArray, List.set_cons_zero, List.set_cons_succ, i64_w, i32_w]
               rfl
              refine pure_ (i := 14) (N := some 25) (v := ?_) (a' := ?_) mk15 rfl rfl (any_of HT_.out (by kernel_rfl)) (fun _ _ _ h => h) (Or.inl ⟨by rfl, ?_⟩) ?_ ?_
              rotate_left
              ·intro w'
               go_simp
               with_reducible rfl
              rotate_left
              ·simp only [Act.put, List.setIfInBounds_toArray, List.set_cons_zero, List.set_cons_succ, i64_w, i32_w]
               rfl
              refine pure_ (i := 15) (N := some 26) (v := ?_) (a' := ?_) mk16 rfl rfl (any_of HT_.out (by kernel_rfl)) (fun _ _ _ h => h) (Or.inl ⟨by rfl, ?_⟩) ?_ ?_
              rotate_left
              ·intro w'
               go_simp
               with_reducible rfl
              rotate_left
              ·simp only [Act.put, List.setIfInBounds_toArray, List.set_cons_zero, List.set_cons_succ, i64_w, i32_w]
               rfl
              refine pure_ (i := 16) (N := some 27) (v := ?_) (a' := ?_) mk17 rfl rfl (any_of HT_.out (by kernel_rfl)) (fun _ _ _ h => h) (Or.inl ⟨by rfl, ?_⟩) ?_ ?_
              rotate_left
              ·intro w'
               go_simp
               with_reducible rfl
              rotate_left
              ·simp only [Act.put, List.setIfInBounds_toArray, List.set_cons_zero, List.set_cons_succ, i64_w, i32_w]
               rfl
              refine pure_ (i := 17) (N := some 28) (v := ?_) (a' := ?_) mk18 rfl rfl (any_of HT_.out (by kernel_rfl)) (fun _ _ _ h => h) (Or.inl ⟨by rfl, ?_⟩) ?_ ?_
              rotate_left
              ·intro w'
               go_simp
               with_reducible rfl
              rotate_left
              ·simp only [Act.put, List.setIfInBounds_toArray, List.set_cons_zero, List.set_cons_succ, i64_w, i32_w]
               rfl
              refine pure_ (i := 18) (N := some 29) (v := ?_) (a' := ?_) mk19 rfl rfl (any_of HT_.out (by kernel_rfl)) (fun _ _ _ h => h) (Or.inl ⟨by rfl, ?_⟩) ?_ ?_
              rotate_left
              ·intro w'
               go_simp
               with_reducible rfl
              rotate_left
              ·simp only [Act.put, List.setIfInBounds_toArray, List.set_cons_zero, List.set_cons_succ, i64_w, i32_w]
               rfl
              refine pure_ (i := 19) (N := some 30) (v := ?_) (a' := ?_) mk20 rfl rfl (any_of HT_.out (by kernel_rfl)) (fun _ _ _ h => h) (Or.inl ⟨by rfl, ?_⟩) ?_ ?_
              rotate_left
              ·intro w'
               go_simp
               with_reducible rfl
              rotate_left
              ·simp only [Act.put, List.setIfInBounds_toArray, List.set_cons_zero, List.set_cons_succ, i64_w, i32_w]
               rfl
              refine pure_ (i := 20) (N := some 31) (v := ?_) (a' := ?_) mk21 rfl rfl (any_of HT_.out (by kernel_rfl)) (fun _ _ _ h => h) (Or.inl ⟨by rfl, ?_⟩) ?_ ?_
              rotate_left
              ·intro w'
               go_simp
               with_reducible rfl
              rotate_left
              ·simp only [Act.put, List.setIfInBounds_toArray, List.set_cons_zero, List.set_cons_succ, i64_w, i32_w]
               rfl
              refine pure_ (i := 22) (N := some 33) (v := ?_) (a' := ?_) mk46 rfl rfl (any_of HT_.out (by kernel_rfl)) (fun _ _ _ h => h) (Or.inl ⟨by rfl, ?_⟩) ?_ ?_
              rotate_left
              ·intro w'
               go_simp
               with_reducible rfl
              rotate_left
              ·simp only [Act.put, List.setIfInBounds_toArray, List.set_cons_zero, List.set_cons_succ, i64_w, i32_w]
               rfl
              refine pure_ (i := 23) (N := some 34) (v := ?_) (a' := ?_) mk47 rfl rfl (any_of HT_.out (by kernel_rfl)) (fun _ _ _ h => h) (Or.inl ⟨by rfl, ?_⟩) ?_ ?_
              rotate_left
              ·intro w'
               go_simp
               with_reducible rfl
              rotate_left
              ·simp only [Act.put, List.setIfInBounds_toArray, List.set_cons_zero, List.set_cons_succ, i64_w, i32_w]
               rfl
              refine pure_ (i := 24) (N := some 35) (v := ?_) (a' := ?_) mk48 rfl rfl (any_of HT_.out (by kernel_rfl)) (fun _ _ _ h => h) (Or.inl ⟨by rfl, ?_⟩) ?_ ?_
              rotate_left
              ·intro w'
               go_simp
               with_reducible rfl
              rotate_left
              ·simp only [Act.put, List.setIfInBounds_toArray, List.set_cons_zero, List.set_cons_succ, i64_w, i32_w]
               rfl
              refine pure_ (i := 25) (N := some 36) (v := ?_) (a' := ?_) mk49 rfl rfl (any_of HT_.out (by kernel_rfl)) (fun _ _ _ h => h) (Or.inl ⟨by rfl, ?_⟩) ?_ ?_
              rotate_left
              ·intro w'
               go_simp
               with_reducible rfl
              rotate_left
              ·simp only [Act.put, List.setIfInBounds_toArray, List.set_cons_zero, List.set_cons_succ, i64_w, i32_w]
               rfl
              refine take_ (i := 21) (N := some 32) (v := ?_) (a' := ?_) mk26 rfl rfl (take_ofW HT_.out HW_.out (by kernel_rfl)) (fun _ _ _ h => h) (Or.inl ⟨by rfl, ?_⟩) hHeld ?_ ?_
              rotate_left
              ·rintro w' ⟨s0, s1, s2, s3, s4, s5⟩
               go_simp
               with_reducible rfl
              rotate_left
              ·simp only [Act.put, List.setIfInBounds_toArray, List.set_cons_zero, List.set_cons_succ, i64_w, i32_w]
               rfl
              refine take_ (i := 26) (N := some 37) (v := ?_) (a' := ?_) mk27 rfl rfl (take_ofW HT_.out HW_.out (by kernel_rfl)) (fun _ _ _ h => h) (Or.inl ⟨by rfl, ?_⟩) hHeld ?_ ?_
              rotate_left
              ·rintro w' ⟨s0, s1, s2, s3, s4, s5⟩
               go_simp
               with_reducible rfl
              rotate_left
              ·simp only [Act.put, List.setIfInBounds_toArray, List.set_cons_zero, List.set_cons_succ, i64_w, i32_w]
               rfl
              refine pure_ (i := 27) (N := some 38) (v := ?_) (a' := ?_) mk28 rfl rfl (any_of HT_.out (by kernel_rfl)) (fun _ _ _ h => h) (Or.inl ⟨by rfl, ?_⟩) ?_ ?_
              rotate_left
              ·intro w'
               go_simp
               with_reducible rfl
              rotate_left
              ·simp only [Act.put, List.setIfInBounds_toArray, List.set_cons_zero, List.set_cons_succ, i64_w, i32_w]
               rfl
              refine pure_ (i := 28) (N := some 39) (v := ?_) (a' := ?_) mk29 rfl rfl (any_of HT_.out (by kernel_rfl)) (fun _ _ _ h => h) (Or.inl ⟨by rfl, ?_⟩) ?_ ?_
              rotate_left
              ·intro w'
               go_simp
               with_reducible rfl
              rotate_left
              ·simp only [Act.put, List.setIfInBounds_toArray, List.set_cons_zero, List.set_cons_succ, i64_w, i32_w]
               rfl
              refine pure_ (i := 29) (N := some 40) (v := ?_) (a' := ?_) mk30 rfl rfl (any_of HT_.out (by kernel_rfl)) (fun _ _ _ h => h) (Or.inl ⟨by rfl, ?_⟩) ?_ ?_
              rotate_left
              ·intro w'
               go_simp
               with_reducible rfl
              rotate_left
              ·simp only [Act.put, List.setIfInBounds_toArray, List.set_cons_zero, List.set_cons_succ, i64_w, i32_w]
               rfl
              refine pure_ (i := 30) (N := some 41) (v := ?_) (a' := ?_) mk31 rfl rfl (any_of HT_.out (by kernel_rfl)) (fun _ _ _ h => h) (Or.inl ⟨by rfl, ?_⟩) ?_ ?_
              rotate_left
              ·intro w'
               go_simp
               with_reducible rfl
              rotate_left
              ·simp only [Act.put, List.setIfInBounds_toArray, List.set_cons_zero, List.set_cons_succ, i64_w, i32_w]
               rfl
              refine pure_ (i := 31) (N := some 42) (v := ?_) (a' := ?_) mk32 rfl rfl (any_of HT_.out (by kernel_rfl)) (fun _ _ _ h => h) (Or.inl ⟨by rfl, ?_⟩) ?_ ?_
              rotate_left
              ·intro w'
               go_simp
               with_reducible rfl
              rotate_left
              ·simp only [Act.put, List.setIfInBounds_toArray, List.set_cons_zero, List.set_cons_succ, i64_w, i32_w]
               rfl
              refine pure_ (i := 32) (N := some 43) (v := ?_) (a' := ?_) mk33 rfl rfl (any_of HT_.out (by kernel_rfl)) (fun _ _ _ h => h) (Or.inl ⟨by rfl, ?_⟩) ?_ ?_
              rotate_left
              ·intro w'
               go_simp
               with_reducible rfl
              rotate_left
              ·simp only [Act.put, List.setIfInBounds_toArray, List.set_cons_zero, List.set_cons_succ, i64_w, i32_w]
               rfl
              refine pure_ (i := 33) (N := some 44) (v := ?_) (a' := ?_) mk34 rfl rfl (any_of HT_.out (by kernel_rfl)) (fun _ _ _ h => h) (Or.inl ⟨by rfl, ?_⟩) ?_ ?_
              rotate_left
              ·intro w'
               go_simp
               with_reducible rfl
              rotate_left
              ·simp only [Act.put, List.setIfInBounds_toArray, List.set_cons_zero, List.set_cons_succ, i64_w, i32_w]
               rfl
              refine pure_ (i := 35) (N := some 46) (v := ?_) (a' := ?_) mk50 rfl rfl (any_of HT_.out (by kernel_rfl)) (fun _ _ _ h => h) (Or.inl ⟨by rfl, ?_⟩) ?_ ?_
              rotate_left
              ·intro w'
               go_simp
               with_reducible rfl
              rotate_left
              ·simp only [Act.put, List.setIfInBounds_toArray, List.set_cons_zero, List.set_cons_succ, i64_w, i32_w]
               rfl
              refine pure_ (i := 36) (N := some 47) (v := ?_) (a' := ?_) mk51 rfl rfl (any_of HT_.out (by kernel_rfl)) (fun _ _ _ h => h) (Or.inl ⟨by rfl, ?_⟩) ?_ ?_
              rotate_left
              ·intro w'
               go_simp
               with_reducible rfl
              rotate_left
              ·simp only [Act.put, List.setIfInBounds_toArray, List.set_cons_zero, List.set_cons_succ, i64_w, i32_w]
               rfl
              refine pure_ (i := 37) (N := some 48) (v := ?_) (a' := ?_) mk52 rfl rfl (any_of HT_.out (by kernel_rfl)) (fun _ _ _ h => h) (Or.inl ⟨by rfl, ?_⟩) ?_ ?_
              rotate_left
              ·intro w'
               go_simp
               with_reducible rfl
              rotate_left
              ·simp only [Act.put, List.setIfInBounds_toArray, List.set_cons_zero, List.set_cons_succ, i64_w, i32_w]
               rfl
              refine pure_ (i := 38) (N := some 49) (v := ?_) (a' := ?_) mk53 rfl rfl (any_of HT_.out (by kernel_rfl)) (fun _ _ _ h => h) (Or.inl ⟨by rfl, ?_⟩) ?_ ?_
              rotate_left
              ·intro w'
               go_simp
               with_reducible rfl
              rotate_left
              ·simp only [Act.put, List.setIfInBounds_toArray, List.set_cons_zero, List.set_cons_succ, i64_w, i32_w]
               rfl
              refine take_ (i := 34) (N := some 45) (v := ?_) (a' := ?_) mk39 rfl rfl (take_ofW HT_.out HW_.out (by kernel_rfl)) (fun _ _ _ h => h) (Or.inl ⟨by rfl, ?_⟩) hHeld ?_ ?_
              rotate_left
              ·rintro w' ⟨s0, s1, s2, s3, s4, s5⟩
               go_simp
               with_reducible rfl
              rotate_left
              ·simp only [Act.put, List.setIfInBounds_toArray, List.set_cons_zero, List.set_cons_succ, i64_w, i32_w]
               rfl
              refine take_ (i := 39) (N := some 50) (v := ?_) (a' := ?_) mk40 rfl rfl (take_ofW HT_.out HW_.out (by kernel_rfl)) (fun _ _ _ h => h) (Or.inl ⟨by rfl, ?_⟩) hHeld ?_ ?_
              rotate_left
              ·rintro w' ⟨s0, s1, s2, s3, s4, s5⟩
               go_simp
               with_reducible rfl
              rotate_left
              ·simp only [Act.put, List.setIfInBounds_toArray, List.set_cons_zero, List.set_cons_succ, i64_w, i32_w]
               rfl
              refine pure_ (i := 40) (N := some 51) (v := ?_) (a' := ?_) mk41 rfl rfl (any_of HT_.out (by kernel_rfl)) (fun _ _ _ h => h) (Or.inl ⟨by rfl, ?_⟩) ?_ ?_
              rotate_left
              ·intro w'
               go_simp
               with_reducible rfl
              rotate_left
              ·simp only [Act.put, List.setIfInBounds_toArray, List.set_cons_zero, List.set_cons_succ, i64_w, i32_w]
               rfl
              refine pure_ (i := 41) (N := some 52) (v := ?_) (a' := ?_) mk42 rfl rfl (any_of HT_.out (by kernel_rfl)) (fun _ _ _ h => h) (Or.inl ⟨by rfl, ?_⟩) ?_ ?_
              rotate_left
              ·intro w'
               go_simp
               with_reducible rfl
              rotate_left
              ·simp only [Act.put, List.setIfInBounds_toArray, List.set_cons_zero, List.set_cons_succ, i64_w, i32_w]
               rfl
              refine pure_ (i := 42) (N := some 53) (v := ?_) (a' := ?_) mk43 rfl rfl (any_of HT_.out (by kernel_rfl)) (fun _ _ _ h => h) (Or.inl ⟨by rfl, ?_⟩) ?_ ?_
              rotate_left
              ·intro w'
               go_simp
               with_reducible rfl
              rotate_left
              ·simp only [Act.put, List.setIfInBounds_toArray, List.set_cons_zero, List.set_cons_succ, i64_w, i32_w]
               rfl
              refine pure_ (i := 43) (N := some 54) (v := ?_) (a' := ?_) mk44 rfl rfl (any_of HT_.out (by kernel_rfl)) (fun _ _ _ h => h) (Or.inl ⟨by rfl, ?_⟩) ?_ ?_
              rotate_left
              ·intro w'
               go_simp
               with_reducible rfl
              rotate_left
              ·simp only [Act.put, List.setIfInBounds_toArray, List.set_cons_zero, List.set_cons_succ, i64_w, i32_w]
               rfl
              refine pure_ (i := 44) (N := some 55) (v := ?_) (a' := ?_) mk45 rfl rfl (any_of HT_.out (by kernel_rfl)) (fun _ _ _ h => h) (Or.inl ⟨by rfl, ?_⟩) ?_ ?_
              rotate_left
              ·intro w'
               go_simp
               with_reducible rfl
              rotate_left
              ·simp only [Act.put, List.setIfInBounds_toArray, List.set_cons_zero, List.set_cons_succ, i64_w, i32_w]
               rfl
              refine done_ (done_of HT_.out (by kernel_rfl)) ?_
              try go_wp2
              go_ret
              exact ⟨by first | rfl | (simp [errW_none, errW_some] <;> rfl) | (simp only [← hji11]; first | rfl | (simp [errW_none, errW_some] <;> rfl)) | (simp [*, errW_none, errW_some] <;> rfl), by repeat (first | (with_reducible first | exact HB.out | apply below_alloc | apply pw_below_drewN | apply below_drew1) | exact HB.out)⟩
             ·rw [if_neg c20] at H
              have c20b0 : ((rdOf ByteArray.empty l0 x8_1).toList == (rdOf ByteArray.empty l0 (ji11)).toList) = false := beq_eq_false_iff_ne.mpr c20
              have c20b1 : ((rdOf ByteArray.empty l0 x8_1).toList != (rdOf ByteArray.empty l0 (ji11)).toList) = true := bne_iff_ne.mpr c20
              have H' := Aside0.mk H
              clear H
              try go_wp2
              have n0_ := Aside0.mk (below_drew1 HB.out)
              clear HB
              have HB := n0_
              clear n0_
              have p151 : 0 ≤ (x8_1 : Int) := of_decide_eq_true (by first | (with_reducible assumption) | assumption)
              have q151 : x8_1 < (l0.length : Int) := of_decide_eq_true (by first | (with_reducible assumption) | assumption)
              obtain ⟨ad151, e151, hx151_0⟩ := Kd.at_string HR0.out x8_1 p151 q151
              have hw151_0 := hx151_0
              cases e151
              replace hx151_0 := (HB.out.cell (World.block_lt_of_cell? w _ hx151_0)).trans hx151_0
              replace p151 := eq_true p151
              replace q151 := eq_true q151
              have p152 : 0 ≤ (x8_1 : Int) := of_decide_eq_true (by first | (with_reducible assumption) | assumption)
              have q152 : x8_1 < (l0.length : Int) := of_decide_eq_true (by first | (with_reducible assumption) | assumption)
              obtain ⟨ad152, e152, hx152_0⟩ := Kd.at_string HR0.out x8_1 p152 q152
              have hw152_0 := hx152_0
              obtain rfl : ad151 = ad152 := (by injection e152)
              replace hx152_0 := (HB.out.cell (World.block_lt_of_cell? w _ hx152_0)).trans hx152_0
              replace p152 := eq_true p152
              replace q152 := eq_true q152
              have p157 : 0 ≤ (x8_1 : Int) := of_decide_eq_true (by first | (with_reducible assumption) | assumption)
              have q157 : x8_1 < (l0.length : Int) := of_decide_eq_true (by first | (with_reducible assumption) | assumption)
              obtain ⟨ad157, e157, hx157_0⟩ := Kd.at_string HR0.out x8_1 p157 q157
              have hw157_0 := hx157_0
              obtain rfl : ad151 = ad157 := (by injection e157)
              replace hx157_0 := (HB.out.cell (World.block_lt_of_cell? w _ hx157_0)).trans hx157_0
              replace p157 := eq_true p157
              replace q157 := eq_true q157
              have p158 : 0 ≤ ((ji11) : Int) := of_decide_eq_true (by first | (with_reducible assumption) | assumption)
              have q158 : (ji11) < (l0.length : Int) := of_decide_eq_true (by first | (with_reducible assumption) | assumption)
              obtain ⟨ad158, e158, hx158_0⟩ := Kd.at_string HR0.out (ji11) p158 q158
              have hw158_0 := hx158_0
              obtain rfl : ad151 = ad158 := (by injection e158)
              replace hx158_0 := (HB.out.cell (World.block_lt_of_cell? w _ hx158_0)).trans hx158_0
              replace p158 := eq_true p158
              replace q158 := eq_true q158
              have p159 : 0 ≤ (x8_1 : Int) := of_decide_eq_true (by first | (with_reducible assumption) | assumption)
              have q159 : x8_1 < (l0.length : Int) := of_decide_eq_true (by first | (with_reducible assumption) | assumption)
              obtain ⟨ad159, e159, hx159_0⟩ := Kd.at_string HR0.out x8_1 p159 q159
              have hw159_0 := hx159_0
              obtain rfl : ad151 = ad159 := (by injection e159)
              replace hx159_0 := (HB.out.cell (World.block_lt_of_cell? w _ hx159_0)).trans hx159_0
              replace p159 := eq_true p159
              replace q159 := eq_true q159
              have p160 : 0 ≤ ((ji11) : Int) := of_decide_eq_true (by first | (with_reducible assumption) | assumption)
              have q160 : (ji11) < (l0.length : Int) := of_decide_eq_true (by first | (with_reducible assumption) | assumption)
              obtain ⟨ad160, e160, hx160_0⟩ := Kd.at_string HR0.out (ji11) p160 q160
              have hw160_0 := hx160_0
              obtain rfl : ad151 = ad160 := (by injection e160)
              replace hx160_0 := (HB.out.cell (World.block_lt_of_cell? w _ hx160_0)).trans hx160_0
              replace p160 := eq_true p160
              replace q160 := eq_true q160
              refine start_ (n := 45) (S := fun w' => w'.cell? (ad151.add (x8_1).toNat) = some (.string (rdOf ByteArray.empty l0 x8_1)) ∧ w'.cell? (ad151.add (x8_1).toNat) = some (.string (rdOf ByteArray.empty l0 x8_1)) ∧ w'.cell? (ad151.add (x8_1).toNat) = some (.string (rdOf ByteArray.empty l0 x8_1)) ∧ w'.cell? (ad151.add ((ji11)).toNat) = some (.string (rdOf ByteArray.empty l0 (ji11))) ∧ w'.cell? (ad151.add (x8_1).toNat) = some (.string (rdOf ByteArray.empty l0 x8_1)) ∧ w'.cell? (ad151.add ((ji11)).toNat) = some (.string (rdOf ByteArray.empty l0 (ji11)))) (ds := []) mk0 (by kernel_rfl) rfl rfl ⟨((HB.out.cell (World.block_lt_of_cell? w _ hw151_0)).trans hw151_0), ((HB.out.cell (World.block_lt_of_cell? w _ hw152_0)).trans hw152_0), ((HB.out.cell (World.block_lt_of_cell? w _ hw157_0)).trans hw157_0), ((HB.out.cell (World.block_lt_of_cell? w _ hw158_0)).trans hw158_0), ((HB.out.cell (World.block_lt_of_cell? w _ hw159_0)).trans hw159_0), ((HB.out.cell (World.block_lt_of_cell? w _ hw160_0)).trans hw160_0)⟩ (fun hHeld => ?_); refine with_tabW laws_ordered.tab4 laws_ordered.bits4 (fun HT_ HW_ => ?_)
              generalize wr.drew = w25 at HB hx151_0 hx152_0 hx157_0 hx158_0 hx159_0 hx160_0 hHeld ⊢
              refine pure_ (i := 0) (N := some 11) (v := ?_) (a' := ?_) mk1 rfl rfl (any_of HT_.out (by kernel_rfl)) (fun _ _ _ h => h) (Or.inl ⟨by rfl, ?_⟩) ?_ ?_
              rotate_left
              ·intro w'
               go_simp
               with_reducible rfl
              rotate_left
              ·simp only [Act.put, List.setIfInBounds_toArray, List.set_cons_zero, List.set_cons_succ, i64_w, i32_w]
               rfl
              refine pure_ (i := 1) (N := some 12) (v := ?_) (a' := ?_) mk2 rfl rfl (any_of HT_.out (by kernel_rfl)) (fun _ _ _ h => h) (Or.inl ⟨by rfl, ?_⟩) ?_ ?_
              rotate_left
              ·intro w'
               go_simp
               with_reducible rfl
              rotate_left
              ·simp only [Act.put, List.setIfInBounds_toArray, List.set_cons_zero, List.set_cons_succ, i64_w, i32_w]
               rfl
              refine pure_ (i := 2) (N := some 13) (v := ?_) (a' := ?_) mk3 rfl rfl (any_of HT_.out (by kernel_rfl)) (fun _ _ _ h => h) (Or.inl ⟨by rfl, ?_⟩) ?_ ?_
              rotate_left
              ·intro w'
               go_simp
               with_reducible rfl
              rotate_left
              ·simp only [Act.put, List.setIfInBounds_toArray, List.set_cons_zero, List.set_cons_succ, i64_w, i32_w]
               rfl
              refine take_ (i := 3) (N := some 14) (v := ?_) (a' := ?_) mk4 rfl rfl (take_ofW HT_.out HW_.out (by kernel_rfl)) (fun _ _ _ h => h) (Or.inl ⟨by rfl, ?_⟩) hHeld ?_ ?_
              rotate_left
              ·rintro w' ⟨s0, s1, s2, s3, s4, s5⟩
               go_simp
               with_reducible rfl
              rotate_left
              ·simp only [Act.put, List.setIfInBounds_toArray, List.set_cons_zero, List.set_cons_succ, i64_w, i32_w]
               rfl
              refine pure_ (i := 4) (N := some 15) (v := ?_) (a' := ?_) mk5 rfl rfl (any_of HT_.out (by kernel_rfl)) (fun _ _ _ h => h) (Or.inl ⟨by rfl, ?_⟩) ?_ ?_
              rotate_left
              ·intro w'
               go_simp
               with_reducible rfl
              rotate_left
              ·simp only [Act.put, List.setIfInBounds_toArray, List.set_cons_zero, List.set_cons_succ, i64_w, i32_w]
               rfl
              refine pure_ (i := 5) (N := some 16) (v := ?_) (a' := ?_) mk6 rfl rfl (any_of HT_.out (by kernel_rfl)) (fun _ _ _ h => h) (Or.inl ⟨by rfl, ?_⟩) ?_ ?_
              rotate_left
              ·intro w'
               go_simp
               with_reducible rfl
              rotate_left
              ·simp only [Act.put, List.setIfInBounds_toArray, List.set_cons_zero, List.set_cons_succ, i64_w, i32_w]
               rfl
              refine pure_ (i := 6) (N := some 17) (v := ?_) (a' := ?_) mk7 rfl rfl (any_of HT_.out (by kernel_rfl)) (fun _ _ _ h => h) (Or.inl ⟨by rfl, ?_⟩) ?_ ?_
              rotate_left
              ·intro w'
               go_simp
               with_reducible rfl
              rotate_left
              ·simp only [Act.put, List.setIfInBounds_toArray, List.set_cons_zero, List.set_cons_succ, i64_w, i32_w]
               rfl
              refine pure_ (i := 7) (N := some 18) (v := ?_) (a' := ?_) mk8 rfl rfl (any_of HT_.out (by kernel_rfl)) (fun _ _ _ h => h) (Or.inl ⟨by rfl, ?_⟩) ?_ ?_
              rotate_left
              ·intro w'
               go_simp
               with_reducible rfl
              rotate_left
              ·simp only [Act.put, List.setIfInBounds_toArray, List.set_cons_zero, List.set_cons_succ, i64_w, i32_w]
               rfl
              refine pure_ (i := 8) (N := some 19) (v := ?_) (a' := ?_) mk9 rfl rfl (any_of HT_.out (by kernel_rfl)) (fun _ _ _ h => h) (Or.inl ⟨by rfl, ?_⟩) ?_ ?_
              rotate_left
              ·intro w'
               go_simp
               with_reducible rfl
              rotate_left
              ·simp only [Act.put, List.setIfInBounds_toArray, List.set_cons_zero, List.set_cons_succ, i64_w, i32_w]
               rfl
              refine take_ (i := 9) (N := some 20) (v := ?_) (a' := ?_) mk10 rfl rfl (take_ofW HT_.out HW_.out (by kernel_rfl)) (fun _ _ _ h => h) (Or.inl ⟨by rfl, ?_⟩) hHeld ?_ ?_
              rotate_left
              ·rintro w' ⟨s0, s1, s2, s3, s4, s5⟩
               go_simp
               with_reducible rfl
              rotate_left
              ·simp only [Act.put, List.setIfInBounds_toArray, List.set_cons_zero, List.set_cons_succ, i64_w, i32_w]
               rfl
              refine one_ (i := 10) (N := some 21) mk11 rfl rfl (one_of HT_.out (by kernel_rfl)) (by decide) (fun K hK => ?_)
              refine Kd.R_lit_step Kd.string _ 9 ?hg (N := 21) ?hd (xs := ([rdOf ByteArray.empty l0 x8_1] : List ByteArray)) (inner := [.string (rdOf ByteArray.empty l0 x8_1)]) (ok := fun _ => True) (okp := fun _ => True) ?hr ?hp (fun _ hk => hk) trivial (Below.refl _ _) (Nat.le_refl _) (by simp) ?_; (case hd => rfl); (case hg => rfl); (case hr => first | (go_simp; done) | (go_simp; rfl)); (case hp => exact (Reps.one (show Kd.M Kd.string _ _ _ (rdOf ByteArray.empty l0 x8_1) [.string (rdOf ByteArray.empty l0 x8_1)] from rfl) (Reps.none _ _)))
              intro v154 w26 ho27 hb hg_ hnew_
              clear hg_ hnew_
              (first | rw [← Ny153.out] at ho27 | (simp only [Int.reduceToNat] at ho27; rw [← Ny153.out] at ho27))
              have n0_ := Aside0.mk (Kd.R_lower ho27 (below_size (by repeat (first | (with_reducible first | exact HB.out | apply below_alloc | apply pw_below_drewN | apply below_drew1) | exact HB.out))))
              have n1_ := Aside0.mk (below_step (by repeat (first | (with_reducible first | exact HB.out | apply below_alloc | apply pw_below_drewN | apply below_drew1) | exact HB.out)) hb)
              clear HB
              have HO155 := n0_
              have HB := n1_
              clear n0_ n1_
              clear hb ho27
              obtain ⟨Ao28, co28, eo28⟩ := Kd.R_slice HO155.out
              (first | subst eo28 | (injection eo28 with f1_ f2_ f3_; have f4_ := f1_.symm; have f5_ := f3_.symm; clear f1_ f2_ f3_; subst f4_; subst f5_))
              refine hK.out _ _ ⟨((HB.out.cell (World.block_lt_of_cell? w _ hw151_0)).trans hw151_0), ((HB.out.cell (World.block_lt_of_cell? w _ hw152_0)).trans hw152_0), ((HB.out.cell (World.block_lt_of_cell? w _ hw157_0)).trans hw157_0), ((HB.out.cell (World.block_lt_of_cell? w _ hw158_0)).trans hw158_0), ((HB.out.cell (World.block_lt_of_cell? w _ hw159_0)).trans hw159_0), ((HB.out.cell (World.block_lt_of_cell? w _ hw160_0)).trans hw160_0)⟩ (fun hHeld => ?_)
              clear hK K
              refine norm_ (a' := ?_) ?_ ?_
              rotate_left
              ·show Act.put _ (some 21) _ = _
               simp only [Act.put, List.setIfInBounds_toArray, List.set_cons_zero, List.set_cons_succ, i64_w, i32_w]
               rfl
              refine one_ (i := 11) (N := some 22) mk12 rfl rfl (one_of HT_.out (by kernel_rfl)) (by decide) (fun K hK => ?_)
              refine goes_ Tryd.func9 (by kernel_rfl) rfl #[.slice Ao28 y153.length co28] (by rfl) rfl rfl (by (try simp only [List.map_toArray, List.map_cons, List.map_nil]); first | done | rfl | (simp only [List.length_drop, List.length_take]; rfl)) ?_
              with_reducible refine (laws_clean.calls k1 _ _ y153 true _ ?side1 ?side2 A8.out).mono ?_
              (case side1 => repeat (first | exact (Kd.R_reads' HO155.out).2.2 | (with_reducible refine Kd.C_alloc ?_ _) | (with_reducible refine Kd.C_drewN ?_ _) | (with_reducible refine Kd.C_drew ?_)))
              (case side2 => exact (Kd.R_reads' HO155.out).2.1)
              rintro e w' ⟨rfl, ⟨nd, rfl⟩⟩
              refine ⟨_, rfl, ?_⟩
              refine hK.out _ _ ⟨((HB.out.cell (World.block_lt_of_cell? w _ hw151_0)).trans hw151_0), ((HB.out.cell (World.block_lt_of_cell? w _ hw152_0)).trans hw152_0), ((HB.out.cell (World.block_lt_of_cell? w _ hw157_0)).trans hw157_0), ((HB.out.cell (World.block_lt_of_cell? w _ hw158_0)).trans hw158_0), ((HB.out.cell (World.block_lt_of_cell? w _ hw159_0)).trans hw159_0), ((HB.out.cell (World.block_lt_of_cell? w _ hw160_0)).trans hw160_0)⟩ (fun hHeld => ?_)
              clear hK K
              refine norm_ (a' := ?_) ?_ ?_
              rotate_left
              ·show Act.put _ (some 22) _ = _
               simp only [Act.put, List.setIfInBounds_toArray, List.set_cons_zero, List.set_cons_succ, i64_w, i32_w]
               rfl
              refine pure_ (i := 12) (N := some 23) (v := ?_) (a' := ?_) mk13 rfl rfl (any_of HT_.out (by kernel_rfl)) (fun _ _ _ h => h) (Or.inl ⟨by rfl, ?_⟩) ?_ ?_
              rotate_left
              ·intro w'
               go_simp
               with_reducible rfl
              rotate_left
              ·simp only [Act.put, List.setIfInBounds_toArray, List.set_cons_zero, List.set_cons_succ, i64_w, i32_w]
               rfl
              refine pure_ (i := 13) (N := some 24) (v := ?_) (a' := ?_) mk14 rfl rfl (any_of HT_.out (by kernel_rfl)) (fun _ _ _ h => h) (Or.inl ⟨by rfl, ?_⟩) ?_ ?_
              rotate_left
              ·intro w'
               go_simp
               with_reducible rfl
              rotate_left
              ·simp only [Act.put, List.setIfInBounds_toArray, List.set_cons_zero, List.set_cons_succ, i64_w, i32_w]
               rfl
              refine pure_ (i := 14) (N := some 25) (v := ?_) (a' := ?_) mk15 rfl rfl (any_of HT_.out (by kernel_rfl)) (fun _ _ _ h => h) (Or.inl ⟨by rfl, ?_⟩) ?_ ?_
              rotate_left
              ·intro w'
               go_simp
               with_reducible rfl
              rotate_left
              ·simp only [Act.put, List.setIfInBounds_toArray, List.set_cons_zero, List.set_cons_succ, i64_w, i32_w]
               rfl
              refine pure_ (i := 15) (N := some 26) (v := ?_) (a' := ?_) mk16 rfl rfl (any_of HT_.out (by kernel_rfl)) (fun _ _ _ h => h) (Or.inl ⟨by rfl, ?_⟩) ?_ ?_
              rotate_left
              ·intro w'
               go_simp
               with_reducible rfl
              rotate_left
              ·simp only [Act.put, List.setIfInBounds_toArray, List.set_cons_zero, List.set_cons_succ, i64_w, i32_w]
               rfl
              refine pure_ (i := 16) (N := some 27) (v := ?_) (a' := ?_) mk17 rfl rfl (any_of HT_.out (by kernel_rfl)) (fun _ _ _ h => h) (Or.inl ⟨by rfl, ?_⟩) ?_ ?_
              rotate_left
              ·intro w'
               go_simp
               with_reducible rfl
              rotate_left
              ·simp only [Act.put, List.setIfInBounds_toArray, List.set_cons_zero, List.set_cons_succ, i64_w, i32_w]
               rfl
              refine pure_ (i := 17) (N := some 28) (v := ?_) (a' := ?_) mk18 rfl rfl (any_of HT_.out (by kernel_rfl)) (fun _ _ _ h => h) (Or.inl ⟨by rfl, ?_⟩) ?_ ?_
              rotate_left
              ·intro w'
               go_simp
               with_reducible rfl
              rotate_left
              ·simp only [Act.put, List.setIfInBounds_toArray, List.set_cons_zero, List.set_cons_succ, i64_w, i32_w]
               rfl
              refine pure_ (i := 18) (N := some 29) (v := ?_) (a' := ?_) mk19 rfl rfl (any_of HT_.out (by kernel_rfl)) (fun _ _ _ h => h) (Or.inl ⟨by rfl, ?_⟩) ?_ ?_
              rotate_left
              ·intro w'
               go_simp
               with_reducible rfl
              rotate_left
              ·simp only [Act.put, List.setIfInBounds_toArray, List.set_cons_zero, List.set_cons_succ, i64_w, i32_w]
               rfl
              refine pure_ (i := 19) (N := some 30) (v := ?_) (a' := ?_) mk20 rfl rfl (any_of HT_.out (by kernel_rfl)) (fun _ _ _ h => h) (Or.inl ⟨by rfl, ?_⟩) ?_ ?_
              rotate_left
              ·intro w'
               go_simp
               with_reducible rfl
              rotate_left
              ·simp only [Act.put, List.setIfInBounds_toArray, List.set_cons_zero, List.set_cons_succ, i64_w, i32_w]
               rfl
              refine pure_ (i := 20) (N := some 31) (v := ?_) (a' := ?_) mk21 rfl rfl (any_of HT_.out (by kernel_rfl)) (fun _ _ _ h => h) (Or.inl ⟨by rfl, ?_⟩) ?_ ?_
              rotate_left
              ·intro w'
               go_simp
               with_reducible rfl
              rotate_left
              ·simp only [Act.put, List.setIfInBounds_toArray, List.set_cons_zero, List.set_cons_succ, i64_w, i32_w]
               rfl
              refine pure_ (i := 22) (N := some 33) (v := ?_) (a' := ?_) mk46 rfl rfl (any_of HT_.out (by kernel_rfl)) (fun _ _ _ h => h) (Or.inl ⟨by rfl, ?_⟩) ?_ ?_
              rotate_left
              ·intro w'
               go_simp
               with_reducible rfl
              rotate_left
              ·simp only [Act.put, List.setIfInBounds_toArray, List.set_cons_zero, List.set_cons_succ, i64_w, i32_w]
               rfl
              refine pure_ (i := 23) (N := some 34) (v := ?_) (a' := ?_) mk47 rfl rfl (any_of HT_.out (by kernel_rfl)) (fun _ _ _ h => h) (Or.inl ⟨by rfl, ?_⟩) ?_ ?_
              rotate_left
              ·intro w'
               go_simp
               with_reducible rfl
              rotate_left
              ·simp only [Act.put, List.setIfInBounds_toArray, List.set_cons_zero, List.set_cons_succ, i64_w, i32_w]
               rfl
              refine pure_ (i := 24) (N := some 35) (v := ?_) (a' := ?_) mk48 rfl rfl (any_of HT_.out (by kernel_rfl)) (fun _ _ _ h => h) (Or.inl ⟨by rfl, ?_⟩) ?_ ?_
              rotate_left
              ·intro w'
               go_simp
               with_reducible rfl
              rotate_left
              ·simp only [Act.put, List.setIfInBounds_toArray, List.set_cons_zero, List.set_cons_succ, i64_w, i32_w]
               rfl
              refine pure_ (i := 25) (N := some 36) (v := ?_) (a' := ?_) mk49 rfl rfl (any_of HT_.out (by kernel_rfl)) (fun _ _ _ h => h) (Or.inl ⟨by rfl, ?_⟩) ?_ ?_
              rotate_left
              ·intro w'
               go_simp
               with_reducible rfl
              rotate_left
              ·simp only [Act.put, List.setIfInBounds_toArray, List.set_cons_zero, List.set_cons_succ, i64_w, i32_w]
               rfl
              refine take_ (i := 21) (N := some 32) (v := ?_) (a' := ?_) mk26 rfl rfl (take_ofW HT_.out HW_.out (by kernel_rfl)) (fun _ _ _ h => h) (Or.inl ⟨by rfl, ?_⟩) hHeld ?_ ?_
              rotate_left
              ·rintro w' ⟨s0, s1, s2, s3, s4, s5⟩
               go_simp
               with_reducible rfl
              rotate_left
              ·simp only [Act.put, List.setIfInBounds_toArray, List.set_cons_zero, List.set_cons_succ, i64_w, i32_w]
               rfl
              refine take_ (i := 26) (N := some 37) (v := ?_) (a' := ?_) mk27 rfl rfl (take_ofW HT_.out HW_.out (by kernel_rfl)) (fun _ _ _ h => h) (Or.inl ⟨by rfl, ?_⟩) hHeld ?_ ?_
              rotate_left
              ·rintro w' ⟨s0, s1, s2, s3, s4, s5⟩
               go_simp
               with_reducible rfl
              rotate_left
              ·simp only [Act.put, List.setIfInBounds_toArray, List.set_cons_zero, List.set_cons_succ, i64_w, i32_w]
               rfl
              refine pure_ (i := 27) (N := some 38) (v := ?_) (a' := ?_) mk28 rfl rfl (any_of HT_.out (by kernel_rfl)) (fun _ _ _ h => h) (Or.inl ⟨by rfl, ?_⟩) ?_ ?_
              rotate_left
              ·intro w'
               go_simp
               with_reducible rfl
              rotate_left
              ·simp only [Act.put, List.setIfInBounds_toArray, List.set_cons_zero, List.set_cons_succ, i64_w, i32_w]
               rfl
              refine pure_ (i := 28) (N := some 39) (v := ?_) (a' := ?_) mk29 rfl rfl (any_of HT_.out (by kernel_rfl)) (fun _ _ _ h => h) (Or.inl ⟨by rfl, ?_⟩) ?_ ?_
              rotate_left
              ·intro w'
               go_simp
               with_reducible rfl
              rotate_left
              ·simp only [Act.put, List.setIfInBounds_toArray, List.set_cons_zero, List.set_cons_succ, i64_w, i32_w]
               rfl
              refine pure_ (i := 29) (N := some 40) (v := ?_) (a' := ?_) mk30 rfl rfl (any_of HT_.out (by kernel_rfl)) (fun _ _ _ h => h) (Or.inl ⟨by rfl, ?_⟩) ?_ ?_
              rotate_left
              ·intro w'
               go_simp
               with_reducible rfl
              rotate_left
              ·simp only [Act.put, List.setIfInBounds_toArray, List.set_cons_zero, List.set_cons_succ, i64_w, i32_w]
               rfl
              refine pure_ (i := 30) (N := some 41) (v := ?_) (a' := ?_) mk31 rfl rfl (any_of HT_.out (by kernel_rfl)) (fun _ _ _ h => h) (Or.inl ⟨by rfl, ?_⟩) ?_ ?_
              rotate_left
              ·intro w'
               go_simp
               with_reducible rfl
              rotate_left
              ·simp only [Act.put, List.setIfInBounds_toArray, List.set_cons_zero, List.set_cons_succ, i64_w, i32_w]
               rfl
              refine pure_ (i := 31) (N := some 42) (v := ?_) (a' := ?_) mk32 rfl rfl (any_of HT_.out (by kernel_rfl)) (fun _ _ _ h => h) (Or.inl ⟨by rfl, ?_⟩) ?_ ?_
              rotate_left
              ·intro w'
               go_simp
               with_reducible rfl
              rotate_left
              ·simp only [Act.put, List.setIfInBounds_toArray, List.set_cons_zero, List.set_cons_succ, i64_w, i32_w]
               rfl
              refine pure_ (i := 32) (N := some 43) (v := ?_) (a' := ?_) mk33 rfl rfl (any_of HT_.out (by kernel_rfl)) (fun _ _ _ h => h) (Or.inl ⟨by rfl, ?_⟩) ?_ ?_
              rotate_left
              ·intro w'
               go_simp
               with_reducible rfl
              rotate_left
              ·simp only [Act.put, List.setIfInBounds_toArray, List.set_cons_zero, List.set_cons_succ, i64_w, i32_w]
               rfl
              refine pure_ (i := 33) (N := some 44) (v := ?_) (a' := ?_) mk34 rfl rfl (any_of HT_.out (by kernel_rfl)) (fun _ _ _ h => h) (Or.inl ⟨by rfl, ?_⟩) ?_ ?_
              rotate_left
              ·intro w'
               go_simp
               with_reducible rfl
              rotate_left
              ·simp only [Act.put, List.setIfInBounds_toArray, List.set_cons_zero, List.set_cons_succ, i64_w, i32_w]
               rfl
              refine pure_ (i := 35) (N := some 46) (v := ?_) (a' := ?_) mk50 rfl rfl (any_of HT_.out (by kernel_rfl)) (fun _ _ _ h => h) (Or.inl ⟨by rfl, ?_⟩) ?_ ?_
              rotate_left
              ·intro w'
               go_simp
               with_reducible rfl
              rotate_left
              ·simp only [Act.put, List.setIfInBounds_toArray, List.set_cons_zero, List.set_cons_succ, i64_w, i32_w]
               rfl
              refine pure_ (i := 36) (N := some 47) (v := ?_) (a' := ?_) mk51 rfl rfl (any_of HT_.out (by kernel_rfl)) (fun _ _ _ h => h) (Or.inl ⟨by rfl, ?_⟩) ?_ ?_
              rotate_left
              ·intro w'
               go_simp
               with_reducible rfl
              rotate_left
              ·simp only [Act.put, List.setIfInBounds_toArray, List.set_cons_zero, List.set_cons_succ, i64_w, i32_w]
               rfl
              refine pure_ (i := 37) (N := some 48) (v := ?_) (a' := ?_) mk52 rfl rfl (any_of HT_.out (by kernel_rfl)) (fun _ _ _ h => h) (Or.inl ⟨by rfl, ?_⟩) ?_ ?_
              rotate_left
              ·intro w'
               go_simp
               with_reducible rfl
              rotate_left
              ·simp only [Act.put, List.setIfInBounds_toArray, List.set_cons_zero, List.set_cons_succ, i64_w, i32_w]
               rfl
              refine pure_ (i := 38) (N := some 49) (v := ?_) (a' := ?_) mk53 rfl rfl (any_of HT_.out (by kernel_rfl)) (fun _ _ _ h => h) (Or.inl ⟨by rfl, ?_⟩) ?_ ?_
              rotate_left
              ·intro w'
               go_simp
               with_reducible rfl
              rotate_left
              ·simp only [Act.put, List.setIfInBounds_toArray, List.set_cons_zero, List.set_cons_succ, i64_w, i32_w]
               rfl
              refine take_ (i := 34) (N := some 45) (v := ?_) (a' := ?_) mk39 rfl rfl (take_ofW HT_.out HW_.out (by kernel_rfl)) (fun _ _ _ h => h) (Or.inl ⟨by rfl, ?_⟩) hHeld ?_ ?_
              rotate_left
              ·rintro w' ⟨s0, s1, s2, s3, s4, s5⟩
               go_simp
               with_reducible rfl
              rotate_left
              ·simp only [Act.put, List.setIfInBounds_toArray, List.set_cons_zero, List.set_cons_succ, i64_w, i32_w]
               rfl
              refine take_ (i := 39) (N := some 50) (v := ?_) (a' := ?_) mk40 rfl rfl (take_ofW HT_.out HW_.out (by kernel_rfl)) (fun _ _ _ h => h) (Or.inl ⟨by rfl, ?_⟩) hHeld ?_ ?_
              rotate_left
              ·rintro w' ⟨s0, s1, s2, s3, s4, s5⟩
               go_simp
               with_reducible rfl
              rotate_left
              ·simp only [Act.put, List.setIfInBounds_toArray, List.set_cons_zero, List.set_cons_succ, i64_w, i32_w]
               rfl
              refine pure_ (i := 40) (N := some 51) (v := ?_) (a' := ?_) mk41 rfl rfl (any_of HT_.out (by kernel_rfl)) (fun _ _ _ h => h) (Or.inl ⟨by rfl, ?_⟩) ?_ ?_
              rotate_left
              ·intro w'
               go_simp
               with_reducible rfl
              rotate_left
              ·simp only [Act.put, List.setIfInBounds_toArray, List.set_cons_zero, List.set_cons_succ, i64_w, i32_w]
               rfl
              refine pure_ (i := 41) (N := some 52) (v := ?_) (a' := ?_) mk42 rfl rfl (any_of HT_.out (by kernel_rfl)) (fun _ _ _ h => h) (Or.inl ⟨by rfl, ?_⟩) ?_ ?_
              rotate_left
              ·intro w'
               go_simp
               with_reducible rfl
              rotate_left
              ·simp only [Act.put, List.setIfInBounds_toArray, List.set_cons_zero, List.set_cons_succ, i64_w, i32_w]
               rfl
              refine pure_ (i := 42) (N := some 53) (v := ?_) (a' := ?_) mk43 rfl rfl (any_of HT_.out (by kernel_rfl)) (fun _ _ _ h => h) (Or.inl ⟨by rfl, ?_⟩) ?_ ?_
              rotate_left
              ·intro w'
               go_simp
               with_reducible rfl
              rotate_left
              ·simp only [Act.put, List.setIfInBounds_toArray, List.set_cons_zero, List.set_cons_succ, i64_w, i32_w]
               rfl
              refine pure_ (i := 43) (N := some 54) (v := ?_) (a' := ?_) mk44 rfl rfl (any_of HT_.out (by kernel_rfl)) (fun _ _ _ h => h) (Or.inl ⟨by rfl, ?_⟩) ?_ ?_
              rotate_left
              ·intro w'
               go_simp
               with_reducible rfl
              rotate_left
              ·simp only [Act.put, List.setIfInBounds_toArray, List.set_cons_zero, List.set_cons_succ, i64_w, i32_w]
               rfl
              refine pure_ (i := 44) (N := some 55) (v := ?_) (a' := ?_) mk45 rfl rfl (any_of HT_.out (by kernel_rfl)) (fun _ _ _ h => h) (Or.inl ⟨by rfl, ?_⟩) ?_ ?_
              rotate_left
              ·intro w'
               go_simp
               with_reducible rfl
              rotate_left
              ·simp only [Act.put, List.setIfInBounds_toArray, List.set_cons_zero, List.set_cons_succ, i64_w, i32_w]
               rfl
              refine done_ (done_of HT_.out (by kernel_rfl)) ?_
              try go_wp2
              go_roundg k1
              case measure => have := HK1.out; omega
              case rel => exact ⟨(wrap64 (x8_1 + 1)), (by first | rfl | (simp; done) | (simp [*]; done)), H', ⟨by have := HK1.out; omega⟩, ⟨by repeat (first | (with_reducible first | exact HB.out | apply below_alloc | apply pw_below_drewN | apply below_drew1) | exact HB.out)⟩⟩
            ·replace c19 := Bool.eq_false_iff.mpr c19
             subst c19
             have H1 : (laws_ordered.l0 k1 l0 false (l0.length : Int) (wrap64 (x8_1 + 1))) = some r := by rw [if_neg (show ¬ (false = true) by decide)] at H; exact H
             clear H
             have H := H1
             clear H1
             have H' := Aside0.mk H
             clear H
             try go_wp2
             have n0_ := Aside0.mk (below_drew1 HB.out)
             clear HB
             have HB := n0_
             clear n0_
             have p151 : 0 ≤ (x8_1 : Int) := of_decide_eq_true (by first | (with_reducible assumption) | assumption)
             have q151 : x8_1 < (l0.length : Int) := of_decide_eq_true (by first | (with_reducible assumption) | assumption)
             obtain ⟨ad151, e151, hx151_0⟩ := Kd.at_string HR0.out x8_1 p151 q151
             have hw151_0 := hx151_0
             cases e151
             replace hx151_0 := (HB.out.cell (World.block_lt_of_cell? w _ hx151_0)).trans hx151_0
             replace p151 := eq_true p151
             replace q151 := eq_true q151
             have p152 : 0 ≤ (x8_1 : Int) := of_decide_eq_true (by first | (with_reducible assumption) | assumption)
             have q152 : x8_1 < (l0.length : Int) := of_decide_eq_true (by first | (with_reducible assumption) | assumption)
             obtain ⟨ad152, e152, hx152_0⟩ := Kd.at_string HR0.out x8_1 p152 q152
             have hw152_0 := hx152_0
             obtain rfl : ad151 = ad152 := (by injection e152)
             replace hx152_0 := (HB.out.cell (World.block_lt_of_cell? w _ hx152_0)).trans hx152_0
             replace p152 := eq_true p152
             replace q152 := eq_true q152
             have p157 : 0 ≤ (x8_1 : Int) := of_decide_eq_true (by first | (with_reducible assumption) | assumption)
             have q157 : x8_1 < (l0.length : Int) := of_decide_eq_true (by first | (with_reducible assumption) | assumption)
             obtain ⟨ad157, e157, hx157_0⟩ := Kd.at_string HR0.out x8_1 p157 q157
             have hw157_0 := hx157_0
             obtain rfl : ad151 = ad157 := (by injection e157)
             replace hx157_0 := (HB.out.cell (World.block_lt_of_cell? w _ hx157_0)).trans hx157_0
             replace p157 := eq_true p157
             replace q157 := eq_true q157
             have p158 : 0 ≤ ((ji11) : Int) := of_decide_eq_true (by first | (with_reducible assumption) | assumption)
             have q158 : (ji11) < (l0.length : Int) := of_decide_eq_true (by first | (with_reducible assumption) | assumption)
             obtain ⟨ad158, e158, hx158_0⟩ := Kd.at_string HR0.out (ji11) p158 q158
             have hw158_0 := hx158_0
             obtain rfl : ad151 = ad158 := (by injection e158)
             replace hx158_0 := (HB.out.cell (World.block_lt_of_cell? w _ hx158_0)).trans hx158_0
             replace p158 := eq_true p158
             replace q158 := eq_true q158
             refine start_ (n := 45) (S := fun w' => w'.cell? (ad151.add (x8_1).toNat) = some (.string (rdOf ByteArray.empty l0 x8_1)) ∧ w'.cell? (ad151.add (x8_1).toNat) = some (.string (rdOf ByteArray.empty l0 x8_1)) ∧ w'.cell? (ad151.add (x8_1).toNat) = some (.string (rdOf ByteArray.empty l0 x8_1)) ∧ w'.cell? (ad151.add ((ji11)).toNat) = some (.string (rdOf ByteArray.empty l0 (ji11)))) (ds := []) mk0 (by kernel_rfl) rfl rfl ⟨((HB.out.cell (World.block_lt_of_cell? w _ hw151_0)).trans hw151_0), ((HB.out.cell (World.block_lt_of_cell? w _ hw152_0)).trans hw152_0), ((HB.out.cell (World.block_lt_of_cell? w _ hw157_0)).trans hw157_0), ((HB.out.cell (World.block_lt_of_cell? w _ hw158_0)).trans hw158_0)⟩ (fun hHeld => ?_); refine with_tabW laws_ordered.tab4 laws_ordered.bits4 (fun HT_ HW_ => ?_)
             generalize wr.drew = w29 at HB hx151_0 hx152_0 hx157_0 hx158_0 hHeld ⊢
             refine pure_ (i := 0) (N := some 11) (v := ?_) (a' := ?_) mk1 rfl rfl (any_of HT_.out (by kernel_rfl)) (fun _ _ _ h => h) (Or.inl ⟨by rfl, ?_⟩) ?_ ?_
             rotate_left
             ·intro w'
              go_simp
              with_reducible rfl
             rotate_left
             ·simp only [Act.put, List.setIfInBounds_toArray, List.set_cons_zero, List.set_cons_succ, i64_w, i32_w]
              rfl
             refine pure_ (i := 1) (N := some 12) (v := ?_) (a' := ?_) mk2 rfl rfl (any_of HT_.out (by kernel_rfl)) (fun _ _ _ h => h) (Or.inl ⟨by rfl, ?_⟩) ?_ ?_
             rotate_left
             ·intro w'
              go_simp
              with_reducible rfl
             rotate_left
             ·simp only [Act.put, List.setIfInBounds_toArray, List.set_cons_zero, List.set_cons_succ, i64_w, i32_w]
              rfl
             refine pure_ (i := 2) (N := some 13) (v := ?_) (a' := ?_) mk3 rfl rfl (any_of HT_.out (by kernel_rfl)) (fun _ _ _ h => h) (Or.inl ⟨by rfl, ?_⟩) ?_ ?_
             rotate_left
             ·intro w'
              go_simp
              with_reducible rfl
             rotate_left
             ·simp only [Act.put, List.setIfInBounds_toArray, List.set_cons_zero, List.set_cons_succ, i64_w, i32_w]
              rfl
             refine take_ (i := 3) (N := some 14) (v := ?_) (a' := ?_) mk4 rfl rfl (take_ofW HT_.out HW_.out (by kernel_rfl)) (fun _ _ _ h => h) (Or.inl ⟨by rfl, ?_⟩) hHeld ?_ ?_
             rotate_left
             ·rintro w' ⟨s0, s1, s2, s3⟩
              go_simp
              with_reducible rfl
             rotate_left
             ·simp only [Act.put, List.setIfInBounds_toArray, List.set_cons_zero, List.set_cons_succ, i64_w, i32_w]
              rfl
             refine pure_ (i := 4) (N := some 15) (v := ?_) (a' := ?_) mk5 rfl rfl (any_of HT_.out (by kernel_rfl)) (fun _ _ _ h => h) (Or.inl ⟨by rfl, ?_⟩) ?_ ?_
             rotate_left
             ·intro w'
              go_simp
              with_reducible rfl
             rotate_left
             ·simp only [Act.put, List.setIfInBounds_toArray, List.set_cons_zero, List.set_cons_succ, i64_w, i32_w]
              rfl
             refine pure_ (i := 5) (N := some 16) (v := ?_) (a' := ?_) mk6 rfl rfl (any_of HT_.out (by kernel_rfl)) (fun _ _ _ h => h) (Or.inl ⟨by rfl, ?_⟩) ?_ ?_
             rotate_left
             ·intro w'
              go_simp
              with_reducible rfl
             rotate_left
             ·simp only [Act.put, List.setIfInBounds_toArray, List.set_cons_zero, List.set_cons_succ, i64_w, i32_w]
              rfl
             refine pure_ (i := 6) (N := some 17) (v := ?_) (a' := ?_) mk7 rfl rfl (any_of HT_.out (by kernel_rfl)) (fun _ _ _ h => h) (Or.inl ⟨by rfl, ?_⟩) ?_ ?_
             rotate_left
             ·intro w'
              go_simp
              with_reducible rfl
             rotate_left
             ·simp only [Act.put, List.setIfInBounds_toArray, List.set_cons_zero, List.set_cons_succ, i64_w, i32_w]
              rfl
             refine pure_ (i := 7) (N := some 18) (v := ?_) (a' := ?_) mk8 rfl rfl (any_of HT_.out (by kernel_rfl)) (fun _ _ _ h => h) (Or.inl ⟨by rfl, ?_⟩) ?_ ?_
             rotate_left
             ·intro w'
              go_simp
              with_reducible rfl
             rotate_left
             ·simp only [Act.put, List.setIfInBounds_toArray, List.set_cons_zero, List.set_cons_succ, i64_w, i32_w]
              rfl
             refine pure_ (i := 8) (N := some 19) (v := ?_) (a' := ?_) mk9 rfl rfl (any_of HT_.out (by kernel_rfl)) (fun _ _ _ h => h) (Or.inl ⟨by rfl, ?_⟩) ?_ ?_
             rotate_left
             ·intro w'
              go_simp
              with_reducible rfl
             rotate_left
             ·simp only [Act.put, List.setIfInBounds_toArray, List.set_cons_zero, List.set_cons_succ, i64_w, i32_w]
              rfl
             refine take_ (i := 9) (N := some 20) (v := ?_) (a' := ?_) mk10 rfl rfl (take_ofW HT_.out HW_.out (by kernel_rfl)) (fun _ _ _ h => h) (Or.inl ⟨by rfl, ?_⟩) hHeld ?_ ?_
             rotate_left
             ·rintro w' ⟨s0, s1, s2, s3⟩
              go_simp
              with_reducible rfl
             rotate_left
             ·simp only [Act.put, List.setIfInBounds_toArray, List.set_cons_zero, List.set_cons_succ, i64_w, i32_w]
              rfl
             refine one_ (i := 10) (N := some 21) mk11 rfl rfl (one_of HT_.out (by kernel_rfl)) (by decide) (fun K hK => ?_)
             refine Kd.R_lit_step Kd.string _ 9 ?hg (N := 21) ?hd (xs := ([rdOf ByteArray.empty l0 x8_1] : List ByteArray)) (inner := [.string (rdOf ByteArray.empty l0 x8_1)]) (ok := fun _ => True) (okp := fun _ => True) ?hr ?hp (fun _ hk => hk) trivial (Below.refl _ _) (Nat.le_refl _) (by simp) ?_; (case hd => rfl); (case hg => rfl); (case hr => first | (go_simp; done) | (go_simp; rfl)); (case hp => exact (Reps.one (show Kd.M Kd.string _ _ _ (rdOf ByteArray.empty l0 x8_1) [.string (rdOf ByteArray.empty l0 x8_1)] from rfl) (Reps.none _ _)))
             intro v154 w30 ho31 hb hg_ hnew_
             clear hg_ hnew_
             (first | rw [← Ny153.out] at ho31 | (simp only [Int.reduceToNat] at ho31; rw [← Ny153.out] at ho31))
             have n0_ := Aside0.mk (Kd.R_lower ho31 (below_size (by repeat (first | (with_reducible first | exact HB.out | apply below_alloc | apply pw_below_drewN | apply below_drew1) | exact HB.out))))
             have n1_ := Aside0.mk (below_step (by repeat (first | (with_reducible first | exact HB.out | apply below_alloc | apply pw_below_drewN | apply below_drew1) | exact HB.out)) hb)
             clear HB
             have HO155 := n0_
             have HB := n1_
             clear n0_ n1_
             clear hb ho31
             obtain ⟨Ao32, co32, eo32⟩ := Kd.R_slice HO155.out
             (first | subst eo32 | (injection eo32 with f1_ f2_ f3_; have f4_ := f1_.symm; have f5_ := f3_.symm; clear f1_ f2_ f3_; subst f4_; subst f5_))
             refine hK.out _ _ ⟨((HB.out.cell (World.block_lt_of_cell? w _ hw151_0)).trans hw151_0), ((HB.out.cell (World.block_lt_of_cell? w _ hw152_0)).trans hw152_0), ((HB.out.cell (World.block_lt_of_cell? w _ hw157_0)).trans hw157_0), ((HB.out.cell (World.block_lt_of_cell? w _ hw158_0)).trans hw158_0)⟩ (fun hHeld => ?_)
             clear hK K
             refine norm_ (a' := ?_) ?_ ?_
             rotate_left
             ·show Act.put _ (some 21) _ = _
              simp only [Act.put, List.setIfInBounds_toArray, List.set_cons_zero, List.set_cons_succ, i64_w, i32_w]
              rfl
             refine one_ (i := 11) (N := some 22) mk12 rfl rfl (one_of HT_.out (by kernel_rfl)) (by decide) (fun K hK => ?_)
             refine goes_ Tryd.func9 (by kernel_rfl) rfl #[.slice Ao32 y153.length co32] (by rfl) rfl rfl (by (try simp only [List.map_toArray, List.map_cons, List.map_nil]); first | done | rfl | (simp only [List.length_drop, List.length_take]; rfl)) ?_
             with_reducible refine (laws_clean.calls k1 _ _ y153 true _ ?side1 ?side2 A8.out).mono ?_
             (case side1 => repeat (first | exact (Kd.R_reads' HO155.out).2.2 | (with_reducible refine Kd.C_alloc ?_ _) | (with_reducible refine Kd.C_drewN ?_ _) | (with_reducible refine Kd.C_drew ?_)))
             (case side2 => exact (Kd.R_reads' HO155.out).2.1)
             rintro e w' ⟨rfl, ⟨nd, rfl⟩⟩
             refine ⟨_, rfl, ?_⟩
             refine hK.out _ _ ⟨((HB.out.cell (World.block_lt_of_cell? w _ hw151_0)).trans hw151_0), ((HB.out.cell (World.block_lt_of_cell? w _ hw152_0)).trans hw152_0), ((HB.out.cell (World.block_lt_of_cell? w _ hw157_0)).trans hw157_0), ((HB.out.cell (World.block_lt_of_cell? w _ hw158_0)).trans hw158_0)⟩ (fun hHeld => ?_)
             clear hK K
             refine norm_ (a' := ?_) ?_ ?_
             rotate_left
             ·show Act.put _ (some 22) _ = _
              simp only [Act.put, List.setIfInBounds_toArray, List.set_cons_zero, List.set_cons_succ, i64_w, i32_w]
              rfl
             refine pure_ (i := 12) (N := some 23) (v := ?_) (a' := ?_) mk13 rfl rfl (any_of HT_.out (by kernel_rfl)) (fun _ _ _ h => h) (Or.inl ⟨by rfl, ?_⟩) ?_ ?_
             rotate_left
             ·intro w'
              go_simp
              with_reducible rfl
             rotate_left
             ·simp only [Act.put, List.setIfInBounds_toArray, List.set_cons_zero, List.set_cons_succ, i64_w, i32_w]
              rfl
             refine pure_ (i := 13) (N := some 24) (v := ?_) (a' := ?_) mk14 rfl rfl (any_of HT_.out (by kernel_rfl)) (fun _ _ _ h => h) (Or.inl ⟨by rfl, ?_⟩) ?_ ?_
             rotate_left
             ·intro w'
              go_simp
              with_reducible rfl
             rotate_left
             ·simp only [Act.put, List.setIfInBounds_toArray, List.set_cons_zero, List.set_cons_succ, i64_w, i32_w]
              rfl
             refine pure_ (i := 14) (N := some 25) (v := ?_) (a' := ?_) mk15 rfl rfl (any_of HT_.out (by kernel_rfl)) (fun _ _ _ h => h) (Or.inl ⟨by rfl, ?_⟩) ?_ ?_
             rotate_left
             ·intro w'
              go_simp
              with_reducible rfl
             rotate_left
             ·simp only [Act.put, List.setIfInBounds_toArray, List.set_cons_zero, List.set_cons_succ, i64_w, i32_w]
              rfl
             refine pure_ (i := 15) (N := some 26) (v := ?_) (a' := ?_) mk16 rfl rfl (any_of HT_.out (by kernel_rfl)) (fun _ _ _ h => h) (Or.inl ⟨by rfl, ?_⟩) ?_ ?_
             rotate_left
             ·intro w'
              go_simp
              with_reducible rfl
             rotate_left
             ·simp only [Act.put, List.setIfInBounds_toArray, List.set_cons_zero, List.set_cons_succ, i64_w, i32_w]
              rfl
             refine pure_ (i := 16) (N := some 27) (v := ?_) (a' := ?_) mk17 rfl rfl (any_of HT_.out (by kernel_rfl)) (fun _ _ _ h => h) (Or.inl ⟨by rfl, ?_⟩) ?_ ?_
             rotate_left
             ·intro w'
              go_simp
              with_reducible rfl
             rotate_left
             ·simp only [Act.put, List.setIfInBounds_toArray, List.set_cons_zero, List.set_cons_succ, i64_w, i32_w]
              rfl
             refine pure_ (i := 17) (N := some 28) (v := ?_) (a' := ?_) mk18 rfl rfl (any_of HT_.out (by kernel_rfl)) (fun _ _ _ h => h) (Or.inl ⟨by rfl, ?_⟩) ?_ ?_
             rotate_left
             ·intro w'
              go_simp
              with_reducible rfl
             rotate_left
             ·simp only [Act.put, List.setIfInBounds_toArray, List.set_cons_zero, List.set_cons_succ, i64_w, i32_w]
              rfl
             refine pure_ (i := 18) (N := some 29) (v := ?_) (a' := ?_) mk19 rfl rfl (any_of HT_.out (by kernel_rfl)) (fun _ _ _ h => h) (Or.inl ⟨by rfl, ?_⟩) ?_ ?_
             rotate_left
             ·intro w'
              go_simp
              with_reducible rfl
             rotate_left
             ·simp only [Act.put, List.setIfInBounds_toArray, List.set_cons_zero, List.set_cons_succ, i64_w, i32_w]
              rfl
             refine pure_ (i := 19) (N := some 30) (v := ?_) (a' := ?_) mk20 rfl rfl (any_of HT_.out (by kernel_rfl)) (fun _ _ _ h => h) (Or.inl ⟨by rfl, ?_⟩) ?_ ?_
             rotate_left
             ·intro w'
              go_simp
              with_reducible rfl
             rotate_left
             ·simp only [Act.put, List.setIfInBounds_toArray, List.set_cons_zero, List.set_cons_succ, i64_w, i32_w]
              rfl
             refine pure_ (i := 20) (N := some 31) (v := ?_) (a' := ?_) mk21 rfl rfl (any_of HT_.out (by kernel_rfl)) (fun _ _ _ h => h) (Or.inl ⟨by rfl, ?_⟩) ?_ ?_
             rotate_left
             ·intro w'
              go_simp
              with_reducible rfl
             rotate_left
             ·simp only [Act.put, List.setIfInBounds_toArray, List.set_cons_zero, List.set_cons_succ, i64_w, i32_w]
              rfl
             refine pure_ (i := 22) (N := some 33) (v := ?_) (a' := ?_) mk46 rfl rfl (any_of HT_.out (by kernel_rfl)) (fun _ _ _ h => h) (Or.inl ⟨by rfl, ?_⟩) ?_ ?_
             rotate_left
             ·intro w'
              go_simp
              with_reducible rfl
             rotate_left
             ·simp only [Act.put, List.setIfInBounds_toArray, List.set_cons_zero, List.set_cons_succ, i64_w, i32_w]
              rfl
             refine pure_ (i := 23) (N := some 34) (v := ?_) (a' := ?_) mk47 rfl rfl (any_of HT_.out (by kernel_rfl)) (fun _ _ _ h => h) (Or.inl ⟨by rfl, ?_⟩) ?_ ?_
             rotate_left
             ·intro w'
              go_simp
              with_reducible rfl
             rotate_left
             ·simp only [Act.put, List.setIfInBounds_toArray, List.set_cons_zero, List.set_cons_succ, i64_w, i32_w]
              rfl
             refine pure_ (i := 24) (N := some 35) (v := ?_) (a' := ?_) mk48 rfl rfl (any_of HT_.out (by kernel_rfl)) (fun _ _ _ h => h) (Or.inl ⟨by rfl, ?_⟩) ?_ ?_
             rotate_left
             ·intro w'
              go_simp
              with_reducible rfl
             rotate_left
             ·simp only [Act.put, List.setIfInBounds_toArray, List.set_cons_zero, List.set_cons_succ, i64_w, i32_w]
              rfl
             refine pure_ (i := 25) (N := some 36) (v := ?_) (a' := ?_) mk49 rfl rfl (any_of HT_.out (by kernel_rfl)) (fun _ _ _ h => h) (Or.inl ⟨by rfl, ?_⟩) ?_ ?_
             rotate_left
             ·intro w'
              go_simp
              with_reducible rfl
             rotate_left
             ·simp only [Act.put, List.setIfInBounds_toArray, List.set_cons_zero, List.set_cons_succ, i64_w, i32_w]
              rfl
             refine take_ (i := 21) (N := some 32) (v := ?_) (a' := ?_) mk26 rfl rfl (take_ofW HT_.out HW_.out (by kernel_rfl)) (fun _ _ _ h => h) (Or.inl ⟨by rfl, ?_⟩) hHeld ?_ ?_
             rotate_left
             ·rintro w' ⟨s0, s1, s2, s3⟩
              go_simp
              with_reducible rfl
             rotate_left
             ·simp only [Act.put, List.setIfInBounds_toArray, List.set_cons_zero, List.set_cons_succ, i64_w, i32_w]
              rfl
             refine take_ (i := 26) (N := some 37) (v := ?_) (a' := ?_) mk27 rfl rfl (take_ofW HT_.out HW_.out (by kernel_rfl)) (fun _ _ _ h => h) (Or.inl ⟨by rfl, ?_⟩) hHeld ?_ ?_
             rotate_left
             ·rintro w' ⟨s0, s1, s2, s3⟩
              go_simp
              with_reducible rfl
             rotate_left
             ·simp only [Act.put, List.setIfInBounds_toArray, List.set_cons_zero, List.set_cons_succ, i64_w, i32_w]
              rfl
             refine pure_ (i := 27) (N := some 38) (v := ?_) (a' := ?_) mk28 rfl rfl (any_of HT_.out (by kernel_rfl)) (fun _ _ _ h => h) (Or.inl ⟨by rfl, ?_⟩) ?_ ?_
             rotate_left
             ·intro w'
              go_simp
              with_reducible rfl
             rotate_left
             ·simp only [Act.put, List.setIfInBounds_toArray, List.set_cons_zero, List.set_cons_succ, i64_w, i32_w]
              rfl
             refine pure_ (i := 28) (N := some 39) (v := ?_) (a' := ?_) mk29 rfl rfl (any_of HT_.out (by kernel_rfl)) (fun _ _ _ h => h) (Or.inl ⟨by rfl, ?_⟩) ?_ ?_
             rotate_left
             ·intro w'
              go_simp
              with_reducible rfl
             rotate_left
             ·simp only [Act.put, List.setIfInBounds_toArray, List.set_cons_zero, List.set_cons_succ, i64_w, i32_w]
              rfl
             refine pure_ (i := 29) (N := some 40) (v := ?_) (a' := ?_) mk30 rfl rfl (any_of HT_.out (by kernel_rfl)) (fun _ _ _ h => h) (Or.inl ⟨by rfl, ?_⟩) ?_ ?_
             rotate_left
             ·intro w'
              go_simp
              with_reducible rfl
             rotate_left
             ·simp only [Act.put, List.setIfInBounds_toArray, List.set_cons_zero, List.set_cons_succ, i64_w, i32_w]
              rfl
             refine pure_ (i := 30) (N := some 41) (v := ?_) (a' := ?_) mk31 rfl rfl (any_of HT_.out (by kernel_rfl)) (fun _ _ _ h => h) (Or.inl ⟨by rfl, ?_⟩) ?_ ?_
             rotate_left
             ·intro w'
              go_simp
              with_reducible rfl
             rotate_left
             ·simp only [Act.put, List.setIfInBounds_toArray, List.set_cons_zero, List.set_cons_succ, i64_w, i32_w]
              rfl
             refine pure_ (i := 31) (N := some 42) (v := undef) (a' := ?_) mk32 rfl rfl (any_of HT_.out (by kernel_rfl)) (fun _ _ _ h => h) (Or.inr ⟨by rfl, rfl⟩) ?_ ?_
             rotate_left
             ·simp only [Act.put, List.setIfInBounds_toArray, List.set_cons_zero, List.set_cons_succ, i64_w, i32_w]
              rfl
             refine pure_ (i := 32) (N := some 43) (v := undef) (a' := ?_) mk33 rfl rfl (any_of HT_.out (by kernel_rfl)) (fun _ _ _ h => h) (Or.inr ⟨by rfl, rfl⟩) ?_ ?_
             rotate_left
             ·simp only [Act.put, List.setIfInBounds_toArray, List.set_cons_zero, List.set_cons_succ, i64_w, i32_w]
              rfl
             refine pure_ (i := 33) (N := some 44) (v := undef) (a' := ?_) mk34 rfl rfl (any_of HT_.out (by kernel_rfl)) (fun _ _ _ h => h) (Or.inr ⟨by rfl, rfl⟩) ?_ ?_
             rotate_left
             ·simp only [Act.put, List.setIfInBounds_toArray, List.set_cons_zero, List.set_cons_succ, i64_w, i32_w]
              rfl
             refine pure_ (i := 34) (N := some 45) (v := undef) (a' := ?_) mk35 rfl rfl (any_of HT_.out (by kernel_rfl)) (fun _ _ _ h => h) (Or.inr ⟨by rfl, rfl⟩) ?_ ?_
             rotate_left
             ·simp only [Act.put, List.setIfInBounds_toArray, List.set_cons_zero, List.set_cons_succ, i64_w, i32_w]
              rfl
             refine pure_ (i := 35) (N := some 46) (v := undef) (a' := ?_) mk36 rfl rfl (any_of HT_.out (by kernel_rfl)) (fun _ _ _ h => h) (Or.inr ⟨by rfl, rfl⟩) ?_ ?_
             rotate_left
             ·simp only [Act.put, List.setIfInBounds_toArray, List.set_cons_zero, List.set_cons_succ, i64_w, i32_w]
              rfl
             refine pure_ (i := 36) (N := some 47) (v := undef) (a' := ?_) mk37 rfl rfl (any_of HT_.out (by kernel_rfl)) (fun _ _ _ h => h) (Or.inr ⟨by rfl, rfl⟩) ?_ ?_
             rotate_left
             ·simp only [Act.put, List.setIfInBounds_toArray, List.set_cons_zero, List.set_cons_succ, i64_w, i32_w]
              rfl
             refine pure_ (i := 37) (N := some 48) (v := undef) (a' := ?_) mk38 rfl rfl (any_of HT_.out (by kernel_rfl)) (fun _ _ _ h => h) (Or.inr ⟨by rfl, rfl⟩) ?_ ?_
             rotate_left
             ·simp only [Act.put, List.setIfInBounds_toArray, List.set_cons_zero, List.set_cons_succ, i64_w, i32_w]
              rfl
             refine pure_ (i := 38) (N := some 49) (v := undef) (a' := ?_) mk39 rfl rfl (any_of HT_.out (by kernel_rfl)) (fun _ _ _ h => h) (Or.inr ⟨by rfl, rfl⟩) ?_ ?_
             rotate_left
             ·simp only [Act.put, List.setIfInBounds_toArray, List.set_cons_zero, List.set_cons_succ, i64_w, i32_w]
              rfl
             refine pure_ (i := 39) (N := some 50) (v := undef) (a' := ?_) mk40 rfl rfl (any_of HT_.out (by kernel_rfl)) (fun _ _ _ h => h) (Or.inr ⟨by rfl, rfl⟩) ?_ ?_
             rotate_left
             ·simp only [Act.put, List.setIfInBounds_toArray, List.set_cons_zero, List.set_cons_succ, i64_w, i32_w]
              rfl
             refine pure_ (i := 40) (N := some 51) (v := undef) (a' := ?_) mk41 rfl rfl (any_of HT_.out (by kernel_rfl)) (fun _ _ _ h => h) (Or.inr ⟨by rfl, rfl⟩) ?_ ?_
             rotate_left
             ·simp only [Act.put, List.setIfInBounds_toArray, List.set_cons_zero, List.set_cons_succ, i64_w, i32_w]
              rfl
             refine pure_ (i := 41) (N := some 52) (v := ?_) (a' := ?_) mk42 rfl rfl (any_of HT_.out (by kernel_rfl)) (fun _ _ _ h => h) (Or.inl ⟨by rfl, ?_⟩) ?_ ?_
             rotate_left
             ·intro w'
              go_simp
              with_reducible rfl
             rotate_left
             ·simp only [Act.put, List.setIfInBounds_toArray, List.set_cons_zero, List.set_cons_succ, i64_w, i32_w]
              rfl
             refine pure_ (i := 42) (N := some 53) (v := ?_) (a' := ?_) mk43 rfl rfl (any_of HT_.out (by kernel_rfl)) (fun _ _ _ h => h) (Or.inl ⟨by rfl, ?_⟩) ?_ ?_
             rotate_left
             ·intro w'
              go_simp
              with_reducible rfl
             rotate_left
             ·simp only [Act.put, List.setIfInBounds_toArray, List.set_cons_zero, List.set_cons_succ, i64_w, i32_w]
              rfl
             refine pure_ (i := 43) (N := some 54) (v := ?_) (a' := ?_) mk44 rfl rfl (any_of HT_.out (by kernel_rfl)) (fun _ _ _ h => h) (Or.inl ⟨by rfl, ?_⟩) ?_ ?_
             rotate_left
             ·intro w'
              go_simp
              with_reducible rfl
             rotate_left
             ·simp only [Act.put, List.setIfInBounds_toArray, List.set_cons_zero, List.set_cons_succ, i64_w, i32_w]
              rfl
             refine pure_ (i := 44) (N := some 55) (v := ?_) (a' := ?_) mk45 rfl rfl (any_of HT_.out (by kernel_rfl)) (fun _ _ _ h => h) (Or.inl ⟨by rfl, ?_⟩) ?_ ?_
             rotate_left
             ·intro w'
              go_simp
              with_reducible rfl
             rotate_left
             ·simp only [Act.put, List.setIfInBounds_toArray, List.set_cons_zero, List.set_cons_succ, i64_w, i32_w]
              rfl
             refine done_ (done_of HT_.out (by kernel_rfl)) ?_
             try go_wp2
             go_roundg k1
             case measure => have := HK1.out; omega
             case rel => exact ⟨(wrap64 (x8_1 + 1)), (by first | rfl | (simp; done) | (simp [*]; done)), H', ⟨by have := HK1.out; omega⟩, ⟨by repeat (first | (with_reducible first | exact HB.out | apply below_alloc | apply pw_below_drewN | apply below_drew1) | exact HB.out)⟩⟩
          ·rw [if_neg c13] at H
           exact absurd H (by simp)
         ·rw [if_neg c12] at H
          exact absurd H (by simp)
        ·rw [if_neg c10] at H
         have c10b0 : decide (0 < x8_1) = false := decide_eq_false c10
         clear c10
         have H' := Aside0.mk H
         clear H
         try go_wp2
         have n0_ := Aside0.mk (below_drew1 HB.out)
         clear HB
         have HB := n0_
         clear n0_
         have p151 : 0 ≤ (x8_1 : Int) := of_decide_eq_true (by first | (with_reducible assumption) | assumption)
         have q151 : x8_1 < (l0.length : Int) := of_decide_eq_true (by first | (with_reducible assumption) | assumption)
         obtain ⟨ad151, e151, hx151_0⟩ := Kd.at_string HR0.out x8_1 p151 q151
         have hw151_0 := hx151_0
         cases e151
         replace hx151_0 := (HB.out.cell (World.block_lt_of_cell? w _ hx151_0)).trans hx151_0
         replace p151 := eq_true p151
         replace q151 := eq_true q151
         have p152 : 0 ≤ (x8_1 : Int) := of_decide_eq_true (by first | (with_reducible assumption) | assumption)
         have q152 : x8_1 < (l0.length : Int) := of_decide_eq_true (by first | (with_reducible assumption) | assumption)
         obtain ⟨ad152, e152, hx152_0⟩ := Kd.at_string HR0.out x8_1 p152 q152
         have hw152_0 := hx152_0
         obtain rfl : ad151 = ad152 := (by injection e152)
         replace hx152_0 := (HB.out.cell (World.block_lt_of_cell? w _ hx152_0)).trans hx152_0
         replace p152 := eq_true p152
         replace q152 := eq_true q152
         refine start_ (n := 45) (S := fun w' => w'.cell? (ad151.add (x8_1).toNat) = some (.string (rdOf ByteArray.empty l0 x8_1)) ∧ w'.cell? (ad151.add (x8_1).toNat) = some (.string (rdOf ByteArray.empty l0 x8_1))) (ds := []) mk0 (by kernel_rfl) rfl rfl ⟨((HB.out.cell (World.block_lt_of_cell? w _ hw151_0)).trans hw151_0), ((HB.out.cell (World.block_lt_of_cell? w _ hw152_0)).trans hw152_0)⟩ (fun hHeld => ?_); refine with_tabW laws_ordered.tab4 laws_ordered.bits4 (fun HT_ HW_ => ?_)
         generalize wr.drew = w33 at HB hx151_0 hx152_0 hHeld ⊢
         refine pure_ (i := 0) (N := some 11) (v := ?_) (a' := ?_) mk1 rfl rfl (any_of HT_.out (by kernel_rfl)) (fun _ _ _ h => h) (Or.inl ⟨by rfl, ?_⟩) ?_ ?_
         rotate_left
         ·intro w'
          go_simp
          with_reducible rfl
         rotate_left
         ·simp only [Act.put, List.setIfInBounds_toArray, List.set_cons_zero, List.set_cons_succ, i64_w, i32_w]
          rfl
         refine pure_ (i := 1) (N := some 12) (v := ?_) (a' := ?_) mk2 rfl rfl (any_of HT_.out (by kernel_rfl)) (fun _ _ _ h => h) (Or.inl ⟨by rfl, ?_⟩) ?_ ?_
         rotate_left
         ·intro w'
          go_simp
          with_reducible rfl
         rotate_left
         ·simp only [Act.put, List.setIfInBounds_toArray, List.set_cons_zero, List.set_cons_succ, i64_w, i32_w]
          rfl
         refine pure_ (i := 2) (N := some 13) (v := ?_) (a' := ?_) mk3 rfl rfl (any_of HT_.out (by kernel_rfl)) (fun _ _ _ h => h) (Or.inl ⟨by rfl, ?_⟩) ?_ ?_
         rotate_left
         ·intro w'
          go_simp
          with_reducible rfl
         rotate_left
         ·simp only [Act.put, List.setIfInBounds_toArray, List.set_cons_zero, List.set_cons_succ, i64_w, i32_w]
          rfl
         refine take_ (i := 3) (N := some 14) (v := ?_) (a' := ?_) mk4 rfl rfl (take_ofW HT_.out HW_.out (by kernel_rfl)) (fun _ _ _ h => h) (Or.inl ⟨by rfl, ?_⟩) hHeld ?_ ?_
         rotate_left
         ·rintro w' ⟨s0, s1⟩
          go_simp
          with_reducible rfl
         rotate_left
         ·simp only [Act.put, List.setIfInBounds_toArray, List.set_cons_zero, List.set_cons_succ, i64_w, i32_w]
          rfl
         refine pure_ (i := 4) (N := some 15) (v := ?_) (a' := ?_) mk5 rfl rfl (any_of HT_.out (by kernel_rfl)) (fun _ _ _ h => h) (Or.inl ⟨by rfl, ?_⟩) ?_ ?_
         rotate_left
         ·intro w'
          go_simp
          with_reducible rfl
         rotate_left
         ·simp only [Act.put, List.setIfInBounds_toArray, List.set_cons_zero, List.set_cons_succ, i64_w, i32_w]
          rfl
         refine pure_ (i := 5) (N := some 16) (v := ?_) (a' := ?_) mk6 rfl rfl (any_of HT_.out (by kernel_rfl)) (fun _ _ _ h => h) (Or.inl ⟨by rfl, ?_⟩) ?_ ?_
         rotate_left
         ·intro w'
          go_simp
          with_reducible rfl
         rotate_left
         ·simp only [Act.put, List.setIfInBounds_toArray, List.set_cons_zero, List.set_cons_succ, i64_w, i32_w]
          rfl
         refine pure_ (i := 6) (N := some 17) (v := ?_) (a' := ?_) mk7 rfl rfl (any_of HT_.out (by kernel_rfl)) (fun _ _ _ h => h) (Or.inl ⟨by rfl, ?_⟩) ?_ ?_
         rotate_left
         ·intro w'
          go_simp
          with_reducible rfl
         rotate_left
         ·simp only [Act.put, List.setIfInBounds_toArray, List.set_cons_zero, List.set_cons_succ, i64_w, i32_w]
          rfl
         refine pure_ (i := 7) (N := some 18) (v := ?_) (a' := ?_) mk8 rfl rfl (any_of HT_.out (by kernel_rfl)) (fun _ _ _ h => h) (Or.inl ⟨by rfl, ?_⟩) ?_ ?_
         rotate_left
         ·intro w'
          go_simp
          with_reducible rfl
         rotate_left
         ·simp only [Act.put, List.setIfInBounds_toArray, List.set_cons_zero, List.set_cons_succ, i64_w, i32_w]
          rfl
         refine pure_ (i := 8) (N := some 19) (v := ?_) (a' := ?_) mk9 rfl rfl (any_of HT_.out (by kernel_rfl)) (fun _ _ _ h => h) (Or.inl ⟨by rfl, ?_⟩) ?_ ?_
         rotate_left
         ·intro w'
          go_simp
          with_reducible rfl
         rotate_left
         ·simp only [Act.put, List.setIfInBounds_toArray, List.set_cons_zero, List.set_cons_succ, i64_w, i32_w]
          rfl
         refine take_ (i := 9) (N := some 20) (v := ?_) (a' := ?_) mk10 rfl rfl (take_ofW HT_.out HW_.out (by kernel_rfl)) (fun _ _ _ h => h) (Or.inl ⟨by rfl, ?_⟩) hHeld ?_ ?_
         rotate_left
         ·rintro w' ⟨s0, s1⟩
          go_simp
          with_reducible rfl
         rotate_left
         ·simp only [Act.put, List.setIfInBounds_toArray, List.set_cons_zero, List.set_cons_succ, i64_w, i32_w]
          rfl
         refine one_ (i := 10) (N := some 21) mk11 rfl rfl (one_of HT_.out (by kernel_rfl)) (by decide) (fun K hK => ?_)
         refine Kd.R_lit_step Kd.string _ 9 ?hg (N := 21) ?hd (xs := ([rdOf ByteArray.empty l0 x8_1] : List ByteArray)) (inner := [.string (rdOf ByteArray.empty l0 x8_1)]) (ok := fun _ => True) (okp := fun _ => True) ?hr ?hp (fun _ hk => hk) trivial (Below.refl _ _) (Nat.le_refl _) (by simp) ?_; (case hd => rfl); (case hg => rfl); (case hr => first | (go_simp; done) | (go_simp; rfl)); (case hp => exact (Reps.one (show Kd.M Kd.string _ _ _ (rdOf ByteArray.empty l0 x8_1) [.string (rdOf ByteArray.empty l0 x8_1)] from rfl) (Reps.none _ _)))
         intro v154 w34 ho35 hb hg_ hnew_
         clear hg_ hnew_
         (first | rw [← Ny153.out] at ho35 | (simp only [Int.reduceToNat] at ho35; rw [← Ny153.out] at ho35))
         have n0_ := Aside0.mk (Kd.R_lower ho35 (below_size (by repeat (first | (with_reducible first | exact HB.out | apply below_alloc | apply pw_below_drewN | apply below_drew1) | exact HB.out))))
         have n1_ := Aside0.mk (below_step (by repeat (first | (with_reducible first | exact HB.out | apply below_alloc | apply pw_below_drewN | apply below_drew1) | exact HB.out)) hb)
         clear HB
         have HO155 := n0_
         have HB := n1_
         clear n0_ n1_
         clear hb ho35
         obtain ⟨Ao36, co36, eo36⟩ := Kd.R_slice HO155.out
         (first | subst eo36 | (injection eo36 with f1_ f2_ f3_; have f4_ := f1_.symm; have f5_ := f3_.symm; clear f1_ f2_ f3_; subst f4_; subst f5_))
         refine hK.out _ _ ⟨((HB.out.cell (World.block_lt_of_cell? w _ hw151_0)).trans hw151_0), ((HB.out.cell (World.block_lt_of_cell? w _ hw152_0)).trans hw152_0)⟩ (fun hHeld => ?_)
         clear hK K
         refine norm_ (a' := ?_) ?_ ?_
         rotate_left
         ·show Act.put _ (some 21) _ = _
          simp only [Act.put, List.setIfInBounds_toArray, List.set_cons_zero, List.set_cons_succ, i64_w, i32_w]
          rfl
         refine one_ (i := 11) (N := some 22) mk12 rfl rfl (one_of HT_.out (by kernel_rfl)) (by decide) (fun K hK => ?_)
         refine goes_ Tryd.func9 (by kernel_rfl) rfl #[.slice Ao36 y153.length co36] (by rfl) rfl rfl (by (try simp only [List.map_toArray, List.map_cons, List.map_nil]); first | done | rfl | (simp only [List.length_drop, List.length_take]; rfl)) ?_
         with_reducible refine (laws_clean.calls k1 _ _ y153 true _ ?side1 ?side2 A8.out).mono ?_
         (case side1 => repeat (first | exact (Kd.R_reads' HO155.out).2.2 | (with_reducible refine Kd.C_alloc ?_ _) | (with_reducible refine Kd.C_drewN ?_ _) | (with_reducible refine Kd.C_drew ?_)))
         (case side2 => exact (Kd.R_reads' HO155.out).2.1)
         rintro e w' ⟨rfl, ⟨nd, rfl⟩⟩
         refine ⟨_, rfl, ?_⟩
         refine hK.out _ _ ⟨((HB.out.cell (World.block_lt_of_cell? w _ hw151_0)).trans hw151_0), ((HB.out.cell (World.block_lt_of_cell? w _ hw152_0)).trans hw152_0)⟩ (fun hHeld => ?_)
         clear hK K
         refine norm_ (a' := ?_) ?_ ?_
         rotate_left
         ·show Act.put _ (some 22) _ = _
          simp only [Act.put, List.setIfInBounds_toArray, List.set_cons_zero, List.set_cons_succ, i64_w, i32_w]
          rfl
         refine pure_ (i := 12) (N := some 23) (v := ?_) (a' := ?_) mk13 rfl rfl (any_of HT_.out (by kernel_rfl)) (fun _ _ _ h => h) (Or.inl ⟨by rfl, ?_⟩) ?_ ?_
         rotate_left
         ·intro w'
          go_simp
          with_reducible rfl
         rotate_left
         ·simp only [Act.put, List.setIfInBounds_toArray, List.set_cons_zero, List.set_cons_succ, i64_w, i32_w]
          rfl
         refine pure_ (i := 13) (N := some 24) (v := ?_) (a' := ?_) mk14 rfl rfl (any_of HT_.out (by kernel_rfl)) (fun _ _ _ h => h) (Or.inl ⟨by rfl, ?_⟩) ?_ ?_
         rotate_left
         ·intro w'
          go_simp
          with_reducible rfl
         rotate_left
         ·simp only [Act.put, List.setIfInBounds_toArray, List.set_cons_zero, List.set_cons_succ, i64_w, i32_w]
          rfl
         refine pure_ (i := 14) (N := some 25) (v := ?_) (a' := ?_) mk15 rfl rfl (any_of HT_.out (by kernel_rfl)) (fun _ _ _ h => h) (Or.inl ⟨by rfl, ?_⟩) ?_ ?_
         rotate_left
         ·intro w'
          go_simp
          with_reducible rfl
         rotate_left
         ·simp only [Act.put, List.setIfInBounds_toArray, List.set_cons_zero, List.set_cons_succ, i64_w, i32_w]
          rfl
         refine pure_ (i := 15) (N := some 26) (v := ?_) (a' := ?_) mk16 rfl rfl (any_of HT_.out (by kernel_rfl)) (fun _ _ _ h => h) (Or.inl ⟨by rfl, ?_⟩) ?_ ?_
         rotate_left
         ·intro w'
          go_simp
          with_reducible rfl
         rotate_left
         ·simp only [Act.put, List.setIfInBounds_toArray, List.set_cons_zero, List.set_cons_succ, i64_w, i32_w]
          rfl
         refine pure_ (i := 16) (N := some 27) (v := ?_) (a' := ?_) mk17 rfl rfl (any_of HT_.out (by kernel_rfl)) (fun _ _ _ h => h) (Or.inl ⟨by rfl, ?_⟩) ?_ ?_
         rotate_left
         ·intro w'
          go_simp
          with_reducible rfl
         rotate_left
         ·simp only [Act.put, List.setIfInBounds_toArray, List.set_cons_zero, List.set_cons_succ, i64_w, i32_w]
          rfl
         refine pure_ (i := 17) (N := some 28) (v := ?_) (a' := ?_) mk18 rfl rfl (any_of HT_.out (by kernel_rfl)) (fun _ _ _ h => h) (Or.inl ⟨by rfl, ?_⟩) ?_ ?_
         rotate_left
         ·intro w'
          go_simp
          with_reducible rfl
         rotate_left
         ·simp only [Act.put, List.setIfInBounds_toArray, List.set_cons_zero, List.set_cons_succ, i64_w, i32_w]
          rfl
         refine pure_ (i := 18) (N := some 29) (v := undef) (a' := ?_) mk19 rfl rfl (any_of HT_.out (by kernel_rfl)) (fun _ _ _ h => h) (Or.inr ⟨by rfl, rfl⟩) ?_ ?_
         rotate_left
         ·simp only [Act.put, List.setIfInBounds_toArray, List.set_cons_zero, List.set_cons_succ, i64_w, i32_w]
          rfl
         refine pure_ (i := 19) (N := some 30) (v := undef) (a' := ?_) mk20 rfl rfl (any_of HT_.out (by kernel_rfl)) (fun _ _ _ h => h) (Or.inr ⟨by rfl, rfl⟩) ?_ ?_
         rotate_left
         ·simp only [Act.put, List.setIfInBounds_toArray, List.set_cons_zero, List.set_cons_succ, i64_w, i32_w]
          rfl
         refine pure_ (i := 20) (N := some 31) (v := undef) (a' := ?_) mk21 rfl rfl (any_of HT_.out (by kernel_rfl)) (fun _ _ _ h => h) (Or.inr ⟨by rfl, rfl⟩) ?_ ?_
         rotate_left
         ·simp only [Act.put, List.setIfInBounds_toArray, List.set_cons_zero, List.set_cons_succ, i64_w, i32_w]
          rfl
         refine pure_ (i := 21) (N := some 32) (v := undef) (a' := ?_) mk22 rfl rfl (any_of HT_.out (by kernel_rfl)) (fun _ _ _ h => h) (Or.inr ⟨by rfl, rfl⟩) ?_ ?_
         rotate_left
         ·simp only [Act.put, List.setIfInBounds_toArray, List.set_cons_zero, List.set_cons_succ, i64_w, i32_w]
          rfl
         refine pure_ (i := 22) (N := some 33) (v := undef) (a' := ?_) mk23 rfl rfl (any_of HT_.out (by kernel_rfl)) (fun _ _ _ h => h) (Or.inr ⟨by rfl, rfl⟩) ?_ ?_
         rotate_left
         ·simp only [Act.put, List.setIfInBounds_toArray, List.set_cons_zero, List.set_cons_succ, i64_w, i32_w]
          rfl
         refine pure_ (i := 23) (N := some 34) (v := undef) (a' := ?_) mk24 rfl rfl (any_of HT_.out (by kernel_rfl)) (fun _ _ _ h => h) (Or.inr ⟨by rfl, rfl⟩) ?_ ?_
         rotate_left
         ·simp only [Act.put, List.setIfInBounds_toArray, List.set_cons_zero, List.set_cons_succ, i64_w, i32_w]
          rfl
         refine pure_ (i := 24) (N := some 35) (v := undef) (a' := ?_) mk25 rfl rfl (any_of HT_.out (by kernel_rfl)) (fun _ _ _ h => h) (Or.inr ⟨by rfl, rfl⟩) ?_ ?_
         rotate_left
         ·simp only [Act.put, List.setIfInBounds_toArray, List.set_cons_zero, List.set_cons_succ, i64_w, i32_w]
          rfl
         refine pure_ (i := 25) (N := some 36) (v := undef) (a' := ?_) mk26 rfl rfl (any_of HT_.out (by kernel_rfl)) (fun _ _ _ h => h) (Or.inr ⟨by rfl, rfl⟩) ?_ ?_
         rotate_left
         ·simp only [Act.put, List.setIfInBounds_toArray, List.set_cons_zero, List.set_cons_succ, i64_w, i32_w]
          rfl
         refine pure_ (i := 26) (N := some 37) (v := undef) (a' := ?_) mk27 rfl rfl (any_of HT_.out (by kernel_rfl)) (fun _ _ _ h => h) (Or.inr ⟨by rfl, rfl⟩) ?_ ?_
         rotate_left
         ·simp only [Act.put, List.setIfInBounds_toArray, List.set_cons_zero, List.set_cons_succ, i64_w, i32_w]
          rfl
         refine pure_ (i := 27) (N := some 38) (v := undef) (a' := ?_) mk28 rfl rfl (any_of HT_.out (by kernel_rfl)) (fun _ _ _ h => h) (Or.inr ⟨by rfl, rfl⟩) ?_ ?_
         rotate_left
         ·simp only [Act.put, List.setIfInBounds_toArray, List.set_cons_zero, List.set_cons_succ, i64_w, i32_w]
          rfl
         refine pure_ (i := 28) (N := some 39) (v := undef) (a' := ?_) mk29 rfl rfl (any_of HT_.out (by kernel_rfl)) (fun _ _ _ h => h) (Or.inr ⟨by rfl, rfl⟩) ?_ ?_
         rotate_left
         ·simp only [Act.put, List.setIfInBounds_toArray, List.set_cons_zero, List.set_cons_succ, i64_w, i32_w]
          rfl
         refine pure_ (i := 29) (N := some 40) (v := undef) (a' := ?_) mk30 rfl rfl (any_of HT_.out (by kernel_rfl)) (fun _ _ _ h => h) (Or.inr ⟨by rfl, rfl⟩) ?_ ?_
         rotate_left
         ·simp only [Act.put, List.setIfInBounds_toArray, List.set_cons_zero, List.set_cons_succ, i64_w, i32_w]
          rfl
         refine pure_ (i := 30) (N := some 41) (v := undef) (a' := ?_) mk31 rfl rfl (any_of HT_.out (by kernel_rfl)) (fun _ _ _ h => h) (Or.inr ⟨by rfl, rfl⟩) ?_ ?_
         rotate_left
         ·simp only [Act.put, List.setIfInBounds_toArray, List.set_cons_zero, List.set_cons_succ, i64_w, i32_w]
          rfl
         refine pure_ (i := 31) (N := some 42) (v := undef) (a' := ?_) mk32 rfl rfl (any_of HT_.out (by kernel_rfl)) (fun _ _ _ h => h) (Or.inr ⟨by rfl, rfl⟩) ?_ ?_
         rotate_left
         ·simp only [Act.put, List.setIfInBounds_toArray, List.set_cons_zero, List.set_cons_succ, i64_w, i32_w]
          rfl
         refine pure_ (i := 32) (N := some 43) (v := undef) (a' := ?_) mk33 rfl rfl (any_of HT_.out (by kernel_rfl)) (fun _ _ _ h => h) (Or.inr ⟨by rfl, rfl⟩) ?_ ?_
         rotate_left
         ·simp only [Act.put, List.setIfInBounds_toArray, List.set_cons_zero, List.set_cons_succ, i64_w, i32_w]
          rfl
         refine pure_ (i := 33) (N := some 44) (v := undef) (a' := ?_) mk34 rfl rfl (any_of HT_.out (by kernel_rfl)) (fun _ _ _ h => h) (Or.inr ⟨by rfl, rfl⟩) ?_ ?_
         rotate_left
         ·simp only [Act.put, List.setIfInBounds_toArray, List.set_cons_zero, List.set_cons_succ, i64_w, i32_w]
          rfl
         refine pure_ (i := 34) (N := some 45) (v := undef) (a' := ?_) mk35 rfl rfl (any_of HT_.out (by kernel_rfl)) (fun _ _ _ h => h) (Or.inr ⟨by rfl, rfl⟩) ?_ ?_
         rotate_left
         ·simp only [Act.put, List.setIfInBounds_toArray, List.set_cons_zero, List.set_cons_succ, i64_w, i32_w]
          rfl
         refine pure_ (i := 35) (N := some 46) (v := undef) (a' := ?_) mk36 rfl rfl (any_of HT_.out (by kernel_rfl)) (fun _ _ _ h => h) (Or.inr ⟨by rfl, rfl⟩) ?_ ?_
         rotate_left
         ·simp only [Act.put, List.setIfInBounds_toArray, List.set_cons_zero, List.set_cons_succ, i64_w, i32_w]
          rfl
         refine pure_ (i := 36) (N := some 47) (v := undef) (a' := ?_) mk37 rfl rfl (any_of HT_.out (by kernel_rfl)) (fun _ _ _ h => h) (Or.inr ⟨by rfl, rfl⟩) ?_ ?_
         rotate_left
         ·simp only [Act.put, List.setIfInBounds_toArray, List.set_cons_zero, List.set_cons_succ, i64_w, i32_w]
          rfl
         refine pure_ (i := 37) (N := some 48) (v := undef) (a' := ?_) mk38 rfl rfl (any_of HT_.out (by kernel_rfl)) (fun _ _ _ h => h) (Or.inr ⟨by rfl, rfl⟩) ?_ ?_
         rotate_left
         ·simp only [Act.put, List.setIfInBounds_toArray, List.set_cons_zero, List.set_cons_succ, i64_w, i32_w]
          rfl
         refine pure_ (i := 38) (N := some 49) (v := undef) (a' := ?_) mk39 rfl rfl (any_of HT_.out (by kernel_rfl)) (fun _ _ _ h => h) (Or.inr ⟨by rfl, rfl⟩) ?_ ?_
         rotate_left
         ·simp only [Act.put, List.setIfInBounds_toArray, List.set_cons_zero, List.set_cons_succ, i64_w, i32_w]
          rfl
         refine pure_ (i := 39) (N := some 50) (v := undef) (a' := ?_) mk40 rfl rfl (any_of HT_.out (by kernel_rfl)) (fun _ _ _ h => h) (Or.inr ⟨by rfl, rfl⟩) ?_ ?_
         rotate_left
         ·simp only [Act.put, List.setIfInBounds_toArray, List.set_cons_zero, List.set_cons_succ, i64_w, i32_w]
          rfl
         refine pure_ (i := 40) (N := some 51) (v := undef) (a' := ?_) mk41 rfl rfl (any_of HT_.out (by kernel_rfl)) (fun _ _ _ h => h) (Or.inr ⟨by rfl, rfl⟩) ?_ ?_
         rotate_left
         ·simp only [Act.put, List.setIfInBounds_toArray, List.set_cons_zero, List.set_cons_succ, i64_w, i32_w]
          rfl
         refine pure_ (i := 41) (N := some 52) (v := undef) (a' := ?_) mk42 rfl rfl (any_of HT_.out (by kernel_rfl)) (fun _ _ _ h => h) (Or.inr ⟨by rfl, rfl⟩) ?_ ?_
         rotate_left
         ·simp only [Act.put, List.setIfInBounds_toArray, List.set_cons_zero, List.set_cons_succ, i64_w, i32_w]
          rfl
         refine pure_ (i := 42) (N := some 53) (v := undef) (a' := ?_) mk43 rfl rfl (any_of HT_.out (by kernel_rfl)) (fun _ _ _ h => h) (Or.inr ⟨by rfl, rfl⟩) ?_ ?_
         rotate_left
         ·simp only [Act.put, List.setIfInBounds_toArray, List.set_cons_zero, List.set_cons_succ, i64_w, i32_w]
          rfl
         refine pure_ (i := 43) (N := some 54) (v := ?_) (a' := ?_) mk44 rfl rfl (any_of HT_.out (by kernel_rfl)) (fun _ _ _ h => h) (Or.inl ⟨by rfl, ?_⟩) ?_ ?_
         rotate_left
         ·intro w'
          go_simp
          with_reducible rfl
         rotate_left
         ·simp only [Act.put, List.setIfInBounds_toArray, List.set_cons_zero, List.set_cons_succ, i64_w, i32_w]
          rfl
         refine pure_ (i := 44) (N := some 55) (v := ?_) (a' := ?_) mk45 rfl rfl (any_of HT_.out (by kernel_rfl)) (fun _ _ _ h => h) (Or.inl ⟨by rfl, ?_⟩) ?_ ?_
         rotate_left
         ·intro w'
          go_simp
          with_reducible rfl
         rotate_left
         ·simp only [Act.put, List.setIfInBounds_toArray, List.set_cons_zero, List.set_cons_succ, i64_w, i32_w]
          rfl
         refine done_ (done_of HT_.out (by kernel_rfl)) ?_
         try go_wp2
         go_roundg k1
         case measure => have := HK1.out; omega
         case rel => exact ⟨(wrap64 (x8_1 + 1)), (by first | rfl | (simp; done) | (simp [*]; done)), H', ⟨by have := HK1.out; omega⟩, ⟨by repeat (first | (with_reducible first | exact HB.out | apply below_alloc | apply pw_below_drewN | apply below_drew1) | exact HB.out)⟩⟩
       ·replace c9 := Bool.eq_false_iff.mpr c9
        subst c9
        have H1 : (some false) = some r := by rw [if_neg (show ¬ (false = true) by decide)] at H; exact H
        clear H
        have H := H1
        clear H1
        obtain rfl := Option.some.inj H
        try go_wp2
        have n0_ := Aside0.mk (below_drew1 HB.out)
        clear HB
        have HB := n0_
        clear n0_
        have p151 : 0 ≤ (x8_1 : Int) := of_decide_eq_true (by first | (with_reducible assumption) | assumption)
        have q151 : x8_1 < (l0.length : Int) := of_decide_eq_true (by first | (with_reducible assumption) | assumption)
        obtain ⟨ad151, e151, hx151_0⟩ := Kd.at_string HR0.out x8_1 p151 q151
        have hw151_0 := hx151_0
        cases e151
        replace hx151_0 := (HB.out.cell (World.block_lt_of_cell? w _ hx151_0)).trans hx151_0
        replace p151 := eq_true p151
        replace q151 := eq_true q151
        have p152 : 0 ≤ (x8_1 : Int) := of_decide_eq_true (by first | (with_reducible assumption) | assumption)
        have q152 : x8_1 < (l0.length : Int) := of_decide_eq_true (by first | (with_reducible assumption) | assumption)
        obtain ⟨ad152, e152, hx152_0⟩ := Kd.at_string HR0.out x8_1 p152 q152
        have hw152_0 := hx152_0
        obtain rfl : ad151 = ad152 := (by injection e152)
        replace hx152_0 := (HB.out.cell (World.block_lt_of_cell? w _ hx152_0)).trans hx152_0
        replace p152 := eq_true p152
        replace q152 := eq_true q152
        refine start_ (n := 45) (S := fun w' => w'.cell? (ad151.add (x8_1).toNat) = some (.string (rdOf ByteArray.empty l0 x8_1)) ∧ w'.cell? (ad151.add (x8_1).toNat) = some (.string (rdOf ByteArray.empty l0 x8_1))) (ds := []) mk0 (by kernel_rfl) rfl rfl ⟨((HB.out.cell (World.block_lt_of_cell? w _ hw151_0)).trans hw151_0), ((HB.out.cell (World.block_lt_of_cell? w _ hw152_0)).trans hw152_0)⟩ (fun hHeld => ?_); refine with_tabW laws_ordered.tab4 laws_ordered.bits4 (fun HT_ HW_ => ?_)
        generalize wr.drew = w37 at HB hx151_0 hx152_0 hHeld ⊢
        refine pure_ (i := 0) (N := some 11) (v := ?_) (a' := ?_) mk1 rfl rfl (any_of HT_.out (by kernel_rfl)) (fun _ _ _ h => h) (Or.inl ⟨by rfl, ?_⟩) ?_ ?_
        rotate_left
        ·intro w'
         go_simp
         with_reducible rfl
        rotate_left
        ·simp only [Act.put, List.setIfInBounds_toArray, List.set_cons_zero, List.set_cons_succ, i64_w, i32_w]
         rfl
        refine pure_ (i := 1) (N := some 12) (v := ?_) (a' := ?_) mk2 rfl rfl (any_of HT_.out (by kernel_rfl)) (fun _ _ _ h => h) (Or.inl ⟨by rfl, ?_⟩) ?_ ?_
        rotate_left
        ·intro w'
         go_simp
         with_reducible rfl
        rotate_left
        ·simp only [Act.put, List.setIfInBounds_toArray, List.set_cons_zero, List.set_cons_succ, i64_w, i32_w]
         rfl
        refine pure_ (i := 2) (N := some 13) (v := ?_) (a' := ?_) mk3 rfl rfl (any_of HT_.out (by kernel_rfl)) (fun _ _ _ h => h) (Or.inl ⟨by rfl, ?_⟩) ?_ ?_
        rotate_left
        ·intro w'
         go_simp
         with_reducible rfl
        rotate_left
        ·simp only [Act.put, List.setIfInBounds_toArray, List.set_cons_zero, List.set_cons_succ, i64_w, i32_w]
         rfl
        refine take_ (i := 3) (N := some 14) (v := ?_) (a' := ?_) mk4 rfl rfl (take_ofW HT_.out HW_.out (by kernel_rfl)) (fun _ _ _ h => h) (Or.inl ⟨by rfl, ?_⟩) hHeld ?_ ?_
        rotate_left
        ·rintro w' ⟨s0, s1⟩
         go_simp
         with_reducible rfl
        rotate_left
        ·simp only [Act.put, List.setIfInBounds_toArray, List.set_cons_zero, List.set_cons_succ, i64_w, i32_w]
         rfl
        refine pure_ (i := 4) (N := some 15) (v := ?_) (a' := ?_) mk5 rfl rfl (any_of HT_.out (by kernel_rfl)) (fun _ _ _ h => h) (Or.inl ⟨by rfl, ?_⟩) ?_ ?_
        rotate_left
        ·intro w'
         go_simp
         with_reducible rfl
        rotate_left
        ·simp only [Act.put, List.setIfInBounds_toArray, List.set_cons_zero, List.set_cons_succ, i64_w, i32_w]
         rfl
        refine pure_ (i := 5) (N := some 16) (v := ?_) (a' := ?_) mk6 rfl rfl (any_of HT_.out (by kernel_rfl)) (fun _ _ _ h => h) (Or.inl ⟨by rfl, ?_⟩) ?_ ?_
        rotate_left
        ·intro w'
         go_simp
         with_reducible rfl
        rotate_left
        ·simp only [Act.put, List.setIfInBounds_toArray, List.set_cons_zero, List.set_cons_succ, i64_w, i32_w]
         rfl
        refine pure_ (i := 6) (N := some 17) (v := ?_) (a' := ?_) mk7 rfl rfl (any_of HT_.out (by kernel_rfl)) (fun _ _ _ h => h) (Or.inl ⟨by rfl, ?_⟩) ?_ ?_
        rotate_left
        ·intro w'
         go_simp
         with_reducible rfl
        rotate_left
        ·simp only [Act.put, List.setIfInBounds_toArray, List.set_cons_zero, List.set_cons_succ, i64_w, i32_w]
         rfl
        refine pure_ (i := 7) (N := some 18) (v := ?_) (a' := ?_) mk8 rfl rfl (any_of HT_.out (by kernel_rfl)) (fun _ _ _ h => h) (Or.inl ⟨by rfl, ?_⟩) ?_ ?_
        rotate_left
        ·intro w'
         go_simp
         with_reducible rfl
        rotate_left
        ·simp only [Act.put, List.setIfInBounds_toArray, List.set_cons_zero, List.set_cons_succ, i64_w, i32_w]
         rfl
        refine pure_ (i := 8) (N := some 19) (v := ?_) (a' := ?_) mk9 rfl rfl (any_of HT_.out (by kernel_rfl)) (fun _ _ _ h => h) (Or.inl ⟨by rfl, ?_⟩) ?_ ?_
        rotate_left
        ·intro w'
         go_simp
         with_reducible rfl
        rotate_left
        ·simp only [Act.put, List.setIfInBounds_toArray, List.set_cons_zero, List.set_cons_succ, i64_w, i32_w]
         rfl
        refine take_ (i := 9) (N := some 20) (v := ?_) (a' := ?_) mk10 rfl rfl (take_ofW HT_.out HW_.out (by kernel_rfl)) (fun _ _ _ h => h) (Or.inl ⟨by rfl, ?_⟩) hHeld ?_ ?_
        rotate_left
        ·rintro w' ⟨s0, s1⟩
         go_simp
         with_reducible rfl
        rotate_left
        ·simp only [Act.put, List.setIfInBounds_toArray, List.set_cons_zero, List.set_cons_succ, i64_w, i32_w]
         rfl
        refine one_ (i := 10) (N := some 21) mk11 rfl rfl (one_of HT_.out (by kernel_rfl)) (by decide) (fun K hK => ?_)
        refine Kd.R_lit_step Kd.string _ 9 ?hg (N := 21) ?hd (xs := ([rdOf ByteArray.empty l0 x8_1] : List ByteArray)) (inner := [.string (rdOf ByteArray.empty l0 x8_1)]) (ok := fun _ => True) (okp := fun _ => True) ?hr ?hp (fun _ hk => hk) trivial (Below.refl _ _) (Nat.le_refl _) (by simp) ?_; (case hd => rfl); (case hg => rfl); (case hr => first | (go_simp; done) | (go_simp; rfl)); (case hp => exact (Reps.one (show Kd.M Kd.string _ _ _ (rdOf ByteArray.empty l0 x8_1) [.string (rdOf ByteArray.empty l0 x8_1)] from rfl) (Reps.none _ _)))
        intro v154 w38 ho39 hb hg_ hnew_
        clear hg_ hnew_
        (first | rw [← Ny153.out] at ho39 | (simp only [Int.reduceToNat] at ho39; rw [← Ny153.out] at ho39))
        have n0_ := Aside0.mk (Kd.R_lower ho39 (below_size (by repeat (first | (with_reducible first | exact HB.out | apply below_alloc | apply pw_below_drewN | apply below_drew1) | exact HB.out))))
        have n1_ := Aside0.mk (below_step (by repeat (first | (with_reducible first | exact HB.out | apply below_alloc | apply pw_below_drewN | apply below_drew1) | exact HB.out)) hb)
        clear HB
        have HO155 := n0_
        have HB := n1_
        clear n0_ n1_
        clear hb ho39
        obtain ⟨Ao40, co40, eo40⟩ := Kd.R_slice HO155.out
        (first | subst eo40 | (injection eo40 with f1_ f2_ f3_; have f4_ := f1_.symm; have f5_ := f3_.symm; clear f1_ f2_ f3_; subst f4_; subst f5_))
        refine hK.out _ _ ⟨((HB.out.cell (World.block_lt_of_cell? w _ hw151_0)).trans hw151_0), ((HB.out.cell (World.block_lt_of_cell? w _ hw152_0)).trans hw152_0)⟩ (fun hHeld => ?_)
        clear hK K
        refine norm_ (a' := ?_) ?_ ?_
        rotate_left
        ·show Act.put _ (some 21) _ = _
         simp only [Act.put, List.setIfInBounds_toArray, List.set_cons_zero, List.set_cons_succ, i64_w, i32_w]
         rfl
        refine one_ (i := 11) (N := some 22) mk12 rfl rfl (one_of HT_.out (by kernel_rfl)) (by decide) (fun K hK => ?_)
        refine goes_ Tryd.func9 (by kernel_rfl) rfl #[.slice Ao40 y153.length co40] (by rfl) rfl rfl (by (try simp only [List.map_toArray, List.map_cons, List.map_nil]); first | done | rfl | (simp only [List.length_drop, List.length_take]; rfl)) ?_
        with_reducible refine (laws_clean.calls k1 _ _ y153 false _ ?side1 ?side2 A8.out).mono ?_
        (case side1 => repeat (first | exact (Kd.R_reads' HO155.out).2.2 | (with_reducible refine Kd.C_alloc ?_ _) | (with_reducible refine Kd.C_drewN ?_ _) | (with_reducible refine Kd.C_drew ?_)))
        (case side2 => exact (Kd.R_reads' HO155.out).2.1)
        rintro e w' ⟨rfl, ⟨nd, rfl⟩⟩
        refine ⟨_, rfl, ?_⟩
        refine hK.out _ _ ⟨((HB.out.cell (World.block_lt_of_cell? w _ hw151_0)).trans hw151_0), ((HB.out.cell (World.block_lt_of_cell? w _ hw152_0)).trans hw152_0)⟩ (fun hHeld => ?_)
        clear hK K
        refine norm_ (a' := ?_) ?_ ?_
        rotate_left
        ·show Act.put _ (some 22) _ = _
         simp only [Act.put, List.setIfInBounds_toArray, List.set_cons_zero, List.set_cons_succ, i64_w, i32_w]
         rfl
        refine pure_ (i := 12) (N := some 23) (v := ?_) (a' := ?_) mk13 rfl rfl (any_of HT_.out (by kernel_rfl)) (fun _ _ _ h => h) (Or.inl ⟨by rfl, ?_⟩) ?_ ?_
        rotate_left
        ·intro w'
         go_simp
         with_reducible rfl
        rotate_left
        ·simp only [Act.put, List.setIfInBounds_toArray, List.set_cons_zero, List.set_cons_succ, i64_w, i32_w]
         rfl
        refine pure_ (i := 13) (N := some 24) (v := ?_) (a' := ?_) mk14 rfl rfl (any_of HT_.out (by kernel_rfl)) (fun _ _ _ h => h) (Or.inl ⟨by rfl, ?_⟩) ?_ ?_
        rotate_left
        ·intro w'
         go_simp
         with_reducible rfl
        rotate_left
        ·simp only [Act.put, List.setIfInBounds_toArray, List.set_cons_zero, List.set_cons_succ, i64_w, i32_w]
         rfl
        refine pure_ (i := 14) (N := some 25) (v := ?_) (a' := ?_) mk15 rfl rfl (any_of HT_.out (by kernel_rfl)) (fun _ _ _ h => h) (Or.inl ⟨by rfl, ?_⟩) ?_ ?_
        rotate_left
        ·intro w'
         go_simp
         with_reducible rfl
        rotate_left
        ·simp only [Act.put, List.setIfInBounds_toArray, List.set_cons_zero, List.set_cons_succ, i64_w, i32_w]
         rfl
        refine pure_ (i := 15) (N := some 26) (v := undef) (a' := ?_) mk16 rfl rfl (any_of HT_.out (by kernel_rfl)) (fun _ _ _ h => h) (Or.inr ⟨by rfl, rfl⟩) ?_ ?_
        rotate_left
        ·simp only [Act.put, List.setIfInBounds_toArray, List.set_cons_zero, List.set_cons_succ, i64_w, i32_w]
         rfl
        refine pure_ (i := 16) (N := some 27) (v := undef) (a' := ?_) mk17 rfl rfl (any_of HT_.out (by kernel_rfl)) (fun _ _ _ h => h) (Or.inr ⟨by rfl, rfl⟩) ?_ ?_
        rotate_left
        ·simp only [Act.put, List.setIfInBounds_toArray, List.set_cons_zero, List.set_cons_succ, i64_w, i32_w]
         rfl
        refine pure_ (i := 17) (N := some 28) (v := undef) (a' := ?_) mk18 rfl rfl (any_of HT_.out (by kernel_rfl)) (fun _ _ _ h => h) (Or.inr ⟨by rfl, rfl⟩) ?_ ?_
        rotate_left
        ·simp only [Act.put, List.setIfInBounds_toArray, List.set_cons_zero, List.set_cons_succ, i64_w, i32_w]
         rfl
        refine pure_ (i := 18) (N := some 29) (v := undef) (a' := ?_) mk19 rfl rfl (any_of HT_.out (by kernel_rfl)) (fun _ _ _ h => h) (Or.inr ⟨by rfl, rfl⟩) ?_ ?_
        rotate_left
        ·simp only [Act.put, List.setIfInBounds_toArray, List.set_cons_zero, List.set_cons_succ, i64_w, i32_w]
         rfl
        refine pure_ (i := 19) (N := some 30) (v := undef) (a' := ?_) mk20 rfl rfl (any_of HT_.out (by kernel_rfl)) (fun _ _ _ h => h) (Or.inr ⟨by rfl, rfl⟩) ?_ ?_
        rotate_left
        ·simp only [Act.put, List.setIfInBounds_toArray, List.set_cons_zero, List.set_cons_succ, i64_w, i32_w]
         rfl
        refine pure_ (i := 20) (N := some 31) (v := undef) (a' := ?_) mk21 rfl rfl (any_of HT_.out (by kernel_rfl)) (fun _ _ _ h => h) (Or.inr ⟨by rfl, rfl⟩) ?_ ?_
        rotate_left
        ·simp only [Act.put, List.setIfInBounds_toArray, List.set_cons_zero, List.set_cons_succ, i64_w, i32_w]
         rfl
        refine pure_ (i := 21) (N := some 32) (v := undef) (a' := ?_) mk22 rfl rfl (any_of HT_.out (by kernel_rfl)) (fun _ _ _ h => h) (Or.inr ⟨by rfl, rfl⟩) ?_ ?_
        rotate_left
        ·simp only [Act.put, List.setIfInBounds_toArray, List.set_cons_zero, List.set_cons_succ, i64_w, i32_w]
         rfl
        refine pure_ (i := 22) (N := some 33) (v := undef) (a' := ?_) mk23 rfl rfl (any_of HT_.out (by kernel_rfl)) (fun _ _ _ h => h) (Or.inr ⟨by rfl, rfl⟩) ?_ ?_
        rotate_left
        ·simp only [Act.put, List.setIfInBounds_toArray, List.set_cons_zero, List.set_cons_succ, i64_w, i32_w]
         rfl
        refine pure_ (i := 23) (N := some 34) (v := undef) (a' := ?_) mk24 rfl rfl (any_of HT_.out (by kernel_rfl)) (fun _ _ _ h => h) (Or.inr ⟨by rfl, rfl⟩) ?_ ?_
        rotate_left
        ·simp only [Act.put, List.setIfInBounds_toArray, List.set_cons_zero, List.set_cons_succ, i64_w, i32_w]
         rfl
        refine pure_ (i := 24) (N := some 35) (v := undef) (a' := ?_) mk25 rfl rfl (any_of HT_.out (by kernel_rfl)) (fun _ _ _ h => h) (Or.inr ⟨by rfl, rfl⟩) ?_ ?_
        rotate_left
        ·simp only [Act.put, List.setIfInBounds_toArray, List.set_cons_zero, List.set_cons_succ, i64_w, i32_w]
         rfl
        refine pure_ (i := 25) (N := some 36) (v := undef) (a' := ?_) mk26 rfl rfl (any_of HT_.out (by kernel_rfl)) (fun _ _ _ h => h) (Or.inr ⟨by rfl, rfl⟩) ?_ ?_
        rotate_left
        ·simp only [Act.put, List.setIfInBounds_toArray, List.set_cons_zero, List.set_cons_succ, i64_w, i32_w]
         rfl
        refine pure_ (i := 26) (N := some 37) (v := undef) (a' := ?_) mk27 rfl rfl (any_of HT_.out (by kernel_rfl)) (fun _ _ _ h => h) (Or.inr ⟨by rfl, rfl⟩) ?_ ?_
        rotate_left
        ·simp only [Act.put, List.setIfInBounds_toArray, List.set_cons_zero, List.set_cons_succ, i64_w, i32_w]
         rfl
        refine pure_ (i := 27) (N := some 38) (v := undef) (a' := ?_) mk28 rfl rfl (any_of HT_.out (by kernel_rfl)) (fun _ _ _ h => h) (Or.inr ⟨by rfl, rfl⟩) ?_ ?_
        rotate_left
        ·simp only [Act.put, List.setIfInBounds_toArray, List.set_cons_zero, List.set_cons_succ, i64_w, i32_w]
         rfl
        refine pure_ (i := 28) (N := some 39) (v := undef) (a' := ?_) mk29 rfl rfl (any_of HT_.out (by kernel_rfl)) (fun _ _ _ h => h) (Or.inr ⟨by rfl, rfl⟩) ?_ ?_
        rotate_left
        ·simp only [Act.put, List.setIfInBounds_toArray, List.set_cons_zero, List.set_cons_succ, i64_w, i32_w]
         rfl
        refine pure_ (i := 29) (N := some 40) (v := undef) (a' := ?_) mk30 rfl rfl (any_of HT_.out (by kernel_rfl)) (fun _ _ _ h => h) (Or.inr ⟨by rfl, rfl⟩) ?_ ?_
        rotate_left
        ·simp only [Act.put, List.setIfInBounds_toArray, List.set_cons_zero, List.set_cons_succ, i64_w, i32_w]
         rfl
        refine pure_ (i := 30) (N := some 41) (v := undef) (a' := ?_) mk31 rfl rfl (any_of HT_.out (by kernel_rfl)) (fun _ _ _ h => h) (Or.inr ⟨by rfl, rfl⟩) ?_ ?_
        rotate_left
        ·simp only [Act.put, List.setIfInBounds_toArray, List.set_cons_zero, List.set_cons_succ, i64_w, i32_w]
         rfl
        refine pure_ (i := 31) (N := some 42) (v := undef) (a' := ?_) mk32 rfl rfl (any_of HT_.out (by kernel_rfl)) (fun _ _ _ h => h) (Or.inr ⟨by rfl, rfl⟩) ?_ ?_
        rotate_left
        ·simp only [Act.put, List.setIfInBounds_toArray, List.set_cons_zero, List.set_cons_succ, i64_w, i32_w]
         rfl
        refine pure_ (i := 32) (N := some 43) (v := undef) (a' := ?_) mk33 rfl rfl (any_of HT_.out (by kernel_rfl)) (fun _ _ _ h => h) (Or.inr ⟨by rfl, rfl⟩) ?_ ?_
        rotate_left
        ·simp only [Act.put, List.setIfInBounds_toArray, List.set_cons_zero, List.set_cons_succ, i64_w, i32_w]
         rfl
        refine pure_ (i := 33) (N := some 44) (v := undef) (a' := ?_) mk34 rfl rfl (any_of HT_.out (by kernel_rfl)) (fun _ _ _ h => h) (Or.inr ⟨by rfl, rfl⟩) ?_ ?_
        rotate_left
        ·simp only [Act.put, List.setIfInBounds_toArray, List.set_cons_zero, List.set_cons_succ, i64_w, i32_w]
         rfl
        refine pure_ (i := 34) (N := some 45) (v := undef) (a' := ?_) mk35 rfl rfl (any_of HT_.out (by kernel_rfl)) (fun _ _ _ h => h) (Or.inr ⟨by rfl, rfl⟩) ?_ ?_
        rotate_left
        ·simp only [Act.put, List.setIfInBounds_toArray, List.set_cons_zero, List.set_cons_succ, i64_w, i32_w]
         rfl
        refine pure_ (i := 35) (N := some 46) (v := undef) (a' := ?_) mk36 rfl rfl (any_of HT_.out (by kernel_rfl)) (fun _ _ _ h => h) (Or.inr ⟨by rfl, rfl⟩) ?_ ?_
        rotate_left
        ·simp only [Act.put, List.setIfInBounds_toArray, List.set_cons_zero, List.set_cons_succ, i64_w, i32_w]
         rfl
        refine pure_ (i := 36) (N := some 47) (v := undef) (a' := ?_) mk37 rfl rfl (any_of HT_.out (by kernel_rfl)) (fun _ _ _ h => h) (Or.inr ⟨by rfl, rfl⟩) ?_ ?_
        rotate_left
        ·simp only [Act.put, List.setIfInBounds_toArray, List.set_cons_zero, List.set_cons_succ, i64_w, i32_w]
         rfl
        refine pure_ (i := 37) (N := some 48) (v := undef) (a' := ?_) mk38 rfl rfl (any_of HT_.out (by kernel_rfl)) (fun _ _ _ h => h) (Or.inr ⟨by rfl, rfl⟩) ?_ ?_
        rotate_left
        ·simp only [Act.put, List.setIfInBounds_toArray, List.set_cons_zero, List.set_cons_succ, i64_w, i32_w]
         rfl
        refine pure_ (i := 38) (N := some 49) (v := undef) (a' := ?_) mk39 rfl rfl (any_of HT_.out (by kernel_rfl)) (fun _ _ _ h => h) (Or.inr ⟨by rfl, rfl⟩) ?_ ?_
        rotate_left
        ·simp only [Act.put, List.setIfInBounds_toArray, List.set_cons_zero, List.set_cons_succ, i64_w, i32_w]
         rfl
        refine pure_ (i := 39) (N := some 50) (v := undef) (a' := ?_) mk40 rfl rfl (any_of HT_.out (by kernel_rfl)) (fun _ _ _ h => h) (Or.inr ⟨by rfl, rfl⟩) ?_ ?_
        rotate_left
        ·simp only [Act.put, List.setIfInBounds_toArray, List.set_cons_zero, List.set_cons_succ, i64_w, i32_w]
         rfl
        refine pure_ (i := 40) (N := some 51) (v := undef) (a' := ?_) mk41 rfl rfl (any_of HT_.out (by kernel_rfl)) (fun _ _ _ h => h) (Or.inr ⟨by rfl, rfl⟩) ?_ ?_
        rotate_left
        ·simp only [Act.put, List.setIfInBounds_toArray, List.set_cons_zero, List.set_cons_succ, i64_w, i32_w]
         rfl
        refine pure_ (i := 41) (N := some 52) (v := undef) (a' := ?_) mk42 rfl rfl (any_of HT_.out (by kernel_rfl)) (fun _ _ _ h => h) (Or.inr ⟨by rfl, rfl⟩) ?_ ?_
        rotate_left
        ·simp only [Act.put, List.setIfInBounds_toArray, List.set_cons_zero, List.set_cons_succ, i64_w, i32_w]
         rfl
        refine pure_ (i := 42) (N := some 53) (v := undef) (a' := ?_) mk43 rfl rfl (any_of HT_.out (by kernel_rfl)) (fun _ _ _ h => h) (Or.inr ⟨by rfl, rfl⟩) ?_ ?_
        rotate_left
        ·simp only [Act.put, List.setIfInBounds_toArray, List.set_cons_zero, List.set_cons_succ, i64_w, i32_w]
         rfl
        refine pure_ (i := 43) (N := some 54) (v := undef) (a' := ?_) mk44 rfl rfl (any_of HT_.out (by kernel_rfl)) (fun _ _ _ h => h) (Or.inr ⟨by rfl, rfl⟩) ?_ ?_
        rotate_left
        ·simp only [Act.put, List.setIfInBounds_toArray, List.set_cons_zero, List.set_cons_succ, i64_w, i32_w]
         rfl
        refine pure_ (i := 44) (N := some 55) (v := ?_) (a' := ?_) mk45 rfl rfl (any_of HT_.out (by kernel_rfl)) (fun _ _ _ h => h) (Or.inl ⟨by rfl, ?_⟩) ?_ ?_
        rotate_left
        ·intro w'
         go_simp
         with_reducible rfl
        rotate_left
        ·simp only [Act.put, List.setIfInBounds_toArray, List.set_cons_zero, List.set_cons_succ, i64_w, i32_w]
         rfl
        refine done_ (done_of HT_.out (by kernel_rfl)) ?_
        try go_wp2
        go_ret
        exact ⟨by first | rfl | (simp [errW_none, errW_some] <;> rfl) | (simp [*, errW_none, errW_some] <;> rfl), by repeat (first | (with_reducible first | exact HB.out | apply below_alloc | apply pw_below_drewN | apply below_drew1) | exact HB.out)⟩
     ·rw [if_neg c5] at H
      exact absurd H (by simp)
    ·rw [if_neg c4] at H
     exact absurd H (by simp)
   ·rw [if_neg c3] at H
    have c3b0 : decide (x8_1 < (l0.length : Int)) = false := decide_eq_false c3
    clear c3
    obtain rfl := Option.some.inj H
    go_wp2
    go_ret
    exact ⟨by first | rfl | (simp [errW_none, errW_some] <;> rfl) | (simp [*, errW_none, errW_some] <;> rfl), by repeat (first | (with_reducible first | exact HB.out | apply below_alloc | apply pw_below_drewN | apply below_drew1) | exact HB.out)⟩

end Go.Proofs.YtaejkbjepbifcabDoor.PB
namespace Go.Proofs.YtaejkbjepbifcabDoor.Da
open Go.RowKit Go.Proofs.YtaejkbjepbifcabDoorW.PrintWords Go.Proofs.YtaejkbjepbifcabDoor.Plain
set_option linter.unusedVariables false
set_option linter.unusedSimpArgs false
theorem ord_key (l : List ByteArray) (st : Bool) (hl : Fits l) : ∀ d i, i + d = l.length → ∃ r, Ev (fun k => PB.laws_ordered.l0 k l st (l.length : Int) (i : Int)) r ∧
    (r = true → 0 < l.length ∧ ∀ j, i ≤ j → j < l.length → Cln (l.getD j ByteArray.empty) ∧ (l.getD j ByteArray.empty).toList ≠ [] ∧ (1 ≤ j → Op.bytesLess (l.getD j ByteArray.empty).toList (l.getD (j - 1) ByteArray.empty).toList = false ∧ (st = true → (l.getD j ByteArray.empty).toList ≠ (l.getD (j - 1) ByteArray.empty).toList)))
  | 0, i, h => ⟨_, Ev.step (fun k => by rw [PB.laws_ordered.l0]) (evn (by omega) (Ev.now _)), fun h => ⟨by have := of_decide_eq_true h; omega, fun j h1 h2 => by omega⟩⟩
  | d + 1, i, h => by
    have hl1 := hl.1
    obtain ⟨r, hr, hp⟩ := ord_key l st hl d (i + 1) (by omega)
    have hil : i < l.length := by omega
    have hm := hl.2 _ (getD_mem ByteArray.empty hil)
    obtain ⟨x, hx⟩ : ∃ x, l.getD i ByteArray.empty = x := ⟨_, rfl⟩
    rw [hx] at hm
    have ex : rdOf ByteArray.empty l (i : Int) = x := by rw [rdOf_nat, hx]
    by_cases h0 : x.toList = []
    · exact ⟨false, Ev.step (fun k => by rw [PB.laws_ordered.l0]) (evp (by omega) (evp (by omega) (evp (by omega) (evp (by rw [ex]; exact h0) (Ev.now false))))), fun h => by cases h⟩
    · obtain ⟨rc, hc, hcp⟩ := clean_ev [x] ⟨by simp, by intro t ht; rw [List.mem_singleton.1 ht]; exact hm⟩
      cases rc with
      | false => exact ⟨false, Ev.step (fun k => by rw [PB.laws_ordered.l0]) (evp (by omega) (evp (by omega) (evp (by omega) (evn (by rw [ex]; exact h0) (by rw [ex]; exact Ev.bind hc (evn (by simp) (Ev.now false))))))), fun h => by cases h⟩
      | true =>
        have hxc := hcp rfl x List.mem_cons_self
        have go : ∀ {q : Nat → Option Bool} {s : Bool}, Ev q s → (∀ k, q k = (if (i : Int) > 0 then (if 0 ≤ (wrap64 ((i : Int) - 1)) then (if (wrap64 ((i : Int) - 1)) < (l.length : Int) then (if (Op.bytesLess (x.toList) ((rdOf ByteArray.empty l (wrap64 ((i : Int) - 1))).toList)) = true then (some false) else (if st = true then (if x.toList = (rdOf ByteArray.empty l (wrap64 ((i : Int) - 1))).toList then (some false) else (PB.laws_ordered.l0 k l st (l.length : Int) (wrap64 ((i : Int) + 1)))) else (PB.laws_ordered.l0 k l st (l.length : Int) (wrap64 ((i : Int) + 1))))) else (none)) else (none)) else (PB.laws_ordered.l0 k l st (l.length : Int) (wrap64 ((i : Int) + 1))))) → Ev (fun k => PB.laws_ordered.l0 k l st (l.length : Int) (i : Int)) s := fun hq hqe =>
          Ev.step (fun k => by rw [PB.laws_ordered.l0]) (evp (by omega) (evp (by omega) (evp (by omega) (evn (by rw [ex]; exact h0) (by rw [ex]; exact Ev.bind hc (evp rfl (Ev.congr (fun k => (hqe k).symm) hq)))))))
        by_cases hi0 : i = 0
        · subst hi0
          refine ⟨r, go (evn (by omega) (by rw [wrap_up 0 (by omega)]; exact hr)) (fun k => rfl), fun h => ⟨(hp h).1, fun j g1 g2 => ?_⟩⟩
          by_cases e : j = 0
          · subst e; rw [hx]; exact ⟨hxc, h0, fun h => by omega⟩
          · exact (hp h).2 j (by omega) g2
        · have ew := wrap_dn i (by omega) (by omega)
          obtain ⟨y, hy⟩ : ∃ y, l.getD (i - 1) ByteArray.empty = y := ⟨_, rfl⟩
          have ey : rdOf ByteArray.empty l (wrap64 ((i : Int) - 1)) = y := by rw [ew, rdOf_nat, hy]
          have fin : ∀ s : Bool, (s = true → r = true) → (s = true → Op.bytesLess x.toList y.toList = false ∧ (st = true → x.toList ≠ y.toList)) → (s = true → 0 < l.length ∧ ∀ j, i ≤ j → j < l.length → Cln (l.getD j ByteArray.empty) ∧ (l.getD j ByteArray.empty).toList ≠ [] ∧ (1 ≤ j → Op.bytesLess (l.getD j ByteArray.empty).toList (l.getD (j - 1) ByteArray.empty).toList = false ∧ (st = true → (l.getD j ByteArray.empty).toList ≠ (l.getD (j - 1) ByteArray.empty).toList))) := by
            intro s hs1 hs2 hs
            have hrp := hp (hs1 hs)
            refine ⟨hrp.1, fun j g1 g2 => ?_⟩
            by_cases e : j = i
            · subst e; rw [hx, hy]; exact ⟨hxc, h0, fun _ => hs2 hs⟩
            · exact hrp.2 j (by omega) g2
          by_cases hb : Op.bytesLess x.toList y.toList = true
          · exact ⟨false, go (evp (by omega) (evp (by rw [ew]; omega) (evp (by rw [ew]; omega) (evp (by rw [ey]; exact hb) (Ev.now false))))) (fun k => rfl), fun h => by cases h⟩
          · have hbf : Op.bytesLess x.toList y.toList = false := by simpa using hb
            by_cases hst : st = true
            · by_cases hxy : x.toList = y.toList
              · exact ⟨false, go (evp (by omega) (evp (by rw [ew]; omega) (evp (by rw [ew]; omega) (evn (by rw [ey]; exact hb) (evp hst (evp (by rw [ey]; exact hxy) (Ev.now false))))))) (fun k => rfl), fun h => by cases h⟩
              · exact ⟨r, go (evp (by omega) (evp (by rw [ew]; omega) (evp (by rw [ew]; omega) (evn (by rw [ey]; exact hb) (evp hst (evn (by rw [ey]; exact hxy) (by rw [wrap_up i (by omega)]; exact hr))))))) (fun k => rfl), fin r id (fun _ => ⟨hbf, fun _ => hxy⟩)⟩
            · exact ⟨r, go (evp (by omega) (evp (by rw [ew]; omega) (evp (by rw [ew]; omega) (evn (by rw [ey]; exact hb) (evn hst (by rw [wrap_up i (by omega)]; exact hr)))))) (fun k => rfl), fin r id (fun _ => ⟨hbf, fun h => absurd h hst⟩)⟩
theorem ord_ev (l : List ByteArray) (st : Bool) (hl : Fits l) : Tru (fun k => PB.laws_ordered.f k l st) (Ord l st) := by
  obtain ⟨r, hr, hp⟩ := ord_key l st hl l.length 0 (by omega)
  refine ⟨r, hr, fun e => ?_⟩
  obtain ⟨h0, h⟩ := hp e
  exact ⟨all_getD _ (fun j hj => (h j (Nat.zero_le _) hj).1), all_getD (P := fun t => t.toList ≠ []) _ (fun j hj => (h j (Nat.zero_le _) hj).2.1), fun i hi => by have := ((h (i + 1) (Nat.zero_le _) hi).2.2 (by omega)).1; rw [Nat.add_sub_cancel] at this; exact this, fun hs i hi => by have := ((h (i + 1) (Nat.zero_le _) hi).2.2 (by omega)).2 hs; rw [Nat.add_sub_cancel] at this; exact this, List.length_pos_iff.1 h0⟩
end Go.Proofs.YtaejkbjepbifcabDoor.Da
namespace Go.Proofs.YtaejkbjepbifcabDoor.PB
open Go.RowKit Go.Proofs.YtaejkbjepbifcabDoorW.PrintWords Go.Proofs.YtaejkbjepbifcabDoorW.PrintLast Go.Proofs.YtaejkbjepbifcabDoorW.PrintMore
attribute [local go_sem] max2_int min2_int max_two min_two max_three min_three max_four min_four   -- for this text's walks alone
set_option linter.unusedVariables false
set_option linter.unusedSimpArgs false

/-! ### impl_sized: function 23 -/
def impl_sized.l0 : Nat → List Int → Int → Int → Option (Bool)
  | 0, _, _, _ => none
  | k + 1, x0, x3, x8 => if x8 < 8 then (if 0 ≤ x8 then (if x8 < (x0.length : Int) then (if 0 ≤ (wrap64 (8 * x8)) then (impl_sized.l0 k x0 (Go.bits .or .u64 x3 (shl .u64 (IntKind.u64.wrap (rd x0 x8)) (wrap64 (8 * x8)))) (wrap64 (x8 + 1))) else (none)) else (none)) else (none)) else (some (decide (x3 ≤ (IntKind.u64.wrap ((x0.length : Int))))))
def impl_sized.f (k : Nat) (l0 : List Int) : Option (Bool) := if (l0.length : Int) < 8 then (some true) else (impl_sized.l0 k l0 0 0)
theorem impl_sized.mono_l : ∀ k, (∀ y0 y1 y2, LeO (impl_sized.l0 k y0 y1 y2) (impl_sized.l0 (k + 1) y0 y1 y2))
  | 0 => fun _ _ _ r h => by simp [impl_sized.l0] at h
  | k + 1 => by
    have ih0 := impl_sized.mono_l k
    · intro y0 y1 y2
      unfold impl_sized.l0
      repeat' first
      | (with_reducible exact ih0 _ _ _)
      | (with_reducible exact LeO.refl _)
      | (with_reducible exact LeO.none _)
      | (with_reducible refine LeO.ite ?_ ?_)
      | (with_reducible refine LeO.bind ?_ (fun _ => ?_))
      | exact ih0 _ _ _
      | exact LeO.none _
      | refine LeO.ite ?_ ?_
      | refine LeO.bind ?_ (fun _ => ?_)
theorem impl_sized.mono : ∀ a0 k, LeO (impl_sized.f k a0) (impl_sized.f (k + 1) a0) := by
  intro a0 k
  have ih0 := impl_sized.mono_l k
  unfold impl_sized.f
  repeat' first
      | (with_reducible exact ih0 _ _ _)
      | (with_reducible exact LeO.refl _)
      | (with_reducible exact LeO.none _)
      | (with_reducible refine LeO.ite ?_ ?_)
      | (with_reducible refine LeO.bind ?_ (fun _ => ?_))
      | exact ih0 _ _ _
      | exact LeO.none _
      | refine LeO.ite ?_ ?_
      | refine LeO.bind ?_ (fun _ => ?_)
set_option maxHeartbeats 8000000 in
set_option maxRecDepth 100000 in
theorem impl_sized.calls (k : Nat) (A0 : Option Addr) (c0 : Nat) (l0 : List Int) (r : Bool) (w : World) (hr0 : Kd.C (Kd.int .u8) w A0 l0.length l0) (hc0 : l0.length ≤ c0) (h : impl_sized.f k l0 = some r) :
    Calls Tryd.prog 23 #[.slice A0 l0.length c0] w fun e w' => e = .returned (.bool r) ∧ Drawn0 w w' := by
  have HR0 := Aside0.mk hr0
  have HC0 := Aside0.mk hc0
  clear hr0 hc0
  have H : (if (l0.length : Int) < 8 then (some true) else (impl_sized.l0 k l0 0 0)) = some r := h
  clear h
  by_cases c2 : (l0.length : Int) < 8
  · rw [if_pos c2] at H
    have c2b0 : decide ((l0.length : Int) < 8) = true := decide_eq_true c2
    have c2b1 : decide (l0.length < 8) = true := decide_eq_true (by omega)
    clear c2
    obtain rfl := Option.some.inj H
    go_enter Tryd.func23, Tryd.ntmps23
    go_wp2
    go_ret
    exact ⟨by first | rfl | (simp; done) | (simp [*]; done) | (simp [Own.isEmpty_bne]; done), by repeat (first | exact Drawn0.refl _ | apply Drawn0.step)⟩
  · rw [if_neg c2] at H
    have c2b0 : decide ((l0.length : Int) < 8) = false := decide_eq_false c2
    have c2b1 : decide (l0.length < 8) = false := decide_eq_false (by omega)
    clear c2
    have H' := Aside0.mk H
    clear H
    go_enter Tryd.func23, Tryd.ntmps23
    go_wp2
    go_loopg [3, 8] k (fun kq v3 v8 w' => ∃ (x3_1 : Int) (x8_1 : Int), v3 = .int .u64 x3_1 ∧ v8 = .int .i64 x8_1 ∧ Aside0 (impl_sized.l0 kq l0 x3_1 x8_1 = some r) ∧ Aside0 (kq ≤ k) ∧ Drawn0 w w')
    case atStart => exact ⟨(0), (0), (by first | rfl | (simp; done) | (simp [*]; done)), (by first | rfl | (simp; done) | (simp [*]; done)), H', ⟨Nat.le_refl _⟩, by repeat (first | exact Drawn0.refl _ | apply Drawn0.step)⟩
    case round =>
      clear H'
      try clear c2
      try clear c2b0
      try clear c2b1
      try clear p2
      obtain ⟨x3_1, x8_1, rfl, rfl, HA, HK1, ⟨m1, rfl⟩⟩ := hrel
      cases gk with
      | zero => exact absurd HA.out (by simp [impl_sized.l0])
      | succ k1 =>
        have H := HA.out
        clear HA
        simp only [impl_sized.l0] at H
        by_cases c3 : x8_1 < 8
        · rw [if_pos c3] at H
          have c3b0 : decide (x8_1 < 8) = true := decide_eq_true c3
          clear c3
          by_cases c4 : 0 ≤ x8_1
          · rw [if_pos c4] at H
            have c4b0 : decide (0 ≤ x8_1) = true := decide_eq_true c4
            clear c4
            by_cases c5 : x8_1 < (l0.length : Int)
            · rw [if_pos c5] at H
              have c5b0 : decide (x8_1 < (l0.length : Int)) = true := decide_eq_true c5
              clear c5
              obtain ⟨ji6, hji6⟩ : ∃ j_ : Int, (wrap64 (8 * x8_1)) = j_ := ⟨_, rfl⟩
              replace H : (if 0 ≤ (ji6) then (impl_sized.l0 k1 l0 (Go.bits .or .u64 x3_1 (shl .u64 (IntKind.u64.wrap (rd l0 x8_1)) (ji6))) (wrap64 (x8_1 + 1))) else (none)) = some r := by first | (rw [hji6] at H; exact H) | (simp only [hji6] at H ⊢; exact H)
              have hji6w : (IntKind.i64.wrap (8 * x8_1)) = ji6 := (i64_w _).trans hji6
              by_cases c7 : 0 ≤ (ji6)
              · rw [if_pos c7] at H
                have c7b0 := eq_true c7
                have c7b1 : decide (0 ≤ (ji6)) = true := decide_eq_true c7
                clear c7
                obtain ⟨ji8, hji8⟩ : ∃ j_ : Int, (shl .u64 (IntKind.u64.wrap (rd l0 x8_1)) (ji6)) = j_ := ⟨_, rfl⟩
                replace H : (impl_sized.l0 k1 l0 (Go.bits .or .u64 x3_1 (ji8)) (wrap64 (x8_1 + 1))) = some r := by first | (rw [hji8] at H; exact H) | (simp only [hji8] at H ⊢; exact H)
                have hji8_ : (IntKind.u64.wrap ((IntKind.u64.wrap (rd l0 x8_1)) * 2 ^ min (ji6).toNat 64)) = ji8 := hji8
                have hji8z : (ji6) ≤ 64 → (IntKind.u64.wrap ((IntKind.u64.wrap (rd l0 x8_1)) * 2 ^ (ji6).toNat)) = ji8 := shl_small hji8
                have H' := Aside0.mk H
                clear H
                have p161 : 0 ≤ (x8_1 : Int) := of_decide_eq_true (by first | (with_reducible assumption) | assumption)
                have q161 : x8_1 < (l0.length : Int) := of_decide_eq_true (by first | (with_reducible assumption) | assumption)
                obtain ⟨ad161, e161, hx161_0⟩ := Kd.at_int HR0.out x8_1 p161 q161
                cases e161
                replace p161 := eq_true p161
                replace q161 := eq_true q161
                go_wp2
                go_roundg k1
                case measure => have := HK1.out; omega
                case rel => exact ⟨(Go.bits .or .u64 x3_1 (ji8)), (wrap64 (x8_1 + 1)), (by first | rfl | (simp; done) | (simp only [← hji8] <;> (first | rfl | simp)) | (simp [*]; done)), (by first | rfl | (simp; done) | (simp [*]; done)), H', ⟨by have := HK1.out; omega⟩, by repeat (first | exact Drawn0.refl _ | apply Drawn0.step)⟩
              · rw [if_neg c7] at H
                exact absurd H (by simp)
            · rw [if_neg c5] at H
              exact absurd H (by simp)
          · rw [if_neg c4] at H
            exact absurd H (by simp)
        · rw [if_neg c3] at H
          have c3b0 : decide (x8_1 < 8) = false := decide_eq_false c3
          clear c3
          obtain rfl := Option.some.inj H
          go_wp2
          go_ret
          exact ⟨by first | rfl | (simp; done) | (simp [*]; done) | (simp [Own.isEmpty_bne]; done), by repeat (first | exact Drawn0.refl _ | apply Drawn0.step)⟩

/-- THE ONE PURE STATEMENT of impl_sized: yours. -/
def impl_sized.Pure : Prop := ∀ (l0 : List Int), l0.length ≤ maxLen → l0.length * 1 ≤ 140737488351232 → (∀ x ∈ l0, (Lit.int .u8 x).wf = true) → ∃ k, impl_sized.f k l0 = some true
theorem impl_sized.walk (P : impl_sized.Pure) (a0 : Option Addr) (len0 cap0 : Nat) (z0 : List Int) (w : World) (w0 : (a0 = none ∧ len0 = 0 ∧ cap0 = 0 ∧ z0 = []) ∨ ∃ x, a0 = some x ∧ len0 ≤ cap0 ∧ cap0 ≤ maxLen ∧ z0.length = cap0 ∧ (∀ i, i < z0.length → w.cell? (x.add i) = some (.int .u8 (z0.getD i 0))) ∧ ∀ n ∈ z0, (Lit.int .u8 n).wf = true) (y0 : len0 * 1 ≤ 140737488351232) :
    Calls Tryd.prog 23 #[.slice a0 len0 cap0] w fun e w' => e = .returned (.bool true) ∧ Below w.heap.size w w' := by
  obtain ⟨l0, rfl, hr0, hm0, hw0, hc0⟩ := ReadsInt.ofRowC w0
  obtain ⟨k, h⟩ := P l0 hm0 y0 hw0
  refine (impl_sized.calls k _ _ l0 true w (Kd.C_of_reads (d := (0 : Int)) (h1 := fun _ => rfl) hr0) hc0 h).mono ?_
  rintro e w' ⟨rfl, hd⟩
  exact ⟨rfl, hd.below⟩

end Go.Proofs.YtaejkbjepbifcabDoor.PB
namespace Go.Proofs.YtaejkbjepbifcabDoor.Num
open Go.RowKit Go.Proofs.YtaejkbjepbifcabDoorW.PrintWords Go.Proofs.YtaejkbjepbifcabDoor.Plain
set_option linter.unusedVariables false

theorem as64_8 (v : Value) (w : World) : (Instr.typeAssert (.iface 2 v) 20 58 true).run Tryd.prog w = .ok (.tuple #[.int .i8 0, .bool false]) w := by kernel_rfl
theorem as64_16 (v : Value) (w : World) : (Instr.typeAssert (.iface 2 v) 20 114 true).run Tryd.prog w = .ok (.tuple #[.int .i16 0, .bool false]) w := by kernel_rfl
theorem as64_32 (v : Value) (w : World) : (Instr.typeAssert (.iface 2 v) 20 21 true).run Tryd.prog w = .ok (.tuple #[.int .i32 0, .bool false]) w := by kernel_rfl
theorem as32_8 (v : Value) (w : World) : (Instr.typeAssert (.iface 21 v) 20 58 true).run Tryd.prog w = .ok (.tuple #[.int .i8 0, .bool false]) w := by kernel_rfl
theorem as32_16 (v : Value) (w : World) : (Instr.typeAssert (.iface 21 v) 20 114 true).run Tryd.prog w = .ok (.tuple #[.int .i16 0, .bool false]) w := by kernel_rfl
theorem as32_32 (v : Value) (w : World) : (Instr.typeAssert (.iface 21 v) 20 21 true).run Tryd.prog w = .ok (.tuple #[v, .bool true]) w := by kernel_rfl

theorem size64 (v : Int) (w : World) : Calls Tryd.prog 36 #[.int .i64 v] w fun e w' => e = .returned (.int .i64 8) ∧ w = w' := by
  have h1 := as64_8
  have h2 := as64_16
  have h3 := as64_32
  go_enter Tryd.func36, Tryd.ntmps36
  go_wp2
  go_ret
  exact ⟨rfl, rfl⟩
theorem size32 (v : Int) (w : World) : Calls Tryd.prog 38 #[.int .i32 v] w fun e w' => e = .returned (.int .i64 4) ∧ w = w' := by
  have h1 := as32_8
  have h2 := as32_16
  have h3 := as32_32
  go_enter Tryd.func38, Tryd.ntmps38
  go_wp2
  go_ret
  exact ⟨rfl, rfl⟩
end Go.Proofs.YtaejkbjepbifcabDoor.Num
namespace Go.Proofs.YtaejkbjepbifcabDoor.Num
open Go.RowKit Go.Proofs.YtaejkbjepbifcabDoorW.PrintWords Go.Proofs.YtaejkbjepbifcabDoor.Plain
set_option linter.unusedVariables false

/-- The block of a bytes.Reader. -/
abbrev rdr (a : Option Addr) (n c i : Nat) (pr : Int) : Obj := .cells #[.slice a n c, .int .i64 i, .int .i64 pr] 93 (0, 0)
def u8s (l : List Int) : List Value := l.map (Value.int .u8)
theorem cells_at {w : World} {b : Nat} {cs : Array Value} {t : TypeId} (h : w.heap[b]? = some (.cells cs t (0, 0))) (i : Nat) (v : Value) (hv : cs[i]? = some v) : w.cell? ⟨b, i, none⟩ = some v := by
  unfold World.cell?; simp [h, hv]
theorem froz_at {w : World} {b : Nat} {cs : Array Value} {t : TypeId} (h : w.heap[b]? = some (.cells cs t (0, 0))) (i : Nat) : w.frozen? ⟨b, i, none⟩ = false := by
  unfold World.frozen?; simp [h]
theorem heap_drewN (w : World) (n : Nat) : (w.drewN n).heap = w.heap := rfl
theorem size_setCell (w : World) (p : Addr) (v : Value) : (w.setCell p v).heap.size = w.heap.size := by simp [World.setCell]
theorem int_info : (Tryd.prog.info? 5).map (·.size) = some 1 := by kernel_rfl

/-- What the world shows outside the memory stays. -/
def Env (w w' : World) : Prop := w'.os = w.os ∧ w'.tape = w.tape ∧ w'.output = w.output
theorem Env.trans {a b c : World} (h : Env a b) (k : Env b c) : Env a c := ⟨k.1.trans h.1, k.2.1.trans h.2.1, k.2.2.trans h.2.2⟩
/-- Old blocks stay, but those of S. -/
structure Kp (w w' : World) (S : Nat → Prop) : Prop where
  size : w.heap.size ≤ w'.heap.size
  old : ∀ i, i < w.heap.size → ¬ S i → w'.heap[i]? = w.heap[i]?
  env : Env w w'
theorem Kp.ofN {w W : World} {S : Nat → Prop} {q : Nat} (h : Kp (w.drewN q) W S) : Kp w W S := ⟨h.1, h.2, h.3⟩
theorem Kp.toN {w W : World} {S : Nat → Prop} (h : Kp w W S) (q : Nat) : Kp w (W.drewN q) S := ⟨h.1, h.2, h.3⟩
theorem C_cells {k : IntKind} {w : World} {a : Addr} {n : Nat} {xs : List Int} (h : (Kd.int k).C w (some a) n xs) (j : Nat) (x : Int) (hj : xs[j]? = some x) : w.cell? (a.add j) = some (.int k x) := by
  have hlt : j < n := by rw [← h.1]; exact (List.getElem?_eq_some_iff.1 hj).1
  obtain ⟨ad, e, hc⟩ := h.2.2 (by omega)
  obtain rfl := Option.some.inj e
  obtain ⟨c, _, hK, hu⟩ := hc j x hj
  have hK' : c = [.int k x] := hK
  subst hK'
  have := hu 0 _ rfl
  have e1 : (Kd.int k).sz = 1 := rfl
  rwa [e1, Nat.mul_one, Nat.add_zero] at this
theorem add_add (a : Addr) (i j : Nat) : (a.add i).add j = a.add (i + j) := by
  unfold Addr.add
  by_cases h1 : i = 0 <;> by_cases h2 : j = 0 <;> simp [h1, h2] <;> omega
theorem add_block (a : Addr) (i : Nat) : (a.add i).block = a.block := by unfold Addr.add; split <;> rfl

set_option maxHeartbeats 2000000 in
set_option maxRecDepth 100000 in
theorem read_some (w : World) (r d : Nat) (a : Addr) (n c m cm i : Nat) (pr : Int) (data : List Int) (ds : Array Value)
    (hr : w.heap[r]? = some (rdr (some a) n c i pr)) (hC : (Kd.int .u8).C w (some a) n data) (hi : i < n) (hnc : n ≤ c) (hn : n ≤ 1000000000000)
    (hd : w.heap[d]? = some (.cells ds 5 (0, 0))) (hds : ds.size = m) (hm : 0 < m) (hmm : m ≤ 1000000000000) (hrd : r ≠ d) (hra : r ≠ a.block) (hda : d ≠ a.block) :
    Calls Tryd.prog 102 #[.pointer (some ⟨r, 0, none⟩), .slice (some ⟨d, 0, none⟩) m cm] w fun e w' =>
      e = .returned (.tuple #[.int .i64 ((min m (n - i) : Nat) : Int), .nilIface]) ∧ Kp w w' (fun b => b = r ∨ b = d) ∧ w'.heap[r]? = some (rdr (some a) n c (i + min m (n - i)) (-1)) ∧
      w'.heap[d]? = some (.cells (u8s ((data.drop i).take m) ++ ds.toList.drop (min m (n - i))).toArray 5 (0, 0)) := by
  have c0 := cells_at hr 0 _ rfl
  have c1 := cells_at hr 1 _ rfl
  have c2 := cells_at hr 2 _ rfl
  have f1 := froz_at hr 1
  have f2 := froz_at hr 2
  have hlt : ¬ ((i : Int) ≥ (n : Int)) := by omega
  have hci : ¬ c = i := by omega
  have p1 : (0 : Int) ≤ i := by omega
  have p2 : (i : Int) ≤ n := by omega
  go_enter Tryd.func102, Tryd.ntmps102
  have hle : decide (n ≤ i) = false := decide_eq_false (by omega)
  go_wp2
  go_quiet (fail)
  go_wp2
  obtain ⟨X, hX⟩ : ∃ X, X = (w.drewN nq).setCell ⟨r, 2, none⟩ (.int .i64 (-1)) := ⟨_, rfl⟩
  rw [← hX]
  have hr1 : X.heap[r]? = some (rdr (some a) n c i (-1)) := by
    rw [hX]; exact blk_put (by rw [heap_drewN]; exact hr) 2 _ rfl
  have hd1 : X.heap[d]? = some (.cells ds 5 (0, 0)) := by
    rw [hX]; exact blk_far (by rw [heap_drewN]; exact hd) (Ne.symm hrd) _
  have HX := Aside0.mk hX
  clear hX c0 c1 c2 f1 f2
  have c0 := cells_at hr1 0 _ rfl
  have c1 := cells_at hr1 1 _ rfl
  have hdr : ∀ p, X.drew.cell? p = X.cell? p := fun p => by simp
  go_still_tail 10, (by kernel_rfl)
  obtain ⟨Y, hY⟩ : ∃ Y, Y = X.drew := ⟨_, rfl⟩
  have hY' : ({ heap := X.heap, tape := X.tape, drawn := X.drawn + 1, os := X.os, output := X.output } : World) = Y := hY.symm
  rw [hY']
  have hYh : Y.heap = X.heap := by rw [hY]; rfl
  have hYe : Env X Y := by rw [hY]; exact ⟨rfl, rfl, rfl⟩
  have HYe := Aside0.mk hYe
  clear hY hY' hdr c0 c1 hYe
  have hk : (u8s ((data.drop i).take m)).length = min m (n - i) := by
    have := hC.1
    simp [u8s, this]
  obtain ⟨Z, hZ⟩ : ∃ Z, Z = Y.setRow d (ds.toList.take 0 ++ u8s ((data.drop i).take m) ++ ds.toList.drop (0 + (u8s ((data.drop i).take m)).length)).toArray := ⟨_, rfl⟩
  have hcp := run_copy_row (P := Tryd.prog) Y 30 30 3 5 d 0 m cm (a.add i) (n - i) (c - i) ds 5 (u8s ((data.drop i).take m)) Tryd.underlying30 int_info
    (by rw [hYh]; exact hd1) (by rw [hk]; exact Nat.min_comm _ _) (fun j v hj => by
      rw [u8s, List.getElem?_map] at hj
      obtain ⟨x, hx, rfl⟩ := Option.map_eq_some_iff.1 hj
      rw [List.getElem?_take] at hx
      split at hx
      · rw [List.getElem?_drop] at hx
        rw [add_add]
        have h_ : Y.heap[a.block]? = w.heap[a.block]? := by
          rw [hYh, HX.out, Below.heap_setCell _ _ _ _ (Ne.symm hra), heap_drewN]
        have hb := add_block a (i + j)
        have := C_cells hC (i + j) x hx
        unfold World.cell? at this ⊢
        rw [hb] at this ⊢
        rw [h_]
        exact this
      · cases hx) (by rw [hk, hds]; omega) (fun v hv => by
      simp only [u8s, List.mem_map] at hv
      obtain ⟨x, _, rfl⟩ := hv
      rfl)
  rw [← hZ, hk] at hcp
  have hZr : Z.heap[r]? = some (rdr (some a) n c i (-1)) := by rw [hZ, setRow_other _ _ _ _ hrd, hYh]; exact hr1
  have hZd : Z.heap[d]? = some (.cells (u8s ((data.drop i).take m) ++ ds.toList.drop (min m (n - i))).toArray 5 (0, 0)) := by
    rw [hZ, setRow_heap _ _ _ _ _ _ (by rw [hYh]; exact hd1), hk]; simp
  have HZ := Aside0.mk hZ
  have HEnv : Aside0 (Env w Z) := ⟨(show Env w X by rw [HX.out]; exact ⟨rfl, rfl, rfl⟩).trans (HYe.out.trans (by rw [hZ]; exact ⟨rfl, rfl, rfl⟩))⟩
  have HY := Aside0.mk hYh
  clear hZ hYh
  have c1 := cells_at hZr 1 _ rfl
  have f1 := froz_at hZr 1
  go_wp2
  go_ret2
  refine ⟨rfl, ⟨?_, fun b hb hS => ?_, HEnv.out.trans ⟨rfl, rfl, rfl⟩⟩, ?_, ?_⟩
  · rw [size_setCell, HZ.out, size_setRow, HY.out, HX.out, size_setCell, heap_drewN]; exact Nat.le_refl _
  · have hb1 : b ≠ r := fun e => hS (.inl e)
    have hb2 : b ≠ d := fun e => hS (.inr e)
    rw [Below.heap_setCell _ _ _ _ hb1, HZ.out, setRow_other _ _ _ _ hb2, HY.out, HX.out, Below.heap_setCell _ _ _ _ hb1, heap_drewN]
  · exact blk_put hZr 1 _ (by rw [show ((i + min m (n - i) : Nat) : Int) = (i : Int) + (min m (n - i) : Nat) by omega]; rfl)
  · exact blk_far hZd (Ne.symm hrd) _

theorem drewN_add (w : World) (a b : Nat) : (w.drewN a).drewN b = w.drewN (a + b) := by simp [World.drewN, Nat.add_assoc]
theorem blk_lt_cell {w : World} {p : Addr} {v : Value} (h : w.cell? p = some v) : p.block < w.heap.size := by
  rcases Nat.lt_or_ge p.block w.heap.size with h' | h'
  · exact h'
  · unfold World.cell? at h; simp [Array.getElem?_eq_none h'] at h
/-- What the readers ask of the sentinels. -/
structure Snt (w : World) : Prop where
  eof : ∃ a, w.cell? ⟨1, 0, none⟩ = some (.iface 104 (.pointer (some a)))
  bad : ∃ t x, w.cell? ⟨2, 0, none⟩ = some (.iface t x)
theorem cell_block {w X : World} {p : Addr} (h : X.heap[p.block]? = w.heap[p.block]?) : X.cell? p = w.cell? p := by
  unfold World.cell?; rw [h]
theorem Snt.move {w w' : World} (h : Snt w) (h1 : w'.heap[1]? = w.heap[1]?) (h2 : w'.heap[2]? = w.heap[2]?) : Snt w' :=
  ⟨by obtain ⟨a, ha⟩ := h.eof; exact ⟨a, (cell_block (p := ⟨1, 0, none⟩) h1).trans ha⟩, by obtain ⟨t, x, ha⟩ := h.bad; exact ⟨t, x, (cell_block (p := ⟨2, 0, none⟩) h2).trans ha⟩⟩

set_option maxHeartbeats 2000000 in
set_option maxRecDepth 100000 in
theorem read_eof (w : World) (r : Nat) (A B : Option Addr) (n c m cm : Nat) (pr : Int) (hs : Snt w) (hr : w.heap[r]? = some (rdr A n c n pr)) :
    Calls Tryd.prog 102 #[.pointer (some ⟨r, 0, none⟩), .slice B m cm] w fun e w' =>
      ∃ a, e = .returned (.tuple #[.int .i64 0, .iface 104 (.pointer (some a))]) ∧ w.cell? ⟨1, 0, none⟩ = some (.iface 104 (.pointer (some a))) ∧ ∃ q, w' = w.drewN q := by
  have c0 := cells_at hr 0 _ rfl
  have c1 := cells_at hr 1 _ rfl
  obtain ⟨aE, hE⟩ := hs.eof
  go_enter Tryd.func102, Tryd.ntmps102
  go_wp2
  go_quiet (fail)
  go_wp2
  go_quiet (fail)
  go_wp2
  go_ret2
  exact ⟨aE, rfl, hE, _, drewN_add _ _ _⟩

theorem rd_ahead (a : Addr) (w : World) : (nilAhead 257 69 (.pointer (some a)) "Read").run Tryd.prog w = .ok (some false) w := by kernel_rfl
theorem rd_method (a : Addr) (w : World) : (method 257 69 (.pointer (some a)) "Read").run Tryd.prog w = .ok (102, .pointer (some a)) w := by kernel_rfl
set_option maxHeartbeats 2000000 in
set_option maxRecDepth 100000 in
theorem atLeast_full (w : World) (r d : Nat) (a : Addr) (n c m i : Nat) (pr : Int) (data : List Int) (ds : Array Value)
    (hr : w.heap[r]? = some (rdr (some a) n c i pr)) (hC : (Kd.int .u8).C w (some a) n data) (hi : i + m ≤ n) (hnc : n ≤ c) (hn : n ≤ 1000000000000)
    (hd : w.heap[d]? = some (.cells ds 5 (0, 0))) (hds : ds.size = m) (hm : 0 < m) (hrd : r ≠ d) (hra : r ≠ a.block) (hda : d ≠ a.block) :
    Calls Tryd.prog 70 #[.iface 69 (.pointer (some ⟨r, 0, none⟩)), .slice (some ⟨d, 0, none⟩) m m, .int .i64 m] w fun e w' =>
      e = .returned (.tuple #[.int .i64 m, .nilIface]) ∧ Kp w w' (fun b => b = r ∨ b = d) ∧ w'.heap[r]? = some (rdr (some a) n c (i + m) (-1)) ∧
      w'.heap[d]? = some (.cells (u8s ((data.drop i).take m)).toArray 5 (0, 0)) := by
  have hk : min m (n - i) = m := by omega
  have C1 := Aside0.mk fun (q : Nat) => read_some (w.drewN q) r d a n c m m i pr data ds hr (Kd.C_drewN hC q) (by omega) hnc hn hd hds hm (by omega) hrd hra hda
  simp only [hk] at C1
  have hdl : ds.toList.drop m = [] := List.drop_eq_nil_of_le (by simp [hds])
  simp only [hdl, List.append_nil] at C1
  clear hdl hk hr hC hd hnc
  have p0 : ¬ (m : Int) < m := by omega
  have p1 : (0 : Int) < m := by omega
  have p2 : m ≤ 1000000000000 := by omega
  have n1 := rd_ahead
  have n2 := rd_method
  go_enter Tryd.func70, Tryd.ntmps70
  go_wp2
  go_loopg [6, 7] 1 (fun kq v6 v7 w' => (kq = 1 ∧ v6 = .int .i64 0 ∧ v7 = .nilIface ∧ Aside0 (w' = w)) ∨ (kq = 0 ∧ v6 = .int .i64 m ∧ v7 = .nilIface ∧ Aside0 (Kp w w' (fun b => b = r ∨ b = d) ∧ w'.heap[r]? = some (rdr (some a) n c (i + m) (-1)) ∧ w'.heap[d]? = some (.cells (u8s ((data.drop i).take m)).toArray 5 (0, 0)))))
  case atStart => exact .inl ⟨rfl, rfl, rfl, ⟨rfl⟩⟩
  case round =>
    rcases hrel with ⟨hq, rfl, rfl, hw⟩ | ⟨hq, rfl, rfl, HP⟩
    · obtain ⟨hw⟩ := hw
      subst hw
      have d1 : decide ((0 : Int) < (m : Int)) = true := decide_eq_true p1
      go_wp2_with fail
      go_region_with ((go_at_call 102; refine (C1.out _).mono ?_; rintro _ W2 ⟨rfl, HP_⟩; have HP := Aside0.mk HP_; clear HP_))
      go_wp2_with fail
      subst hq
      go_roundg 0
      case measure => omega
      case rel => exact .inr ⟨rfl, rfl, rfl, ⟨HP.out.1.ofN, HP.out.2⟩⟩
    · go_wp2_with fail
      go_ret2
      exact ⟨rfl, HP.out⟩

/-- A reading that comes to the end. -/
def Short (w : World) (S : Nat → Prop) (k : Nat) (e : Ending) (w' : World) : Prop := ∃ t x, e = .returned (.tuple #[.int .i64 (k : Int), .iface t x]) ∧ Kp w w' S
theorem err_comp : (Tryd.prog.info? 104).map (·.comparable) = some true := by kernel_rfl
theorem err_size : (Tryd.prog.info? 106).map (·.size) = some 1 := by kernel_rfl
theorem eof_eq (a : Addr) (w : World) : (binOp .eql 53 (.iface 104 (.pointer (some a))) (.iface 104 (.pointer (some a)))).run Tryd.prog w = .ok (.bool true) w := by
  obtain ⟨i, hi, hcmp⟩ := Option.map_eq_some_iff.1 err_comp
  obtain ⟨j, hj, _⟩ := Option.map_eq_some_iff.1 err_size
  exact run_eql_iface_ptr_same w a Tryd.underlying53 Tryd.underlying104 hi hcmp hj

set_option maxHeartbeats 4000000 in
set_option maxRecDepth 100000 in
theorem atLeast_short (w : World) (r d : Nat) (A : Option Addr) (n c m i : Nat) (pr : Int) (data : List Int) (ds : Array Value) (hs : Snt w)
    (hr : w.heap[r]? = some (rdr A n c i pr)) (hC : (Kd.int .u8).C w A n data) (hi : n < i + m) (hin : i ≤ n) (hnc : n ≤ c) (hn : n ≤ 1000000000000)
    (hd : w.heap[d]? = some (.cells ds 5 (0, 0))) (hds : ds.size = m) (hm : 0 < m) (hmm : m ≤ 1000000000000) (hrd : r ≠ d) (hra : ∀ a, A = some a → 0 < n → r ≠ a.block ∧ d ≠ a.block)
    (hg : 1 ≠ r ∧ 1 ≠ d ∧ 2 ≠ r ∧ 2 ≠ d) :
    Calls Tryd.prog 70 #[.iface 69 (.pointer (some ⟨r, 0, none⟩)), .slice (some ⟨d, 0, none⟩) m m, .int .i64 m] w (Short w (fun b => b = r ∨ b = d) (n - i)) := by
  have n1 := rd_ahead
  have n2 := rd_method
  have n3 := eof_eq
  obtain ⟨aE, hE⟩ := hs.eof
  obtain ⟨tb, xb, hbad⟩ := hs.bad
  have HS := Aside0.mk hs
  have HR := Aside0.mk hr
  have HC := Aside0.mk hC
  have HD := Aside0.mk hd
  have HE := Aside0.mk hE
  have HBad := Aside0.mk hbad
  have HG := Aside0.mk hg
  have HRA := Aside0.mk hra
  clear hs hr hC hd hE hbad hg hra
  have p0 : ¬ (m : Int) < m := by omega
  have p1 : (0 : Int) < m := by omega
  go_enter Tryd.func70, Tryd.ntmps70
  go_wp2
  go_loopg [6, 7] 2 (fun kq v6 v7 w' => (kq = 2 ∧ v6 = .int .i64 0 ∧ v7 = .nilIface ∧ Aside0 (w' = w)) ∨ (kq = 1 ∧ v6 = .int .i64 ((n - i : Nat) : Int) ∧ v7 = .nilIface ∧ Aside0 (Kp w w' (fun b => b = r ∨ b = d) ∧ w'.heap[r]? = some (rdr A n c n (-1)))) ∨
    (kq = 0 ∧ v6 = .int .i64 ((n - i : Nat) : Int) ∧ v7 = .iface 104 (.pointer (some aE)) ∧ Aside0 (Kp w w' (fun b => b = r ∨ b = d))))
  case atStart => exact .inl ⟨rfl, rfl, rfl, ⟨rfl⟩⟩
  case round =>
    rcases hrel with ⟨hq, rfl, rfl, hw⟩ | ⟨hq, rfl, rfl, HP⟩ | ⟨hq, rfl, rfl, HP⟩
    · obtain ⟨hw⟩ := hw
      subst hw
      have d1 : decide ((0 : Int) < (m : Int)) = true := decide_eq_true p1
      by_cases hlt : i < n
      · obtain ⟨a, rfl⟩ : ∃ a, A = some a := by
          obtain ⟨a, e, _⟩ := HC.out.2.2 (by omega)
          exact ⟨a, e⟩
        have C1 := Aside0.mk fun (q : Nat) => read_some (wr.drewN q) r d a n c m m i pr data ds HR.out (Kd.C_drewN HC.out q) hlt hnc hn HD.out hds hm hmm hrd (HRA.out a rfl (by omega)).1 (HRA.out a rfl (by omega)).2
        simp only [show min m (n - i) = n - i by omega, show i + (n - i) = n by omega] at C1
        go_wp2_with fail
        go_region_with ((go_at_call 102; refine (C1.out _).mono ?_; rintro _ W2 ⟨rfl, HP_⟩; have HP := Aside0.mk HP_; clear HP_))
        go_wp2_with fail
        subst hq
        go_roundg 1
        case measure => omega
        case rel => exact .inr (.inl ⟨rfl, rfl, rfl, ⟨HP.out.1.ofN, HP.out.2.1⟩⟩)
      · obtain rfl : i = n := by omega
        have C1 := Aside0.mk fun (q : Nat) => read_eof (wr.drewN q) r A (some ⟨d, 0, none⟩) i c m m pr (HS.out.move rfl rfl) HR.out
        go_wp2_with fail
        go_region_with ((go_at_call 102; refine (C1.out _).mono ?_; rintro _ W2 ⟨a9, rfl, ha9, HP_⟩; have HP := Aside0.mk HP_; have HA := Aside0.mk ha9; clear HP_ ha9))
        obtain rfl : a9 = aE := by
          have h_ := HA.out
          have h2_ : wr.cell? ⟨1, 0, none⟩ = _ := h_
          rw [HE.out] at h2_
          simpa using h2_.symm
        go_wp2_with fail
        subst hq
        go_roundg 0
        case measure => omega
        case rel =>
          refine .inr (.inr ⟨rfl, by rw [Nat.sub_self]; rfl, rfl, ⟨?_⟩⟩)
          obtain ⟨q, hq⟩ := HP.out
          rw [hq]
          exact ⟨Nat.le_refl _, fun _ _ _ => rfl, rfl, rfl, rfl⟩
    · have hlt : ((n - i : Nat) : Int) < m := by omega
      have d1 : decide (((n - i : Nat) : Int) < (m : Int)) = true := decide_eq_true hlt
      have hS : Snt wr := HS.out.move (HP.out.1.2 _ (blk_lt_cell HE.out) (by rintro (h | h); exact HG.out.1 h; exact HG.out.2.1 h)) (HP.out.1.2 _ (blk_lt_cell HBad.out) (by rintro (h | h); exact HG.out.2.2.1 h; exact HG.out.2.2.2 h))
      have HE2 : Aside0 (wr.cell? ⟨1, 0, none⟩ = some (.iface 104 (.pointer (some aE)))) := ⟨(cell_block (HP.out.1.2 _ (blk_lt_cell HE.out) (by rintro (h | h); exact HG.out.1 h; exact HG.out.2.1 h))).trans HE.out⟩
      obtain ⟨k, hk⟩ : ∃ k, k = n - i := ⟨_, rfl⟩
      have p2 : k ≤ m := by omega
      have HK := Aside0.mk hk
      rw [← hk] at hlt d1 ⊢
      have p3 : (k : Int) ≤ m := by omega
      have p4 : ¬ m = k := by omega
      have HS2 := Aside0.mk hS
      clear hS hk
      have p6 : (0 : Int) ≤ k := by omega
      have C1 := Aside0.mk fun (q : Nat) (B : Option Addr) (x y : Nat) => read_eof (wr.drewN q) r A B n c x y (-1) (HS2.out.move rfl rfl) HP.out.2
      go_wp2_with fail
      go_region_with ((go_at_call 102; refine (C1.out _ _ _ _).mono ?_; rintro _ W2 ⟨a9, rfl, ha9, HP_⟩; have HP2 := Aside0.mk HP_; have HA := Aside0.mk ha9; clear HP_ ha9))
      obtain rfl : a9 = aE := by
        have h_ := HA.out
        have h2_ : wr.cell? ⟨1, 0, none⟩ = _ := h_
        rw [HE2.out] at h2_
        simpa using h2_.symm
      go_wp2_with fail
      subst hq
      go_roundg 0
      case measure => omega
      case rel =>
        refine .inr (.inr ⟨rfl, by rw [← HK.out], rfl, ⟨?_⟩⟩)
        obtain ⟨q, hq⟩ := HP2.out
        rw [hq]
        exact (HP.out.1.toN _).toN _
    · obtain ⟨k, hk⟩ : ∃ k, k = n - i := ⟨_, rfl⟩
      have p2 : (k : Int) < m := by omega
      have d1 : decide ((k : Int) < (m : Int)) = true := decide_eq_true p2
      rw [← hk]
      have HK := Aside0.mk hk
      have HU : Aside0 (wr.cell? ⟨2, 0, none⟩ = some (.iface tb xb)) := ⟨(cell_block (HP.out.2 _ (blk_lt_cell HBad.out) (by rintro (h | h); exact HG.out.2.2.1 h; exact HG.out.2.2.2 h))).trans HBad.out⟩
      have HE2 : Aside0 (wr.cell? ⟨1, 0, none⟩ = some (.iface 104 (.pointer (some aE)))) := ⟨(cell_block (HP.out.2 _ (blk_lt_cell HE.out) (by rintro (h | h); exact HG.out.1 h; exact HG.out.2.1 h))).trans HE.out⟩
      have hu := HU.out
      have he := HE2.out
      clear hk
      by_cases h0 : (k : Int) > 0
      · have d2 : decide ((k : Int) > 0) = true := decide_eq_true h0
        go_wp2_with fail
        go_ret2
        exact ⟨_, _, by rw [← HK.out]; rfl, HP.out⟩
      · have d2 : decide ((k : Int) > 0) = false := decide_eq_false h0
        go_wp2_with fail
        go_ret2
        exact ⟨_, _, by rw [← HK.out]; rfl, HP.out⟩
end Go.Proofs.YtaejkbjepbifcabDoor.Num
namespace Go.Proofs.YtaejkbjepbifcabDoor.Num
open Go.RowKit Go.Proofs.YtaejkbjepbifcabDoorW.PrintWords Go.Proofs.YtaejkbjepbifcabDoor.Plain
set_option linter.unusedVariables false

/-- The k lowest bytes of a number, the least one first. -/
def leb : Nat → Int → List Int
  | 0, _ => []
  | k + 1, u => (u % 256) :: leb k (u / 256)

theorem leb_one (k : Nat) : ∀ u : Int, ∀ x ∈ leb k u, 0 ≤ x ∧ x < 256 := by
  induction k with
  | zero => intro u x hx; cases hx
  | succ k ih =>
    intro u x hx
    rcases List.mem_cons.1 hx with rfl | hx
    · omega
    · exact ih _ x hx
theorem leb_length (k : Nat) : ∀ u : Int, (leb k u).length = k := by
  induction k with
  | zero => intro u; rfl
  | succ k ih => intro u; simp [leb, ih]
theorem u8s_one (l : List Int) : ∀ v ∈ u8s l, v.oneCell' = true := fun v hv => by
  simp only [u8s, List.mem_map] at hv
  obtain ⟨x, _, rfl⟩ := hv
  rfl
theorem leb8 (u : Int) : leb 8 u = [u % 256, u / 256 % 256, u / 65536 % 256, u / 16777216 % 256, u / 4294967296 % 256, u / 1099511627776 % 256, u / 281474976710656 % 256, u / 72057594037927936 % 256] := by
  simp only [leb]
  have h1 : u / 256 / 256 = u / 65536 := by omega
  have h2 : u / 65536 / 256 = u / 16777216 := by omega
  have h3 : u / 16777216 / 256 = u / 4294967296 := by omega
  have h4 : u / 4294967296 / 256 = u / 1099511627776 := by omega
  have h5 : u / 1099511627776 / 256 = u / 281474976710656 := by omega
  have h6 : u / 281474976710656 / 256 = u / 72057594037927936 := by omega
  rw [h1, h2, h3, h4, h5, h6]
theorem leb4 (u : Int) : leb 4 u = [u % 256, u / 256 % 256, u / 65536 % 256, u / 16777216 % 256] := by
  simp only [leb]
  have h1 : u / 256 / 256 = u / 65536 := by omega
  have h2 : u / 65536 / 256 = u / 16777216 := by omega
  rw [h1, h2]
theorem wrapu (v : Int) : IntKind.u64.wrap v = v % 18446744073709551616 := by
  simp [IntKind.wrap, IntKind.bits, IntKind.signed]
theorem bufCarry {T e : TypeId} {B b : Nat} {bs : List Value} {w w' : World} (h : Lib.IsBuffer T e B b bs w) (hb : ∀ k, k < w.heap.size → w'.heap[k]? = w.heap[k]?) : Lib.IsBuffer T e B b bs w' := by
  have hlt := h.lt
  obtain ⟨hB, v, lr, hbk, hown, hne⟩ := h
  refine ⟨hB, v, lr, by rw [hb _ hlt]; exact hbk, ?_, hne⟩
  obtain ⟨h1, h2⟩ := hown
  refine ⟨h1, ?_⟩
  rcases h2 with h2 | ⟨g, cap, cur, h3, h4, h5, h6⟩
  · exact .inl h2
  · exact .inr ⟨g, cap, cur, h3, h4, by rw [hb _ (blk_lt h5)]; exact h5, h6⟩
theorem bufAlloc {T e : TypeId} {B b : Nat} {bs : List Value} {w : World} (h : Lib.IsBuffer T e B b bs w) (x : Obj) : Lib.IsBuffer T e B b bs (w.alloc x) := bufCarry h fun k hk => Below.heap_alloc w x k hk
theorem bufDrewN {T e : TypeId} {B b : Nat} {bs : List Value} {w : World} (h : Lib.IsBuffer T e B b bs w) (n : Nat) : Lib.IsBuffer T e B b bs (w.drewN n) := bufCarry h fun _ _ => rfl
theorem setCell_heap_congr {w W : World} {g : Nat} (h : W.heap[g]? = w.heap[g]?) (o : Nat) (v : Value) : (W.setCell ⟨g, o, none⟩ v).heap[g]? = (w.setCell ⟨g, o, none⟩ v).heap[g]? := by
  simp only [World.setCell, Array.getElem?_modify, h]
theorem bw_method (a : Addr) (w : World) : (method 257 64 (.pointer (some a)) "Write").run Tryd.prog w = .ok (95, .pointer (some a)) w := by kernel_rfl
set_option maxHeartbeats 4000000 in
set_option maxRecDepth 100000 in
theorem write64 (B b : Nat) (bs : List Value) (v : Int) (w : World) (h : Lib.IsBuffer 61 5 B b bs w) (hBw : B ≤ w.heap.size) (h1 : ∀ v ∈ bs, v.oneCell' = true) (hlim : bs.length + 8 ≤ 140737488355328) :
    Calls Tryd.prog 35 #[.iface 64 (.pointer (some ⟨b, 0, none⟩)), .int .i64 v] w fun e w' => e = .returned .nilIface ∧ Lib.IsBuffer 61 5 B b (bs ++ u8s (leb 8 (v % 18446744073709551616))) w' ∧ Below B w w' ∧ Lib.OthersKept 5 (some b) w w' := by
  have n1 := bw_method
  have hmk : ∀ w, (Instr.makeSlice 30 (.int .i64 8) (.int .i64 8)).run Tryd.prog w = .ok (.slice (some ⟨w.heap.size, 0, none⟩) 8 8) (w.alloc (.cells #[.int .u8 0, .int .u8 0, .int .u8 0, .int .u8 0, .int .u8 0, .int .u8 0, .int .u8 0, .int .u8 0] 5)) := fun _ => by kernel_rfl
  go_enter Tryd.func35, Tryd.ntmps35
  go_wp2_with (go_at_call 36; refine (size64 _ _).mono ?_; rintro _ _ ⟨rfl, rfl⟩)
  refine wp_loop_rounds 10 ?_
  iterate 9 (rw [rounds_succ]; go_wp2_with fail)
  have hl := leb8 (IntKind.u64.wrap v)
  have hlt := h.lt
  refine (Tryd.Buffer_Write_any B b bs (u8s (leb 8 (IntKind.u64.wrap v))) ⟨w.heap.size, 0, none⟩ 8 8 _ (bufAlloc h _) (by rw [Own.size_alloc]; omega) h1 (by simp [u8s, leb_length]) (by simp; omega) (fun j v hj => ?_) (u8s_one _) hlim).mono ?_
  · rw [hl] at hj
    have : (⟨w.heap.size, 0, none⟩ : Addr).add j = ⟨w.heap.size, j, none⟩ := by unfold Addr.add; by_cases h : j = 0 <;> simp [h]
    rw [this, Own.alloc_cell]
    simpa [u8s] using hj
  · rintro _ W2 ⟨rfl, hI, hB2, hO2⟩
    have HO2 := Aside0.mk hO2
    clear hO2
    have HI := Aside0.mk hI
    have HB2 := Aside0.mk hB2
    clear hI hB2 hl
    go_wp2_with fail
    go_ret
    exact ⟨rfl, by rw [← wrapu]; exact HI.out, (Below.refl _ _).alloc hBw _ |>.trans HB2.out, fun k o hk hne ht => HO2.out k o (by rw [Below.heap_alloc _ _ _ (blk_lt hk)]; exact hk) hne ht⟩
set_option maxHeartbeats 4000000 in
set_option maxRecDepth 100000 in
theorem write32 (B b : Nat) (bs : List Value) (v : Int) (w : World) (h : Lib.IsBuffer 61 5 B b bs w) (hBw : B ≤ w.heap.size) (h1 : ∀ v ∈ bs, v.oneCell' = true) (hlim : bs.length + 4 ≤ 140737488355328) :
    Calls Tryd.prog 37 #[.iface 64 (.pointer (some ⟨b, 0, none⟩)), .int .i32 v] w fun e w' => e = .returned .nilIface ∧ Lib.IsBuffer 61 5 B b (bs ++ u8s (leb 4 (v % 18446744073709551616))) w' ∧ Below B w w' ∧ Lib.OthersKept 5 (some b) w w' := by
  have n1 := bw_method
  have hmk : ∀ w, (Instr.makeSlice 30 (.int .i64 4) (.int .i64 4)).run Tryd.prog w = .ok (.slice (some ⟨w.heap.size, 0, none⟩) 4 4) (w.alloc (.cells #[.int .u8 0, .int .u8 0, .int .u8 0, .int .u8 0] 5)) := fun _ => by kernel_rfl
  go_enter Tryd.func37, Tryd.ntmps37
  go_wp2_with (go_at_call 38; refine (size32 _ _).mono ?_; rintro _ _ ⟨rfl, rfl⟩)
  refine wp_loop_rounds 6 ?_
  iterate 5 (rw [rounds_succ]; go_wp2_with fail)
  have hl := leb4 (IntKind.u64.wrap v)
  have hlt := h.lt
  refine (Tryd.Buffer_Write_any B b bs (u8s (leb 4 (IntKind.u64.wrap v))) ⟨w.heap.size, 0, none⟩ 4 4 _ (bufAlloc h _) (by rw [Own.size_alloc]; omega) h1 (by simp [u8s, leb_length]) (by simp; omega) (fun j v hj => ?_) (u8s_one _) hlim).mono ?_
  · rw [hl] at hj
    have : (⟨w.heap.size, 0, none⟩ : Addr).add j = ⟨w.heap.size, j, none⟩ := by unfold Addr.add; by_cases h : j = 0 <;> simp [h]
    rw [this, Own.alloc_cell]
    simpa [u8s] using hj
  · rintro _ W2 ⟨rfl, hI, hB2, hO2⟩
    have HO2 := Aside0.mk hO2
    clear hO2
    have HI := Aside0.mk hI
    have HB2 := Aside0.mk hB2
    clear hI hB2 hl
    go_wp2_with fail
    go_ret
    exact ⟨rfl, by rw [← wrapu]; exact HI.out, (Below.refl _ _).alloc hBw _ |>.trans HB2.out, fun k o hk hne ht => HO2.out k o (by rw [Below.heap_alloc _ _ _ (blk_lt hk)]; exact hk) hne ht⟩

open Go.Lib in
theorem or8 {x0 x1 x2 x3 x4 x5 x6 x7 : Int} (l0 : 0 ≤ x0) (m0 : x0 < 256) (l1 : 0 ≤ x1) (m1 : x1 < 256) (l2 : 0 ≤ x2) (m2 : x2 < 256) (l3 : 0 ≤ x3) (m3 : x3 < 256) (l4 : 0 ≤ x4) (m4 : x4 < 256) (l5 : 0 ≤ x5) (m5 : x5 < 256) (l6 : 0 ≤ x6) (m6 : x6 < 256) (l7 : 0 ≤ x7) (m7 : x7 < 256) :
    bits .or .u64 (bits .or .u64 (bits .or .u64 (bits .or .u64 (bits .or .u64 (bits .or .u64 (bits .or .u64 (bits .or .u64 0 x0) (x1 * 256)) (x2 * 65536)) (x3 * 16777216)) (x4 * 4294967296)) (x5 * 1099511627776)) (x6 * 281474976710656)) (x7 * 72057594037927936)
      = x0 + x1 * 256 + x2 * 65536 + x3 * 16777216 + x4 * 4294967296 + x5 * 1099511627776 + x6 * 281474976710656 + x7 * 72057594037927936 := by
  have e0 : bits .or .u64 0 x0 = x0 := by
    have := bits_join_low .u64 64 (by decide) (fun n h0 h1 => wraps_u64 n h0 h1) 0 0 x0 (by omega) (by omega) (by omega) l0 (by omega) (by omega)
    rw [this]; omega
  have e1 : bits .or .u64 x0 (x1 * 256) = x0 + x1 * 256 := u64_or8 _ _ l0 m0 (by omega) (by omega) (by omega)
  have e2 : bits .or .u64 (x0 + x1 * 256) (x2 * 65536) = x0 + x1 * 256 + x2 * 65536 := u64_or16 _ _ (by omega) (by omega) (by omega) (by omega) (by omega)
  have e3 : bits .or .u64 (x0 + x1 * 256 + x2 * 65536) (x3 * 16777216) = x0 + x1 * 256 + x2 * 65536 + x3 * 16777216 := u64_or24 _ _ (by omega) (by omega) (by omega) (by omega) (by omega)
  have e4 : bits .or .u64 (x0 + x1 * 256 + x2 * 65536 + x3 * 16777216) (x4 * 4294967296) = x0 + x1 * 256 + x2 * 65536 + x3 * 16777216 + x4 * 4294967296 := u64_or32 _ _ (by omega) (by omega) (by omega) (by omega) (by omega)
  have e5 : bits .or .u64 (x0 + x1 * 256 + x2 * 65536 + x3 * 16777216 + x4 * 4294967296) (x5 * 1099511627776) = x0 + x1 * 256 + x2 * 65536 + x3 * 16777216 + x4 * 4294967296 + x5 * 1099511627776 := u64_or40 _ _ (by omega) (by omega) (by omega) (by omega) (by omega)
  have e6 : bits .or .u64 (x0 + x1 * 256 + x2 * 65536 + x3 * 16777216 + x4 * 4294967296 + x5 * 1099511627776) (x6 * 281474976710656) = x0 + x1 * 256 + x2 * 65536 + x3 * 16777216 + x4 * 4294967296 + x5 * 1099511627776 + x6 * 281474976710656 := u64_or48 _ _ (by omega) (by omega) (by omega) (by omega) (by omega)
  have e7 : bits .or .u64 (x0 + x1 * 256 + x2 * 65536 + x3 * 16777216 + x4 * 4294967296 + x5 * 1099511627776 + x6 * 281474976710656) (x7 * 72057594037927936) = x0 + x1 * 256 + x2 * 65536 + x3 * 16777216 + x4 * 4294967296 + x5 * 1099511627776 + x6 * 281474976710656 + x7 * 72057594037927936 := u64_or56 _ _ (by omega) (by omega) (by omega) (by omega) (by omega)
  rw [e0, e1, e2, e3, e4, e5, e6, e7]
def valb : List Int → Int
  | [] => 0
  | x :: l => x + 256 * valb l

set_option maxHeartbeats 2000000 in
theorem full_full (w : World) (r d : Nat) (a : Addr) (n c m i : Nat) (pr : Int) (data : List Int) (ds : Array Value)
    (hr : w.heap[r]? = some (rdr (some a) n c i pr)) (hC : (Kd.int .u8).C w (some a) n data) (hi : i + m ≤ n) (hnc : n ≤ c) (hn : n ≤ 1000000000000)
    (hd : w.heap[d]? = some (.cells ds 5 (0, 0))) (hds : ds.size = m) (hm : 0 < m) (hrd : r ≠ d) (hra : r ≠ a.block) (hda : d ≠ a.block) :
    Calls Tryd.prog 54 #[.iface 69 (.pointer (some ⟨r, 0, none⟩)), .slice (some ⟨d, 0, none⟩) m m] w fun e w' =>
      e = .returned (.tuple #[.int .i64 m, .nilIface]) ∧ Kp w w' (fun b => b = r ∨ b = d) ∧ w'.heap[r]? = some (rdr (some a) n c (i + m) (-1)) ∧
      w'.heap[d]? = some (.cells (u8s ((data.drop i).take m)).toArray 5 (0, 0)) := by
  have C1 := Aside0.mk (atLeast_full w r d a n c m i pr data ds hr hC hi hnc hn hd hds hm hrd hra hda)
  clear hr hC hd hi
  go_enter Tryd.func54, Tryd.ntmps54
  go_wp2_with fail
  refine C1.out.mono ?_
  rintro _ W2 ⟨rfl, HP_⟩
  have HP := Aside0.mk HP_
  clear HP_
  go_wp2_with fail
  go_ret2
  exact ⟨rfl, HP.out⟩
set_option maxHeartbeats 2000000 in
theorem full_short (w : World) (r d : Nat) (A : Option Addr) (n c m i : Nat) (pr : Int) (data : List Int) (ds : Array Value) (hs : Snt w)
    (hr : w.heap[r]? = some (rdr A n c i pr)) (hC : (Kd.int .u8).C w A n data) (hi : n < i + m) (hin : i ≤ n) (hnc : n ≤ c) (hn : n ≤ 1000000000000)
    (hd : w.heap[d]? = some (.cells ds 5 (0, 0))) (hds : ds.size = m) (hm : 0 < m) (hmm : m ≤ 1000000000000) (hrd : r ≠ d) (hra : ∀ a, A = some a → 0 < n → r ≠ a.block ∧ d ≠ a.block)
    (hg : 1 ≠ r ∧ 1 ≠ d ∧ 2 ≠ r ∧ 2 ≠ d) :
    Calls Tryd.prog 54 #[.iface 69 (.pointer (some ⟨r, 0, none⟩)), .slice (some ⟨d, 0, none⟩) m m] w (Short w (fun b => b = r ∨ b = d) (n - i)) := by
  have C1 := Aside0.mk (atLeast_short w r d A n c m i pr data ds hs hr hC hi hin hnc hn hd hds hm hmm hrd hra hg)
  clear hr hC hd hi hs hra hg
  go_enter Tryd.func54, Tryd.ntmps54
  go_wp2_with fail
  refine C1.out.mono ?_
  rintro _ W2 ⟨t, x, rfl, HP_⟩
  have HP := Aside0.mk HP_
  clear HP_
  go_wp2_with fail
  go_ret2
  exact ⟨t, x, rfl, HP.out⟩

set_option maxHeartbeats 4000000 in
set_option maxRecDepth 100000 in
theorem read64_ok (w : World) (r : Nat) (a : Addr) (n c i : Nat) (pr : Int) (data : List Int) (g o : Nat) (old : Int)
    (hr : w.heap[r]? = some (rdr (some a) n c i pr)) (hC : (Kd.int .u8).C w (some a) n data) (hb : ∀ x ∈ data, 0 ≤ x ∧ x < 256) (hi : i + 8 ≤ n) (hnc : n ≤ c) (hn : n ≤ 1000000000000) (hra : r ≠ a.block) (hab : a.block < w.heap.size)
    (hp : w.cell? ⟨g, o, none⟩ = some (.int .i64 old)) (hf : w.frozen? ⟨g, o, none⟩ = false) (hrp : r ≠ g) :
    Calls Tryd.prog 39 #[.iface 69 (.pointer (some ⟨r, 0, none⟩)), .pointer (some ⟨g, o, none⟩)] w fun e w' =>
      e = .returned .nilIface ∧ Kp w w' (fun b => b = r ∨ b = g) ∧ w'.heap[r]? = some (rdr (some a) n c (i + 8) (-1)) ∧ w'.heap[g]? = (w.setCell ⟨g, o, none⟩ (.int .i64 (wrap64 (valb ((data.drop i).take 8))))).heap[g]? := by
  have hmk : ∀ w, (Instr.makeSlice 30 (.int .i64 8) (.int .i64 8)).run Tryd.prog w = .ok (.slice (some ⟨w.heap.size, 0, none⟩) 8 8) (w.alloc (.cells #[.int .u8 0, .int .u8 0, .int .u8 0, .int .u8 0, .int .u8 0, .int .u8 0, .int .u8 0, .int .u8 0] 5)) := fun _ => by kernel_rfl
  have hrl := blk_lt hr
  have C1 := Aside0.mk (full_full (w.alloc (.cells #[.int .u8 0, .int .u8 0, .int .u8 0, .int .u8 0, .int .u8 0, .int .u8 0, .int .u8 0, .int .u8 0] 5)) r w.heap.size a n c 8 i pr data _ (blk_alloc hr _) (Kd.C_alloc hC _) hi hnc hn (blk_new w _) rfl (by omega) (by omega) hra (by omega))
  have HB := Aside0.mk hb
  have HR := Aside0.mk hr
  have HC := Aside0.mk hC
  have hgl : g < w.heap.size := blk_lt_cell hp
  clear hb hr hC
  go_enter Tryd.func39, Tryd.ntmps39
  go_wp2_with (go_at_call 36; refine (size64 _ _).mono ?_; rintro _ _ ⟨rfl, rfl⟩)
  refine C1.out.mono ?_
  rintro _ W2 ⟨rfl, hK, hr2, hd2⟩
  have hg2 : W2.heap[g]? = w.heap[g]? := by
    rw [hK.2 g (by rw [Own.size_alloc]; omega) (by rintro (h | h) <;> omega), Below.heap_alloc _ _ _ hgl]
  have hdl : ((data.drop i).take 8).length = 8 := by have := HC.out.1; simp [this]; omega
  obtain ⟨x0, x1, x2, x3, x4, x5, x6, x7, hx⟩ : ∃ x0 x1 x2 x3 x4 x5 x6 x7, (data.drop i).take 8 = [x0, x1, x2, x3, x4, x5, x6, x7] := by
    match h : (data.drop i).take 8, hdl with
    | [x0, x1, x2, x3, x4, x5, x6, x7], _ => exact ⟨_, _, _, _, _, _, _, _, rfl⟩
  have hbx : ∀ x ∈ [x0, x1, x2, x3, x4, x5, x6, x7], 0 ≤ x ∧ x < 256 := fun x hx' => by
    rw [← hx] at hx'
    exact HB.out x (List.mem_of_mem_drop (List.mem_of_mem_take hx'))
  simp only [List.mem_cons, List.not_mem_nil, or_false, forall_eq_or_imp, forall_eq] at hbx
  obtain ⟨⟨l0, m0⟩, ⟨l1, m1⟩, ⟨l2, m2⟩, ⟨l3, m3⟩, ⟨l4, m4⟩, ⟨l5, m5⟩, ⟨l6, m6⟩, l7, m7⟩ := hbx
  rw [hx] at hd2
  have d0 : W2.cell? ⟨w.heap.size, 0, none⟩ = some (.int .u8 x0) := cells_at hd2 0 _ rfl
  have d1 : W2.cell? ⟨w.heap.size, 1, none⟩ = some (.int .u8 x1) := cells_at hd2 1 _ rfl
  have d2 : W2.cell? ⟨w.heap.size, 2, none⟩ = some (.int .u8 x2) := cells_at hd2 2 _ rfl
  have d3 : W2.cell? ⟨w.heap.size, 3, none⟩ = some (.int .u8 x3) := cells_at hd2 3 _ rfl
  have d4 : W2.cell? ⟨w.heap.size, 4, none⟩ = some (.int .u8 x4) := cells_at hd2 4 _ rfl
  have d5 : W2.cell? ⟨w.heap.size, 5, none⟩ = some (.int .u8 x5) := cells_at hd2 5 _ rfl
  have d6 : W2.cell? ⟨w.heap.size, 6, none⟩ = some (.int .u8 x6) := cells_at hd2 6 _ rfl
  have d7 : W2.cell? ⟨w.heap.size, 7, none⟩ = some (.int .u8 x7) := cells_at hd2 7 _ rfl
  have HK := Aside0.mk hK
  have HR2 := Aside0.mk hr2
  have HG2 := Aside0.mk hg2
  have HX := Aside0.mk hx
  have hp2 : W2.cell? ⟨g, o, none⟩ = some (.int .i64 old) := (cell_block (p := ⟨g, o, none⟩) hg2).trans hp
  have hf2 : W2.frozen? ⟨g, o, none⟩ = false := by
    have h_ : W2.frozen? ⟨g, o, none⟩ = w.frozen? ⟨g, o, none⟩ := by unfold World.frozen?; rw [hg2]
    rw [h_]; exact hf
  clear hK hr2 hg2 hx hdl hd2 hp hf hrl hgl
  go_wp2_with fail
  refine wp_loop_rounds 10 ?_
  iterate 9 (rw [rounds_succ]; go_wp2_with fail)
  go_ret
  have hv := or8 l0 m0 l1 m1 l2 m2 l3 m3 l4 m4 l5 m5 l6 m6 l7 m7
  refine ⟨rfl, ?_⟩
  have hval : valb [x0, x1, x2, x3, x4, x5, x6, x7] = x0 + x1 * 256 + x2 * 65536 + x3 * 16777216 + x4 * 4294967296 + x5 * 1099511627776 + x6 * 281474976710656 + x7 * 72057594037927936 := by
    simp only [valb]; omega
  rw [hv, ← hval, ← HX.out]
  refine ⟨⟨?_, fun b hb hS => ?_, Env.trans (show Env w _ from ⟨rfl, rfl, rfl⟩) (HK.out.env.trans ⟨rfl, rfl, rfl⟩)⟩, ?_, ?_⟩
  · rw [size_setCell]; exact Nat.le_trans (by rw [Own.size_alloc]; omega) HK.out.1
  · have hb1 : b ≠ r := fun e => hS (.inl e)
    have hb2 : b ≠ g := fun e => hS (.inr e)
    rw [Below.heap_setCell _ _ _ _ hb2, HK.out.2 b (by rw [Own.size_alloc]; omega) (by rintro (h | h); exact hb1 h; omega), Below.heap_alloc _ _ _ hb]
  · rw [Below.heap_setCell _ _ _ _ hrp]; exact HR2.out
  · exact setCell_heap_congr HG2.out _ _
open Go.Lib in
theorem or4 {x0 x1 x2 x3 : Int} (l0 : 0 ≤ x0) (m0 : x0 < 256) (l1 : 0 ≤ x1) (m1 : x1 < 256) (l2 : 0 ≤ x2) (m2 : x2 < 256) (l3 : 0 ≤ x3) (m3 : x3 < 256) :
    bits .or .u64 (bits .or .u64 (bits .or .u64 (bits .or .u64 0 x0) (x1 * 256)) (x2 * 65536)) (x3 * 16777216) = x0 + x1 * 256 + x2 * 65536 + x3 * 16777216 := by
  have e0 : bits .or .u64 0 x0 = x0 := by
    have := bits_join_low .u64 64 (by decide) (fun n h0 h1 => wraps_u64 n h0 h1) 0 0 x0 (by omega) (by omega) (by omega) l0 (by omega) (by omega)
    rw [this]; omega
  have e1 : bits .or .u64 x0 (x1 * 256) = x0 + x1 * 256 := u64_or8 _ _ l0 m0 (by omega) (by omega) (by omega)
  have e2 : bits .or .u64 (x0 + x1 * 256) (x2 * 65536) = x0 + x1 * 256 + x2 * 65536 := u64_or16 _ _ (by omega) (by omega) (by omega) (by omega) (by omega)
  have e3 : bits .or .u64 (x0 + x1 * 256 + x2 * 65536) (x3 * 16777216) = x0 + x1 * 256 + x2 * 65536 + x3 * 16777216 := u64_or24 _ _ (by omega) (by omega) (by omega) (by omega) (by omega)
  rw [e0, e1, e2, e3]
set_option maxHeartbeats 4000000 in
set_option maxRecDepth 100000 in
theorem read32_ok (w : World) (r : Nat) (a : Addr) (n c i : Nat) (pr : Int) (data : List Int) (g o : Nat) (old : Int)
    (hr : w.heap[r]? = some (rdr (some a) n c i pr)) (hC : (Kd.int .u8).C w (some a) n data) (hb : ∀ x ∈ data, 0 ≤ x ∧ x < 256) (hi : i + 4 ≤ n) (hnc : n ≤ c) (hn : n ≤ 1000000000000) (hra : r ≠ a.block) (hab : a.block < w.heap.size)
    (hp : w.cell? ⟨g, o, none⟩ = some (.int .i32 old)) (hf : w.frozen? ⟨g, o, none⟩ = false) (hrp : r ≠ g) :
    Calls Tryd.prog 40 #[.iface 69 (.pointer (some ⟨r, 0, none⟩)), .pointer (some ⟨g, o, none⟩)] w fun e w' =>
      e = .returned .nilIface ∧ Kp w w' (fun b => b = r ∨ b = g) ∧ w'.heap[r]? = some (rdr (some a) n c (i + 4) (-1)) ∧ w'.heap[g]? = (w.setCell ⟨g, o, none⟩ (.int .i32 (wrap32 (valb ((data.drop i).take 4))))).heap[g]? := by
  have hmk : ∀ w, (Instr.makeSlice 30 (.int .i64 4) (.int .i64 4)).run Tryd.prog w = .ok (.slice (some ⟨w.heap.size, 0, none⟩) 4 4) (w.alloc (.cells #[.int .u8 0, .int .u8 0, .int .u8 0, .int .u8 0] 5)) := fun _ => by kernel_rfl
  have hrl := blk_lt hr
  have C1 := Aside0.mk (full_full (w.alloc (.cells #[.int .u8 0, .int .u8 0, .int .u8 0, .int .u8 0] 5)) r w.heap.size a n c 4 i pr data _ (blk_alloc hr _) (Kd.C_alloc hC _) hi hnc hn (blk_new w _) rfl (by omega) (by omega) hra (by omega))
  have HB := Aside0.mk hb
  have HR := Aside0.mk hr
  have HC := Aside0.mk hC
  have hgl : g < w.heap.size := blk_lt_cell hp
  clear hb hr hC
  go_enter Tryd.func40, Tryd.ntmps40
  go_wp2_with (go_at_call 38; refine (size32 _ _).mono ?_; rintro _ _ ⟨rfl, rfl⟩)
  refine C1.out.mono ?_
  rintro _ W2 ⟨rfl, hK, hr2, hd2⟩
  have hg2 : W2.heap[g]? = w.heap[g]? := by
    rw [hK.2 g (by rw [Own.size_alloc]; omega) (by rintro (h | h) <;> omega), Below.heap_alloc _ _ _ hgl]
  have hdl : ((data.drop i).take 4).length = 4 := by have := HC.out.1; simp [this]; omega
  obtain ⟨x0, x1, x2, x3, hx⟩ : ∃ x0 x1 x2 x3, (data.drop i).take 4 = [x0, x1, x2, x3] := by
    match h : (data.drop i).take 4, hdl with
    | [x0, x1, x2, x3], _ => exact ⟨_, _, _, _, rfl⟩
  have hbx : ∀ x ∈ [x0, x1, x2, x3], 0 ≤ x ∧ x < 256 := fun x hx' => by
    rw [← hx] at hx'
    exact HB.out x (List.mem_of_mem_drop (List.mem_of_mem_take hx'))
  simp only [List.mem_cons, List.not_mem_nil, or_false, forall_eq_or_imp, forall_eq] at hbx
  obtain ⟨⟨l0, m0⟩, ⟨l1, m1⟩, ⟨l2, m2⟩, l3, m3⟩ := hbx
  rw [hx] at hd2
  have d0 : W2.cell? ⟨w.heap.size, 0, none⟩ = some (.int .u8 x0) := cells_at hd2 0 _ rfl
  have d1 : W2.cell? ⟨w.heap.size, 1, none⟩ = some (.int .u8 x1) := cells_at hd2 1 _ rfl
  have d2 : W2.cell? ⟨w.heap.size, 2, none⟩ = some (.int .u8 x2) := cells_at hd2 2 _ rfl
  have d3 : W2.cell? ⟨w.heap.size, 3, none⟩ = some (.int .u8 x3) := cells_at hd2 3 _ rfl
  have HK := Aside0.mk hK
  have HR2 := Aside0.mk hr2
  have HG2 := Aside0.mk hg2
  have HX := Aside0.mk hx
  have hp2 : W2.cell? ⟨g, o, none⟩ = some (.int .i32 old) := (cell_block (p := ⟨g, o, none⟩) hg2).trans hp
  have hf2 : W2.frozen? ⟨g, o, none⟩ = false := by
    have h_ : W2.frozen? ⟨g, o, none⟩ = w.frozen? ⟨g, o, none⟩ := by unfold World.frozen?; rw [hg2]
    rw [h_]; exact hf
  clear hK hr2 hg2 hx hdl hd2 hp hf hrl hgl
  go_wp2_with fail
  refine wp_loop_rounds 6 ?_
  iterate 5 (rw [rounds_succ]; go_wp2_with fail)
  go_ret
  have hv := or4 l0 m0 l1 m1 l2 m2 l3 m3
  refine ⟨rfl, ?_⟩
  have hval : valb [x0, x1, x2, x3] = x0 + x1 * 256 + x2 * 65536 + x3 * 16777216 := by
    simp only [valb]; omega
  rw [hv, ← hval, ← HX.out]
  refine ⟨⟨?_, fun b hb hS => ?_, Env.trans (show Env w _ from ⟨rfl, rfl, rfl⟩) (HK.out.env.trans ⟨rfl, rfl, rfl⟩)⟩, ?_, ?_⟩
  · rw [size_setCell]; exact Nat.le_trans (by rw [Own.size_alloc]; omega) HK.out.1
  · have hb1 : b ≠ r := fun e => hS (.inl e)
    have hb2 : b ≠ g := fun e => hS (.inr e)
    rw [Below.heap_setCell _ _ _ _ hb2, HK.out.2 b (by rw [Own.size_alloc]; omega) (by rintro (h | h); exact hb1 h; omega), Below.heap_alloc _ _ _ hb]
  · rw [Below.heap_setCell _ _ _ _ hrp]; exact HR2.out
  · exact setCell_heap_congr HG2.out _ _
/-- A reading of a number that comes to the end. -/
def ShortE (w : World) (S : Nat → Prop) (e : Ending) (w' : World) : Prop := ∃ t x, e = .returned (.iface t x) ∧ Kp w w' S
set_option maxHeartbeats 4000000 in
set_option maxRecDepth 100000 in
theorem read64_short (w : World) (r : Nat) (A : Option Addr) (n c i : Nat) (pr : Int) (data : List Int) (g o : Nat) (old : Int) (hs : Snt w)
    (hr : w.heap[r]? = some (rdr A n c i pr)) (hC : (Kd.int .u8).C w A n data) (hi : n < i + 8) (hin : i ≤ n) (hnc : n ≤ c) (hn : n ≤ 1000000000000) (hra : ∀ a, A = some a → 0 < n → r ≠ a.block ∧ a.block < w.heap.size)
    (hp : w.cell? ⟨g, o, none⟩ = some (.int .i64 old)) (hg : 1 ≠ r ∧ 2 ≠ r) :
    Calls Tryd.prog 39 #[.iface 69 (.pointer (some ⟨r, 0, none⟩)), .pointer (some ⟨g, o, none⟩)] w (ShortE w (fun b => b = r)) := by
  have hmk : ∀ w, (Instr.makeSlice 30 (.int .i64 8) (.int .i64 8)).run Tryd.prog w = .ok (.slice (some ⟨w.heap.size, 0, none⟩) 8 8) (w.alloc (.cells #[.int .u8 0, .int .u8 0, .int .u8 0, .int .u8 0, .int .u8 0, .int .u8 0, .int .u8 0, .int .u8 0] 5)) := fun _ => by kernel_rfl
  have hrl := blk_lt hr
  have hE : 1 < w.heap.size := by obtain ⟨a, h⟩ := hs.eof; exact blk_lt_cell h
  have hU : 2 < w.heap.size := by obtain ⟨t, x, h⟩ := hs.bad; exact blk_lt_cell h
  have C1 := Aside0.mk (full_short (w.alloc (.cells #[.int .u8 0, .int .u8 0, .int .u8 0, .int .u8 0, .int .u8 0, .int .u8 0, .int .u8 0, .int .u8 0] 5)) r w.heap.size A n c 8 i pr data _ (hs.move (Below.heap_alloc _ _ _ hE) (Below.heap_alloc _ _ _ hU)) (blk_alloc hr _) (Kd.C_alloc hC _) hi hin hnc hn (blk_new w _) rfl (by omega) (by omega) (by omega) (fun a ha h0 => ⟨(hra a ha h0).1, by have := (hra a ha h0).2; omega⟩) ⟨hg.1, by omega, hg.2, by omega⟩)
  clear hr hC hs hra hg hE hU
  go_enter Tryd.func39, Tryd.ntmps39
  go_wp2_with (go_at_call 36; refine (size64 _ _).mono ?_; rintro _ _ ⟨rfl, rfl⟩)
  refine C1.out.mono ?_
  rintro _ W2 ⟨t, x, rfl, hK⟩
  have HK := Aside0.mk hK
  clear hK hp
  go_wp2_with fail
  go_ret
  refine ⟨t, x, rfl, ?_, fun b hb hS => ?_, Env.trans (show Env w _ from ⟨rfl, rfl, rfl⟩) HK.out.env⟩
  · exact Nat.le_trans (by rw [Own.size_alloc]; omega) HK.out.1
  · rw [HK.out.2 b (by rw [Own.size_alloc]; omega) (by rintro (h | h); exact hS h; omega), Below.heap_alloc _ _ _ hb]
set_option maxHeartbeats 4000000 in
set_option maxRecDepth 100000 in
theorem read32_short (w : World) (r : Nat) (A : Option Addr) (n c i : Nat) (pr : Int) (data : List Int) (g o : Nat) (old : Int) (hs : Snt w)
    (hr : w.heap[r]? = some (rdr A n c i pr)) (hC : (Kd.int .u8).C w A n data) (hi : n < i + 4) (hin : i ≤ n) (hnc : n ≤ c) (hn : n ≤ 1000000000000) (hra : ∀ a, A = some a → 0 < n → r ≠ a.block ∧ a.block < w.heap.size)
    (hp : w.cell? ⟨g, o, none⟩ = some (.int .i32 old)) (hg : 1 ≠ r ∧ 2 ≠ r) :
    Calls Tryd.prog 40 #[.iface 69 (.pointer (some ⟨r, 0, none⟩)), .pointer (some ⟨g, o, none⟩)] w (ShortE w (fun b => b = r)) := by
  have hmk : ∀ w, (Instr.makeSlice 30 (.int .i64 4) (.int .i64 4)).run Tryd.prog w = .ok (.slice (some ⟨w.heap.size, 0, none⟩) 4 4) (w.alloc (.cells #[.int .u8 0, .int .u8 0, .int .u8 0, .int .u8 0] 5)) := fun _ => by kernel_rfl
  have hrl := blk_lt hr
  have hE : 1 < w.heap.size := by obtain ⟨a, h⟩ := hs.eof; exact blk_lt_cell h
  have hU : 2 < w.heap.size := by obtain ⟨t, x, h⟩ := hs.bad; exact blk_lt_cell h
  have C1 := Aside0.mk (full_short (w.alloc (.cells #[.int .u8 0, .int .u8 0, .int .u8 0, .int .u8 0] 5)) r w.heap.size A n c 4 i pr data _ (hs.move (Below.heap_alloc _ _ _ hE) (Below.heap_alloc _ _ _ hU)) (blk_alloc hr _) (Kd.C_alloc hC _) hi hin hnc hn (blk_new w _) rfl (by omega) (by omega) (by omega) (fun a ha h0 => ⟨(hra a ha h0).1, by have := (hra a ha h0).2; omega⟩) ⟨hg.1, by omega, hg.2, by omega⟩)
  clear hr hC hs hra hg hE hU
  go_enter Tryd.func40, Tryd.ntmps40
  go_wp2_with (go_at_call 38; refine (size32 _ _).mono ?_; rintro _ _ ⟨rfl, rfl⟩)
  refine C1.out.mono ?_
  rintro _ W2 ⟨t, x, rfl, hK⟩
  have HK := Aside0.mk hK
  clear hK hp
  go_wp2_with fail
  go_ret
  refine ⟨t, x, rfl, ?_, fun b hb hS => ?_, Env.trans (show Env w _ from ⟨rfl, rfl, rfl⟩) HK.out.env⟩
  · exact Nat.le_trans (by rw [Own.size_alloc]; omega) HK.out.1
  · rw [HK.out.2 b (by rw [Own.size_alloc]; omega) (by rintro (h | h); exact hS h; omega), Below.heap_alloc _ _ _ hb]
end Go.Proofs.YtaejkbjepbifcabDoor.Num
namespace Go.Proofs.YtaejkbjepbifcabDoor.Num
open Go.RowKit Go.Proofs.YtaejkbjepbifcabDoorW.PrintWords Go.Proofs.YtaejkbjepbifcabDoor.Plain
set_option linter.unusedVariables false
set_option linter.unusedSimpArgs false

/-- The j-th number of 32 bits from place b on. -/
def val (b : Nat) (data : List Int) (j : Nat) : Int := wrap32 (valb ((data.drop (b + 4 * j)).take 4))
/-- A row of N numbers of which q are read. -/
def rcells (b : Nat) (data : List Int) (N q : Nat) : Array Value := (Array.range N).map fun j => .int .i32 (if j < q then val b data j else 0)
theorem rcells_size (b : Nat) (data : List Int) (N q : Nat) : (rcells b data N q).size = N := by simp [rcells]
theorem rcells_get (b : Nat) (data : List Int) (N q j : Nat) (hj : j < N) : (rcells b data N q)[j]? = some (.int .i32 (if j < q then val b data j else 0)) := by
  rw [rcells, Array.getElem?_map, Array.getElem?_range]
  simp [hj]
theorem rcells_set (b : Nat) (data : List Int) (N q : Nat) (hq : q < N) : (rcells b data N q).setIfInBounds q (.int .i32 (val b data q)) = rcells b data N (q + 1) := by
  apply Array.ext_getElem?
  intro j
  rw [Array.getElem?_setIfInBounds]
  by_cases hj : j < N
  · rw [rcells_get _ _ _ _ _ hj, rcells_get _ _ _ _ _ hj, rcells_size]
    by_cases h : q = j
    · subst h; simp [hj]
    · rw [if_neg h]
      have : (j < q) = (j < q + 1) := by apply propext; omega
      simp only [this]
  · rw [if_neg (by omega), Array.getElem?_eq_none (by rw [rcells_size]; omega), Array.getElem?_eq_none (by rw [rcells_size]; omega)]
theorem rcells_zero (b : Nat) (data : List Int) (N : Nat) : rcells b data N 0 = (Array.range N).map fun _ => .int .i32 0 := by simp [rcells]
theorem made_one (l : Nat) : madeCells #[.int .i32 0] (l * 1) = (Array.range l).map fun _ => Value.int .i32 0 := by
  unfold madeCells
  apply Array.ext
  · simp
  · intro j h1 h2
    simp [Nat.mod_one]

structure Ctx (w0 : World) (r : Nat) (a : Addr) (n c : Nat) (data : List Int) : Prop where
  row : (Kd.int .u8).C w0 (some a) n data
  bytes : ∀ x ∈ data, 0 ≤ x ∧ x < 256
  cap : n ≤ c
  few : n ≤ 1000000000000
  ne : r ≠ a.block
  lt : a.block < w0.heap.size
  rlt : r < w0.heap.size
  snt : Snt w0
  eof : 1 ≠ r
  bad : 2 ≠ r
structure RS (w0 W : World) (r : Nat) (a : Addr) (n c b : Nat) (data : List Int) (G N e q : Nat) : Prop where
  rd : W.heap[r]? = some (rdr (some a) n c (b + 4 * q) (-1))
  row : W.heap[G]? = some (.cells (rcells b data N q) e (0, 0))
  kept : Kp w0 W (fun x => x = r)
  new : w0.heap.size ≤ G

theorem Ctx.rowAt {w0 W : World} {r : Nat} {a : Addr} {n c : Nat} {data : List Int} (h : Ctx w0 r a n c data) (k : Kp w0 W (fun x => x = r)) : (Kd.int .u8).C W (some a) n data := by
  have hb : W.heap[a.block]? = w0.heap[a.block]? := k.2 _ h.lt (fun e => h.ne e.symm)
  refine ⟨h.row.1, h.row.2.1, fun h0 => ?_⟩
  obtain ⟨ad, e, hc⟩ := h.row.2.2 h0
  obtain rfl := Option.some.inj e
  refine ⟨a, rfl, fun j p hj => ?_⟩
  obtain ⟨cc, h1, h2, h3⟩ := hc j p hj
  exact ⟨cc, h1, h2, fun i u hu => (cell_block (by rw [add_block]; exact hb)).trans (h3 i u hu)⟩
theorem Ctx.sntAt {w0 W : World} {r : Nat} {a : Addr} {n c : Nat} {data : List Int} (h : Ctx w0 r a n c data) (k : Kp w0 W (fun x => x = r)) : Snt W := by
  have hE : 1 < w0.heap.size := by obtain ⟨a, h⟩ := h.snt.eof; exact blk_lt_cell h
  have hU : 2 < w0.heap.size := by obtain ⟨t, x, h⟩ := h.snt.bad; exact blk_lt_cell h
  exact h.snt.move (k.2 _ hE h.eof) (k.2 _ hU h.bad)
theorem Kp.thru {w0 w w' : World} {S : Nat → Prop} (k : Kp w0 w S) (h : Kp w w' S) : Kp w0 w' S :=
  ⟨Nat.le_trans k.1 h.1, fun i hi hS => (h.2 i (Nat.lt_of_lt_of_le hi k.1) hS).trans (k.2 i hi hS), k.env.trans h.env⟩

section
variable {w0 W : World} {r : Nat} {a : Addr} {n c b : Nat} {data : List Int} {G N e q : Nat}
theorem RS.step_ok (h : RS w0 W r a n c b data G N e q) (x : Ctx w0 r a n c data) (hq : q < N) (hi : b + 4 * q + 4 ≤ n) :
    Calls Tryd.prog 40 #[.iface 69 (.pointer (some ⟨r, 0, none⟩)), .pointer (some ⟨G, q, none⟩)] W fun e' w' => e' = .returned .nilIface ∧ RS w0 w' r a n c b data G N e (q + 1) := by
  have hG : r ≠ G := by have := x.rlt; have := h.new; omega
  refine (read32_ok W r a n c (b + 4 * q) (-1) data G q 0 h.rd (x.rowAt h.kept) x.bytes hi x.cap x.few x.ne (Nat.lt_of_lt_of_le x.lt h.kept.1)
    (cells_at h.row q _ (by rw [rcells_get _ _ _ _ _ hq]; simp)) (froz_at h.row q) hG).mono ?_
  rintro e' w' ⟨he, hk, h1, h2⟩
  refine ⟨he, by rw [show b + 4 * (q + 1) = b + 4 * q + 4 by omega]; exact h1, ?_, ?_, h.new⟩
  · rw [h2]
    exact blk_put h.row q _ (rcells_set b data N q hq)
  · exact ⟨Nat.le_trans h.kept.1 hk.1, fun i hi hS => by
      rw [hk.2 i (Nat.lt_of_lt_of_le hi h.kept.1) (by rintro (h' | h'); exact hS h'; have := h.new; omega)]
      exact h.kept.2 i hi hS, h.kept.env.trans hk.env⟩
theorem RS.step_short (h : RS w0 W r a n c b data G N e q) (x : Ctx w0 r a n c data) (hq : q < N) (hi : n < b + 4 * q + 4) (hin : b + 4 * q ≤ n) :
    Calls Tryd.prog 40 #[.iface 69 (.pointer (some ⟨r, 0, none⟩)), .pointer (some ⟨G, q, none⟩)] W (ShortE w0 (fun x => x = r)) := by
  refine (read32_short W r (some a) n c (b + 4 * q) (-1) data G q 0 (x.sntAt h.kept) h.rd (x.rowAt h.kept) hi hin x.cap x.few (fun a' ha _ => by obtain rfl := Option.some.inj ha; exact ⟨x.ne, Nat.lt_of_lt_of_le x.lt h.kept.1⟩)
    (cells_at h.row q _ (by rw [rcells_get _ _ _ _ _ hq]; simp)) ⟨x.eof, x.bad⟩).mono ?_
  rintro e' w' ⟨t, y, he, hk⟩
  exact ⟨t, y, he, Kp.thru h.kept hk⟩
end
end Go.Proofs.YtaejkbjepbifcabDoor.Num
namespace Go.Proofs.YtaejkbjepbifcabDoor.Num
open Go.RowKit Go.Proofs.YtaejkbjepbifcabDoorW.PrintWords Go.Proofs.YtaejkbjepbifcabDoor.Plain
set_option linter.unusedVariables false
set_option linter.unusedSimpArgs false

theorem add_plus (a : Addr) (j k : Nat) (hk : 0 < k) : a.add (j + k) = ⟨(a.add j).block, (a.add j).off + k, none⟩ := by
  unfold Addr.add
  rw [if_neg (by omega)]
  by_cases h : j = 0
  · subst h; simp
  · simp [h]; omega
theorem int_eq {k : IntKind} {a b : Int} (h : a = b) : Value.int k a = .int k b := by rw [h]
theorem u8s_app (a b : List Int) : u8s (a ++ b) = u8s a ++ u8s b := by simp [u8s]
theorem othC {w : World} {b : Nat} {a : Addr} (h : a.block ≠ b ∧ ∃ cs t, w.heap[a.block]? = some (.cells cs t (0, 0)) ∧ t ≠ 5) :
    ∀ W, Lib.OthersKept 5 (some b) w W → ∀ p v, w.cell? p = some v → p.block = a.block → W.cell? p = some v := fun W hO p v hv hq => by
  obtain ⟨h1, cs, t, h2, h3⟩ := h
  rw [← hv]
  exact cell_block (by rw [hq, h2]; exact hO _ _ h2 (by simpa using h1) (fun c fz e => by injection e with _ e; exact h3 e))
theorem R_row {α : Type} {d : Kd α} {e base : Nat} {w : World} {ok : Nat → Prop} {v : Value} {xs : List α} (h : d.R e w base ok v xs) :
    ∃ A c, v = .slice A xs.length c ∧ xs.length ≤ c ∧ d.C w A xs.length xs ∧ ∀ a, A = some a → base ≤ a.block ∧ ∃ cs, w.heap[a.block]? = some (.cells cs e (0, 0)) := by
  obtain ⟨A, c, e1, hc, hC⟩ := Kd.R_reads h
  refine ⟨A, c, e1, hc, hC, fun a ha => ?_⟩
  obtain ⟨_, inner, ho, _⟩ := h
  have hk : v.ownBlock = some a.block := by rw [e1, ha]; rfl
  exact ⟨own_base ho _ hk, own_typed ho _ hk⟩
theorem bytes_R {w : World} {base : Nat} {v : Value} {l : List Int} (h : w.ownsRow base 5 1 v (u8s l).length (u8s l)) : (Kd.int .u8).R 5 w base (fun _ => True) v l := by
  have e : (u8s l).length = l.length := by simp [u8s]
  rw [e] at h
  exact Kd.R_of_own (enc := Value.int .u8) (h1 := fun _ => rfl) h (fun _ _ => trivial)
theorem newReader (w : World) (A : Option Addr) (n c : Nat) :
    Calls Tryd.prog 25 #[.slice A n c] w fun e w' => e = .returned (.pointer (some ⟨w.heap.size, 0, none⟩)) ∧ w' = w.alloc (rdr A n c 0 (-1)) := by
  go_enter Tryd.func25, Tryd.ntmps25
  go_wp2
  go_ret
  exact ⟨rfl, rfl⟩
theorem below_kept {w W W' : World} {r : Nat} (hb : Below w.heap.size w W) (hr : w.heap.size ≤ r) (hk : Kp W W' (fun y => y = r)) : Below w.heap.size w W' :=
  ⟨hk.env.1.trans hb.os, hk.env.2.1.trans hb.tape, hk.env.2.2.trans hb.output, Nat.le_trans hb.size hk.size, fun k hlt => (hk.old k (Nat.lt_of_lt_of_le hlt hb.size) (by omega)).trans (hb.block k hlt)⟩
theorem sntAlloc {w : World} (h : Snt w) (o : Obj) : Snt (w.alloc o) := by
  have hE : 1 < w.heap.size := by obtain ⟨a, h⟩ := h.eof; exact blk_lt_cell h
  have hU : 2 < w.heap.size := by obtain ⟨t, x, h⟩ := h.bad; exact blk_lt_cell h
  exact h.move (Below.heap_alloc _ _ _ hE) (Below.heap_alloc _ _ _ hU)
theorem sntNe {w : World} (h : Snt w) : 1 ≠ w.heap.size ∧ 2 ≠ w.heap.size := by
  have hE : 1 < w.heap.size := by obtain ⟨a, h⟩ := h.eof; exact blk_lt_cell h
  have hU : 2 < w.heap.size := by obtain ⟨t, x, h⟩ := h.bad; exact blk_lt_cell h
  exact ⟨by omega, by omega⟩
theorem C_lt {k : IntKind} {w : World} {A : Option Addr} {n : Nat} {xs : List Int} (h : (Kd.int k).C w A n xs) {a : Addr} (ha : A = some a) (h0 : 0 < n) : a.block < w.heap.size := by
  subst ha
  have hlt : 0 < xs.length := by rw [h.1]; exact h0
  have := blk_lt_cell (C_cells h 0 _ (List.getElem?_eq_getElem hlt))
  rwa [add_block] at this
theorem Snt.below {w W : World} (h : Snt w) (hb : Below w.heap.size w W) : Snt W := by
  have hE : 1 < w.heap.size := by obtain ⟨a, h⟩ := h.eof; exact blk_lt_cell h
  have hU : 2 < w.heap.size := by obtain ⟨t, x, h⟩ := h.bad; exact blk_lt_cell h
  exact h.move (hb.block _ hE) (hb.block _ hU)
end Go.Proofs.YtaejkbjepbifcabDoor.Num
namespace Go.Proofs.YtaejkbjepbifcabDoor.Num
open Go.RowKit Go.Proofs.YtaejkbjepbifcabDoorW.PrintWords Go.Proofs.YtaejkbjepbifcabDoor.Plain Go.Proofs.YtaejkbjepbifcabDoor.PB
set_option linter.unusedVariables false

theorem valb_app : ∀ (a b : List Int), valb (a ++ b) = valb a + valb b * 256 ^ a.length
  | [], b => by simp [valb]
  | x :: a, b => by
    simp only [List.cons_append, valb, valb_app a b, List.length_cons, Int.pow_succ]
    rw [Int.mul_add, ← Int.add_assoc, Int.mul_left_comm, Int.mul_comm 256 (256 ^ _)]
theorem valb_lt : ∀ l : List Int, (∀ x ∈ l, 0 ≤ x ∧ x < 256) → 0 ≤ valb l ∧ valb l < 256 ^ l.length
  | [], _ => by simp [valb]
  | x :: l, h => by
    have h1 := valb_lt l (fun y hy => h y (List.mem_cons_of_mem _ hy))
    have h2 := h x List.mem_cons_self
    simp only [valb, List.length_cons, Int.pow_succ]
    omega
theorem rd_get (l : List Int) (i : Nat) (h : i < l.length) : rd l (i : Int) = l[i] := by simp [rd, h]
theorem Int.pow_le_pow_right' {i j : Nat} (h : i ≤ j) : (256 : Int) ^ i ≤ 256 ^ j := by
  obtain ⟨k, rfl⟩ : ∃ k, j = i + k := ⟨j - i, by omega⟩
  rw [Int.pow_add]
  have h1 : (0 : Int) < 256 ^ i := Int.pow_pos (by decide)
  have h2 : (0 : Int) < 256 ^ k := Int.pow_pos (by decide)
  have := Int.mul_le_mul_of_nonneg_left (show (1 : Int) ≤ 256 ^ k by omega) (show (0 : Int) ≤ 256 ^ i by omega)
  omega
theorem pow_eq (i : Nat) : (2 : Int) ^ (8 * i) = 256 ^ i := by
  rw [Int.pow_mul]; rfl
theorem or_low (i : Nat) (y x : Int) (hi : 8 * i + 8 ≤ 64) (h0 : 0 ≤ y) (h1 : y < 256 ^ i) (g0 : 0 ≤ x) (g1 : x < 256) : bits .or .u64 y (x * 256 ^ i) = y + x * 256 ^ i := by
  have hp : (256 : Int) ^ i * 256 ≤ 18446744073709551616 := by
    have : (256 : Int) ^ i * 256 = 2 ^ (8 * i + 8) := by rw [Int.pow_add, pow_eq]; rfl
    rw [this]
    have : (18446744073709551616 : Int) = 2 ^ 64 := by decide
    rw [this]
    exact_mod_cast Nat.pow_le_pow_right (by decide) hi
  have hp0 : (0 : Int) < 256 ^ i := Int.pow_pos (by decide)
  have hm : x * 256 ^ i ≤ 255 * 256 ^ i := Int.mul_le_mul_of_nonneg_right (by omega) (by omega)
  have hm0 : 0 ≤ x * 256 ^ i := Int.mul_nonneg g0 (by omega)
  refine bits_join_low .u64 64 (by decide) (fun n h0 h1 => wraps_u64 n h0 h1) (8 * i) y (x * 256 ^ i) h0 (by rw [pow_eq]; exact h1) ?_ hm0 (by rw [pow_eq]; exact Int.mul_emod_left _ _) ?_
  · have : (2 : Int) ^ 64 = 18446744073709551616 := by decide
    rw [this]; omega
  · have : (2 : Int) ^ 64 = 18446744073709551616 := by decide
    rw [this]; omega
/-- Is the number that stands ahead not larger than what there is? -/
def sizedB (data : List Int) : Bool := decide (data.length < 8) || decide (valb (data.take 8) ≤ data.length)
theorem sized_ev (data : List Int) (hb : ∀ x ∈ data, 0 ≤ x ∧ x < 256) (hn : data.length ≤ 1000000000000) : Ev (fun k => impl_sized.f k data) (sizedB data) := by
  by_cases h8 : (data.length : Int) < 8
  · refine Ev.congr (f := fun _ => some true) (fun k => by unfold impl_sized.f; rw [if_pos h8]) ?_
    have : sizedB data = true := by
      unfold sizedB
      rw [decide_eq_true (show data.length < 8 by omega), Bool.true_or]
    rw [this]
    exact Ev.now _
  · have loop : ∀ (d i : Nat), 8 - i = d → i ≤ 8 → Ev (fun k => impl_sized.l0 k data (valb (data.take i)) (i : Int)) (sizedB data) := by
      intro d
      induction d with
      | zero =>
        intro i hd hi
        obtain rfl : i = 8 := by omega
        refine Ev.step (f := fun _ => some (sizedB data)) (fun k => ?_) (Ev.now _)
        simp only [impl_sized.l0]
        rw [if_neg (by omega)]
        have : IntKind.u64.wrap (data.length : Int) = data.length := by rw [wrapu]; omega
        rw [this]
        unfold sizedB
        have h1 : decide (data.length < 8) = false := decide_eq_false (by omega)
        rw [h1, Bool.false_or]
      | succ d ih =>
        intro i hd hi
        have hlt : i < data.length := by omega
        have hx := hb _ (List.getElem_mem hlt)
        have hv := valb_lt (data.take i) (fun x hx => hb x (List.mem_of_mem_take hx))
        rw [List.length_take, Nat.min_eq_left (by omega)] at hv
        have e1 : wrap64 ((i : Int) + 1) = ((i + 1 : Nat) : Int) := by rw [wrap_ok (by omega) (by omega)]; omega
        have e2 : wrap64 (8 * (i : Int)) = ((8 * i : Nat) : Int) := by rw [wrap_ok (by omega) (by omega)]; omega
        have e3 : IntKind.u64.wrap data[i] = data[i] := by rw [wrapu]; omega
        have e4 : shl .u64 data[i] ((8 * i : Nat) : Int) = data[i] * 256 ^ i := by
          unfold shl
          rw [Int.toNat_natCast, show min (8 * i) (IntKind.u64.bits) = 8 * i from Nat.min_eq_left (by simp [IntKind.bits]; omega), pow_eq, wrapu]
          have hp : (256 : Int) ^ i ≤ 72057594037927936 := by
            have : (72057594037927936 : Int) = 256 ^ 7 := by decide
            rw [this]
            exact Int.pow_le_pow_right' (by omega)
          have hp0 : (0 : Int) < 256 ^ i := Int.pow_pos (by decide)
          have hm : data[i] * 256 ^ i ≤ 255 * 256 ^ i := Int.mul_le_mul_of_nonneg_right (by omega) (by omega)
          have hm0 : 0 ≤ data[i] * 256 ^ i := Int.mul_nonneg (by omega) (by omega)
          omega
        have e5 : valb (data.take (i + 1)) = valb (data.take i) + data[i] * 256 ^ i := by
          rw [List.take_succ_eq_append_getElem hlt, valb_app, List.length_take, Nat.min_eq_left (by omega)]
          simp [valb]
        refine Ev.step (fun k => ?_) (ih (i + 1) (by omega) (by omega))
        simp only [impl_sized.l0]
        rw [if_pos (by omega), if_pos (by omega), if_pos (by omega), e2, if_pos (by omega), rd_get _ _ hlt, e3, e4, or_low i _ _ (by omega) hv.1 hv.2 hx.1 hx.2, e1, e5]
    refine Ev.congr (f := fun k => impl_sized.l0 k data (valb (data.take 0)) ((0 : Nat) : Int)) (fun k => by unfold impl_sized.f; rw [if_neg h8]; rfl) (loop 8 0 rfl (by omega))

end Go.Proofs.YtaejkbjepbifcabDoor.Num
