/- Words of the walks. -/
import Derived.Test.YtaejkbjepbifcabGreatDoorKLast
import Derived.Test.YtaejkbjepbifcabGreatDoorKWords
/-! ### 50. A region's order in a table, made once a region: each step asks the table (numbers alone), not the operations -/
namespace Go.Proofs.YtaejkbjepbifcabGreatDoorW.PrintLast
open Go.Proofs.YtaejkbjepbifcabGreatDoorW.PrintWords (Aside0)
section
variable {md : Region.Mode} {ops : Array Oper} {T : Bool × List (List Nat × List Nat)} {l l' li lj lk : Array Bool} {ds : List Nat} {i j k : Nat}
theorem gd (l : Array Bool) (j : Nat) (b : Bool) : l.getD j b = l.toList.getD j b := by simp [Array.getD_eq_getD_getElem?, List.getD_eq_getElem?_getD]
end
end Go.Proofs.YtaejkbjepbifcabGreatDoorW.PrintLast
