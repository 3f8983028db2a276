/- Words of the walks. -/
import Derived.Test.YtaejkbjepbifcabGreatDoorKTab
/-! ### 57. A region of open order by ONE relation over what is listed so far: each operation is shown once, whatever came up before it -/
namespace Go.Proofs.YtaejkbjepbifcabGreatDoorW.PrintLast
/-- Number i is listed too. -/
def up (b : Nat → Bool) (i : Nat) : Nat → Bool := fun j => if j = i then true else b j
section
variable {P : Program} {ops : Array Oper} {Q : Exit → Act → World → Prop} {md : Region.Mode} {T : Bool × List (List Nat × List Nat)} {B : List Nat} {O : List Nat} {b : Nat → Bool} {i j n : Nat}
end
end Go.Proofs.YtaejkbjepbifcabGreatDoorW.PrintLast
