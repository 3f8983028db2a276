/- Words of the walks. -/
import Derived.Test.YtaejkbjepbifcabGreatDoorKTab
/-! ### 56. Four, five, six operations that may come up next, in any order -/
namespace Go.Proofs.YtaejkbjepbifcabGreatDoorW.PrintLast
section
variable {P : Program} {ops : Array Oper} {Q : Exit → Act → World → Prop} {md : Region.Mode} {S : World → Prop} {ds : List Nat} {T : Bool × List (List Nat × List Nat)}
end
end Go.Proofs.YtaejkbjepbifcabGreatDoorW.PrintLast
