/- Words of the walks. -/
import Derived.Test.YtaejkbjepbifcabGreatDoorKInv
import Derived.Test.YtaejkbjepbifcabGreatDoorKFootNe
namespace Go.Proofs.YtaejkbjepbifcabGreatDoorW.PrintWords
open Go.RowKit
end Go.Proofs.YtaejkbjepbifcabGreatDoorW.PrintWords
namespace Go.Proofs.YtaejkbjepbifcabGreatDoorW.PrintLast
section
variable {ops : Array Oper} {a : Act} {o og : Oper} {g : Nat} {t : Tmp} {u : Bool}
end
end Go.Proofs.YtaejkbjepbifcabGreatDoorW.PrintLast
