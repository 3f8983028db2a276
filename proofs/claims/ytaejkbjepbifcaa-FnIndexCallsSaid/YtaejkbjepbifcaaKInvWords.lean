/- Words of the walks. -/
import Derived.Test.YtaejkbjepbifcaaKInv
import Derived.Test.YtaejkbjepbifcaaKFootNe
namespace Go.Proofs.YtaejkbjepbifcaaW.PrintWords
open Go.RowKit
end Go.Proofs.YtaejkbjepbifcaaW.PrintWords
namespace Go.Proofs.YtaejkbjepbifcaaW.PrintLast
section
variable {ops : Array Oper} {a : Act} {o og : Oper} {g : Nat} {t : Tmp} {u : Bool}
end
end Go.Proofs.YtaejkbjepbifcaaW.PrintLast
