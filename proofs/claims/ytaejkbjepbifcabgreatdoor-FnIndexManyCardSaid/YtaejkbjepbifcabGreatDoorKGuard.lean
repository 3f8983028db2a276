/- Words of the walks. -/
import Derived.Test.YtaejkbjepbifcabGreatDoorKWords
/-! ### 58. A guarded operation whose guard is known to want it: the same goal without the guard -/
namespace Go.Proofs.YtaejkbjepbifcabGreatDoorW.PrintWords
open Go.RowKit
section
variable {P : Program} {ops : Array Oper} {rest : List Oper} {o : Oper} {a : Act} {Q : Exit → Act → World → Prop} {W : World}
end
end Go.Proofs.YtaejkbjepbifcabGreatDoorW.PrintWords
