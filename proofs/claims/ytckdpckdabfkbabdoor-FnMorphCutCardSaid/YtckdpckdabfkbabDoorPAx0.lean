-- Written by a program of ours out of the kit's print program.
import Derived.Test.YtckdpckdabfkbabDoorProg
import Derived.Below
import Derived.Deep.Draws
import Derived.Deep.AppendLies
import Derived.Maps.AppendAt
import Derived.OwnWalk
import Derived.Laws.BytesArg
import Derived.Laws.MakeOwn
import Derived.Laws.OwnMore
import Derived.Deep.OwnRows
import Derived.Tactics
import Derived.Lib.ConvBytes
import Derived.Laws.Slices
import Derived.WalkKit
import Derived.KernelRfl
import Derived.RowKit3
import Derived.Deep.LoopGhost
import Derived.Deep.QuietTactic
import Derived.BigQuiet
import Derived.WideLaws
import Derived.Deep.DeepCutAuto
import Derived.Deep.CutBlock
import Derived.Deep.RegionHeld3
import Derived.Laws.Rows
import Derived.Lib.AppendStr
import Derived.ArgAppend
import Derived.Laws.IdiomCopy
import Derived.OrdersHeld
import Derived.Laws.BitsLemmas
import Derived.RowKit
import Derived.WalkSpells
import Derived.Test.YtckdpckdabfkbabDoorOwn
import Derived.Test.YtckdpckdabfkbabDoorWWords
import Derived.Test.YtckdpckdabfkbabDoorWLast
import Derived.Test.YtckdpckdabfkbabDoorWTab
import Derived.Test.YtckdpckdabfkbabDoorWFour
import Derived.Test.YtckdpckdabfkbabDoorWQPut
import Derived.Test.YtckdpckdabfkbabDoorWApart
import Derived.Test.YtckdpckdabfkbabDoorWArr
import Derived.Test.YtckdpckdabfkbabDoorWZeros
import Derived.Test.YtckdpckdabfkbabDoorWFoot
import Derived.Test.YtckdpckdabfkbabDoorWKept
import Derived.Test.YtckdpckdabfkbabDoorWShare
import Derived.Test.YtckdpckdabfkbabDoorWN
import Derived.Test.YtckdpckdabfkbabDoorWFootNe
import Derived.Test.YtckdpckdabfkbabDoorWAt
import Derived.Test.YtckdpckdabfkbabDoorWEqStruct
import Derived.Test.YtckdpckdabfkbabDoorWRepsOne
import Derived.Test.YtckdpckdabfkbabDoorWInv
import Derived.Test.YtckdpckdabfkbabDoorWInvWords
import Derived.Test.YtckdpckdabfkbabDoorWGuard
import Derived.Test.YtckdpckdabfkbabDoorWNEv
import Derived.Test.YtckdpckdabfkbabDoorWMore
namespace Go.Proofs.YtckdpckdabfkbabDoor.PA
open Go.RowKit Go.Proofs.YtckdpckdabfkbabDoorW.PrintWords Go.Proofs.YtckdpckdabfkbabDoorW.PrintLast Go.Proofs.YtckdpckdabfkbabDoorW.PrintMore
attribute [local go_sem] max2_int min2_int max_two min_two max_three min_three max_four min_four   -- for this text's walks alone
set_option linter.unusedVariables false
set_option linter.unusedSimpArgs false



def errW : Option Int → Value
  | none => .nilIface
  | some c => .iface 0 (.int .i64 c)
theorem errW_none : errW none = .nilIface := rfl
theorem errW_some (c : Int) : errW (some c) = .iface 0 (.int .i64 c) := rfl

-- the values' own types

end Go.Proofs.YtckdpckdabfkbabDoor.PA
