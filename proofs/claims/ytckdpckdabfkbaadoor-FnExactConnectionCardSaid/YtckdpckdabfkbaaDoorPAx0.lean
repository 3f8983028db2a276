-- Written by a program of ours out of the kit's print program.
import Derived.Test.YtckdpckdabfkbaaDoorProg
import Derived.Below
import Derived.Deep.Draws
import Derived.Deep.AppendLies
import Derived.Maps.AppendAt
import Derived.OwnWalk
import Derived.Laws.BytesArg
import Derived.Laws.MakeOwn
import Derived.Laws.OwnMore
import Derived.Deep.OwnRows
import Derived.Tactics
import Derived.Lib.ConvBytes
import Derived.Laws.Slices
import Derived.WalkKit
import Derived.KernelRfl
import Derived.RowKit3
import Derived.Deep.LoopGhost
import Derived.Deep.QuietTactic
import Derived.BigQuiet
import Derived.WideLaws
import Derived.Deep.DeepCutAuto
import Derived.Deep.CutBlock
import Derived.Deep.RegionHeld3
import Derived.Laws.Rows
import Derived.Lib.AppendStr
import Derived.ArgAppend
import Derived.Laws.IdiomCopy
import Derived.OrdersHeld
import Derived.Laws.BitsLemmas
import Derived.RowKit
import Derived.WalkSpells
import Derived.Test.YtckdpckdabfkbaaDoorOwn
import Derived.Test.YtckdpckdabfkbaaDoorWWords
import Derived.Test.YtckdpckdabfkbaaDoorWLast
import Derived.Test.YtckdpckdabfkbaaDoorWTab
import Derived.Test.YtckdpckdabfkbaaDoorWFour
import Derived.Test.YtckdpckdabfkbaaDoorWQPut
import Derived.Test.YtckdpckdabfkbaaDoorWApart
import Derived.Test.YtckdpckdabfkbaaDoorWArr
import Derived.Test.YtckdpckdabfkbaaDoorWZeros
import Derived.Test.YtckdpckdabfkbaaDoorWFoot
import Derived.Test.YtckdpckdabfkbaaDoorWKept
import Derived.Test.YtckdpckdabfkbaaDoorWShare
import Derived.Test.YtckdpckdabfkbaaDoorWN
import Derived.Test.YtckdpckdabfkbaaDoorWFootNe
import Derived.Test.YtckdpckdabfkbaaDoorWAt
import Derived.Test.YtckdpckdabfkbaaDoorWEqStruct
import Derived.Test.YtckdpckdabfkbaaDoorWRepsOne
import Derived.Test.YtckdpckdabfkbaaDoorWInv
import Derived.Test.YtckdpckdabfkbaaDoorWInvWords
import Derived.Test.YtckdpckdabfkbaaDoorWGuard
import Derived.Test.YtckdpckdabfkbaaDoorWNEv
import Derived.Test.YtckdpckdabfkbaaDoorWMore
namespace Go.Proofs.YtckdpckdabfkbaaDoor.PA
open Go.RowKit Go.Proofs.YtckdpckdabfkbaaDoorW.PrintWords Go.Proofs.YtckdpckdabfkbaaDoorW.PrintLast Go.Proofs.YtckdpckdabfkbaaDoorW.PrintMore
attribute [local go_sem] max2_int min2_int max_two min_two max_three min_three max_four min_four   -- for this text's walks alone
set_option linter.unusedVariables false
set_option linter.unusedSimpArgs false



def errW : Option Int → Value
  | none => .nilIface
  | some c => .iface 0 (.int .i64 c)
theorem errW_none : errW none = .nilIface := rfl
theorem errW_some (c : Int) : errW (some c) = .iface 0 (.int .i64 c) := rfl

theorem info5 : (Tryd.prog.info? 5).map (fun i => (i.zero, i.size, i.bytes)) = some (some (.int .u8 0), 1, 1) := by kernel_rfl
-- the values' own types

end Go.Proofs.YtckdpckdabfkbaaDoor.PA
