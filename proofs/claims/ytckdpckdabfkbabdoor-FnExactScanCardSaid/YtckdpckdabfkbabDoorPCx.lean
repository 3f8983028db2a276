-- Written by a program of ours out of the kit's print program.
import Derived.Test.YtckdpckdabfkbabDoorPCx0
import Derived.Test.YtckdpckdabfkbabDoorPCx1
import Derived.Test.YtckdpckdabfkbabDoorPCx2
import Derived.Test.YtckdpckdabfkbabDoorPCx3
import Derived.Test.YtckdpckdabfkbabDoorPCx4
namespace Go.Proofs.YtckdpckdabfkbabDoor.PC
open Go.RowKit Go.Proofs.YtckdpckdabfkbabDoorW.PrintWords Go.Proofs.YtckdpckdabfkbabDoorW.PrintLast Go.Proofs.YtckdpckdabfkbabDoorW.PrintMore
attribute [local go_sem] max2_int min2_int max_two min_two max_three min_three max_four min_four   -- for this text's walks alone
set_option linter.unusedVariables false
set_option linter.unusedSimpArgs false

end Go.Proofs.YtckdpckdabfkbabDoor.PC
