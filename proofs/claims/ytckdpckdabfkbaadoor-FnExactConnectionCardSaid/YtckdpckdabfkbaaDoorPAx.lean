-- Written by a program of ours out of the kit's print program.
import Derived.Test.YtckdpckdabfkbaaDoorPAx0
import Derived.Test.YtckdpckdabfkbaaDoorPAx1
import Derived.Test.YtckdpckdabfkbaaDoorPAx2
namespace Go.Proofs.YtckdpckdabfkbaaDoor.PA
open Go.RowKit Go.Proofs.YtckdpckdabfkbaaDoorW.PrintWords Go.Proofs.YtckdpckdabfkbaaDoorW.PrintLast Go.Proofs.YtckdpckdabfkbaaDoorW.PrintMore
attribute [local go_sem] max2_int min2_int max_two min_two max_three min_three max_four min_four   -- for this text's walks alone
set_option linter.unusedVariables false
set_option linter.unusedSimpArgs false

end Go.Proofs.YtckdpckdabfkbaaDoor.PA
