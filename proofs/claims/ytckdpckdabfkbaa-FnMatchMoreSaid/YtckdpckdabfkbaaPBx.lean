-- Written by a program of ours out of the kit's print program.
import Derived.Test.YtckdpckdabfkbaaPBx0
import Derived.Test.YtckdpckdabfkbaaPBx1
import Derived.Test.YtckdpckdabfkbaaPBx2
namespace Go.Proofs.Ytckdpckdabfkbaa.PB
open Go.RowKit Go.Proofs.YtckdpckdabfkbaaW.PrintWords Go.Proofs.YtckdpckdabfkbaaW.PrintLast Go.Proofs.YtckdpckdabfkbaaW.PrintMore
attribute [local go_sem] max2_int min2_int max_two min_two max_three min_three max_four min_four   -- for this text's walks alone
set_option linter.unusedVariables false
set_option linter.unusedSimpArgs false

end Go.Proofs.Ytckdpckdabfkbaa.PB
