-- Written by a program of ours out of the kit's print program.
import Derived.Test.YtckdpckdabfkbabPAx0
import Derived.Test.YtckdpckdabfkbabPAx1
import Derived.Test.YtckdpckdabfkbabPAx2
import Derived.Test.YtckdpckdabfkbabPAx3
import Derived.Test.YtckdpckdabfkbabPAx4
import Derived.Test.YtckdpckdabfkbabPAx5
namespace Go.Proofs.Ytckdpckdabfkbab.PA
open Go.RowKit Go.Proofs.YtckdpckdabfkbabW.PrintWords Go.Proofs.YtckdpckdabfkbabW.PrintLast Go.Proofs.YtckdpckdabfkbabW.PrintMore
attribute [local go_sem] max2_int min2_int max_two min_two max_three min_three max_four min_four   -- for this text's walks alone
set_option linter.unusedVariables false
set_option linter.unusedSimpArgs false

end Go.Proofs.Ytckdpckdabfkbab.PA
