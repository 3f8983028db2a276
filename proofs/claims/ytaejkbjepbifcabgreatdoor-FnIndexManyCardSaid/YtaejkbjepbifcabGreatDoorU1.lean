/- The walks over tries and what they compute: part 1 of several, put together by a program. -/
import Derived.Test.YtaejkbjepbifcabGreatDoorU0
namespace Go.Proofs.YtaejkbjepbifcabGreatDoor.PB
open Go.RowKit Go.Proofs.YtaejkbjepbifcabGreatDoorW.PrintWords Go.Proofs.YtaejkbjepbifcabGreatDoorW.PrintLast Go.Proofs.YtaejkbjepbifcabGreatDoorW.PrintMore
attribute [local go_sem] max2_int min2_int max_two min_two max_three min_three max_four min_four   -- for this text's walks alone
set_option linter.unusedVariables false
set_option linter.unusedSimpArgs false

end Go.Proofs.YtaejkbjepbifcabGreatDoor.PB
