-- Written by a program of this session out of the translation (a copy of the kit's print, turned). Not trusted: Lean checks it.
import Derived.Test.YtllaepgbpmiglaaGreatDoorQNumx0
import Derived.Test.YtllaepgbpmiglaaGreatDoorQNumx1
import Derived.Test.YtllaepgbpmiglaaGreatDoorQNumx2
import Derived.Test.YtllaepgbpmiglaaGreatDoorQNumx3
import Derived.Test.YtllaepgbpmiglaaGreatDoorQNumx4
import Derived.Test.YtllaepgbpmiglaaGreatDoorQNumx5
import Derived.Test.YtllaepgbpmiglaaGreatDoorQNumx6
namespace Go.Proofs.YtllaepgbpmiglaaGreatDoor.QNum
open Go.RowKit Go.Proofs.YtllaepgbpmiglaaGreatDoorW.PrintWords Go.Proofs.YtllaepgbpmiglaaGreatDoorW.PrintLast Go.Proofs.YtllaepgbpmiglaaGreatDoorW.PrintMore
attribute [local go_sem] max2_int min2_int max_two min_two max_three min_three max_four min_four   -- for this text's walks alone
set_option linter.unusedVariables false
set_option linter.unusedSimpArgs false

end Go.Proofs.YtllaepgbpmiglaaGreatDoor.QNum
