-- Written by a program of this session out of the translation (a copy of the kit's print, turned). Not trusted: Lean checks it.
import Derived.Test.YtllaepgbpmiglaaDoorQFnEscapex0
import Derived.Test.YtllaepgbpmiglaaDoorQFnEscapex1
import Derived.Test.YtllaepgbpmiglaaDoorQFnEscapex2
import Derived.Test.YtllaepgbpmiglaaDoorQFnEscapex3
import Derived.Test.YtllaepgbpmiglaaDoorQFnEscapex4
import Derived.Test.YtllaepgbpmiglaaDoorQFnEscapex5
import Derived.Test.YtllaepgbpmiglaaDoorQFnEscapex6
import Derived.Test.YtllaepgbpmiglaaDoorQFnEscapex7
import Derived.Test.YtllaepgbpmiglaaDoorQFnEscapex8
import Derived.Test.YtllaepgbpmiglaaDoorQFnEscapex9
namespace Go.Proofs.YtllaepgbpmiglaaDoor.QFnEscape
open Go.RowKit Go.Proofs.YtllaepgbpmiglaaDoorW.PrintWords Go.Proofs.YtllaepgbpmiglaaDoorW.PrintLast Go.Proofs.YtllaepgbpmiglaaDoorW.PrintMore
attribute [local go_sem] max2_int min2_int max_two min_two max_three min_three max_four min_four   -- for this text's walks alone
set_option linter.unusedVariables false
set_option linter.unusedSimpArgs false

end Go.Proofs.YtllaepgbpmiglaaDoor.QFnEscape
