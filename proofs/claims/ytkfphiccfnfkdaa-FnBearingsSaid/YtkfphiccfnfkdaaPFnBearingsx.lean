-- Written by a program of this session (xprint) out of the translation; Lean checks it.
import Derived.Test.YtkfphiccfnfkdaaPFnBearingsx0
import Derived.Test.YtkfphiccfnfkdaaPFnBearingsx1
import Derived.Test.YtkfphiccfnfkdaaPFnBearingsx2
import Derived.Test.YtkfphiccfnfkdaaPFnBearingsx3
namespace Go.Proofs.Ytkfphiccfnfkdaa.PFnBearings
open Go.RowKit Go.Proofs.YtkfphiccfnfkdaaW.PrintWords Go.Proofs.YtkfphiccfnfkdaaW.PrintLast Go.Proofs.YtkfphiccfnfkdaaW.PrintMore
attribute [local go_sem] max2_int min2_int max_two min_two max_three min_three max_four min_four   -- for this text's walks alone
set_option linter.unusedVariables false
set_option linter.unusedSimpArgs false

end Go.Proofs.Ytkfphiccfnfkdaa.PFnBearings
