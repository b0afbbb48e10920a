-- Written by a program of this session (xprint) out of the translation; Lean checks it.
import Derived.Test.YtlclakahgmoafaaDoorPFnAskOfx0
import Derived.Test.YtlclakahgmoafaaDoorPFnAskOfx1
import Derived.Test.YtlclakahgmoafaaDoorPFnAskOfx2
import Derived.Test.YtlclakahgmoafaaDoorPFnAskOfx3
import Derived.Test.YtlclakahgmoafaaDoorPFnAskOfx4
import Derived.Test.YtlclakahgmoafaaDoorPFnAskOfx5
import Derived.Test.YtlclakahgmoafaaDoorPFnAskOfx6
import Derived.Test.YtlclakahgmoafaaDoorPFnAskOfx7
namespace Go.Proofs.YtlclakahgmoafaaDoor.PFnAskOf
open Go.RowKit Go.Proofs.YtlclakahgmoafaaDoorW.PrintWords Go.Proofs.YtlclakahgmoafaaDoorW.PrintLast Go.Proofs.YtlclakahgmoafaaDoorW.PrintMore
attribute [local go_sem] max2_int min2_int max_two min_two max_three min_three max_four min_four   -- for this text's walks alone
set_option linter.unusedVariables false
set_option linter.unusedSimpArgs false

end Go.Proofs.YtlclakahgmoafaaDoor.PFnAskOf
