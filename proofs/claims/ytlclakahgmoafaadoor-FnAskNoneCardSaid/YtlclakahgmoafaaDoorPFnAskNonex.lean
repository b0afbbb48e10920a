-- Written by a program of this session (xprint) out of the translation; Lean checks it.
import Derived.Test.YtlclakahgmoafaaDoorPFnAskNonex0
import Derived.Test.YtlclakahgmoafaaDoorPFnAskNonex1
import Derived.Test.YtlclakahgmoafaaDoorPFnAskNonex2
import Derived.Test.YtlclakahgmoafaaDoorPFnAskNonex3
import Derived.Test.YtlclakahgmoafaaDoorPFnAskNonex4
import Derived.Test.YtlclakahgmoafaaDoorPFnAskNonex5
namespace Go.Proofs.YtlclakahgmoafaaDoor.PFnAskNone
open Go.RowKit Go.Proofs.YtlclakahgmoafaaDoorW.PrintWords Go.Proofs.YtlclakahgmoafaaDoorW.PrintLast Go.Proofs.YtlclakahgmoafaaDoorW.PrintMore
attribute [local go_sem] max2_int min2_int max_two min_two max_three min_three max_four min_four   -- for this text's walks alone
set_option linter.unusedVariables false
set_option linter.unusedSimpArgs false

end Go.Proofs.YtlclakahgmoafaaDoor.PFnAskNone
