-- Written by a program of this session (xprint) out of the translation; Lean checks it.
import Derived.Test.YtlbmfnjhpojghaaPFnDeltax0
import Derived.Test.YtlbmfnjhpojghaaPFnDeltax1
import Derived.Test.YtlbmfnjhpojghaaPFnDeltax2
import Derived.Test.YtlbmfnjhpojghaaPFnDeltax3
import Derived.Test.YtlbmfnjhpojghaaPFnDeltax4
import Derived.Test.YtlbmfnjhpojghaaPFnDeltax5
import Derived.Test.YtlbmfnjhpojghaaPFnDeltax6
import Derived.Test.YtlbmfnjhpojghaaPFnDeltax7
import Derived.Test.YtlbmfnjhpojghaaPFnDeltax8
namespace Go.Proofs.Ytlbmfnjhpojghaa.PFnDelta
open Go.RowKit Go.Proofs.YtlbmfnjhpojghaaW.PrintWords Go.Proofs.YtlbmfnjhpojghaaW.PrintLast Go.Proofs.YtlbmfnjhpojghaaW.PrintMore
attribute [local go_sem] max2_int min2_int max_two min_two max_three min_three max_four min_four   -- for this text's walks alone
set_option linter.unusedVariables false
set_option linter.unusedSimpArgs false

end Go.Proofs.Ytlbmfnjhpojghaa.PFnDelta
