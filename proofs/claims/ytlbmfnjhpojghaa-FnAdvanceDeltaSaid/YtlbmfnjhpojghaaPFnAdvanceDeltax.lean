-- Written by a program of this session (xprint) out of the translation; Lean checks it.
import Derived.Test.YtlbmfnjhpojghaaPFnAdvanceDeltax0
import Derived.Test.YtlbmfnjhpojghaaPFnAdvanceDeltax1
import Derived.Test.YtlbmfnjhpojghaaPFnAdvanceDeltax2
import Derived.Test.YtlbmfnjhpojghaaPFnAdvanceDeltax3
import Derived.Test.YtlbmfnjhpojghaaPFnAdvanceDeltax4
import Derived.Test.YtlbmfnjhpojghaaPFnAdvanceDeltax5
import Derived.Test.YtlbmfnjhpojghaaPFnAdvanceDeltax6
import Derived.Test.YtlbmfnjhpojghaaPFnAdvanceDeltax7
import Derived.Test.YtlbmfnjhpojghaaPFnAdvanceDeltax8
import Derived.Test.YtlbmfnjhpojghaaPFnAdvanceDeltax9
namespace Go.Proofs.Ytlbmfnjhpojghaa.PFnAdvanceDelta
open Go.RowKit Go.Proofs.YtlbmfnjhpojghaaW.PrintWords Go.Proofs.YtlbmfnjhpojghaaW.PrintLast Go.Proofs.YtlbmfnjhpojghaaW.PrintMore
attribute [local go_sem] max2_int min2_int max_two min_two max_three min_three max_four min_four   -- for this text's walks alone
set_option linter.unusedVariables false
set_option linter.unusedSimpArgs false

end Go.Proofs.Ytlbmfnjhpojghaa.PFnAdvanceDelta
