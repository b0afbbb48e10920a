-- Written by a program of this session (xprint) out of the translation; Lean checks it.
import Derived.Test.YtchkmmbedgolbaaPFnCoverx0
import Derived.Test.YtchkmmbedgolbaaPFnCoverx1
import Derived.Test.YtchkmmbedgolbaaPFnCoverx2
import Derived.Test.YtchkmmbedgolbaaPFnCoverx3
namespace Go.Proofs.Ytchkmmbedgolbaa.PFnCover
open Go.RowKit Go.Proofs.YtchkmmbedgolbaaW.PrintWords Go.Proofs.YtchkmmbedgolbaaW.PrintLast Go.Proofs.YtchkmmbedgolbaaW.PrintMore
attribute [local go_sem] max2_int min2_int max_two min_two max_three min_three max_four min_four   -- for this text's walks alone
set_option linter.unusedVariables false
set_option linter.unusedSimpArgs false

end Go.Proofs.Ytchkmmbedgolbaa.PFnCover
