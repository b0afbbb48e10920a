-- Written by a program of this session (xprint) out of the translation; Lean checks it.
import Derived.Test.YtchkmmbedgolbaaPFnClassOfx0
import Derived.Test.YtchkmmbedgolbaaPFnClassOfx1
import Derived.Test.YtchkmmbedgolbaaPFnClassOfx2
import Derived.Test.YtchkmmbedgolbaaPFnClassOfx3
namespace Go.Proofs.Ytchkmmbedgolbaa.PFnClassOf
open Go.RowKit Go.Proofs.YtchkmmbedgolbaaW.PrintWords Go.Proofs.YtchkmmbedgolbaaW.PrintLast Go.Proofs.YtchkmmbedgolbaaW.PrintMore
attribute [local go_sem] max2_int min2_int max_two min_two max_three min_three max_four min_four   -- for this text's walks alone
set_option linter.unusedVariables false
set_option linter.unusedSimpArgs false

end Go.Proofs.Ytchkmmbedgolbaa.PFnClassOf
