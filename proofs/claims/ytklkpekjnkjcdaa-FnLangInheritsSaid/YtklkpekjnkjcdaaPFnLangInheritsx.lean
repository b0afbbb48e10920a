-- Written by a program of this session (xprint) out of the translation; Lean checks it.
import Derived.Test.YtklkpekjnkjcdaaPFnLangInheritsx0
import Derived.Test.YtklkpekjnkjcdaaPFnLangInheritsx1
import Derived.Test.YtklkpekjnkjcdaaPFnLangInheritsx2
namespace Go.Proofs.Ytklkpekjnkjcdaa.PFnLangInherits
open Go.RowKit Go.Proofs.YtklkpekjnkjcdaaW.PrintWords Go.Proofs.YtklkpekjnkjcdaaW.PrintLast Go.Proofs.YtklkpekjnkjcdaaW.PrintMore
attribute [local go_sem] max2_int min2_int max_two min_two max_three min_three max_four min_four   -- for this text's walks alone
set_option linter.unusedVariables false
set_option linter.unusedSimpArgs false

end Go.Proofs.Ytklkpekjnkjcdaa.PFnLangInherits
