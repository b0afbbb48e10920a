import Derived.Test.YtchkmmbedgolbaaWInv
import Derived.Test.YtchkmmbedgolbaaWFootNe
namespace Go.Proofs.YtchkmmbedgolbaaW.PrintWords
open Go.RowKit
end Go.Proofs.YtchkmmbedgolbaaW.PrintWords
namespace Go.Proofs.YtchkmmbedgolbaaW.PrintLast
section
variable {ops : Array Oper} {a : Act} {o og : Oper} {g : Nat} {t : Tmp} {u : Bool}
end
end Go.Proofs.YtchkmmbedgolbaaW.PrintLast
