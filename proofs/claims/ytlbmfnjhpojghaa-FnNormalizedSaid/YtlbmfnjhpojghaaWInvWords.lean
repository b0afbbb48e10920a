-- The words that this claim needs, out of those that the kit prints (prune.py of this session left the others out).
import Derived.Test.YtlbmfnjhpojghaaWInv
import Derived.Test.YtlbmfnjhpojghaaWFootNe
namespace Go.Proofs.YtlbmfnjhpojghaaW.PrintWords
open Go.RowKit
end Go.Proofs.YtlbmfnjhpojghaaW.PrintWords
namespace Go.Proofs.YtlbmfnjhpojghaaW.PrintLast
section
variable {ops : Array Oper} {a : Act} {o og : Oper} {g : Nat} {t : Tmp} {u : Bool}
end
end Go.Proofs.YtlbmfnjhpojghaaW.PrintLast
