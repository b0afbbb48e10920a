-- The words that this claim needs, out of those that the kit prints (prune.py of this session left the others out).
import Derived.Test.YtlbmfnjhpojghaaWWords
import Derived.Laws.StructEq
/-! ### 53. '==' of structs as_ one Bool -/
namespace Go.Proofs.YtlbmfnjhpojghaaW.PrintWords
open Go.RowKit
section
variable {P : Program} {d : Nat} {xs ys : Array Value} {f : Field} {fs : List Field} {a b : Value} {r s : Bool} {w : World}
end
end Go.Proofs.YtlbmfnjhpojghaaW.PrintWords
