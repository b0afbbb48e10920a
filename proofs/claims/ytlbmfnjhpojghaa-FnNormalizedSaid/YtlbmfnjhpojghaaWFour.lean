-- The words that this claim needs, out of those that the kit prints (prune.py of this session left the others out).
import Derived.Test.YtlbmfnjhpojghaaWTab
/-! ### 56. Four, five, six operations that may come up next, in any order -/
namespace Go.Proofs.YtlbmfnjhpojghaaW.PrintLast
section
variable {P : Program} {ops : Array Oper} {Q : Exit → Act → World → Prop} {md : Region.Mode} {S : World → Prop} {ds : List Nat} {T : Bool × List (List Nat × List Nat)}
end
end Go.Proofs.YtlbmfnjhpojghaaW.PrintLast
