-- The words that this claim needs, out of those that the kit prints (prune.py of this session left the others out).
import Derived.Test.YtlbmfnjhpojghaaWN
/-! ### 52. A row that stays read whatever happens to a block (a set of blocks) doesn't lie there -/
namespace Go.Proofs.YtlbmfnjhpojghaaW.PrintWords
open Go.RowKit
namespace Kd
section
variable {α : Type} {d : Kd α} {W : World} {g n : Nat} {S ok : Nat → Prop} {A : Option Addr} {ad : Addr} {xs : List α}
end
end Kd
end Go.Proofs.YtlbmfnjhpojghaaW.PrintWords
