-- The words that this claim needs, out of those that the kit prints (prune.py of this session left the others out).
-- PRINTED WORDS (module Derived/Print/Sized.lean): go-gate-2's, for the rows of laws over slices: an AI agent of Go's test side, Tue Nov 17 2026; no person has read it. Lean checks it.
import Derived.SizedLaws
import Derived.ChangeSlices
namespace Go.Proofs.YtlbmfnjhpojghaaW.PrintWords
open Go.ChangeShapes Go.WideShapes
end Go.Proofs.YtlbmfnjhpojghaaW.PrintWords
