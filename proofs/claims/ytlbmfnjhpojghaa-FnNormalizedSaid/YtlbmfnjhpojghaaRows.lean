/-
  No cell of these rows narrows 'for every input' (looked for: loops, veiled, ifaces, maps, wideKeys, modest, calm, conditions, laid).
  DERIVED. THE GIVEN ROWS OF THIS SEAT. 5 by the template 'for every input the law returns true; each argument reads behind the call as it read before'; 0 by the template 'total and deterministic' (their statements: YtlbmfnjhpojghaaTotals.lean).
  GIVEN WITH THE SEED: the statements are not yours to turn. If you find one false, say at which input.
  Laid BY PROGRAM, IN A SANDBOX (cutbox-rows.mjs): the forced cells as the released guide's own fill.sh prints them over the translation 2b5307e6d0c21878… (all of the seat's roots in one cut). By AI agents, Wed Nov 11 2026. No macro, syntax, notation, axiom, sorry.
-/
import Derived.Test.YtlbmfnjhpojghaaChecked
import GoSem.Claim
import GoSem.ClaimJoined
import GoSem.ClaimMapViews
import Derived.JoinedTies
import Derived.KernelRfl
namespace Go.Proofs.Ytlbmfnjhpojghaa
/- THE CELL 'sum', in the pinned program and in every row, IS THE sha256 OF THE DUMP (.gsa) THAT YtlbmfnjhpojghaaProg.lean LOADS. Nothing in Lean hashes anything: it is a label: what it is worth is what the hold of that sum in a sandbox is worth. -/
noncomputable def Try.pinned : Pinned := { name := "ytlbmfnjhpojghaa", sum := "2b5307e6d0c21878994fa5cebe30d74034fcd79c9b8cb362b87f06e20d183bfe", checked := Try.checked }
namespace Rows
def none {H : Type} : Left H := { results := [], args := [] }

/-- 'laws.FnDelta': WHATEVER THE INPUT: true; the input reads as it did. -/
def fnDeltaSpec : ChangeSpec := { name := "fnDelta", fn := fun _ => fun
  | [d1, d2, d3, d4, d5, d6] => { results := [.lit (.bool true)], args := [d1, d2, d3, d4, d5, d6] }
  | _ => none }
def fnDeltaRow : OpenClaim := { program := "ytlbmfnjhpojghaa", sum := "2b5307e6d0c21878994fa5cebe30d74034fcd79c9b8cb362b87f06e20d183bfe", func := "given.example/pub-swashbook/laws.FnDelta", spec := "fnDelta", apart := false }
def FnDeltaSaid : Prop := fnDeltaRow.holds Try.pinned (OpenSpec.ofChange fnDeltaSpec)

/-- ITS FALSE NEIGHBOUR: 'it returns false'. Refute it at one input. -/
def fnDeltaWrong : ChangeSpec := { name := "fnDelta", fn := fun _ => fun
  | [d1, d2, d3, d4, d5, d6] => { results := [.lit (.bool false)], args := [d1, d2, d3, d4, d5, d6] }
  | _ => none }
def FnDeltaWrongFalsely : Prop := fnDeltaRow.holds Try.pinned (OpenSpec.ofChange fnDeltaWrong)

/-- 'laws.FnAdvanceDelta': WHATEVER THE INPUT: true; the input reads as it did. -/
def fnAdvanceDeltaSpec : ChangeSpec := { name := "fnAdvanceDelta", fn := fun _ => fun
  | [d1, d2, d3, d4, d5, d6] => { results := [.lit (.bool true)], args := [d1, d2, d3, d4, d5, d6] }
  | _ => none }
def fnAdvanceDeltaRow : OpenClaim := { program := "ytlbmfnjhpojghaa", sum := "2b5307e6d0c21878994fa5cebe30d74034fcd79c9b8cb362b87f06e20d183bfe", func := "given.example/pub-swashbook/laws.FnAdvanceDelta", spec := "fnAdvanceDelta", apart := false }
def FnAdvanceDeltaSaid : Prop := fnAdvanceDeltaRow.holds Try.pinned (OpenSpec.ofChange fnAdvanceDeltaSpec)

/-- ITS FALSE NEIGHBOUR: 'it returns false'. Refute it at one input. -/
def fnAdvanceDeltaWrong : ChangeSpec := { name := "fnAdvanceDelta", fn := fun _ => fun
  | [d1, d2, d3, d4, d5, d6] => { results := [.lit (.bool false)], args := [d1, d2, d3, d4, d5, d6] }
  | _ => none }
def FnAdvanceDeltaWrongFalsely : Prop := fnAdvanceDeltaRow.holds Try.pinned (OpenSpec.ofChange fnAdvanceDeltaWrong)

/-- 'laws.FnContours': WHATEVER THE INPUT: true; the input reads as it did. -/
def fnContoursSpec : ChangeSpec := { name := "fnContours", fn := fun _ => fun
  | [d] => { results := [.lit (.bool true)], args := [d] }
  | _ => none }
def fnContoursRow : OpenClaim := { program := "ytlbmfnjhpojghaa", sum := "2b5307e6d0c21878994fa5cebe30d74034fcd79c9b8cb362b87f06e20d183bfe", func := "given.example/pub-swashbook/laws.FnContours", spec := "fnContours", unfollowed := true, recurses := true, apart := false }
def FnContoursSaid : Prop := fnContoursRow.holds Try.pinned (OpenSpec.ofChange fnContoursSpec)

/-- ITS FALSE NEIGHBOUR: 'it returns false'. Refute it at one input. -/
def fnContoursWrong : ChangeSpec := { name := "fnContours", fn := fun _ => fun
  | [d] => { results := [.lit (.bool false)], args := [d] }
  | _ => none }
def FnContoursWrongFalsely : Prop := fnContoursRow.holds Try.pinned (OpenSpec.ofChange fnContoursWrong)

/-- 'laws.FnVaried': WHATEVER THE INPUT: true; the input reads as it did. -/
def fnVariedSpec : ChangeSpec := { name := "fnVaried", fn := fun _ => fun
  | [d1, d2, d3] => { results := [.lit (.bool true)], args := [d1, d2, d3] }
  | _ => none }
def fnVariedRow : OpenClaim := { program := "ytlbmfnjhpojghaa", sum := "2b5307e6d0c21878994fa5cebe30d74034fcd79c9b8cb362b87f06e20d183bfe", func := "given.example/pub-swashbook/laws.FnVaried", spec := "fnVaried", apart := false }
def FnVariedSaid : Prop := fnVariedRow.holds Try.pinned (OpenSpec.ofChange fnVariedSpec)

/-- ITS FALSE NEIGHBOUR: 'it returns false'. Refute it at one input. -/
def fnVariedWrong : ChangeSpec := { name := "fnVaried", fn := fun _ => fun
  | [d1, d2, d3] => { results := [.lit (.bool false)], args := [d1, d2, d3] }
  | _ => none }
def FnVariedWrongFalsely : Prop := fnVariedRow.holds Try.pinned (OpenSpec.ofChange fnVariedWrong)

/-- 'laws.FnNormalized': WHATEVER THE INPUT: true; the input reads as it did. -/
def fnNormalizedSpec : ChangeSpec := { name := "fnNormalized", fn := fun _ => fun
  | [d1, d2, d3] => { results := [.lit (.bool true)], args := [d1, d2, d3] }
  | _ => none }
def fnNormalizedRow : OpenClaim := { program := "ytlbmfnjhpojghaa", sum := "2b5307e6d0c21878994fa5cebe30d74034fcd79c9b8cb362b87f06e20d183bfe", func := "given.example/pub-swashbook/laws.FnNormalized", spec := "fnNormalized", inPlace := ["slices.overlaps[[2]int]", "math.Float64bits", "math.Float64frombits"], recurses := true, apart := false }
def FnNormalizedSaid : Prop := fnNormalizedRow.holds Try.pinned (OpenSpec.ofChange fnNormalizedSpec)

/-- ITS FALSE NEIGHBOUR: 'it returns false'. Refute it at one input. -/
def fnNormalizedWrong : ChangeSpec := { name := "fnNormalized", fn := fun _ => fun
  | [d1, d2, d3] => { results := [.lit (.bool false)], args := [d1, d2, d3] }
  | _ => none }
def FnNormalizedWrongFalsely : Prop := fnNormalizedRow.holds Try.pinned (OpenSpec.ofChange fnNormalizedWrong)

/- THE SECOND FORM. 'bulk': how many values and letters a reading holds, each counted each time it is reached (what is shared counts as often as it is met; a slice's spare places count too). A statement '..UptoSaid' is the law's where the arguments, and the package variables that the reading takes, are together of bulk at most 1048576: NARROWER than '..Said'. Prove '..Said' where nothing that the law and all that it calls make is longer than what came in: it says more and counts as full. Else prove '..UptoSaid'. A law counts once. -/
mutual
def uptoBulk {H : Type} : DataW H → Nat
  | .lit (.string bytes) => bytes.length + 1
  | .lit _ => 1
  | .nil => 1
  | .ptr d => uptoBulk d + 1
  | .slice elems spare => uptoBulkAll elems + uptoBulkAll spare + 1
  | .agg parts => uptoBulkAll parts + 1
  | .iface _ d => uptoBulk d + 1
  | .map entries => uptoBulkEntries entries + 1
  | .held _ => 1
def uptoBulkAll {H : Type} : List (DataW H) → Nat
  | [] => 0
  | d :: r => uptoBulk d + uptoBulkAll r
def uptoBulkEntries {H : Type} : List (Lit × DataW H) → Nat
  | [] => 0
  | x :: r => uptoBulkEntry x + uptoBulkEntries r
def uptoBulkEntry {H : Type} : Lit × DataW H → Nat
  | (.string bytes, d) => bytes.length + uptoBulk d + 1
  | (_, d) => uptoBulk d + 1
 end
def uptoSmall : (H : Type) → List (DataW H) → Bool := fun _ ds => decide (uptoBulkAll ds ≤ 1048576)
def OpenSpec.upto (s : _root_.Go.ChangeSpec) : _root_.Go.OpenSpec := { _root_.Go.OpenSpec.ofChange s with cond := some uptoSmall }

/-- 'laws.FnDelta', WHERE WHAT IT READS IS OF BULK AT MOST 1048576: true; the input reads as it did. -/
def fnDeltaUptoRow : OpenClaim := { program := "ytlbmfnjhpojghaa", sum := "2b5307e6d0c21878994fa5cebe30d74034fcd79c9b8cb362b87f06e20d183bfe", func := "given.example/pub-swashbook/laws.FnDelta", spec := "fnDelta", apart := false, narrowed := true }
def FnDeltaUptoSaid : Prop := fnDeltaUptoRow.holds Try.pinned (OpenSpec.upto fnDeltaSpec)

/-- 'laws.FnAdvanceDelta', WHERE WHAT IT READS IS OF BULK AT MOST 1048576: true; the input reads as it did. -/
def fnAdvanceDeltaUptoRow : OpenClaim := { program := "ytlbmfnjhpojghaa", sum := "2b5307e6d0c21878994fa5cebe30d74034fcd79c9b8cb362b87f06e20d183bfe", func := "given.example/pub-swashbook/laws.FnAdvanceDelta", spec := "fnAdvanceDelta", apart := false, narrowed := true }
def FnAdvanceDeltaUptoSaid : Prop := fnAdvanceDeltaUptoRow.holds Try.pinned (OpenSpec.upto fnAdvanceDeltaSpec)

/-- 'laws.FnContours', WHERE WHAT IT READS IS OF BULK AT MOST 1048576: true; the input reads as it did. -/
def fnContoursUptoRow : OpenClaim := { program := "ytlbmfnjhpojghaa", sum := "2b5307e6d0c21878994fa5cebe30d74034fcd79c9b8cb362b87f06e20d183bfe", func := "given.example/pub-swashbook/laws.FnContours", spec := "fnContours", unfollowed := true, recurses := true, apart := false, narrowed := true }
def FnContoursUptoSaid : Prop := fnContoursUptoRow.holds Try.pinned (OpenSpec.upto fnContoursSpec)

/-- 'laws.FnVaried', WHERE WHAT IT READS IS OF BULK AT MOST 1048576: true; the input reads as it did. -/
def fnVariedUptoRow : OpenClaim := { program := "ytlbmfnjhpojghaa", sum := "2b5307e6d0c21878994fa5cebe30d74034fcd79c9b8cb362b87f06e20d183bfe", func := "given.example/pub-swashbook/laws.FnVaried", spec := "fnVaried", apart := false, narrowed := true }
def FnVariedUptoSaid : Prop := fnVariedUptoRow.holds Try.pinned (OpenSpec.upto fnVariedSpec)

/-- 'laws.FnNormalized', WHERE WHAT IT READS IS OF BULK AT MOST 1048576: true; the input reads as it did. -/
def fnNormalizedUptoRow : OpenClaim := { program := "ytlbmfnjhpojghaa", sum := "2b5307e6d0c21878994fa5cebe30d74034fcd79c9b8cb362b87f06e20d183bfe", func := "given.example/pub-swashbook/laws.FnNormalized", spec := "fnNormalized", inPlace := ["slices.overlaps[[2]int]", "math.Float64bits", "math.Float64frombits"], recurses := true, apart := false, narrowed := true }
def FnNormalizedUptoSaid : Prop := fnNormalizedUptoRow.holds Try.pinned (OpenSpec.upto fnNormalizedSpec)

end Rows
end Go.Proofs.Ytlbmfnjhpojghaa
