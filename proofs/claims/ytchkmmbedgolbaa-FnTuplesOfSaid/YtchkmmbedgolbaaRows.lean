/-
  No cell of these rows narrows 'for every input' (looked for: loops, veiled, ifaces, maps, wideKeys, modest, calm, conditions, laid).
  DERIVED. THE GIVEN ROWS OF THIS SEAT. 5 by the template 'for every input the law returns true; each argument reads behind the call as it read before'; 0 by the template 'total and deterministic' (their statements: YtchkmmbedgolbaaTotals.lean).
  GIVEN WITH THE SEED: the statements are not yours to turn. If you find one false, say at which input.
  Laid BY PROGRAM, IN A SANDBOX (cutbox-rows.mjs): the forced cells as the released guide's own fill.sh prints them over the translation 61dc47b973175063… (all of the seat's roots in one cut). By AI agents, Wed Nov 11 2026. No macro, syntax, notation, axiom, sorry.
-/
import Derived.Test.YtchkmmbedgolbaaChecked
import GoSem.Claim
import GoSem.ClaimJoined
import GoSem.ClaimMapViews
import Derived.JoinedTies
import Derived.KernelRfl
namespace Go.Proofs.Ytchkmmbedgolbaa
/- THE CELL 'sum', in the pinned program and in every row, IS THE sha256 OF THE DUMP (.gsa) THAT YtchkmmbedgolbaaProg.lean LOADS. Nothing in Lean hashes anything: it is a label: what it is worth is what the hold of that sum in a sandbox is worth. -/
noncomputable def Try.pinned : Pinned := { name := "ytchkmmbedgolbaa", sum := "61dc47b973175063e7938c0f39172ddfb140398139cc8fd18d2a2ae1a161a13e", checked := Try.checked }
namespace Rows
def none {H : Type} : Left H := { results := [], args := [] }

/-- 'laws.FnKernClasses': WHATEVER THE INPUT: true; the input reads as it did. -/
def fnKernClassesSpec : ChangeSpec := { name := "fnKernClasses", fn := fun _ => fun
  | [d1, d2, d3, d4, d5] => { results := [.lit (.bool true)], args := [d1, d2, d3, d4, d5] }
  | _ => none }
def fnKernClassesRow : OpenClaim := { program := "ytchkmmbedgolbaa", sum := "61dc47b973175063e7938c0f39172ddfb140398139cc8fd18d2a2ae1a161a13e", func := "given.example/pub-swashbook/laws.FnKernClasses", spec := "fnKernClasses", unfollowed := true, recurses := true, apart := false }
def FnKernClassesSaid : Prop := fnKernClassesRow.holds Try.pinned (OpenSpec.ofChange fnKernClassesSpec)

/-- ITS FALSE NEIGHBOUR: 'it returns false'. Refute it at one input. -/
def fnKernClassesWrong : ChangeSpec := { name := "fnKernClasses", fn := fun _ => fun
  | [d1, d2, d3, d4, d5] => { results := [.lit (.bool false)], args := [d1, d2, d3, d4, d5] }
  | _ => none }
def FnKernClassesWrongFalsely : Prop := fnKernClassesRow.holds Try.pinned (OpenSpec.ofChange fnKernClassesWrong)

/-- 'laws.FnCover': WHATEVER THE INPUT: true; the input reads as it did. -/
def fnCoverSpec : ChangeSpec := { name := "fnCover", fn := fun _ => fun
  | [d1, d2, d3] => { results := [.lit (.bool true)], args := [d1, d2, d3] }
  | _ => none }
def fnCoverRow : OpenClaim := { program := "ytchkmmbedgolbaa", sum := "61dc47b973175063e7938c0f39172ddfb140398139cc8fd18d2a2ae1a161a13e", func := "given.example/pub-swashbook/laws.FnCover", spec := "fnCover", unfollowed := true, recurses := true, apart := false }
def FnCoverSaid : Prop := fnCoverRow.holds Try.pinned (OpenSpec.ofChange fnCoverSpec)

/-- ITS FALSE NEIGHBOUR: 'it returns false'. Refute it at one input. -/
def fnCoverWrong : ChangeSpec := { name := "fnCover", fn := fun _ => fun
  | [d1, d2, d3] => { results := [.lit (.bool false)], args := [d1, d2, d3] }
  | _ => none }
def FnCoverWrongFalsely : Prop := fnCoverRow.holds Try.pinned (OpenSpec.ofChange fnCoverWrong)

/-- 'laws.FnClassOf': WHATEVER THE INPUT: true; the input reads as it did. -/
def fnClassOfSpec : ChangeSpec := { name := "fnClassOf", fn := fun _ => fun
  | [d1, d2, d3, d4] => { results := [.lit (.bool true)], args := [d1, d2, d3, d4] }
  | _ => none }
def fnClassOfRow : OpenClaim := { program := "ytchkmmbedgolbaa", sum := "61dc47b973175063e7938c0f39172ddfb140398139cc8fd18d2a2ae1a161a13e", func := "given.example/pub-swashbook/laws.FnClassOf", spec := "fnClassOf", unfollowed := true, recurses := true, apart := false }
def FnClassOfSaid : Prop := fnClassOfRow.holds Try.pinned (OpenSpec.ofChange fnClassOfSpec)

/-- ITS FALSE NEIGHBOUR: 'it returns false'. Refute it at one input. -/
def fnClassOfWrong : ChangeSpec := { name := "fnClassOf", fn := fun _ => fun
  | [d1, d2, d3, d4] => { results := [.lit (.bool false)], args := [d1, d2, d3, d4] }
  | _ => none }
def FnClassOfWrongFalsely : Prop := fnClassOfRow.holds Try.pinned (OpenSpec.ofChange fnClassOfWrong)

/-- 'laws.FnGlyphSpots': WHATEVER THE INPUT: true; the input reads as it did. -/
def fnGlyphSpotsSpec : ChangeSpec := { name := "fnGlyphSpots", fn := fun _ => fun
  | [d1, d2, d3] => { results := [.lit (.bool true)], args := [d1, d2, d3] }
  | _ => none }
def fnGlyphSpotsRow : OpenClaim := { program := "ytchkmmbedgolbaa", sum := "61dc47b973175063e7938c0f39172ddfb140398139cc8fd18d2a2ae1a161a13e", func := "given.example/pub-swashbook/laws.FnGlyphSpots", spec := "fnGlyphSpots", unfollowed := true, recurses := true, named := ["encoding/binary.BigEndian"], apart := false }
def FnGlyphSpotsSaid : Prop := fnGlyphSpotsRow.holds Try.pinned (OpenSpec.ofChange fnGlyphSpotsSpec)

/-- ITS FALSE NEIGHBOUR: 'it returns false'. Refute it at one input. -/
def fnGlyphSpotsWrong : ChangeSpec := { name := "fnGlyphSpots", fn := fun _ => fun
  | [d1, d2, d3] => { results := [.lit (.bool false)], args := [d1, d2, d3] }
  | _ => none }
def FnGlyphSpotsWrongFalsely : Prop := fnGlyphSpotsRow.holds Try.pinned (OpenSpec.ofChange fnGlyphSpotsWrong)

/-- 'laws.FnTuplesOf': WHATEVER THE INPUT: true; the input reads as it did. -/
def fnTuplesOfSpec : ChangeSpec := { name := "fnTuplesOf", fn := fun _ => fun
  | [d1, d2, d3, d4] => { results := [.lit (.bool true)], args := [d1, d2, d3, d4] }
  | _ => none }
def fnTuplesOfRow : OpenClaim := { program := "ytchkmmbedgolbaa", sum := "61dc47b973175063e7938c0f39172ddfb140398139cc8fd18d2a2ae1a161a13e", func := "given.example/pub-swashbook/laws.FnTuplesOf", spec := "fnTuplesOf", unfollowed := true, recurses := true, named := ["encoding/binary.BigEndian"], apart := false }
def FnTuplesOfSaid : Prop := fnTuplesOfRow.holds Try.pinned (OpenSpec.ofChange fnTuplesOfSpec)

/-- ITS FALSE NEIGHBOUR: 'it returns false'. Refute it at one input. -/
def fnTuplesOfWrong : ChangeSpec := { name := "fnTuplesOf", fn := fun _ => fun
  | [d1, d2, d3, d4] => { results := [.lit (.bool false)], args := [d1, d2, d3, d4] }
  | _ => none }
def FnTuplesOfWrongFalsely : Prop := fnTuplesOfRow.holds Try.pinned (OpenSpec.ofChange fnTuplesOfWrong)

/- THE SECOND FORM. 'bulk': how many values and letters a reading holds, each counted each time it is reached (what is shared counts as often as it is met; a slice's spare places count too). A statement '..UptoSaid' is the law's where the arguments, and the package variables that the reading takes, are together of bulk at most 1048576: NARROWER than '..Said'. Prove '..Said' where nothing that the law and all that it calls make is longer than what came in: it says more and counts as full. Else prove '..UptoSaid'. A law counts once. -/
mutual
def uptoBulk {H : Type} : DataW H → Nat
  | .lit (.string bytes) => bytes.length + 1
  | .lit _ => 1
  | .nil => 1
  | .ptr d => uptoBulk d + 1
  | .slice elems spare => uptoBulkAll elems + uptoBulkAll spare + 1
  | .agg parts => uptoBulkAll parts + 1
  | .iface _ d => uptoBulk d + 1
  | .map entries => uptoBulkEntries entries + 1
  | .held _ => 1
def uptoBulkAll {H : Type} : List (DataW H) → Nat
  | [] => 0
  | d :: r => uptoBulk d + uptoBulkAll r
def uptoBulkEntries {H : Type} : List (Lit × DataW H) → Nat
  | [] => 0
  | x :: r => uptoBulkEntry x + uptoBulkEntries r
def uptoBulkEntry {H : Type} : Lit × DataW H → Nat
  | (.string bytes, d) => bytes.length + uptoBulk d + 1
  | (_, d) => uptoBulk d + 1
 end
def uptoSmall : (H : Type) → List (DataW H) → Bool := fun _ ds => decide (uptoBulkAll ds ≤ 1048576)
def OpenSpec.upto (s : _root_.Go.ChangeSpec) : _root_.Go.OpenSpec := { _root_.Go.OpenSpec.ofChange s with cond := some uptoSmall }

/-- 'laws.FnKernClasses', WHERE WHAT IT READS IS OF BULK AT MOST 1048576: true; the input reads as it did. -/
def fnKernClassesUptoRow : OpenClaim := { program := "ytchkmmbedgolbaa", sum := "61dc47b973175063e7938c0f39172ddfb140398139cc8fd18d2a2ae1a161a13e", func := "given.example/pub-swashbook/laws.FnKernClasses", spec := "fnKernClasses", unfollowed := true, recurses := true, apart := false, narrowed := true }
def FnKernClassesUptoSaid : Prop := fnKernClassesUptoRow.holds Try.pinned (OpenSpec.upto fnKernClassesSpec)

/-- 'laws.FnCover', WHERE WHAT IT READS IS OF BULK AT MOST 1048576: true; the input reads as it did. -/
def fnCoverUptoRow : OpenClaim := { program := "ytchkmmbedgolbaa", sum := "61dc47b973175063e7938c0f39172ddfb140398139cc8fd18d2a2ae1a161a13e", func := "given.example/pub-swashbook/laws.FnCover", spec := "fnCover", unfollowed := true, recurses := true, apart := false, narrowed := true }
def FnCoverUptoSaid : Prop := fnCoverUptoRow.holds Try.pinned (OpenSpec.upto fnCoverSpec)

/-- 'laws.FnClassOf', WHERE WHAT IT READS IS OF BULK AT MOST 1048576: true; the input reads as it did. -/
def fnClassOfUptoRow : OpenClaim := { program := "ytchkmmbedgolbaa", sum := "61dc47b973175063e7938c0f39172ddfb140398139cc8fd18d2a2ae1a161a13e", func := "given.example/pub-swashbook/laws.FnClassOf", spec := "fnClassOf", unfollowed := true, recurses := true, apart := false, narrowed := true }
def FnClassOfUptoSaid : Prop := fnClassOfUptoRow.holds Try.pinned (OpenSpec.upto fnClassOfSpec)

/-- 'laws.FnGlyphSpots', WHERE WHAT IT READS IS OF BULK AT MOST 1048576: true; the input reads as it did. -/
def fnGlyphSpotsUptoRow : OpenClaim := { program := "ytchkmmbedgolbaa", sum := "61dc47b973175063e7938c0f39172ddfb140398139cc8fd18d2a2ae1a161a13e", func := "given.example/pub-swashbook/laws.FnGlyphSpots", spec := "fnGlyphSpots", unfollowed := true, recurses := true, named := ["encoding/binary.BigEndian"], apart := false, narrowed := true }
def FnGlyphSpotsUptoSaid : Prop := fnGlyphSpotsUptoRow.holds Try.pinned (OpenSpec.upto fnGlyphSpotsSpec)

/-- 'laws.FnTuplesOf', WHERE WHAT IT READS IS OF BULK AT MOST 1048576: true; the input reads as it did. -/
def fnTuplesOfUptoRow : OpenClaim := { program := "ytchkmmbedgolbaa", sum := "61dc47b973175063e7938c0f39172ddfb140398139cc8fd18d2a2ae1a161a13e", func := "given.example/pub-swashbook/laws.FnTuplesOf", spec := "fnTuplesOf", unfollowed := true, recurses := true, named := ["encoding/binary.BigEndian"], apart := false, narrowed := true }
def FnTuplesOfUptoSaid : Prop := fnTuplesOfUptoRow.holds Try.pinned (OpenSpec.upto fnTuplesOfSpec)

end Rows
end Go.Proofs.Ytchkmmbedgolbaa
