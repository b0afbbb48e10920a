/-
  No cell of these rows narrows 'for every input' (looked for: loops, veiled, ifaces, maps, wideKeys, modest, calm, conditions, laid).
  DERIVED. THE GIVEN ROWS OF THIS SEAT. 11 by the template 'for every input the law returns true; each argument reads behind the call as it read before'; 0 by the template 'total and deterministic' (their statements: YtkfphiccfnfkdaaTotals.lean).
  GIVEN WITH THE SEED: the statements are not yours to turn. If you find one false, say at which input.
  Laid BY PROGRAM, IN A SANDBOX (cutbox-rows.mjs): the forced cells as the released guide's own fill.sh prints them over the translation de61415ce46e9536… (all of the seat's roots in one cut). By AI agents, Wed Nov 11 2026. No macro, syntax, notation, axiom, sorry.
-/
import Derived.Test.YtkfphiccfnfkdaaChecked
import GoSem.Claim
import GoSem.ClaimJoined
import GoSem.ClaimMapViews
import Derived.JoinedTies
import Derived.KernelRfl
namespace Go.Proofs.Ytkfphiccfnfkdaa
/- THE CELL 'sum', in the pinned program and in every row, IS THE sha256 OF THE DUMP (.gsa) THAT YtkfphiccfnfkdaaProg.lean LOADS. Nothing in Lean hashes anything: it is a label: what it is worth is what the hold of that sum in a sandbox is worth. -/
noncomputable def Try.pinned : Pinned := { name := "ytkfphiccfnfkdaa", sum := "de61415ce46e9536d2159c1d3aae1d4150f45c2f5609a12a976920d87e8bcf49", checked := Try.checked }
namespace Rows
def none {H : Type} : Left H := { results := [], args := [] }

/-- 'laws.FnTurned': WHATEVER THE INPUT: true; the input reads as it did. -/
def fnTurnedSpec : ChangeSpec := { name := "fnTurned", fn := fun _ => fun
  | [d] => { results := [.lit (.bool true)], args := [d] }
  | _ => none }
def fnTurnedRow : OpenClaim := { program := "ytkfphiccfnfkdaa", sum := "de61415ce46e9536d2159c1d3aae1d4150f45c2f5609a12a976920d87e8bcf49", func := "given.example/pub-swashbook/laws.FnTurned", spec := "fnTurned", apart := false }
def FnTurnedSaid : Prop := fnTurnedRow.holds Try.pinned (OpenSpec.ofChange fnTurnedSpec)

/-- ITS FALSE NEIGHBOUR: 'it returns false'. Refute it at one input. -/
def fnTurnedWrong : ChangeSpec := { name := "fnTurned", fn := fun _ => fun
  | [d] => { results := [.lit (.bool false)], args := [d] }
  | _ => none }
def FnTurnedWrongFalsely : Prop := fnTurnedRow.holds Try.pinned (OpenSpec.ofChange fnTurnedWrong)

/-- 'laws.FnLangDerived': WHATEVER THE INPUT: true; the input reads as it did. -/
def fnLangDerivedSpec : ChangeSpec := { name := "fnLangDerived", fn := fun _ => fun
  | [d1, d2] => { results := [.lit (.bool true)], args := [d1, d2] }
  | _ => none }
def fnLangDerivedRow : OpenClaim := { program := "ytkfphiccfnfkdaa", sum := "de61415ce46e9536d2159c1d3aae1d4150f45c2f5609a12a976920d87e8bcf49", func := "given.example/pub-swashbook/laws.FnLangDerived", spec := "fnLangDerived", inPlace := ["internal/bytealg.IndexByteString"], apart := false }
def FnLangDerivedSaid : Prop := fnLangDerivedRow.holds Try.pinned (OpenSpec.ofChange fnLangDerivedSpec)

/-- ITS FALSE NEIGHBOUR: 'it returns false'. Refute it at one input. -/
def fnLangDerivedWrong : ChangeSpec := { name := "fnLangDerived", fn := fun _ => fun
  | [d1, d2] => { results := [.lit (.bool false)], args := [d1, d2] }
  | _ => none }
def FnLangDerivedWrongFalsely : Prop := fnLangDerivedRow.holds Try.pinned (OpenSpec.ofChange fnLangDerivedWrong)

/-- 'laws.FnScriptParse': WHATEVER THE INPUT: true; the input reads as it did. -/
def fnScriptParseSpec : ChangeSpec := { name := "fnScriptParse", fn := fun _ => fun
  | [d1, d2] => { results := [.lit (.bool true)], args := [d1, d2] }
  | _ => none }
def fnScriptParseRow : OpenClaim := { program := "ytkfphiccfnfkdaa", sum := "de61415ce46e9536d2159c1d3aae1d4150f45c2f5609a12a976920d87e8bcf49", func := "given.example/pub-swashbook/laws.FnScriptParse", spec := "fnScriptParse", named := ["encoding/binary.BigEndian"], apart := false }
def FnScriptParseSaid : Prop := fnScriptParseRow.holds Try.pinned (OpenSpec.ofChange fnScriptParseSpec)

/-- ITS FALSE NEIGHBOUR: 'it returns false'. Refute it at one input. -/
def fnScriptParseWrong : ChangeSpec := { name := "fnScriptParse", fn := fun _ => fun
  | [d1, d2] => { results := [.lit (.bool false)], args := [d1, d2] }
  | _ => none }
def FnScriptParseWrongFalsely : Prop := fnScriptParseRow.holds Try.pinned (OpenSpec.ofChange fnScriptParseWrong)

/-- 'laws.FnLangPrimary': WHATEVER THE INPUT: true; the input reads as it did. -/
def fnLangPrimarySpec : ChangeSpec := { name := "fnLangPrimary", fn := fun _ => fun
  | [d] => { results := [.lit (.bool true)], args := [d] }
  | _ => none }
def fnLangPrimaryRow : OpenClaim := { program := "ytkfphiccfnfkdaa", sum := "de61415ce46e9536d2159c1d3aae1d4150f45c2f5609a12a976920d87e8bcf49", func := "given.example/pub-swashbook/laws.FnLangPrimary", spec := "fnLangPrimary", inPlace := ["internal/bytealg.IndexByteString"], apart := false }
def FnLangPrimarySaid : Prop := fnLangPrimaryRow.holds Try.pinned (OpenSpec.ofChange fnLangPrimarySpec)

/-- ITS FALSE NEIGHBOUR: 'it returns false'. Refute it at one input. -/
def fnLangPrimaryWrong : ChangeSpec := { name := "fnLangPrimary", fn := fun _ => fun
  | [d] => { results := [.lit (.bool false)], args := [d] }
  | _ => none }
def FnLangPrimaryWrongFalsely : Prop := fnLangPrimaryRow.holds Try.pinned (OpenSpec.ofChange fnLangPrimaryWrong)

/-- 'laws.FnBearings': WHATEVER THE INPUT: true; the input reads as it did. -/
def fnBearingsSpec : ChangeSpec := { name := "fnBearings", fn := fun _ => fun
  | [d] => { results := [.lit (.bool true)], args := [d] }
  | _ => none }
def fnBearingsRow : OpenClaim := { program := "ytkfphiccfnfkdaa", sum := "de61415ce46e9536d2159c1d3aae1d4150f45c2f5609a12a976920d87e8bcf49", func := "given.example/pub-swashbook/laws.FnBearings", spec := "fnBearings", unfollowed := true, recurses := true, apart := false }
def FnBearingsSaid : Prop := fnBearingsRow.holds Try.pinned (OpenSpec.ofChange fnBearingsSpec)

/-- ITS FALSE NEIGHBOUR: 'it returns false'. Refute it at one input. -/
def fnBearingsWrong : ChangeSpec := { name := "fnBearings", fn := fun _ => fun
  | [d] => { results := [.lit (.bool false)], args := [d] }
  | _ => none }
def FnBearingsWrongFalsely : Prop := fnBearingsRow.holds Try.pinned (OpenSpec.ofChange fnBearingsWrong)

/-- 'laws.FnLangCompare': WHATEVER THE INPUT: true; the input reads as it did. -/
def fnLangCompareSpec : ChangeSpec := { name := "fnLangCompare", fn := fun _ => fun
  | [d1, d2] => { results := [.lit (.bool true)], args := [d1, d2] }
  | _ => none }
def fnLangCompareRow : OpenClaim := { program := "ytkfphiccfnfkdaa", sum := "de61415ce46e9536d2159c1d3aae1d4150f45c2f5609a12a976920d87e8bcf49", func := "given.example/pub-swashbook/laws.FnLangCompare", spec := "fnLangCompare", inPlace := ["internal/bytealg.IndexByteString"], apart := false }
def FnLangCompareSaid : Prop := fnLangCompareRow.holds Try.pinned (OpenSpec.ofChange fnLangCompareSpec)

/-- ITS FALSE NEIGHBOUR: 'it returns false'. Refute it at one input. -/
def fnLangCompareWrong : ChangeSpec := { name := "fnLangCompare", fn := fun _ => fun
  | [d1, d2] => { results := [.lit (.bool false)], args := [d1, d2] }
  | _ => none }
def FnLangCompareWrongFalsely : Prop := fnLangCompareRow.holds Try.pinned (OpenSpec.ofChange fnLangCompareWrong)

/-- 'laws.FnScriptTells': WHATEVER THE INPUT: true; the input reads as it did. -/
def fnScriptTellsSpec : ChangeSpec := { name := "fnScriptTells", fn := fun _ => fun
  | [d] => { results := [.lit (.bool true)], args := [d] }
  | _ => none }
def fnScriptTellsRow : OpenClaim := { program := "ytkfphiccfnfkdaa", sum := "de61415ce46e9536d2159c1d3aae1d4150f45c2f5609a12a976920d87e8bcf49", func := "given.example/pub-swashbook/laws.FnScriptTells", spec := "fnScriptTells", named := ["encoding/binary.BigEndian"], apart := false }
def FnScriptTellsSaid : Prop := fnScriptTellsRow.holds Try.pinned (OpenSpec.ofChange fnScriptTellsSpec)

/-- ITS FALSE NEIGHBOUR: 'it returns false'. Refute it at one input. -/
def fnScriptTellsWrong : ChangeSpec := { name := "fnScriptTells", fn := fun _ => fun
  | [d] => { results := [.lit (.bool false)], args := [d] }
  | _ => none }
def FnScriptTellsWrongFalsely : Prop := fnScriptTellsRow.holds Try.pinned (OpenSpec.ofChange fnScriptTellsWrong)

/-- 'laws.FnKerned': WHATEVER THE INPUT: true; the input reads as it did. -/
def fnKernedSpec : ChangeSpec := { name := "fnKerned", fn := fun _ => fun
  | [d1, d2, d3, d4, d5] => { results := [.lit (.bool true)], args := [d1, d2, d3, d4, d5] }
  | _ => none }
def fnKernedRow : OpenClaim := { program := "ytkfphiccfnfkdaa", sum := "de61415ce46e9536d2159c1d3aae1d4150f45c2f5609a12a976920d87e8bcf49", func := "given.example/pub-swashbook/laws.FnKerned", spec := "fnKerned", apart := false }
def FnKernedSaid : Prop := fnKernedRow.holds Try.pinned (OpenSpec.ofChange fnKernedSpec)

/-- ITS FALSE NEIGHBOUR: 'it returns false'. Refute it at one input. -/
def fnKernedWrong : ChangeSpec := { name := "fnKerned", fn := fun _ => fun
  | [d1, d2, d3, d4, d5] => { results := [.lit (.bool false)], args := [d1, d2, d3, d4, d5] }
  | _ => none }
def FnKernedWrongFalsely : Prop := fnKernedRow.holds Try.pinned (OpenSpec.ofChange fnKernedWrong)

/-- 'laws.FnLangSplit': WHATEVER THE INPUT: true; the input reads as it did. -/
def fnLangSplitSpec : ChangeSpec := { name := "fnLangSplit", fn := fun _ => fun
  | [d] => { results := [.lit (.bool true)], args := [d] }
  | _ => none }
def fnLangSplitRow : OpenClaim := { program := "ytkfphiccfnfkdaa", sum := "de61415ce46e9536d2159c1d3aae1d4150f45c2f5609a12a976920d87e8bcf49", func := "given.example/pub-swashbook/laws.FnLangSplit", spec := "fnLangSplit", inPlace := ["internal/bytealg.IndexByteString"], apart := false }
def FnLangSplitSaid : Prop := fnLangSplitRow.holds Try.pinned (OpenSpec.ofChange fnLangSplitSpec)

/-- ITS FALSE NEIGHBOUR: 'it returns false'. Refute it at one input. -/
def fnLangSplitWrong : ChangeSpec := { name := "fnLangSplit", fn := fun _ => fun
  | [d] => { results := [.lit (.bool false)], args := [d] }
  | _ => none }
def FnLangSplitWrongFalsely : Prop := fnLangSplitRow.holds Try.pinned (OpenSpec.ofChange fnLangSplitWrong)

/-- 'laws.FnIgnorable': WHATEVER THE INPUT: true; the input reads as it did. -/
def fnIgnorableSpec : ChangeSpec := { name := "fnIgnorable", fn := fun _ => fun
  | [d] => { results := [.lit (.bool true)], args := [d] }
  | _ => none }
def fnIgnorableRow : OpenClaim := { program := "ytkfphiccfnfkdaa", sum := "de61415ce46e9536d2159c1d3aae1d4150f45c2f5609a12a976920d87e8bcf49", func := "given.example/pub-swashbook/laws.FnIgnorable", spec := "fnIgnorable", apart := false }
def FnIgnorableSaid : Prop := fnIgnorableRow.holds Try.pinned (OpenSpec.ofChange fnIgnorableSpec)

/-- ITS FALSE NEIGHBOUR: 'it returns false'. Refute it at one input. -/
def fnIgnorableWrong : ChangeSpec := { name := "fnIgnorable", fn := fun _ => fun
  | [d] => { results := [.lit (.bool false)], args := [d] }
  | _ => none }
def FnIgnorableWrongFalsely : Prop := fnIgnorableRow.holds Try.pinned (OpenSpec.ofChange fnIgnorableWrong)

/-- 'laws.FnDi': WHATEVER THE INPUT: true; the input reads as it did. -/
def fnDiSpec : ChangeSpec := { name := "fnDi", fn := fun _ => fun
  | [d1, d2] => { results := [.lit (.bool true)], args := [d1, d2] }
  | _ => none }
def fnDiRow : OpenClaim := { program := "ytkfphiccfnfkdaa", sum := "de61415ce46e9536d2159c1d3aae1d4150f45c2f5609a12a976920d87e8bcf49", func := "given.example/pub-swashbook/laws.FnDi", spec := "fnDi", apart := false }
def FnDiSaid : Prop := fnDiRow.holds Try.pinned (OpenSpec.ofChange fnDiSpec)

/-- ITS FALSE NEIGHBOUR: 'it returns false'. Refute it at one input. -/
def fnDiWrong : ChangeSpec := { name := "fnDi", fn := fun _ => fun
  | [d1, d2] => { results := [.lit (.bool false)], args := [d1, d2] }
  | _ => none }
def FnDiWrongFalsely : Prop := fnDiRow.holds Try.pinned (OpenSpec.ofChange fnDiWrong)

/- THE SECOND FORM. 'bulk': how many values and letters a reading holds, each counted each time it is reached (what is shared counts as often as it is met; a slice's spare places count too). A statement '..UptoSaid' is the law's where the arguments, and the package variables that the reading takes, are together of bulk at most 1048576: NARROWER than '..Said'. Prove '..Said' where nothing that the law and all that it calls make is longer than what came in: it says more and counts as full. Else prove '..UptoSaid'. A law counts once. -/
mutual
def uptoBulk {H : Type} : DataW H → Nat
  | .lit (.string bytes) => bytes.length + 1
  | .lit _ => 1
  | .nil => 1
  | .ptr d => uptoBulk d + 1
  | .slice elems spare => uptoBulkAll elems + uptoBulkAll spare + 1
  | .agg parts => uptoBulkAll parts + 1
  | .iface _ d => uptoBulk d + 1
  | .map entries => uptoBulkEntries entries + 1
  | .held _ => 1
def uptoBulkAll {H : Type} : List (DataW H) → Nat
  | [] => 0
  | d :: r => uptoBulk d + uptoBulkAll r
def uptoBulkEntries {H : Type} : List (Lit × DataW H) → Nat
  | [] => 0
  | x :: r => uptoBulkEntry x + uptoBulkEntries r
def uptoBulkEntry {H : Type} : Lit × DataW H → Nat
  | (.string bytes, d) => bytes.length + uptoBulk d + 1
  | (_, d) => uptoBulk d + 1
 end
def uptoSmall : (H : Type) → List (DataW H) → Bool := fun _ ds => decide (uptoBulkAll ds ≤ 1048576)
def OpenSpec.upto (s : _root_.Go.ChangeSpec) : _root_.Go.OpenSpec := { _root_.Go.OpenSpec.ofChange s with cond := some uptoSmall }

/-- 'laws.FnTurned', WHERE WHAT IT READS IS OF BULK AT MOST 1048576: true; the input reads as it did. -/
def fnTurnedUptoRow : OpenClaim := { program := "ytkfphiccfnfkdaa", sum := "de61415ce46e9536d2159c1d3aae1d4150f45c2f5609a12a976920d87e8bcf49", func := "given.example/pub-swashbook/laws.FnTurned", spec := "fnTurned", apart := false, narrowed := true }
def FnTurnedUptoSaid : Prop := fnTurnedUptoRow.holds Try.pinned (OpenSpec.upto fnTurnedSpec)

/-- 'laws.FnLangDerived', WHERE WHAT IT READS IS OF BULK AT MOST 1048576: true; the input reads as it did. -/
def fnLangDerivedUptoRow : OpenClaim := { program := "ytkfphiccfnfkdaa", sum := "de61415ce46e9536d2159c1d3aae1d4150f45c2f5609a12a976920d87e8bcf49", func := "given.example/pub-swashbook/laws.FnLangDerived", spec := "fnLangDerived", inPlace := ["internal/bytealg.IndexByteString"], apart := false, narrowed := true }
def FnLangDerivedUptoSaid : Prop := fnLangDerivedUptoRow.holds Try.pinned (OpenSpec.upto fnLangDerivedSpec)

/-- 'laws.FnScriptParse', WHERE WHAT IT READS IS OF BULK AT MOST 1048576: true; the input reads as it did. -/
def fnScriptParseUptoRow : OpenClaim := { program := "ytkfphiccfnfkdaa", sum := "de61415ce46e9536d2159c1d3aae1d4150f45c2f5609a12a976920d87e8bcf49", func := "given.example/pub-swashbook/laws.FnScriptParse", spec := "fnScriptParse", named := ["encoding/binary.BigEndian"], apart := false, narrowed := true }
def FnScriptParseUptoSaid : Prop := fnScriptParseUptoRow.holds Try.pinned (OpenSpec.upto fnScriptParseSpec)

/-- 'laws.FnLangPrimary', WHERE WHAT IT READS IS OF BULK AT MOST 1048576: true; the input reads as it did. -/
def fnLangPrimaryUptoRow : OpenClaim := { program := "ytkfphiccfnfkdaa", sum := "de61415ce46e9536d2159c1d3aae1d4150f45c2f5609a12a976920d87e8bcf49", func := "given.example/pub-swashbook/laws.FnLangPrimary", spec := "fnLangPrimary", inPlace := ["internal/bytealg.IndexByteString"], apart := false, narrowed := true }
def FnLangPrimaryUptoSaid : Prop := fnLangPrimaryUptoRow.holds Try.pinned (OpenSpec.upto fnLangPrimarySpec)

/-- 'laws.FnBearings', WHERE WHAT IT READS IS OF BULK AT MOST 1048576: true; the input reads as it did. -/
def fnBearingsUptoRow : OpenClaim := { program := "ytkfphiccfnfkdaa", sum := "de61415ce46e9536d2159c1d3aae1d4150f45c2f5609a12a976920d87e8bcf49", func := "given.example/pub-swashbook/laws.FnBearings", spec := "fnBearings", unfollowed := true, recurses := true, apart := false, narrowed := true }
def FnBearingsUptoSaid : Prop := fnBearingsUptoRow.holds Try.pinned (OpenSpec.upto fnBearingsSpec)

/-- 'laws.FnLangCompare', WHERE WHAT IT READS IS OF BULK AT MOST 1048576: true; the input reads as it did. -/
def fnLangCompareUptoRow : OpenClaim := { program := "ytkfphiccfnfkdaa", sum := "de61415ce46e9536d2159c1d3aae1d4150f45c2f5609a12a976920d87e8bcf49", func := "given.example/pub-swashbook/laws.FnLangCompare", spec := "fnLangCompare", inPlace := ["internal/bytealg.IndexByteString"], apart := false, narrowed := true }
def FnLangCompareUptoSaid : Prop := fnLangCompareUptoRow.holds Try.pinned (OpenSpec.upto fnLangCompareSpec)

/-- 'laws.FnScriptTells', WHERE WHAT IT READS IS OF BULK AT MOST 1048576: true; the input reads as it did. -/
def fnScriptTellsUptoRow : OpenClaim := { program := "ytkfphiccfnfkdaa", sum := "de61415ce46e9536d2159c1d3aae1d4150f45c2f5609a12a976920d87e8bcf49", func := "given.example/pub-swashbook/laws.FnScriptTells", spec := "fnScriptTells", named := ["encoding/binary.BigEndian"], apart := false, narrowed := true }
def FnScriptTellsUptoSaid : Prop := fnScriptTellsUptoRow.holds Try.pinned (OpenSpec.upto fnScriptTellsSpec)

/-- 'laws.FnKerned', WHERE WHAT IT READS IS OF BULK AT MOST 1048576: true; the input reads as it did. -/
def fnKernedUptoRow : OpenClaim := { program := "ytkfphiccfnfkdaa", sum := "de61415ce46e9536d2159c1d3aae1d4150f45c2f5609a12a976920d87e8bcf49", func := "given.example/pub-swashbook/laws.FnKerned", spec := "fnKerned", apart := false, narrowed := true }
def FnKernedUptoSaid : Prop := fnKernedUptoRow.holds Try.pinned (OpenSpec.upto fnKernedSpec)

/-- 'laws.FnLangSplit', WHERE WHAT IT READS IS OF BULK AT MOST 1048576: true; the input reads as it did. -/
def fnLangSplitUptoRow : OpenClaim := { program := "ytkfphiccfnfkdaa", sum := "de61415ce46e9536d2159c1d3aae1d4150f45c2f5609a12a976920d87e8bcf49", func := "given.example/pub-swashbook/laws.FnLangSplit", spec := "fnLangSplit", inPlace := ["internal/bytealg.IndexByteString"], apart := false, narrowed := true }
def FnLangSplitUptoSaid : Prop := fnLangSplitUptoRow.holds Try.pinned (OpenSpec.upto fnLangSplitSpec)

/-- 'laws.FnIgnorable', WHERE WHAT IT READS IS OF BULK AT MOST 1048576: true; the input reads as it did. -/
def fnIgnorableUptoRow : OpenClaim := { program := "ytkfphiccfnfkdaa", sum := "de61415ce46e9536d2159c1d3aae1d4150f45c2f5609a12a976920d87e8bcf49", func := "given.example/pub-swashbook/laws.FnIgnorable", spec := "fnIgnorable", apart := false, narrowed := true }
def FnIgnorableUptoSaid : Prop := fnIgnorableUptoRow.holds Try.pinned (OpenSpec.upto fnIgnorableSpec)

/-- 'laws.FnDi', WHERE WHAT IT READS IS OF BULK AT MOST 1048576: true; the input reads as it did. -/
def fnDiUptoRow : OpenClaim := { program := "ytkfphiccfnfkdaa", sum := "de61415ce46e9536d2159c1d3aae1d4150f45c2f5609a12a976920d87e8bcf49", func := "given.example/pub-swashbook/laws.FnDi", spec := "fnDi", apart := false, narrowed := true }
def FnDiUptoSaid : Prop := fnDiUptoRow.holds Try.pinned (OpenSpec.upto fnDiSpec)

end Rows
end Go.Proofs.Ytkfphiccfnfkdaa
