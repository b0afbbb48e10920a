-- Written by a program of this session (xprint) out of the translation; Lean checks it.
import Derived.Test.YtkfphiccfnfkdaaProg
import Derived.Below
import Derived.Deep.Draws
import Derived.Deep.AppendLies
import Derived.Maps.AppendAt
import Derived.OwnWalk
import Derived.Laws.BytesArg
import Derived.Laws.MakeOwn
import Derived.Laws.OwnMore
import Derived.Deep.OwnRows
import Derived.Tactics
import Derived.Lib.ConvBytes
import Derived.Laws.Slices
import Derived.WalkKit
import Derived.KernelRfl
import Derived.RowKit3
import Derived.Deep.LoopGhost
import Derived.Deep.QuietTactic
import Derived.BigQuiet
import Derived.WideLaws
import Derived.Deep.DeepCutAuto
import Derived.Deep.CutBlock
import Derived.Deep.RegionHeld3
import Derived.Laws.Rows
import Derived.Lib.AppendStr
import Derived.ArgAppend
import Derived.Laws.IdiomCopy
import Derived.OrdersHeld
import Derived.Laws.BitsLemmas
import Derived.RowKit
import Derived.Test.YtkfphiccfnfkdaaShelf
import Derived.Lib.SmallJoins
import Derived.Lib.EndianMore
import Derived.Deep.RegionWith
import Derived.Test.YtkfphiccfnfkdaaWWords
import Derived.Test.YtkfphiccfnfkdaaWLast
import Derived.Test.YtkfphiccfnfkdaaWTab
import Derived.Test.YtkfphiccfnfkdaaWFour
import Derived.Test.YtkfphiccfnfkdaaWQPut
import Derived.Test.YtkfphiccfnfkdaaWApart
import Derived.Test.YtkfphiccfnfkdaaWArr
import Derived.Test.YtkfphiccfnfkdaaWZeros
import Derived.Test.YtkfphiccfnfkdaaWFoot
import Derived.Test.YtkfphiccfnfkdaaWKept
import Derived.Test.YtkfphiccfnfkdaaWShare
import Derived.Test.YtkfphiccfnfkdaaWN
import Derived.Test.YtkfphiccfnfkdaaWFootNe
import Derived.Test.YtkfphiccfnfkdaaWAt
import Derived.Test.YtkfphiccfnfkdaaWEqStruct
import Derived.Test.YtkfphiccfnfkdaaWRepsOne
import Derived.Test.YtkfphiccfnfkdaaWInv
import Derived.Test.YtkfphiccfnfkdaaWInvWords
import Derived.Test.YtkfphiccfnfkdaaWGuard
import Derived.Test.YtkfphiccfnfkdaaWNEv
import Derived.Test.YtkfphiccfnfkdaaWMore
namespace Go.Proofs.Ytkfphiccfnfkdaa.PFnScriptTells
open Go.RowKit Go.Proofs.YtkfphiccfnfkdaaW.PrintWords Go.Proofs.YtkfphiccfnfkdaaW.PrintLast Go.Proofs.YtkfphiccfnfkdaaW.PrintMore
attribute [local go_sem] max2_int min2_int max_two min_two max_three min_three max_four min_four   -- for this text's walks alone
set_option linter.unusedVariables false
set_option linter.unusedSimpArgs false



def errW : Option Int → Value
  | none => .nilIface
  | some c => .iface 0 (.int .i64 c)
theorem errW_none : errW none = .nilIface := rfl
theorem errW_some (c : Int) : errW (some c) = .iface 0 (.int .i64 c) := rfl

theorem info5 : (Try.prog.info? 5).map (fun i => (i.zero, i.size, i.bytes)) = some (some (.int .u8 0), 1, 1) := by kernel_rfl
-- the values' own types

end Go.Proofs.Ytkfphiccfnfkdaa.PFnScriptTells
