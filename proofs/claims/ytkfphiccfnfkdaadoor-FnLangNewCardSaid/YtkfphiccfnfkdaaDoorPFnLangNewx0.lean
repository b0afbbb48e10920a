-- Written by a program of this session (xprint) out of the translation; Lean checks it.
import Derived.Test.YtkfphiccfnfkdaaDoorProg
import Derived.Below
import Derived.Deep.Draws
import Derived.Deep.AppendLies
import Derived.Maps.AppendAt
import Derived.OwnWalk
import Derived.Laws.BytesArg
import Derived.Laws.MakeOwn
import Derived.Laws.OwnMore
import Derived.Deep.OwnRows
import Derived.Tactics
import Derived.Lib.ConvBytes
import Derived.Laws.Slices
import Derived.WalkKit
import Derived.KernelRfl
import Derived.RowKit3
import Derived.Deep.LoopGhost
import Derived.Deep.QuietTactic
import Derived.BigQuiet
import Derived.WideLaws
import Derived.Deep.DeepCutAuto
import Derived.Deep.CutBlock
import Derived.Deep.RegionHeld3
import Derived.Laws.Rows
import Derived.Lib.AppendStr
import Derived.ArgAppend
import Derived.Laws.IdiomCopy
import Derived.OrdersHeld
import Derived.Laws.BitsLemmas
import Derived.RowKit
import Derived.Test.YtkfphiccfnfkdaaDoorProg
import Derived.Lib.SmallJoins
import Derived.Lib.EndianMore
import Derived.Deep.RegionWith
import Derived.Lib.OthersKept
import Derived.Laws.MakeOwn
import Derived.LoopTactic
import Derived.Test.YtkfphiccfnfkdaaDoorWWords
import Derived.Test.YtkfphiccfnfkdaaDoorWLast
import Derived.Test.YtkfphiccfnfkdaaDoorWTab
import Derived.Test.YtkfphiccfnfkdaaDoorWFour
import Derived.Test.YtkfphiccfnfkdaaDoorWQPut
import Derived.Test.YtkfphiccfnfkdaaDoorWApart
import Derived.Test.YtkfphiccfnfkdaaDoorWArr
import Derived.Test.YtkfphiccfnfkdaaDoorWZeros
import Derived.Test.YtkfphiccfnfkdaaDoorWFoot
import Derived.Test.YtkfphiccfnfkdaaDoorWKept
import Derived.Test.YtkfphiccfnfkdaaDoorWShare
import Derived.Test.YtkfphiccfnfkdaaDoorWN
import Derived.Test.YtkfphiccfnfkdaaDoorWFootNe
import Derived.Test.YtkfphiccfnfkdaaDoorWAt
import Derived.Test.YtkfphiccfnfkdaaDoorWEqStruct
import Derived.Test.YtkfphiccfnfkdaaDoorWRepsOne
import Derived.Test.YtkfphiccfnfkdaaDoorWInv
import Derived.Test.YtkfphiccfnfkdaaDoorWInvWords
import Derived.Test.YtkfphiccfnfkdaaDoorWGuard
import Derived.Test.YtkfphiccfnfkdaaDoorWNEv
import Derived.Test.YtkfphiccfnfkdaaDoorWMore
namespace Go.Proofs.YtkfphiccfnfkdaaDoor.PFnLangNew
open Go.RowKit Go.Proofs.YtkfphiccfnfkdaaDoorW.PrintWords Go.Proofs.YtkfphiccfnfkdaaDoorW.PrintLast Go.Proofs.YtkfphiccfnfkdaaDoorW.PrintMore
attribute [local go_sem] max2_int min2_int max_two min_two max_three min_three max_four min_four   -- for this text's walks alone
set_option linter.unusedVariables false
set_option linter.unusedSimpArgs false



def errW : Option Int → Value
  | none => .nilIface
  | some c => .iface 0 (.int .i64 c)
theorem errW_none : errW none = .nilIface := rfl
theorem errW_some (c : Int) : errW (some c) = .iface 0 (.int .i64 c) := rfl

theorem info5 : (Tryd.prog.info? 5).map (fun i => (i.zero, i.size, i.bytes)) = some (some (.int .u8 0), 1, 1) := by kernel_rfl
-- the values' own types

end Go.Proofs.YtkfphiccfnfkdaaDoor.PFnLangNew
