-- Written by a program of this session (xprint) out of the translation; Lean checks it.
import Derived.Test.YtlclakahgmoafaaDoorProg
import Derived.Below
import Derived.Deep.Draws
import Derived.Deep.AppendLies
import Derived.Maps.AppendAt
import Derived.OwnWalk
import Derived.Laws.BytesArg
import Derived.Laws.MakeOwn
import Derived.Laws.OwnMore
import Derived.Deep.OwnRows
import Derived.Tactics
import Derived.Lib.ConvBytes
import Derived.Laws.Slices
import Derived.WalkKit
import Derived.KernelRfl
import Derived.RowKit3
import Derived.Deep.LoopGhost
import Derived.Deep.QuietTactic
import Derived.BigQuiet
import Derived.WideLaws
import Derived.Deep.DeepCutAuto
import Derived.Deep.CutBlock
import Derived.Deep.RegionHeld3
import Derived.Laws.Rows
import Derived.Lib.AppendStr
import Derived.ArgAppend
import Derived.Laws.IdiomCopy
import Derived.OrdersHeld
import Derived.Laws.BitsLemmas
import Derived.RowKit
import Derived.Test.YtlclakahgmoafaaDoorShelf
import Derived.Lib.SmallJoins
import Derived.Lib.EndianMore
import Derived.Deep.RegionWith
import Derived.Test.YtlclakahgmoafaaDoorWWords
import Derived.Test.YtlclakahgmoafaaDoorWLast
import Derived.Test.YtlclakahgmoafaaDoorWTab
import Derived.Test.YtlclakahgmoafaaDoorWFour
import Derived.Test.YtlclakahgmoafaaDoorWQPut
import Derived.Test.YtlclakahgmoafaaDoorWApart
import Derived.Test.YtlclakahgmoafaaDoorWArr
import Derived.Test.YtlclakahgmoafaaDoorWZeros
import Derived.Test.YtlclakahgmoafaaDoorWFoot
import Derived.Test.YtlclakahgmoafaaDoorWKept
import Derived.Test.YtlclakahgmoafaaDoorWShare
import Derived.Test.YtlclakahgmoafaaDoorWN
import Derived.Test.YtlclakahgmoafaaDoorWFootNe
import Derived.Test.YtlclakahgmoafaaDoorWAt
import Derived.Test.YtlclakahgmoafaaDoorWEqStruct
import Derived.Test.YtlclakahgmoafaaDoorWRepsOne
import Derived.Test.YtlclakahgmoafaaDoorWInv
import Derived.Test.YtlclakahgmoafaaDoorWInvWords
import Derived.Test.YtlclakahgmoafaaDoorWGuard
import Derived.Test.YtlclakahgmoafaaDoorWNEv
import Derived.Test.YtlclakahgmoafaaDoorWMore
namespace Go.Proofs.YtlclakahgmoafaaDoor.PFnAskNone
open Go.RowKit Go.Proofs.YtlclakahgmoafaaDoorW.PrintWords Go.Proofs.YtlclakahgmoafaaDoorW.PrintLast Go.Proofs.YtlclakahgmoafaaDoorW.PrintMore
attribute [local go_sem] max2_int min2_int max_two min_two max_three min_three max_four min_four   -- for this text's walks alone
set_option linter.unusedVariables false
set_option linter.unusedSimpArgs false



def errW : Option Int → Value
  | none => .nilIface
  | some c => .iface 0 (.int .i64 c)
theorem errW_none : errW none = .nilIface := rfl
theorem errW_some (c : Int) : errW (some c) = .iface 0 (.int .i64 c) := rfl

/-- What an error is told by: is it nil? -/
def EV (ev : Value) : Option Int → Prop
  | none => ev = .nilIface
  | some _ => ∃ te pe, ev = .iface te (.pointer pe)
theorem EV_none {ev : Value} (h : EV ev none) : ev = .nilIface := h
theorem EV_some {ev : Value} {q : Int} (h : EV ev (some q)) : ∃ te pe, ev = .iface te (.pointer pe) := h
theorem info5 : (Tryd.prog.info? 5).map (fun i => (i.zero, i.size, i.bytes)) = some (some (.int .u8 0), 1, 1) := by kernel_rfl
theorem info9 : (Tryd.prog.info? 9).map (fun i => (i.zero, i.size, i.bytes)) = some (some (.string ⟨#[]⟩), 1, 16) := by kernel_rfl
-- the values' own types

end Go.Proofs.YtlclakahgmoafaaDoor.PFnAskNone
