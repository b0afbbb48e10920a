-- Written by a program of this session (xprint) out of the translation; Lean checks it.
import Derived.Test.YtklkpekjnkjcdaaProg
import Derived.Below
import Derived.Deep.Draws
import Derived.Deep.AppendLies
import Derived.Maps.AppendAt
import Derived.OwnWalk
import Derived.Laws.BytesArg
import Derived.Laws.MakeOwn
import Derived.Laws.OwnMore
import Derived.Deep.OwnRows
import Derived.Tactics
import Derived.Lib.ConvBytes
import Derived.Laws.Slices
import Derived.WalkKit
import Derived.KernelRfl
import Derived.RowKit3
import Derived.Deep.LoopGhost
import Derived.Deep.QuietTactic
import Derived.BigQuiet
import Derived.WideLaws
import Derived.Deep.DeepCutAuto
import Derived.Deep.CutBlock
import Derived.Deep.RegionHeld3
import Derived.Laws.Rows
import Derived.Lib.AppendStr
import Derived.ArgAppend
import Derived.Laws.IdiomCopy
import Derived.OrdersHeld
import Derived.Laws.BitsLemmas
import Derived.RowKit
import Derived.Test.YtklkpekjnkjcdaaShelf
import Derived.Lib.SmallJoins
import Derived.Lib.EndianMore
import Derived.Deep.RegionWith
import Derived.Test.YtklkpekjnkjcdaaWWords
import Derived.Test.YtklkpekjnkjcdaaWLast
import Derived.Test.YtklkpekjnkjcdaaWTab
import Derived.Test.YtklkpekjnkjcdaaWFour
import Derived.Test.YtklkpekjnkjcdaaWQPut
import Derived.Test.YtklkpekjnkjcdaaWApart
import Derived.Test.YtklkpekjnkjcdaaWArr
import Derived.Test.YtklkpekjnkjcdaaWZeros
import Derived.Test.YtklkpekjnkjcdaaWFoot
import Derived.Test.YtklkpekjnkjcdaaWKept
import Derived.Test.YtklkpekjnkjcdaaWShare
import Derived.Test.YtklkpekjnkjcdaaWN
import Derived.Test.YtklkpekjnkjcdaaWFootNe
import Derived.Test.YtklkpekjnkjcdaaWAt
import Derived.Test.YtklkpekjnkjcdaaWEqStruct
import Derived.Test.YtklkpekjnkjcdaaWRepsOne
import Derived.Test.YtklkpekjnkjcdaaWInv
import Derived.Test.YtklkpekjnkjcdaaWInvWords
import Derived.Test.YtklkpekjnkjcdaaWGuard
import Derived.Test.YtklkpekjnkjcdaaWNEv
import Derived.Test.YtklkpekjnkjcdaaWMore
namespace Go.Proofs.Ytklkpekjnkjcdaa.PFnLangInherits
open Go.RowKit Go.Proofs.YtklkpekjnkjcdaaW.PrintWords Go.Proofs.YtklkpekjnkjcdaaW.PrintLast Go.Proofs.YtklkpekjnkjcdaaW.PrintMore
attribute [local go_sem] max2_int min2_int max_two min_two max_three min_three max_four min_four   -- for this text's walks alone
set_option linter.unusedVariables false
set_option linter.unusedSimpArgs false



def errW : Option Int → Value
  | none => .nilIface
  | some c => .iface 0 (.int .i64 c)
theorem errW_none : errW none = .nilIface := rfl
theorem errW_some (c : Int) : errW (some c) = .iface 0 (.int .i64 c) := rfl

/-- make([]T, 0, n): a row of one's own without elements. -/
theorem R_make0 {P : Program} {ops : Array Oper} {rest : List Oper} {o : Oper} {a : Act} {Q : Exit → Act → World → Prop} {α : Type} (d : Kd α) {w0 W : World} (base e : Nat) (hgd : o.guard = none) {N : Tmp} (hd : o.dst = some N) (t : TypeId) (x y : Operand) (ho : o.op = .makeSlice t x y) (n : Int) (hx : a.eval x = .int .i64 0) (hy : a.eval y = .int .i64 n)
    (ht : P.underlying t = some (.slice e)) (z : Value) (bytes : Nat) (hinfo : (P.info? e).map (fun i => (i.zero, i.size, i.bytes)) = some (some z, d.sz, bytes)) (hs0 : 0 < d.sz) (hb0 : 0 < bytes)
    {ok : Nat → Prop} (hfresh : ok W.heap.size) (h0 : 0 ≤ n) (hl : n.toNat * bytes ≤ 281474976710656) (HB : Below base w0 W) (hbase : base ≤ W.heap.size)
    (h : ∀ v1 w1, d.R e w1 base ok v1 [] → Below base w0 w1 → W.grownBy w1 none → (∃ b, v1.ownBlock = some b ∧ W.heap.size ≤ b) → wpList P ops Q rest (a.put o.dst v1) w1) : wpList P ops Q (o :: rest) a W := by
  obtain ⟨m, rfl⟩ := Int.eq_ofNat_of_zero_le h0
  simp only [Int.toNat_natCast] at hl
  obtain ⟨i0, hi, hzz⟩ := Option.map_eq_some_iff.1 hinfo
  simp only [Prod.mk.injEq] at hzz
  obtain ⟨hz0, hz1, hz2⟩ := hzz
  have hm : m ≤ 281474976710656 := Nat.le_trans (Nat.le_mul_of_pos_right _ hb0) hl
  have hr := run_make (P := P) W t e i0 z ht hi hz0 .i64 .i64 0 (m : Int) (by omega) (by omega)
    (by
      have h3 : ((i0.bytes * m : Nat) : Int) ≤ 281474976710656 := by rw [hz2, Nat.mul_comm]; omega
      rwa [Int.natCast_mul] at h3) (by omega)
  simp only [Int.toNat_natCast, Int.toNat_zero] at hr
  have hrun : (execOp a.eval o).run P W = .ok (.value (.slice (some ⟨W.heap.size, 0, none⟩) 0 m)) (W.alloc (.cells (madeCells z.cells (m * i0.size)) e)) := by
    simp [execOp, ho, hx, hy, hr]
  refine Kd.event_run hgd hrun (h _ _ ⟨fun k hk => ?_, [], ⟨by simp, Or.inr ⟨W.heap.size, m, _, rfl, hbase, heap_alloc_new W _, Nat.zero_le _, ?_, ?_, by simp⟩⟩, Reps.none _ _⟩ (HB.alloc hbase _) (World.grownBy_alloc W _ none) ⟨W.heap.size, by simp [Value.ownBlock], Nat.le_refl _⟩)
  · have : W.heap.size = k := by simpa [Value.ownBlock] using hk
    subst this
    exact hfresh
  · unfold maxLen; omega
  · rw [size_madeCells, hz1]

theorem info5 : (Try.prog.info? 5).map (fun i => (i.zero, i.size, i.bytes)) = some (some (.int .u8 0), 1, 1) := by kernel_rfl
theorem info9 : (Try.prog.info? 9).map (fun i => (i.zero, i.size, i.bytes)) = some (some (.string ⟨#[]⟩), 1, 16) := by kernel_rfl
theorem info27 : (Try.prog.info? 27).map (fun i => (i.zero, i.size, i.bytes)) = some (some (.string ⟨#[]⟩), 1, 16) := by kernel_rfl
-- the values' own types

end Go.Proofs.Ytklkpekjnkjcdaa.PFnLangInherits
