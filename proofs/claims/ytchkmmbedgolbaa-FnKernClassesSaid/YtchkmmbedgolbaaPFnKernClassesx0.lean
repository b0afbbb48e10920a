-- Written by a program of this session (xprint) out of the translation; Lean checks it.
import Derived.Test.YtchkmmbedgolbaaProg
import Derived.Below
import Derived.Deep.Draws
import Derived.Deep.AppendLies
import Derived.Maps.AppendAt
import Derived.OwnWalk
import Derived.Laws.BytesArg
import Derived.Laws.MakeOwn
import Derived.Laws.OwnMore
import Derived.Deep.OwnRows
import Derived.Tactics
import Derived.Lib.ConvBytes
import Derived.Laws.Slices
import Derived.WalkKit
import Derived.KernelRfl
import Derived.RowKit3
import Derived.Deep.LoopGhost
import Derived.Deep.QuietTactic
import Derived.BigQuiet
import Derived.WideLaws
import Derived.Deep.DeepCutAuto
import Derived.Deep.CutBlock
import Derived.Deep.RegionHeld3
import Derived.Laws.Rows
import Derived.Lib.AppendStr
import Derived.ArgAppend
import Derived.Laws.IdiomCopy
import Derived.OrdersHeld
import Derived.Laws.BitsLemmas
import Derived.RowKit
import Derived.Lib.SmallJoins
import Derived.Deep.RegionWith
import Derived.RegionTactic
import Derived.Test.YtchkmmbedgolbaaWWords
import Derived.Test.YtchkmmbedgolbaaWLast
import Derived.Test.YtchkmmbedgolbaaWTab
import Derived.Test.YtchkmmbedgolbaaWFour
import Derived.Test.YtchkmmbedgolbaaWQPut
import Derived.Test.YtchkmmbedgolbaaWApart
import Derived.Test.YtchkmmbedgolbaaWArr
import Derived.Test.YtchkmmbedgolbaaWZeros
import Derived.Test.YtchkmmbedgolbaaWFoot
import Derived.Test.YtchkmmbedgolbaaWKept
import Derived.Test.YtchkmmbedgolbaaWShare
import Derived.Test.YtchkmmbedgolbaaWN
import Derived.Test.YtchkmmbedgolbaaWFootNe
import Derived.Test.YtchkmmbedgolbaaWAt
import Derived.Test.YtchkmmbedgolbaaWEqStruct
import Derived.Test.YtchkmmbedgolbaaWRepsOne
import Derived.Test.YtchkmmbedgolbaaWInv
import Derived.Test.YtchkmmbedgolbaaWInvWords
import Derived.Test.YtchkmmbedgolbaaWGuard
import Derived.Test.YtchkmmbedgolbaaWNEv
import Derived.Test.YtchkmmbedgolbaaWMore
namespace Go.Proofs.Ytchkmmbedgolbaa.PFnKernClasses
open Go.RowKit Go.Proofs.YtchkmmbedgolbaaW.PrintWords Go.Proofs.YtchkmmbedgolbaaW.PrintLast Go.Proofs.YtchkmmbedgolbaaW.PrintMore
attribute [local go_sem] max2_int min2_int max_two min_two max_three min_three max_four min_four   -- for this text's walks alone
set_option linter.unusedVariables false
set_option linter.unusedSimpArgs false



def errW : Option Int → Value
  | none => .nilIface
  | some c => .iface 0 (.int .i64 c)
theorem errW_none : errW none = .nilIface := rfl
theorem errW_some (c : Int) : errW (some c) = .iface 0 (.int .i64 c) := rfl

abbrev tt : Bool := true
abbrev ff : Bool := false
theorem b1_ {w : World} {g : Nat} {o : Obj} (h : w.heap[g]? = some o) (n : Nat) : (w.drewN n).heap[g]? = some o := h
theorem b2_ {w : World} {g : Nat} {o : Obj} (h : w.heap[g]? = some o) : w.drew.heap[g]? = some o := h
theorem b3_ {w : World} {g : Nat} {o : Obj} (h : w.heap[g]? = some o) (ob : Obj) : (w.alloc ob).heap[g]? = some o := blk_alloc h ob
theorem n1_ (n : Int) (h : -9223372036854775808 ≤ n ∧ n ≤ 9223372036854775807) : IntKind.i64.wrap n = n := IntWalk.i64_in n h
theorem n2_ (n : Int) (h : -2147483648 ≤ n ∧ n ≤ 2147483647) : IntKind.i32.wrap n = n := IntWalk.i32_in n h
theorem n3_ (n : Int) {m k : Int} (h : m ∣ k) : n % k % m = n % m := Int.emod_emod_of_dvd n h
theorem L1_ {α : Type} (l : List α) (i : Nat) (a : α) : l.toArray.setIfInBounds i a = (l.set i a).toArray := List.setIfInBounds_toArray l i a
theorem L2_ {α : Type} {x : α} {l : List α} {a : α} : (x :: l).set 0 a = a :: l := List.set_cons_zero
theorem L3_ {α : Type} {x : α} {l : List α} {i : Nat} {a : α} : (x :: l).set (i + 1) a = x :: l.set i a := List.set_cons_succ
theorem e0_ {α : Type} (x : α) (l : Array α) : (#[x] ++ l)[0]? = some x := by simp [Array.getElem?_append]
theorem e1_ {α β : Type} (f : α → β) (l : Array α) : (l.map f).extract 0 l.size = l.map f := by
  have : l.size = (l.map f).size := by simp
  rw [this]
  exact Array.extract_size
theorem goesI_ {P : Program} {ops : Array Oper} {Q : Exit → Act → World → Prop} {oi : Oper} {N : Option Tmp} {a : Act} {w : World} {K : Act → World → Prop} {f : FuncId} {rv : Operand} {nm : String} {bs : Array Operand} {ts : Array TypeId} (args : Array Value)
    (hw : Region.wanted oi (yielded ops a.tmps) = true) (hN : oi.dst = N) (hop : oi.op = .call { callee := .invoke rv nm, args := bs, argTypes := ts }) (hm : (callMethod (a.eval rv) nm (bs.map a.eval)).run P w = .ok (.enter f args) w)
    (h : Calls P f args w fun e w' => ∃ v, e = .returned v ∧ K (a.put N v) w') : if Region.wanted oi (yielded ops a.tmps) = true then Oper.wp P oi a w K Q else K (a.put N undef) w := by
  refine call_ f args hw hN ?_ h
  unfold execOp
  simp [hop, resolve, invoke, e0_, e1_, hm]
theorem goesIL_ {P : Program} {ops : Array Oper} {Q : Exit → Act → World → Prop} {rest : List Oper} {oi : Oper} {a : Act} {w : World} (N : Option Tmp) (hd : oi.dst = N) (hg : oi.guard = none) {f : FuncId} {rv : Operand} {nm : String} {bs : Array Operand} {ts : Array TypeId} (args : Array Value)
    (hop : oi.op = .call { callee := .invoke rv nm, args := bs, argTypes := ts }) (hm : (callMethod (a.eval rv) nm (bs.map a.eval)).run P w = .ok (.enter f args) w)
    (h : Calls P f args w fun e w' => ∃ v, e = .returned v ∧ wpList P ops Q rest (a.put N v) w') : wpList P ops Q (oi :: rest) a w := by
  refine wpList_plain hg fun K hK => ?_
  have hrun : (execOp a.eval oi).run P w = .ok (.enter f args) w := by
    unfold execOp
    simp [hop, resolve, invoke, e0_, e1_, hm]
  unfold Oper.wp
  rw [hrun, Oper.upon_enter]
  refine h.mono fun e w'' hh => ?_
  obtain ⟨v, rfl, hk⟩ := hh
  subst hd
  exact hK _ _ hk

theorem meth182_ClassUint32 (v : Value) (x0 : Value) (w : World) : (callMethod (.iface 182 v) "ClassUint32" #[x0]).run Try.prog w = .ok (.enter 145 #[v, x0]) w := by kernel_rfl
/-- What an error is told by: is it nil? -/
def EV (ev : Value) : Option Int → Prop
  | none => ev = .nilIface
  | some _ => ∃ te pe, ev = .iface te (.pointer pe)
theorem EV_none {ev : Value} (h : EV ev none) : ev = .nilIface := h
theorem EV_some {ev : Value} {q : Int} (h : EV ev (some q)) : ∃ te pe, ev = .iface te (.pointer pe) := h
theorem info3 : (Try.prog.info? 3).map (fun i => (i.zero, i.size, i.bytes)) = some (some (.int .i64 0), 1, 8) := by kernel_rfl
theorem info27 : (Try.prog.info? 27).map (fun i => (i.zero, i.size, i.bytes)) = some (some (.agg #[(.int .i64 0), (.int .i64 0)]), 2, 16) := by kernel_rfl
theorem info30 : (Try.prog.info? 30).map (fun i => (i.zero, i.size, i.bytes)) = some (some (.int .i16 0), 1, 2) := by kernel_rfl
theorem info35 : (Try.prog.info? 35).map (fun i => (i.zero, i.size, i.bytes)) = some (some (.int .u16 0), 1, 2) := by kernel_rfl
theorem info184 : (Try.prog.info? 184).map (fun i => (i.zero, i.size, i.bytes)) = some (some (.agg #[(.int .u16 0), (.int .u16 0)]), 2, 4) := by kernel_rfl
theorem info186 : (Try.prog.info? 186).map (fun i => (i.zero, i.size, i.bytes)) = some (some (.agg #[(.int .u16 0), (.int .u16 0), (.slice none 0 0)]), 3, 32) := by kernel_rfl
theorem info188 : (Try.prog.info? 188).map (fun i => (i.zero, i.size, i.bytes)) = some (some (.agg #[(.int .u16 0), (.int .u16 0), (.int .u16 0)]), 3, 6) := by kernel_rfl
-- the values' own types
/-! #### struct type 27 -/
structure S27 where
  f0 : Int
  f1 : Int
def z27 : S27 := ⟨(0 : Int), (0 : Int)⟩
def k27 : Kd S27 := Kd.iso (Kd.pair (Kd.int .i64) (Kd.int .i64)) (fun x : S27 => (x.f0, x.f1))
theorem k27_heap : Kd.Heap k27 := Kd.heap_iso _ (Kd.heap_pair (Kd.heap_int .i64) (Kd.heap_int .i64))
theorem k27_open {w : World} {x : S27} {cs : List Value} (h : k27.K w x cs) : cs = [.int .i64 x.f0, .int .i64 x.f1] := by
  obtain ⟨_, _, rfl, rfl, rfl⟩ := h
  exact rfl
theorem k27_openM {w : World} {base : Nat} {ok : Nat → Prop} {x : S27} {cs : List Value} (h : k27.M w base ok x cs) : cs = [.int .i64 x.f0, .int .i64 x.f1] := by
  obtain ⟨_, _, rfl, rfl, rfl⟩ := h
  exact rfl
theorem k27_mk (w : World) (x : S27)  : k27.K w x [.int .i64 x.f0, .int .i64 x.f1] := ⟨[.int .i64 x.f0], [.int .i64 x.f1], rfl, rfl, rfl⟩
theorem k27_mkM (w : World) (base : Nat) (ok : Nat → Prop) (x : S27)  : k27.M w base ok x [.int .i64 x.f0, .int .i64 x.f1] := ⟨[.int .i64 x.f0], [.int .i64 x.f1], rfl, rfl, rfl⟩
def rd_T27 (xs : List S27) (i : Int) : S27 := xs.getD i.toNat z27
theorem at_T27 {w : World} {A : Option Addr} {n : Nat} {xs : List S27} (h : Kd.C k27 w A n xs) (i : Int) (h0 : 0 ≤ i) (h1 : i < n) : ∃ ad , A = some ad ∧ w.cell? (ad.add (i.toNat * 2)) = some (.int .i64 (rd_T27 xs i).f0) ∧ w.cell? ⟨(ad.add (i.toNat * 2)).block, (ad.add (i.toNat * 2)).off + 1, none⟩ = some (.int .i64 (rd_T27 xs i).f1) := by
  obtain ⟨ad, c, e, _, hK, hc0⟩ := Kd.C_get h z27 i h0 h1
  have hc : ∀ j u, c[j]? = some u → w.cell? (ad.add (i.toNat * 2 + j)) = some u := hc0
  obtain rfl := k27_open hK
  exact ⟨ad, e, hc 0 _ rfl, by rw [← add_field _ _ 1 (by omega)]; exact hc 1 _ rfl⟩

def rd_L4 (xs : List (List Int)) (i : Int) : (List Int) := xs.getD i.toNat ([] : List Int)
theorem at_L4 {w : World} {A : Option Addr} {n : Nat} {xs : List (List Int)} (h : Kd.C (Kd.slice 35 (Kd.int .u16)) w A n xs) (i : Int) (h0 : 0 ≤ i) (h1 : i < n) : ∃ ad A0 c0, A = some ad ∧ w.cell? (ad.add i.toNat) = some (.slice A0 (rd_L4 xs i).length c0) ∧ (rd_L4 xs i).length ≤ c0 ∧ (Kd.int .u16).C w A0 (rd_L4 xs i).length (rd_L4 xs i) := by
  obtain ⟨ad, c, e, _, hK, hc0⟩ := Kd.C_get h ([] : List Int) i h0 h1
  have hc : ∀ j u, c[j]? = some u → w.cell? (ad.add (i.toNat * 1 + j)) = some u := hc0
  obtain ⟨A0, c0, rfl, l0, g0⟩ := hK
  exact ⟨ad, A0, c0, e, by have hq := hc 0 _ rfl; rwa [Nat.mul_one, Nat.add_zero] at hq, l0, g0⟩

/-! #### struct type 186 -/
structure S186 where
  f0 : Int
  f1 : Int
  f2 : (List Int)
def z186 : S186 := ⟨(0 : Int), (0 : Int), ([] : List Int)⟩
def k186 : Kd S186 := Kd.iso (Kd.pair (Kd.int .u16) (Kd.pair (Kd.int .u16) (Kd.slice 35 (Kd.int .u16)))) (fun x : S186 => (x.f0, x.f1, x.f2))
theorem k186_heap : Kd.Heap k186 := Kd.heap_iso _ (Kd.heap_pair (Kd.heap_int .u16) (Kd.heap_pair (Kd.heap_int .u16) (Kd.heap_slice 35 (Kd.heap_int .u16))))
theorem k186_open {w : World} {x : S186} {cs : List Value} (h : k186.K w x cs) : ∃ A2 c2, cs = [.int .u16 x.f0, .int .u16 x.f1, .slice A2 x.f2.length c2] ∧ x.f2.length ≤ c2 ∧ (Kd.int .u16).C w A2 x.f2.length x.f2 := by
  obtain ⟨_, _, rfl, rfl, ⟨_, _, rfl, rfl, ⟨A2, c2, rfl, l2, g2⟩⟩⟩ := h
  exact ⟨A2, c2, rfl, l2, g2⟩
theorem k186_openM {w : World} {base : Nat} {ok : Nat → Prop} {x : S186} {cs : List Value} (h : k186.M w base ok x cs) : ∃ v2, cs = [.int .u16 x.f0, .int .u16 x.f1, v2] ∧ (Kd.int .u16).R 35 w base ok v2 x.f2 := by
  obtain ⟨_, _, rfl, rfl, ⟨_, _, rfl, rfl, ⟨v2, rfl, g2⟩⟩⟩ := h
  exact ⟨v2, rfl, g2⟩
theorem k186_mk (w : World) (x : S186) {A2 : Option Addr} {c2 : Nat} (l2 : x.f2.length ≤ c2) (g2 : (Kd.int .u16).C w A2 x.f2.length x.f2) : k186.K w x [.int .u16 x.f0, .int .u16 x.f1, .slice A2 x.f2.length c2] := ⟨[.int .u16 x.f0], [.int .u16 x.f1, .slice A2 x.f2.length c2], rfl, rfl, ⟨[.int .u16 x.f1], [.slice A2 x.f2.length c2], rfl, rfl, ⟨A2, c2, rfl, l2, g2⟩⟩⟩
theorem k186_mkM (w : World) (base : Nat) (ok : Nat → Prop) (x : S186) {v2 : Value} (g2 : (Kd.int .u16).R 35 w base ok v2 x.f2) : k186.M w base ok x [.int .u16 x.f0, .int .u16 x.f1, v2] := ⟨[.int .u16 x.f0], [.int .u16 x.f1, v2], rfl, rfl, ⟨[.int .u16 x.f1], [v2], rfl, rfl, ⟨v2, rfl, g2⟩⟩⟩
def rd_T186 (xs : List S186) (i : Int) : S186 := xs.getD i.toNat z186
theorem at_T186 {w : World} {A : Option Addr} {n : Nat} {xs : List S186} (h : Kd.C k186 w A n xs) (i : Int) (h0 : 0 ≤ i) (h1 : i < n) : ∃ ad A2 c2, A = some ad ∧ w.cell? (ad.add (i.toNat * 3)) = some (.int .u16 (rd_T186 xs i).f0) ∧ w.cell? ⟨(ad.add (i.toNat * 3)).block, (ad.add (i.toNat * 3)).off + 1, none⟩ = some (.int .u16 (rd_T186 xs i).f1) ∧ w.cell? ⟨(ad.add (i.toNat * 3)).block, (ad.add (i.toNat * 3)).off + 2, none⟩ = some (.slice A2 (rd_T186 xs i).f2.length c2) ∧ (rd_T186 xs i).f2.length ≤ c2 ∧ (Kd.int .u16).C w A2 (rd_T186 xs i).f2.length (rd_T186 xs i).f2 := by
  obtain ⟨ad, c, e, _, hK, hc0⟩ := Kd.C_get h z186 i h0 h1
  have hc : ∀ j u, c[j]? = some u → w.cell? (ad.add (i.toNat * 3 + j)) = some u := hc0
  obtain ⟨A2, c2, rfl, l2, g2⟩ := k186_open hK
  exact ⟨ad, A2, c2, e, hc 0 _ rfl, by rw [← add_field _ _ 1 (by omega)]; exact hc 1 _ rfl, by rw [← add_field _ _ 2 (by omega)]; exact hc 2 _ rfl, l2, g2⟩

/-! #### struct type 188 -/
structure S188 where
  f0 : Int
  f1 : Int
  f2 : Int
def z188 : S188 := ⟨(0 : Int), (0 : Int), (0 : Int)⟩
def k188 : Kd S188 := Kd.iso (Kd.pair (Kd.int .u16) (Kd.pair (Kd.int .u16) (Kd.int .u16))) (fun x : S188 => (x.f0, x.f1, x.f2))
theorem k188_heap : Kd.Heap k188 := Kd.heap_iso _ (Kd.heap_pair (Kd.heap_int .u16) (Kd.heap_pair (Kd.heap_int .u16) (Kd.heap_int .u16)))
theorem k188_open {w : World} {x : S188} {cs : List Value} (h : k188.K w x cs) : cs = [.int .u16 x.f0, .int .u16 x.f1, .int .u16 x.f2] := by
  obtain ⟨_, _, rfl, rfl, ⟨_, _, rfl, rfl, rfl⟩⟩ := h
  exact rfl
theorem k188_openM {w : World} {base : Nat} {ok : Nat → Prop} {x : S188} {cs : List Value} (h : k188.M w base ok x cs) : cs = [.int .u16 x.f0, .int .u16 x.f1, .int .u16 x.f2] := by
  obtain ⟨_, _, rfl, rfl, ⟨_, _, rfl, rfl, rfl⟩⟩ := h
  exact rfl
theorem k188_mk (w : World) (x : S188)  : k188.K w x [.int .u16 x.f0, .int .u16 x.f1, .int .u16 x.f2] := ⟨[.int .u16 x.f0], [.int .u16 x.f1, .int .u16 x.f2], rfl, rfl, ⟨[.int .u16 x.f1], [.int .u16 x.f2], rfl, rfl, rfl⟩⟩
theorem k188_mkM (w : World) (base : Nat) (ok : Nat → Prop) (x : S188)  : k188.M w base ok x [.int .u16 x.f0, .int .u16 x.f1, .int .u16 x.f2] := ⟨[.int .u16 x.f0], [.int .u16 x.f1, .int .u16 x.f2], rfl, rfl, ⟨[.int .u16 x.f1], [.int .u16 x.f2], rfl, rfl, rfl⟩⟩
def rd_T188 (xs : List S188) (i : Int) : S188 := xs.getD i.toNat z188
theorem at_T188 {w : World} {A : Option Addr} {n : Nat} {xs : List S188} (h : Kd.C k188 w A n xs) (i : Int) (h0 : 0 ≤ i) (h1 : i < n) : ∃ ad , A = some ad ∧ w.cell? (ad.add (i.toNat * 3)) = some (.int .u16 (rd_T188 xs i).f0) ∧ w.cell? ⟨(ad.add (i.toNat * 3)).block, (ad.add (i.toNat * 3)).off + 1, none⟩ = some (.int .u16 (rd_T188 xs i).f1) ∧ w.cell? ⟨(ad.add (i.toNat * 3)).block, (ad.add (i.toNat * 3)).off + 2, none⟩ = some (.int .u16 (rd_T188 xs i).f2) := by
  obtain ⟨ad, c, e, _, hK, hc0⟩ := Kd.C_get h z188 i h0 h1
  have hc : ∀ j u, c[j]? = some u → w.cell? (ad.add (i.toNat * 3 + j)) = some u := hc0
  obtain rfl := k188_open hK
  exact ⟨ad, e, hc 0 _ rfl, by rw [← add_field _ _ 1 (by omega)]; exact hc 1 _ rfl, by rw [← add_field _ _ 2 (by omega)]; exact hc 2 _ rfl⟩

/-! #### struct type 184 -/
structure S184 where
  f0 : Int
  f1 : Int
def z184 : S184 := ⟨(0 : Int), (0 : Int)⟩
def k184 : Kd S184 := Kd.iso (Kd.pair (Kd.int .u16) (Kd.int .u16)) (fun x : S184 => (x.f0, x.f1))
theorem k184_heap : Kd.Heap k184 := Kd.heap_iso _ (Kd.heap_pair (Kd.heap_int .u16) (Kd.heap_int .u16))
theorem k184_open {w : World} {x : S184} {cs : List Value} (h : k184.K w x cs) : cs = [.int .u16 x.f0, .int .u16 x.f1] := by
  obtain ⟨_, _, rfl, rfl, rfl⟩ := h
  exact rfl
theorem k184_openM {w : World} {base : Nat} {ok : Nat → Prop} {x : S184} {cs : List Value} (h : k184.M w base ok x cs) : cs = [.int .u16 x.f0, .int .u16 x.f1] := by
  obtain ⟨_, _, rfl, rfl, rfl⟩ := h
  exact rfl
theorem k184_mk (w : World) (x : S184)  : k184.K w x [.int .u16 x.f0, .int .u16 x.f1] := ⟨[.int .u16 x.f0], [.int .u16 x.f1], rfl, rfl, rfl⟩
theorem k184_mkM (w : World) (base : Nat) (ok : Nat → Prop) (x : S184)  : k184.M w base ok x [.int .u16 x.f0, .int .u16 x.f1] := ⟨[.int .u16 x.f0], [.int .u16 x.f1], rfl, rfl, rfl⟩
def rd_T184 (xs : List S184) (i : Int) : S184 := xs.getD i.toNat z184
theorem at_T184 {w : World} {A : Option Addr} {n : Nat} {xs : List S184} (h : Kd.C k184 w A n xs) (i : Int) (h0 : 0 ≤ i) (h1 : i < n) : ∃ ad , A = some ad ∧ w.cell? (ad.add (i.toNat * 2)) = some (.int .u16 (rd_T184 xs i).f0) ∧ w.cell? ⟨(ad.add (i.toNat * 2)).block, (ad.add (i.toNat * 2)).off + 1, none⟩ = some (.int .u16 (rd_T184 xs i).f1) := by
  obtain ⟨ad, c, e, _, hK, hc0⟩ := Kd.C_get h z184 i h0 h1
  have hc : ∀ j u, c[j]? = some u → w.cell? (ad.add (i.toNat * 2 + j)) = some u := hc0
  obtain rfl := k184_open hK
  exact ⟨ad, e, hc 0 _ rfl, by rw [← add_field _ _ 1 (by omega)]; exact hc 1 _ rfl⟩

end Go.Proofs.Ytchkmmbedgolbaa.PFnKernClasses
