-- Written by a program of this session (xprint) out of the translation; Lean checks it.
import Derived.Test.YtchkmmbedgolbaaProg
import Derived.Below
import Derived.Deep.Draws
import Derived.Deep.AppendLies
import Derived.Maps.AppendAt
import Derived.OwnWalk
import Derived.Laws.BytesArg
import Derived.Laws.MakeOwn
import Derived.Laws.OwnMore
import Derived.Deep.OwnRows
import Derived.Tactics
import Derived.Lib.ConvBytes
import Derived.Laws.Slices
import Derived.WalkKit
import Derived.KernelRfl
import Derived.RowKit3
import Derived.Deep.LoopGhost
import Derived.Deep.QuietTactic
import Derived.BigQuiet
import Derived.WideLaws
import Derived.Deep.DeepCutAuto
import Derived.Deep.CutBlock
import Derived.Deep.RegionHeld3
import Derived.Laws.Rows
import Derived.Lib.AppendStr
import Derived.ArgAppend
import Derived.Laws.IdiomCopy
import Derived.OrdersHeld
import Derived.Laws.BitsLemmas
import Derived.RowKit
import Derived.Laws.Cover3
import Derived.Lib.SmallJoins
import Derived.Deep.RegionWith
import Derived.RegionTactic
import Derived.Lib.EndianBits
import Derived.Stop.LaidErr
import Derived.Shelf.RegionOpenPlain
import Derived.Test.YtchkmmbedgolbaaWWords
import Derived.Test.YtchkmmbedgolbaaWLast
import Derived.Test.YtchkmmbedgolbaaWTab
import Derived.Test.YtchkmmbedgolbaaWFour
import Derived.Test.YtchkmmbedgolbaaWQPut
import Derived.Test.YtchkmmbedgolbaaWApart
import Derived.Test.YtchkmmbedgolbaaWArr
import Derived.Test.YtchkmmbedgolbaaWZeros
import Derived.Test.YtchkmmbedgolbaaWFoot
import Derived.Test.YtchkmmbedgolbaaWKept
import Derived.Test.YtchkmmbedgolbaaWShare
import Derived.Test.YtchkmmbedgolbaaWN
import Derived.Test.YtchkmmbedgolbaaWFootNe
import Derived.Test.YtchkmmbedgolbaaWAt
import Derived.Test.YtchkmmbedgolbaaWEqStruct
import Derived.Test.YtchkmmbedgolbaaWRepsOne
import Derived.Test.YtchkmmbedgolbaaWInv
import Derived.Test.YtchkmmbedgolbaaWInvWords
import Derived.Test.YtchkmmbedgolbaaWGuard
import Derived.Test.YtchkmmbedgolbaaWNEv
import Derived.Test.YtchkmmbedgolbaaWMore
namespace Go.Proofs.Ytchkmmbedgolbaa.PFnTuplesOf
open Go.RowKit Go.Proofs.YtchkmmbedgolbaaW.PrintWords Go.Proofs.YtchkmmbedgolbaaW.PrintLast Go.Proofs.YtchkmmbedgolbaaW.PrintMore
attribute [local go_sem] max2_int min2_int max_two min_two max_three min_three max_four min_four   -- for this text's walks alone
set_option linter.unusedVariables false
set_option linter.unusedSimpArgs false



def errW : Option Int → Value
  | none => .nilIface
  | some c => .iface 0 (.int .i64 c)
theorem errW_none : errW none = .nilIface := rfl
theorem errW_some (c : Int) : errW (some c) = .iface 0 (.int .i64 c) := rfl

abbrev tt : Bool := true
abbrev ff : Bool := false
theorem b1_ {w : World} {g : Nat} {o : Obj} (h : w.heap[g]? = some o) (n : Nat) : (w.drewN n).heap[g]? = some o := h
theorem b2_ {w : World} {g : Nat} {o : Obj} (h : w.heap[g]? = some o) : w.drew.heap[g]? = some o := h
theorem b3_ {w : World} {g : Nat} {o : Obj} (h : w.heap[g]? = some o) (ob : Obj) : (w.alloc ob).heap[g]? = some o := blk_alloc h ob
theorem n1_ (n : Int) (h : -9223372036854775808 ≤ n ∧ n ≤ 9223372036854775807) : IntKind.i64.wrap n = n := IntWalk.i64_in n h
theorem n2_ (n : Int) (h : -2147483648 ≤ n ∧ n ≤ 2147483647) : IntKind.i32.wrap n = n := IntWalk.i32_in n h
theorem n3_ (n : Int) {m k : Int} (h : m ∣ k) : n % k % m = n % m := Int.emod_emod_of_dvd n h
theorem L1_ {α : Type} (l : List α) (i : Nat) (a : α) : l.toArray.setIfInBounds i a = (l.set i a).toArray := List.setIfInBounds_toArray l i a
theorem L2_ {α : Type} {x : α} {l : List α} {a : α} : (x :: l).set 0 a = a :: l := List.set_cons_zero
theorem L3_ {α : Type} {x : α} {l : List α} {i : Nat} {a : α} : (x :: l).set (i + 1) a = x :: l.set i a := List.set_cons_succ
/-- make([]T, 0, n): a row of one's own without elements. -/
theorem R_make0 {P : Program} {ops : Array Oper} {rest : List Oper} {o : Oper} {a : Act} {Q : Exit → Act → World → Prop} {α : Type} (d : Kd α) {w0 W : World} (base e : Nat) (hgd : o.guard = none) {N : Tmp} (hd : o.dst = some N) (t : TypeId) (x y : Operand) (ho : o.op = .makeSlice t x y) (n : Int) {kk : IntKind} (hx : a.eval x = .int .i64 0) (hy : a.eval y = .int kk n)
    (ht : P.underlying t = some (.slice e)) (z : Value) (bytes : Nat) (hinfo : (P.info? e).map (fun i => (i.zero, i.size, i.bytes)) = some (some z, d.sz, bytes)) (hs0 : 0 < d.sz) (hb0 : 0 < bytes)
    {ok : Nat → Prop} (hfresh : ok W.heap.size) (h0 : 0 ≤ n) (hl : n.toNat * bytes ≤ 281474976710656) (HB : Below base w0 W) (hbase : base ≤ W.heap.size)
    (h : ∀ v1 w1, d.R e w1 base ok v1 [] → Below base w0 w1 → W.grownBy w1 none → (∃ b, v1.ownBlock = some b ∧ W.heap.size ≤ b) → wpList P ops Q rest (a.put o.dst v1) w1) : wpList P ops Q (o :: rest) a W := by
  obtain ⟨m, rfl⟩ := Int.eq_ofNat_of_zero_le h0
  simp only [Int.toNat_natCast] at hl
  obtain ⟨i0, hi, hzz⟩ := Option.map_eq_some_iff.1 hinfo
  simp only [Prod.mk.injEq] at hzz
  obtain ⟨hz0, hz1, hz2⟩ := hzz
  have hm : m ≤ 281474976710656 := Nat.le_trans (Nat.le_mul_of_pos_right _ hb0) hl
  have hr := run_make (P := P) W t e i0 z ht hi hz0 .i64 kk 0 (m : Int) (by omega) (by omega)
    (by
      have h3 : ((i0.bytes * m : Nat) : Int) ≤ 281474976710656 := by rw [hz2, Nat.mul_comm]; omega
      rwa [Int.natCast_mul] at h3) (by omega)
  simp only [Int.toNat_natCast, Int.toNat_zero] at hr
  have hrun : (execOp a.eval o).run P W = .ok (.value (.slice (some ⟨W.heap.size, 0, none⟩) 0 m)) (W.alloc (.cells (madeCells z.cells (m * i0.size)) e)) := by
    simp [execOp, ho, hx, hy, hr]
  refine Kd.event_run hgd hrun (h _ _ ⟨fun k hk => ?_, [], ⟨by simp, Or.inr ⟨W.heap.size, m, _, rfl, hbase, heap_alloc_new W _, Nat.zero_le _, ?_, ?_, by simp⟩⟩, Reps.none _ _⟩ (HB.alloc hbase _) (World.grownBy_alloc W _ none) ⟨W.heap.size, by simp [Value.ownBlock], Nat.le_refl _⟩)
  · have : W.heap.size = k := by simpa [Value.ownBlock] using hk
    subst this
    exact hfresh
  · unfold maxLen; omega
  · rw [size_madeCells, hz1]

/-- What an error is told by: is it nil? -/
def EV (ev : Value) : Option Int → Prop
  | none => ev = .nilIface
  | some _ => ∃ te pe, ev = .iface te (.pointer pe)
theorem EV_none {ev : Value} (h : EV ev none) : ev = .nilIface := h
theorem EV_some {ev : Value} {q : Int} (h : EV ev (some q)) : ∃ te pe, ev = .iface te (.pointer pe) := h
def knp : Kd Unit := Kd.scalar (fun _ => Value.slice none 0 0) (fun _ => rfl)
theorem heap_np : Kd.Heap knp := ⟨fun _ h => h⟩

theorem info3 : (Try.prog.info? 3).map (fun i => (i.zero, i.size, i.bytes)) = some (some (.int .i64 0), 1, 8) := by kernel_rfl
theorem info5 : (Try.prog.info? 5).map (fun i => (i.zero, i.size, i.bytes)) = some (some (.int .u8 0), 1, 1) := by kernel_rfl
theorem info30 : (Try.prog.info? 30).map (fun i => (i.zero, i.size, i.bytes)) = some (some (.int .i16 0), 1, 2) := by kernel_rfl
theorem info35 : (Try.prog.info? 35).map (fun i => (i.zero, i.size, i.bytes)) = some (some (.int .u16 0), 1, 2) := by kernel_rfl
theorem info62 : (Try.prog.info? 62).map (fun i => (i.zero, i.size, i.bytes)) = some (some (.agg #[(.slice none 0 0), (.bool false), (.slice none 0 0), (.slice none 0 0), (.slice none 0 0), (.slice none 0 0), (.slice none 0 0)]), 7, 152) := by kernel_rfl
theorem info145 : (Try.prog.info? 145).map (fun i => (i.zero, i.size, i.bytes)) = some (some (.int .i16 0), 1, 2) := by kernel_rfl
-- the values' own types
def rd_L1 (xs : List (List Int)) (i : Int) : (List Int) := xs.getD i.toNat ([] : List Int)
theorem at_L1 {w : World} {A : Option Addr} {n : Nat} {xs : List (List Int)} (h : Kd.C (Kd.slice 3 (Kd.int .i64)) w A n xs) (i : Int) (h0 : 0 ≤ i) (h1 : i < n) : ∃ ad A0 c0, A = some ad ∧ w.cell? (ad.add i.toNat) = some (.slice A0 (rd_L1 xs i).length c0) ∧ (rd_L1 xs i).length ≤ c0 ∧ (Kd.int .i64).C w A0 (rd_L1 xs i).length (rd_L1 xs i) := by
  obtain ⟨ad, c, e, _, hK, hc0⟩ := Kd.C_get h ([] : List Int) i h0 h1
  have hc : ∀ j u, c[j]? = some u → w.cell? (ad.add (i.toNat * 1 + j)) = some u := hc0
  obtain ⟨A0, c0, rfl, l0, g0⟩ := hK
  exact ⟨ad, A0, c0, e, by have hq := hc 0 _ rfl; rwa [Nat.mul_one, Nat.add_zero] at hq, l0, g0⟩

structure S62 where
  f0 : (List Int)
  f1 : Bool
  f2 : (List Int)
  f3 : (List Int)
  f4 : (List Int)
  f5 : (List Int)
  f6 : (List Int)
def z62 : S62 := ⟨([] : List Int), false, ([] : List Int), ([] : List Int), ([] : List Int), ([] : List Int), ([] : List Int)⟩
def k62 : Kd S62 := Kd.iso (Kd.pair (Kd.slice 3 (Kd.int .i64)) (Kd.pair Kd.bool (Kd.pair (Kd.slice 3 (Kd.int .i64)) (Kd.pair (Kd.slice 3 (Kd.int .i64)) (Kd.pair (Kd.slice 3 (Kd.int .i64)) (Kd.pair (Kd.slice 3 (Kd.int .i64)) (Kd.slice 3 (Kd.int .i64)))))))) (fun x : S62 => (x.f0, x.f1, x.f2, x.f3, x.f4, x.f5, x.f6))
theorem k62_heap : Kd.Heap k62 := Kd.heap_iso _ (Kd.heap_pair (Kd.heap_slice 3 (Kd.heap_int .i64)) (Kd.heap_pair Kd.heap_bool (Kd.heap_pair (Kd.heap_slice 3 (Kd.heap_int .i64)) (Kd.heap_pair (Kd.heap_slice 3 (Kd.heap_int .i64)) (Kd.heap_pair (Kd.heap_slice 3 (Kd.heap_int .i64)) (Kd.heap_pair (Kd.heap_slice 3 (Kd.heap_int .i64)) (Kd.heap_slice 3 (Kd.heap_int .i64))))))))
theorem k62_open {w : World} {x : S62} {cs : List Value} (h : k62.K w x cs) : ∃ A0 c0 A2 c2 A3 c3 A4 c4 A5 c5 A6 c6, cs = [.slice A0 x.f0.length c0, .bool x.f1, .slice A2 x.f2.length c2, .slice A3 x.f3.length c3, .slice A4 x.f4.length c4, .slice A5 x.f5.length c5, .slice A6 x.f6.length c6] ∧ x.f0.length ≤ c0 ∧ (Kd.int .i64).C w A0 x.f0.length x.f0 ∧ x.f2.length ≤ c2 ∧ (Kd.int .i64).C w A2 x.f2.length x.f2 ∧ x.f3.length ≤ c3 ∧ (Kd.int .i64).C w A3 x.f3.length x.f3 ∧ x.f4.length ≤ c4 ∧ (Kd.int .i64).C w A4 x.f4.length x.f4 ∧ x.f5.length ≤ c5 ∧ (Kd.int .i64).C w A5 x.f5.length x.f5 ∧ x.f6.length ≤ c6 ∧ (Kd.int .i64).C w A6 x.f6.length x.f6 := by
  obtain ⟨_, _, rfl, ⟨A0, c0, rfl, l0, g0⟩, ⟨_, _, rfl, rfl, ⟨_, _, rfl, ⟨A2, c2, rfl, l2, g2⟩, ⟨_, _, rfl, ⟨A3, c3, rfl, l3, g3⟩, ⟨_, _, rfl, ⟨A4, c4, rfl, l4, g4⟩, ⟨_, _, rfl, ⟨A5, c5, rfl, l5, g5⟩, ⟨A6, c6, rfl, l6, g6⟩⟩⟩⟩⟩⟩⟩ := h
  exact ⟨A0, c0, A2, c2, A3, c3, A4, c4, A5, c5, A6, c6, rfl, l0, g0, l2, g2, l3, g3, l4, g4, l5, g5, l6, g6⟩
theorem k62_openM {w : World} {base : Nat} {ok : Nat → Prop} {x : S62} {cs : List Value} (h : k62.M w base ok x cs) : ∃ v0 v2 v3 v4 v5 v6, cs = [v0, .bool x.f1, v2, v3, v4, v5, v6] ∧ (Kd.int .i64).R 3 w base ok v0 x.f0 ∧ (Kd.int .i64).R 3 w base ok v2 x.f2 ∧ (Kd.int .i64).R 3 w base ok v3 x.f3 ∧ (Kd.int .i64).R 3 w base ok v4 x.f4 ∧ (Kd.int .i64).R 3 w base ok v5 x.f5 ∧ (Kd.int .i64).R 3 w base ok v6 x.f6 := by
  obtain ⟨_, _, rfl, ⟨v0, rfl, g0⟩, ⟨_, _, rfl, rfl, ⟨_, _, rfl, ⟨v2, rfl, g2⟩, ⟨_, _, rfl, ⟨v3, rfl, g3⟩, ⟨_, _, rfl, ⟨v4, rfl, g4⟩, ⟨_, _, rfl, ⟨v5, rfl, g5⟩, ⟨v6, rfl, g6⟩⟩⟩⟩⟩⟩⟩ := h
  exact ⟨v0, v2, v3, v4, v5, v6, rfl, g0, g2, g3, g4, g5, g6⟩
theorem k62_mk (w : World) (x : S62) {A0 : Option Addr} {c0 : Nat} (l0 : x.f0.length ≤ c0) (g0 : (Kd.int .i64).C w A0 x.f0.length x.f0) {A2 : Option Addr} {c2 : Nat} (l2 : x.f2.length ≤ c2) (g2 : (Kd.int .i64).C w A2 x.f2.length x.f2) {A3 : Option Addr} {c3 : Nat} (l3 : x.f3.length ≤ c3) (g3 : (Kd.int .i64).C w A3 x.f3.length x.f3) {A4 : Option Addr} {c4 : Nat} (l4 : x.f4.length ≤ c4) (g4 : (Kd.int .i64).C w A4 x.f4.length x.f4) {A5 : Option Addr} {c5 : Nat} (l5 : x.f5.length ≤ c5) (g5 : (Kd.int .i64).C w A5 x.f5.length x.f5) {A6 : Option Addr} {c6 : Nat} (l6 : x.f6.length ≤ c6) (g6 : (Kd.int .i64).C w A6 x.f6.length x.f6) : k62.K w x [.slice A0 x.f0.length c0, .bool x.f1, .slice A2 x.f2.length c2, .slice A3 x.f3.length c3, .slice A4 x.f4.length c4, .slice A5 x.f5.length c5, .slice A6 x.f6.length c6] := ⟨[.slice A0 x.f0.length c0], [.bool x.f1, .slice A2 x.f2.length c2, .slice A3 x.f3.length c3, .slice A4 x.f4.length c4, .slice A5 x.f5.length c5, .slice A6 x.f6.length c6], rfl, ⟨A0, c0, rfl, l0, g0⟩, ⟨[.bool x.f1], [.slice A2 x.f2.length c2, .slice A3 x.f3.length c3, .slice A4 x.f4.length c4, .slice A5 x.f5.length c5, .slice A6 x.f6.length c6], rfl, rfl, ⟨[.slice A2 x.f2.length c2], [.slice A3 x.f3.length c3, .slice A4 x.f4.length c4, .slice A5 x.f5.length c5, .slice A6 x.f6.length c6], rfl, ⟨A2, c2, rfl, l2, g2⟩, ⟨[.slice A3 x.f3.length c3], [.slice A4 x.f4.length c4, .slice A5 x.f5.length c5, .slice A6 x.f6.length c6], rfl, ⟨A3, c3, rfl, l3, g3⟩, ⟨[.slice A4 x.f4.length c4], [.slice A5 x.f5.length c5, .slice A6 x.f6.length c6], rfl, ⟨A4, c4, rfl, l4, g4⟩, ⟨[.slice A5 x.f5.length c5], [.slice A6 x.f6.length c6], rfl, ⟨A5, c5, rfl, l5, g5⟩, ⟨A6, c6, rfl, l6, g6⟩⟩⟩⟩⟩⟩⟩
theorem k62_mkM (w : World) (base : Nat) (ok : Nat → Prop) (x : S62) {v0 : Value} (g0 : (Kd.int .i64).R 3 w base ok v0 x.f0) {v2 : Value} (g2 : (Kd.int .i64).R 3 w base ok v2 x.f2) {v3 : Value} (g3 : (Kd.int .i64).R 3 w base ok v3 x.f3) {v4 : Value} (g4 : (Kd.int .i64).R 3 w base ok v4 x.f4) {v5 : Value} (g5 : (Kd.int .i64).R 3 w base ok v5 x.f5) {v6 : Value} (g6 : (Kd.int .i64).R 3 w base ok v6 x.f6) : k62.M w base ok x [v0, .bool x.f1, v2, v3, v4, v5, v6] := ⟨[v0], [.bool x.f1, v2, v3, v4, v5, v6], rfl, ⟨v0, rfl, g0⟩, ⟨[.bool x.f1], [v2, v3, v4, v5, v6], rfl, rfl, ⟨[v2], [v3, v4, v5, v6], rfl, ⟨v2, rfl, g2⟩, ⟨[v3], [v4, v5, v6], rfl, ⟨v3, rfl, g3⟩, ⟨[v4], [v5, v6], rfl, ⟨v4, rfl, g4⟩, ⟨[v5], [v6], rfl, ⟨v5, rfl, g5⟩, ⟨v6, rfl, g6⟩⟩⟩⟩⟩⟩⟩
theorem k62_openF {W : World} {ok : Nat → Prop} {x : S62} {cs : List Value} (h : Kd.FK k62 W ok x cs) : ∃ A0 c0 A2 c2 A3 c3 A4 c4 A5 c5 A6 c6, cs = [.slice A0 x.f0.length c0, .bool x.f1, .slice A2 x.f2.length c2, .slice A3 x.f3.length c3, .slice A4 x.f4.length c4, .slice A5 x.f5.length c5, .slice A6 x.f6.length c6] ∧ x.f0.length ≤ c0 ∧ Kd.F (Kd.int .i64) W ok A0 x.f0.length x.f0 ∧ x.f2.length ≤ c2 ∧ Kd.F (Kd.int .i64) W ok A2 x.f2.length x.f2 ∧ x.f3.length ≤ c3 ∧ Kd.F (Kd.int .i64) W ok A3 x.f3.length x.f3 ∧ x.f4.length ≤ c4 ∧ Kd.F (Kd.int .i64) W ok A4 x.f4.length x.f4 ∧ x.f5.length ≤ c5 ∧ Kd.F (Kd.int .i64) W ok A5 x.f5.length x.f5 ∧ x.f6.length ≤ c6 ∧ Kd.F (Kd.int .i64) W ok A6 x.f6.length x.f6 := by
  obtain ⟨A0, c0, A2, c2, A3, c3, A4, c4, A5, c5, A6, c6, rfl, l0, _, l2, _, l3, _, l4, _, l5, _, l6, _⟩ := k62_open (Kd.FK_now h)
  exact ⟨A0, c0, A2, c2, A3, c3, A4, c4, A5, c5, A6, c6, rfl, l0, (fun W' hW => by obtain ⟨A0_, c0_, A2_, c2_, A3_, c3_, A4_, c4_, A5_, c5_, A6_, c6_, he, l0_, g0_, l2_, g2_, l3_, g3_, l4_, g4_, l5_, g5_, l6_, g6_⟩ := k62_open (h W' hW); injection (Option.some.inj (show some (Value.slice A0 x.f0.length c0) = some (Value.slice A0_ x.f0.length c0_) from congrArg (fun l => l[0]?) he)) with ha_ _ _; rw [ha_]; exact g0_), l2, (fun W' hW => by obtain ⟨A0_, c0_, A2_, c2_, A3_, c3_, A4_, c4_, A5_, c5_, A6_, c6_, he, l0_, g0_, l2_, g2_, l3_, g3_, l4_, g4_, l5_, g5_, l6_, g6_⟩ := k62_open (h W' hW); injection (Option.some.inj (show some (Value.slice A2 x.f2.length c2) = some (Value.slice A2_ x.f2.length c2_) from congrArg (fun l => l[2]?) he)) with ha_ _ _; rw [ha_]; exact g2_), l3, (fun W' hW => by obtain ⟨A0_, c0_, A2_, c2_, A3_, c3_, A4_, c4_, A5_, c5_, A6_, c6_, he, l0_, g0_, l2_, g2_, l3_, g3_, l4_, g4_, l5_, g5_, l6_, g6_⟩ := k62_open (h W' hW); injection (Option.some.inj (show some (Value.slice A3 x.f3.length c3) = some (Value.slice A3_ x.f3.length c3_) from congrArg (fun l => l[3]?) he)) with ha_ _ _; rw [ha_]; exact g3_), l4, (fun W' hW => by obtain ⟨A0_, c0_, A2_, c2_, A3_, c3_, A4_, c4_, A5_, c5_, A6_, c6_, he, l0_, g0_, l2_, g2_, l3_, g3_, l4_, g4_, l5_, g5_, l6_, g6_⟩ := k62_open (h W' hW); injection (Option.some.inj (show some (Value.slice A4 x.f4.length c4) = some (Value.slice A4_ x.f4.length c4_) from congrArg (fun l => l[4]?) he)) with ha_ _ _; rw [ha_]; exact g4_), l5, (fun W' hW => by obtain ⟨A0_, c0_, A2_, c2_, A3_, c3_, A4_, c4_, A5_, c5_, A6_, c6_, he, l0_, g0_, l2_, g2_, l3_, g3_, l4_, g4_, l5_, g5_, l6_, g6_⟩ := k62_open (h W' hW); injection (Option.some.inj (show some (Value.slice A5 x.f5.length c5) = some (Value.slice A5_ x.f5.length c5_) from congrArg (fun l => l[5]?) he)) with ha_ _ _; rw [ha_]; exact g5_), l6, (fun W' hW => by obtain ⟨A0_, c0_, A2_, c2_, A3_, c3_, A4_, c4_, A5_, c5_, A6_, c6_, he, l0_, g0_, l2_, g2_, l3_, g3_, l4_, g4_, l5_, g5_, l6_, g6_⟩ := k62_open (h W' hW); injection (Option.some.inj (show some (Value.slice A6 x.f6.length c6) = some (Value.slice A6_ x.f6.length c6_) from congrArg (fun l => l[6]?) he)) with ha_ _ _; rw [ha_]; exact g6_)⟩
theorem k62_mkF (W : World) (ok : Nat → Prop) (x : S62) {A0 : Option Addr} {c0 : Nat} (l0 : x.f0.length ≤ c0) (g0 : Kd.F (Kd.int .i64) W ok A0 x.f0.length x.f0) {A2 : Option Addr} {c2 : Nat} (l2 : x.f2.length ≤ c2) (g2 : Kd.F (Kd.int .i64) W ok A2 x.f2.length x.f2) {A3 : Option Addr} {c3 : Nat} (l3 : x.f3.length ≤ c3) (g3 : Kd.F (Kd.int .i64) W ok A3 x.f3.length x.f3) {A4 : Option Addr} {c4 : Nat} (l4 : x.f4.length ≤ c4) (g4 : Kd.F (Kd.int .i64) W ok A4 x.f4.length x.f4) {A5 : Option Addr} {c5 : Nat} (l5 : x.f5.length ≤ c5) (g5 : Kd.F (Kd.int .i64) W ok A5 x.f5.length x.f5) {A6 : Option Addr} {c6 : Nat} (l6 : x.f6.length ≤ c6) (g6 : Kd.F (Kd.int .i64) W ok A6 x.f6.length x.f6) : Kd.FK k62 W ok x [.slice A0 x.f0.length c0, .bool x.f1, .slice A2 x.f2.length c2, .slice A3 x.f3.length c3, .slice A4 x.f4.length c4, .slice A5 x.f5.length c5, .slice A6 x.f6.length c6] := fun W2 hW => k62_mk W2 x l0 (g0 W2 hW) l2 (g2 W2 hW) l3 (g3 W2 hW) l4 (g4 W2 hW) l5 (g5 W2 hW) l6 (g6 W2 hW)
def rd_T62 (xs : List S62) (i : Int) : S62 := xs.getD i.toNat z62
theorem at_T62 {w : World} {A : Option Addr} {n : Nat} {xs : List S62} (h : Kd.C k62 w A n xs) (i : Int) (h0 : 0 ≤ i) (h1 : i < n) : ∃ ad A0 c0 A2 c2 A3 c3 A4 c4 A5 c5 A6 c6, A = some ad ∧ w.cell? (ad.add (i.toNat * 7)) = some (.slice A0 (rd_T62 xs i).f0.length c0) ∧ w.cell? ⟨(ad.add (i.toNat * 7)).block, (ad.add (i.toNat * 7)).off + 1, none⟩ = some (.bool (rd_T62 xs i).f1) ∧ w.cell? ⟨(ad.add (i.toNat * 7)).block, (ad.add (i.toNat * 7)).off + 2, none⟩ = some (.slice A2 (rd_T62 xs i).f2.length c2) ∧ w.cell? ⟨(ad.add (i.toNat * 7)).block, (ad.add (i.toNat * 7)).off + 3, none⟩ = some (.slice A3 (rd_T62 xs i).f3.length c3) ∧ w.cell? ⟨(ad.add (i.toNat * 7)).block, (ad.add (i.toNat * 7)).off + 4, none⟩ = some (.slice A4 (rd_T62 xs i).f4.length c4) ∧ w.cell? ⟨(ad.add (i.toNat * 7)).block, (ad.add (i.toNat * 7)).off + 5, none⟩ = some (.slice A5 (rd_T62 xs i).f5.length c5) ∧ w.cell? ⟨(ad.add (i.toNat * 7)).block, (ad.add (i.toNat * 7)).off + 6, none⟩ = some (.slice A6 (rd_T62 xs i).f6.length c6) ∧ (rd_T62 xs i).f0.length ≤ c0 ∧ (Kd.int .i64).C w A0 (rd_T62 xs i).f0.length (rd_T62 xs i).f0 ∧ (rd_T62 xs i).f2.length ≤ c2 ∧ (Kd.int .i64).C w A2 (rd_T62 xs i).f2.length (rd_T62 xs i).f2 ∧ (rd_T62 xs i).f3.length ≤ c3 ∧ (Kd.int .i64).C w A3 (rd_T62 xs i).f3.length (rd_T62 xs i).f3 ∧ (rd_T62 xs i).f4.length ≤ c4 ∧ (Kd.int .i64).C w A4 (rd_T62 xs i).f4.length (rd_T62 xs i).f4 ∧ (rd_T62 xs i).f5.length ≤ c5 ∧ (Kd.int .i64).C w A5 (rd_T62 xs i).f5.length (rd_T62 xs i).f5 ∧ (rd_T62 xs i).f6.length ≤ c6 ∧ (Kd.int .i64).C w A6 (rd_T62 xs i).f6.length (rd_T62 xs i).f6 := by
  obtain ⟨ad, c, e, _, hK, hc0⟩ := Kd.C_get h z62 i h0 h1
  have hc : ∀ j u, c[j]? = some u → w.cell? (ad.add (i.toNat * 7 + j)) = some u := hc0
  obtain ⟨A0, c0, A2, c2, A3, c3, A4, c4, A5, c5, A6, c6, rfl, l0, g0, l2, g2, l3, g3, l4, g4, l5, g5, l6, g6⟩ := k62_open hK
  exact ⟨ad, A0, c0, A2, c2, A3, c3, A4, c4, A5, c5, A6, c6, e, hc 0 _ rfl, by rw [← add_field _ _ 1 (by omega)]; exact hc 1 _ rfl, by rw [← add_field _ _ 2 (by omega)]; exact hc 2 _ rfl, by rw [← add_field _ _ 3 (by omega)]; exact hc 3 _ rfl, by rw [← add_field _ _ 4 (by omega)]; exact hc 4 _ rfl, by rw [← add_field _ _ 5 (by omega)]; exact hc 5 _ rfl, by rw [← add_field _ _ 6 (by omega)]; exact hc 6 _ rfl, l0, g0, l2, g2, l3, g3, l4, g4, l5, g5, l6, g6⟩

def rd_L7 (xs : List (List Int)) (i : Int) : (List Int) := xs.getD i.toNat ([] : List Int)
theorem at_L7 {w : World} {A : Option Addr} {n : Nat} {xs : List (List Int)} (h : Kd.C (Kd.slice 145 (Kd.int .i16)) w A n xs) (i : Int) (h0 : 0 ≤ i) (h1 : i < n) : ∃ ad A0 c0, A = some ad ∧ w.cell? (ad.add i.toNat) = some (.slice A0 (rd_L7 xs i).length c0) ∧ (rd_L7 xs i).length ≤ c0 ∧ (Kd.int .i16).C w A0 (rd_L7 xs i).length (rd_L7 xs i) := by
  obtain ⟨ad, c, e, _, hK, hc0⟩ := Kd.C_get h ([] : List Int) i h0 h1
  have hc : ∀ j u, c[j]? = some u → w.cell? (ad.add (i.toNat * 1 + j)) = some u := hc0
  obtain ⟨A0, c0, rfl, l0, g0⟩ := hK
  exact ⟨ad, A0, c0, e, by have hq := hc 0 _ rfl; rwa [Nat.mul_one, Nat.add_zero] at hq, l0, g0⟩

def rd_L8 (xs : List (List Int)) (i : Int) : (List Int) := xs.getD i.toNat ([] : List Int)
theorem at_L8 {w : World} {A : Option Addr} {n : Nat} {xs : List (List Int)} (h : Kd.C (Kd.slice 35 (Kd.int .u16)) w A n xs) (i : Int) (h0 : 0 ≤ i) (h1 : i < n) : ∃ ad A0 c0, A = some ad ∧ w.cell? (ad.add i.toNat) = some (.slice A0 (rd_L8 xs i).length c0) ∧ (rd_L8 xs i).length ≤ c0 ∧ (Kd.int .u16).C w A0 (rd_L8 xs i).length (rd_L8 xs i) := by
  obtain ⟨ad, c, e, _, hK, hc0⟩ := Kd.C_get h ([] : List Int) i h0 h1
  have hc : ∀ j u, c[j]? = some u → w.cell? (ad.add (i.toNat * 1 + j)) = some u := hc0
  obtain ⟨A0, c0, rfl, l0, g0⟩ := hK
  exact ⟨ad, A0, c0, e, by have hq := hc 0 _ rfl; rwa [Nat.mul_one, Nat.add_zero] at hq, l0, g0⟩

def rd_L9 (xs : List (List Int)) (i : Int) : (List Int) := xs.getD i.toNat ([] : List Int)
theorem at_L9 {w : World} {A : Option Addr} {n : Nat} {xs : List (List Int)} (h : Kd.C (Kd.slice 30 (Kd.int .i16)) w A n xs) (i : Int) (h0 : 0 ≤ i) (h1 : i < n) : ∃ ad A0 c0, A = some ad ∧ w.cell? (ad.add i.toNat) = some (.slice A0 (rd_L9 xs i).length c0) ∧ (rd_L9 xs i).length ≤ c0 ∧ (Kd.int .i16).C w A0 (rd_L9 xs i).length (rd_L9 xs i) := by
  obtain ⟨ad, c, e, _, hK, hc0⟩ := Kd.C_get h ([] : List Int) i h0 h1
  have hc : ∀ j u, c[j]? = some u → w.cell? (ad.add (i.toNat * 1 + j)) = some u := hc0
  obtain ⟨A0, c0, rfl, l0, g0⟩ := hK
  exact ⟨ad, A0, c0, e, by have hq := hc 0 _ rfl; rwa [Nat.mul_one, Nat.add_zero] at hq, l0, g0⟩

structure S143 where
  f0 : (List Int)
  f1 : (List Int)
  f2 : (List Int)
  f3 : (List Int)
  f4 : (List Int)
  f5 : (List Int)
def z143 : S143 := ⟨([] : List Int), ([] : List Int), ([] : List Int), ([] : List Int), ([] : List Int), ([] : List Int)⟩
def k143 : Kd S143 := Kd.iso (Kd.pair (Kd.slice 145 (Kd.int .i16)) (Kd.pair (Kd.slice 145 (Kd.int .i16)) (Kd.pair (Kd.slice 145 (Kd.int .i16)) (Kd.pair (Kd.slice 35 (Kd.int .u16)) (Kd.pair (Kd.slice 30 (Kd.int .i16)) (Kd.slice 30 (Kd.int .i16))))))) (fun x : S143 => (x.f0, x.f1, x.f2, x.f3, x.f4, x.f5))
theorem k143_heap : Kd.Heap k143 := Kd.heap_iso _ (Kd.heap_pair (Kd.heap_slice 145 (Kd.heap_int .i16)) (Kd.heap_pair (Kd.heap_slice 145 (Kd.heap_int .i16)) (Kd.heap_pair (Kd.heap_slice 145 (Kd.heap_int .i16)) (Kd.heap_pair (Kd.heap_slice 35 (Kd.heap_int .u16)) (Kd.heap_pair (Kd.heap_slice 30 (Kd.heap_int .i16)) (Kd.heap_slice 30 (Kd.heap_int .i16)))))))
theorem k143_open {w : World} {x : S143} {cs : List Value} (h : k143.K w x cs) : ∃ A0 c0 A1 c1 A2 c2 A3 c3 A4 c4 A5 c5, cs = [.slice A0 x.f0.length c0, .slice A1 x.f1.length c1, .slice A2 x.f2.length c2, .slice A3 x.f3.length c3, .slice A4 x.f4.length c4, .slice A5 x.f5.length c5] ∧ x.f0.length ≤ c0 ∧ (Kd.int .i16).C w A0 x.f0.length x.f0 ∧ x.f1.length ≤ c1 ∧ (Kd.int .i16).C w A1 x.f1.length x.f1 ∧ x.f2.length ≤ c2 ∧ (Kd.int .i16).C w A2 x.f2.length x.f2 ∧ x.f3.length ≤ c3 ∧ (Kd.int .u16).C w A3 x.f3.length x.f3 ∧ x.f4.length ≤ c4 ∧ (Kd.int .i16).C w A4 x.f4.length x.f4 ∧ x.f5.length ≤ c5 ∧ (Kd.int .i16).C w A5 x.f5.length x.f5 := by
  obtain ⟨_, _, rfl, ⟨A0, c0, rfl, l0, g0⟩, ⟨_, _, rfl, ⟨A1, c1, rfl, l1, g1⟩, ⟨_, _, rfl, ⟨A2, c2, rfl, l2, g2⟩, ⟨_, _, rfl, ⟨A3, c3, rfl, l3, g3⟩, ⟨_, _, rfl, ⟨A4, c4, rfl, l4, g4⟩, ⟨A5, c5, rfl, l5, g5⟩⟩⟩⟩⟩⟩ := h
  exact ⟨A0, c0, A1, c1, A2, c2, A3, c3, A4, c4, A5, c5, rfl, l0, g0, l1, g1, l2, g2, l3, g3, l4, g4, l5, g5⟩
theorem k143_openM {w : World} {base : Nat} {ok : Nat → Prop} {x : S143} {cs : List Value} (h : k143.M w base ok x cs) : ∃ v0 v1 v2 v3 v4 v5, cs = [v0, v1, v2, v3, v4, v5] ∧ (Kd.int .i16).R 145 w base ok v0 x.f0 ∧ (Kd.int .i16).R 145 w base ok v1 x.f1 ∧ (Kd.int .i16).R 145 w base ok v2 x.f2 ∧ (Kd.int .u16).R 35 w base ok v3 x.f3 ∧ (Kd.int .i16).R 30 w base ok v4 x.f4 ∧ (Kd.int .i16).R 30 w base ok v5 x.f5 := by
  obtain ⟨_, _, rfl, ⟨v0, rfl, g0⟩, ⟨_, _, rfl, ⟨v1, rfl, g1⟩, ⟨_, _, rfl, ⟨v2, rfl, g2⟩, ⟨_, _, rfl, ⟨v3, rfl, g3⟩, ⟨_, _, rfl, ⟨v4, rfl, g4⟩, ⟨v5, rfl, g5⟩⟩⟩⟩⟩⟩ := h
  exact ⟨v0, v1, v2, v3, v4, v5, rfl, g0, g1, g2, g3, g4, g5⟩
theorem k143_mk (w : World) (x : S143) {A0 : Option Addr} {c0 : Nat} (l0 : x.f0.length ≤ c0) (g0 : (Kd.int .i16).C w A0 x.f0.length x.f0) {A1 : Option Addr} {c1 : Nat} (l1 : x.f1.length ≤ c1) (g1 : (Kd.int .i16).C w A1 x.f1.length x.f1) {A2 : Option Addr} {c2 : Nat} (l2 : x.f2.length ≤ c2) (g2 : (Kd.int .i16).C w A2 x.f2.length x.f2) {A3 : Option Addr} {c3 : Nat} (l3 : x.f3.length ≤ c3) (g3 : (Kd.int .u16).C w A3 x.f3.length x.f3) {A4 : Option Addr} {c4 : Nat} (l4 : x.f4.length ≤ c4) (g4 : (Kd.int .i16).C w A4 x.f4.length x.f4) {A5 : Option Addr} {c5 : Nat} (l5 : x.f5.length ≤ c5) (g5 : (Kd.int .i16).C w A5 x.f5.length x.f5) : k143.K w x [.slice A0 x.f0.length c0, .slice A1 x.f1.length c1, .slice A2 x.f2.length c2, .slice A3 x.f3.length c3, .slice A4 x.f4.length c4, .slice A5 x.f5.length c5] := ⟨[.slice A0 x.f0.length c0], [.slice A1 x.f1.length c1, .slice A2 x.f2.length c2, .slice A3 x.f3.length c3, .slice A4 x.f4.length c4, .slice A5 x.f5.length c5], rfl, ⟨A0, c0, rfl, l0, g0⟩, ⟨[.slice A1 x.f1.length c1], [.slice A2 x.f2.length c2, .slice A3 x.f3.length c3, .slice A4 x.f4.length c4, .slice A5 x.f5.length c5], rfl, ⟨A1, c1, rfl, l1, g1⟩, ⟨[.slice A2 x.f2.length c2], [.slice A3 x.f3.length c3, .slice A4 x.f4.length c4, .slice A5 x.f5.length c5], rfl, ⟨A2, c2, rfl, l2, g2⟩, ⟨[.slice A3 x.f3.length c3], [.slice A4 x.f4.length c4, .slice A5 x.f5.length c5], rfl, ⟨A3, c3, rfl, l3, g3⟩, ⟨[.slice A4 x.f4.length c4], [.slice A5 x.f5.length c5], rfl, ⟨A4, c4, rfl, l4, g4⟩, ⟨A5, c5, rfl, l5, g5⟩⟩⟩⟩⟩⟩
theorem k143_mkM (w : World) (base : Nat) (ok : Nat → Prop) (x : S143) {v0 : Value} (g0 : (Kd.int .i16).R 145 w base ok v0 x.f0) {v1 : Value} (g1 : (Kd.int .i16).R 145 w base ok v1 x.f1) {v2 : Value} (g2 : (Kd.int .i16).R 145 w base ok v2 x.f2) {v3 : Value} (g3 : (Kd.int .u16).R 35 w base ok v3 x.f3) {v4 : Value} (g4 : (Kd.int .i16).R 30 w base ok v4 x.f4) {v5 : Value} (g5 : (Kd.int .i16).R 30 w base ok v5 x.f5) : k143.M w base ok x [v0, v1, v2, v3, v4, v5] := ⟨[v0], [v1, v2, v3, v4, v5], rfl, ⟨v0, rfl, g0⟩, ⟨[v1], [v2, v3, v4, v5], rfl, ⟨v1, rfl, g1⟩, ⟨[v2], [v3, v4, v5], rfl, ⟨v2, rfl, g2⟩, ⟨[v3], [v4, v5], rfl, ⟨v3, rfl, g3⟩, ⟨[v4], [v5], rfl, ⟨v4, rfl, g4⟩, ⟨v5, rfl, g5⟩⟩⟩⟩⟩⟩
theorem k143_openF {W : World} {ok : Nat → Prop} {x : S143} {cs : List Value} (h : Kd.FK k143 W ok x cs) : ∃ A0 c0 A1 c1 A2 c2 A3 c3 A4 c4 A5 c5, cs = [.slice A0 x.f0.length c0, .slice A1 x.f1.length c1, .slice A2 x.f2.length c2, .slice A3 x.f3.length c3, .slice A4 x.f4.length c4, .slice A5 x.f5.length c5] ∧ x.f0.length ≤ c0 ∧ Kd.F (Kd.int .i16) W ok A0 x.f0.length x.f0 ∧ x.f1.length ≤ c1 ∧ Kd.F (Kd.int .i16) W ok A1 x.f1.length x.f1 ∧ x.f2.length ≤ c2 ∧ Kd.F (Kd.int .i16) W ok A2 x.f2.length x.f2 ∧ x.f3.length ≤ c3 ∧ Kd.F (Kd.int .u16) W ok A3 x.f3.length x.f3 ∧ x.f4.length ≤ c4 ∧ Kd.F (Kd.int .i16) W ok A4 x.f4.length x.f4 ∧ x.f5.length ≤ c5 ∧ Kd.F (Kd.int .i16) W ok A5 x.f5.length x.f5 := by
  obtain ⟨A0, c0, A1, c1, A2, c2, A3, c3, A4, c4, A5, c5, rfl, l0, _, l1, _, l2, _, l3, _, l4, _, l5, _⟩ := k143_open (Kd.FK_now h)
  exact ⟨A0, c0, A1, c1, A2, c2, A3, c3, A4, c4, A5, c5, rfl, l0, (fun W' hW => by obtain ⟨A0_, c0_, A1_, c1_, A2_, c2_, A3_, c3_, A4_, c4_, A5_, c5_, he, l0_, g0_, l1_, g1_, l2_, g2_, l3_, g3_, l4_, g4_, l5_, g5_⟩ := k143_open (h W' hW); injection (Option.some.inj (show some (Value.slice A0 x.f0.length c0) = some (Value.slice A0_ x.f0.length c0_) from congrArg (fun l => l[0]?) he)) with ha_ _ _; rw [ha_]; exact g0_), l1, (fun W' hW => by obtain ⟨A0_, c0_, A1_, c1_, A2_, c2_, A3_, c3_, A4_, c4_, A5_, c5_, he, l0_, g0_, l1_, g1_, l2_, g2_, l3_, g3_, l4_, g4_, l5_, g5_⟩ := k143_open (h W' hW); injection (Option.some.inj (show some (Value.slice A1 x.f1.length c1) = some (Value.slice A1_ x.f1.length c1_) from congrArg (fun l => l[1]?) he)) with ha_ _ _; rw [ha_]; exact g1_), l2, (fun W' hW => by obtain ⟨A0_, c0_, A1_, c1_, A2_, c2_, A3_, c3_, A4_, c4_, A5_, c5_, he, l0_, g0_, l1_, g1_, l2_, g2_, l3_, g3_, l4_, g4_, l5_, g5_⟩ := k143_open (h W' hW); injection (Option.some.inj (show some (Value.slice A2 x.f2.length c2) = some (Value.slice A2_ x.f2.length c2_) from congrArg (fun l => l[2]?) he)) with ha_ _ _; rw [ha_]; exact g2_), l3, (fun W' hW => by obtain ⟨A0_, c0_, A1_, c1_, A2_, c2_, A3_, c3_, A4_, c4_, A5_, c5_, he, l0_, g0_, l1_, g1_, l2_, g2_, l3_, g3_, l4_, g4_, l5_, g5_⟩ := k143_open (h W' hW); injection (Option.some.inj (show some (Value.slice A3 x.f3.length c3) = some (Value.slice A3_ x.f3.length c3_) from congrArg (fun l => l[3]?) he)) with ha_ _ _; rw [ha_]; exact g3_), l4, (fun W' hW => by obtain ⟨A0_, c0_, A1_, c1_, A2_, c2_, A3_, c3_, A4_, c4_, A5_, c5_, he, l0_, g0_, l1_, g1_, l2_, g2_, l3_, g3_, l4_, g4_, l5_, g5_⟩ := k143_open (h W' hW); injection (Option.some.inj (show some (Value.slice A4 x.f4.length c4) = some (Value.slice A4_ x.f4.length c4_) from congrArg (fun l => l[4]?) he)) with ha_ _ _; rw [ha_]; exact g4_), l5, (fun W' hW => by obtain ⟨A0_, c0_, A1_, c1_, A2_, c2_, A3_, c3_, A4_, c4_, A5_, c5_, he, l0_, g0_, l1_, g1_, l2_, g2_, l3_, g3_, l4_, g4_, l5_, g5_⟩ := k143_open (h W' hW); injection (Option.some.inj (show some (Value.slice A5 x.f5.length c5) = some (Value.slice A5_ x.f5.length c5_) from congrArg (fun l => l[5]?) he)) with ha_ _ _; rw [ha_]; exact g5_)⟩
theorem k143_mkF (W : World) (ok : Nat → Prop) (x : S143) {A0 : Option Addr} {c0 : Nat} (l0 : x.f0.length ≤ c0) (g0 : Kd.F (Kd.int .i16) W ok A0 x.f0.length x.f0) {A1 : Option Addr} {c1 : Nat} (l1 : x.f1.length ≤ c1) (g1 : Kd.F (Kd.int .i16) W ok A1 x.f1.length x.f1) {A2 : Option Addr} {c2 : Nat} (l2 : x.f2.length ≤ c2) (g2 : Kd.F (Kd.int .i16) W ok A2 x.f2.length x.f2) {A3 : Option Addr} {c3 : Nat} (l3 : x.f3.length ≤ c3) (g3 : Kd.F (Kd.int .u16) W ok A3 x.f3.length x.f3) {A4 : Option Addr} {c4 : Nat} (l4 : x.f4.length ≤ c4) (g4 : Kd.F (Kd.int .i16) W ok A4 x.f4.length x.f4) {A5 : Option Addr} {c5 : Nat} (l5 : x.f5.length ≤ c5) (g5 : Kd.F (Kd.int .i16) W ok A5 x.f5.length x.f5) : Kd.FK k143 W ok x [.slice A0 x.f0.length c0, .slice A1 x.f1.length c1, .slice A2 x.f2.length c2, .slice A3 x.f3.length c3, .slice A4 x.f4.length c4, .slice A5 x.f5.length c5] := fun W2 hW => k143_mk W2 x l0 (g0 W2 hW) l1 (g1 W2 hW) l2 (g2 W2 hW) l3 (g3 W2 hW) l4 (g4 W2 hW) l5 (g5 W2 hW)
def rd_T143 (xs : List S143) (i : Int) : S143 := xs.getD i.toNat z143
theorem at_T143 {w : World} {A : Option Addr} {n : Nat} {xs : List S143} (h : Kd.C k143 w A n xs) (i : Int) (h0 : 0 ≤ i) (h1 : i < n) : ∃ ad A0 c0 A1 c1 A2 c2 A3 c3 A4 c4 A5 c5, A = some ad ∧ w.cell? (ad.add (i.toNat * 6)) = some (.slice A0 (rd_T143 xs i).f0.length c0) ∧ w.cell? ⟨(ad.add (i.toNat * 6)).block, (ad.add (i.toNat * 6)).off + 1, none⟩ = some (.slice A1 (rd_T143 xs i).f1.length c1) ∧ w.cell? ⟨(ad.add (i.toNat * 6)).block, (ad.add (i.toNat * 6)).off + 2, none⟩ = some (.slice A2 (rd_T143 xs i).f2.length c2) ∧ w.cell? ⟨(ad.add (i.toNat * 6)).block, (ad.add (i.toNat * 6)).off + 3, none⟩ = some (.slice A3 (rd_T143 xs i).f3.length c3) ∧ w.cell? ⟨(ad.add (i.toNat * 6)).block, (ad.add (i.toNat * 6)).off + 4, none⟩ = some (.slice A4 (rd_T143 xs i).f4.length c4) ∧ w.cell? ⟨(ad.add (i.toNat * 6)).block, (ad.add (i.toNat * 6)).off + 5, none⟩ = some (.slice A5 (rd_T143 xs i).f5.length c5) ∧ (rd_T143 xs i).f0.length ≤ c0 ∧ (Kd.int .i16).C w A0 (rd_T143 xs i).f0.length (rd_T143 xs i).f0 ∧ (rd_T143 xs i).f1.length ≤ c1 ∧ (Kd.int .i16).C w A1 (rd_T143 xs i).f1.length (rd_T143 xs i).f1 ∧ (rd_T143 xs i).f2.length ≤ c2 ∧ (Kd.int .i16).C w A2 (rd_T143 xs i).f2.length (rd_T143 xs i).f2 ∧ (rd_T143 xs i).f3.length ≤ c3 ∧ (Kd.int .u16).C w A3 (rd_T143 xs i).f3.length (rd_T143 xs i).f3 ∧ (rd_T143 xs i).f4.length ≤ c4 ∧ (Kd.int .i16).C w A4 (rd_T143 xs i).f4.length (rd_T143 xs i).f4 ∧ (rd_T143 xs i).f5.length ≤ c5 ∧ (Kd.int .i16).C w A5 (rd_T143 xs i).f5.length (rd_T143 xs i).f5 := by
  obtain ⟨ad, c, e, _, hK, hc0⟩ := Kd.C_get h z143 i h0 h1
  have hc : ∀ j u, c[j]? = some u → w.cell? (ad.add (i.toNat * 6 + j)) = some u := hc0
  obtain ⟨A0, c0, A1, c1, A2, c2, A3, c3, A4, c4, A5, c5, rfl, l0, g0, l1, g1, l2, g2, l3, g3, l4, g4, l5, g5⟩ := k143_open hK
  exact ⟨ad, A0, c0, A1, c1, A2, c2, A3, c3, A4, c4, A5, c5, e, hc 0 _ rfl, by rw [← add_field _ _ 1 (by omega)]; exact hc 1 _ rfl, by rw [← add_field _ _ 2 (by omega)]; exact hc 2 _ rfl, by rw [← add_field _ _ 3 (by omega)]; exact hc 3 _ rfl, by rw [← add_field _ _ 4 (by omega)]; exact hc 4 _ rfl, by rw [← add_field _ _ 5 (by omega)]; exact hc 5 _ rfl, l0, g0, l1, g1, l2, g2, l3, g3, l4, g4, l5, g5⟩

end Go.Proofs.Ytchkmmbedgolbaa.PFnTuplesOf

