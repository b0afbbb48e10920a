-- Written by a program of this session (xprint) out of the translation; Lean checks it.
import Derived.Laws.FloatArith
import Derived.Test.YtlbmfnjhpojghaaProg
import Derived.Below
import Derived.Deep.Draws
import Derived.Deep.AppendLies
import Derived.Maps.AppendAt
import Derived.OwnWalk
import Derived.Laws.BytesArg
import Derived.Laws.MakeOwn
import Derived.Laws.OwnMore
import Derived.Deep.OwnRows
import Derived.Tactics
import Derived.Lib.ConvBytes
import Derived.Laws.Slices
import Derived.WalkKit
import Derived.KernelRfl
import Derived.RowKit3
import Derived.Deep.LoopGhost
import Derived.Deep.QuietTactic
import Derived.BigQuiet
import Derived.WideLaws
import Derived.Deep.DeepCutAuto
import Derived.Deep.CutBlock
import Derived.Deep.RegionHeld3
import Derived.Laws.Rows
import Derived.Lib.AppendStr
import Derived.ArgAppend
import Derived.Laws.IdiomCopy
import Derived.OrdersHeld
import Derived.Laws.BitsLemmas
import Derived.RowKit
import Derived.Lib.SmallJoins
import Derived.Deep.RegionWith
import Derived.RegionTactic
import Derived.Test.YtlbmfnjhpojghaaWWords
import Derived.Test.YtlbmfnjhpojghaaWLast
import Derived.Test.YtlbmfnjhpojghaaWTab
import Derived.Test.YtlbmfnjhpojghaaWFour
import Derived.Test.YtlbmfnjhpojghaaWQPut
import Derived.Test.YtlbmfnjhpojghaaWApart
import Derived.Test.YtlbmfnjhpojghaaWArr
import Derived.Test.YtlbmfnjhpojghaaWZeros
import Derived.Test.YtlbmfnjhpojghaaWFoot
import Derived.Test.YtlbmfnjhpojghaaWKept
import Derived.Test.YtlbmfnjhpojghaaWShare
import Derived.Test.YtlbmfnjhpojghaaWN
import Derived.Test.YtlbmfnjhpojghaaWFootNe
import Derived.Test.YtlbmfnjhpojghaaWAt
import Derived.Test.YtlbmfnjhpojghaaWEqStruct
import Derived.Test.YtlbmfnjhpojghaaWRepsOne
import Derived.Test.YtlbmfnjhpojghaaWInv
import Derived.Test.YtlbmfnjhpojghaaWInvWords
import Derived.Test.YtlbmfnjhpojghaaWGuard
import Derived.Test.YtlbmfnjhpojghaaWNEv
import Derived.Test.YtlbmfnjhpojghaaWMore
namespace Go.Proofs.Ytlbmfnjhpojghaa.PFnContours
open Go.RowKit Go.Proofs.YtlbmfnjhpojghaaW.PrintWords Go.Proofs.YtlbmfnjhpojghaaW.PrintLast Go.Proofs.YtlbmfnjhpojghaaW.PrintMore
attribute [local go_sem] max2_int min2_int max_two min_two max_three min_three max_four min_four   -- for this text's walks alone
set_option linter.unusedVariables false
set_option linter.unusedSimpArgs false



def errW : Option Int → Value
  | none => .nilIface
  | some c => .iface 0 (.int .i64 c)
theorem errW_none : errW none = .nilIface := rfl
theorem errW_some (c : Int) : errW (some c) = .iface 0 (.int .i64 c) := rfl

abbrev tt : Bool := true
abbrev ff : Bool := false
theorem b1_ {w : World} {g : Nat} {o : Obj} (h : w.heap[g]? = some o) (n : Nat) : (w.drewN n).heap[g]? = some o := h
theorem b2_ {w : World} {g : Nat} {o : Obj} (h : w.heap[g]? = some o) : w.drew.heap[g]? = some o := h
theorem b3_ {w : World} {g : Nat} {o : Obj} (h : w.heap[g]? = some o) (ob : Obj) : (w.alloc ob).heap[g]? = some o := blk_alloc h ob
theorem n1_ (n : Int) (h : -9223372036854775808 ≤ n ∧ n ≤ 9223372036854775807) : IntKind.i64.wrap n = n := IntWalk.i64_in n h
theorem n2_ (n : Int) (h : -2147483648 ≤ n ∧ n ≤ 2147483647) : IntKind.i32.wrap n = n := IntWalk.i32_in n h
theorem n3_ (n : Int) {m k : Int} (h : m ∣ k) : n % k % m = n % m := Int.emod_emod_of_dvd n h
theorem L1_ {α : Type} (l : List α) (i : Nat) (a : α) : l.toArray.setIfInBounds i a = (l.set i a).toArray := List.setIfInBounds_toArray l i a
theorem L2_ {α : Type} {x : α} {l : List α} {a : α} : (x :: l).set 0 a = a :: l := List.set_cons_zero
theorem L3_ {α : Type} {x : α} {l : List α} {i : Nat} {a : α} : (x :: l).set (i + 1) a = x :: l.set i a := List.set_cons_succ
/-- make([]T, 0, n): a row of one's own without elements. -/
theorem R_make0 {P : Program} {ops : Array Oper} {rest : List Oper} {o : Oper} {a : Act} {Q : Exit → Act → World → Prop} {α : Type} (d : Kd α) {w0 W : World} (base e : Nat) (hgd : o.guard = none) {N : Tmp} (hd : o.dst = some N) (t : TypeId) (x y : Operand) (ho : o.op = .makeSlice t x y) (n : Int) (hx : a.eval x = .int .i64 0) (hy : a.eval y = .int .i64 n)
    (ht : P.underlying t = some (.slice e)) (z : Value) (bytes : Nat) (hinfo : (P.info? e).map (fun i => (i.zero, i.size, i.bytes)) = some (some z, d.sz, bytes)) (hs0 : 0 < d.sz) (hb0 : 0 < bytes)
    {ok : Nat → Prop} (hfresh : ok W.heap.size) (h0 : 0 ≤ n) (hl : n.toNat * bytes ≤ 281474976710656) (HB : Below base w0 W) (hbase : base ≤ W.heap.size)
    (h : ∀ v1 w1, d.R e w1 base ok v1 [] → Below base w0 w1 → W.grownBy w1 none → (∃ b, v1.ownBlock = some b ∧ W.heap.size ≤ b) → wpList P ops Q rest (a.put o.dst v1) w1) : wpList P ops Q (o :: rest) a W := by
  obtain ⟨m, rfl⟩ := Int.eq_ofNat_of_zero_le h0
  simp only [Int.toNat_natCast] at hl
  obtain ⟨i0, hi, hzz⟩ := Option.map_eq_some_iff.1 hinfo
  simp only [Prod.mk.injEq] at hzz
  obtain ⟨hz0, hz1, hz2⟩ := hzz
  have hm : m ≤ 281474976710656 := Nat.le_trans (Nat.le_mul_of_pos_right _ hb0) hl
  have hr := run_make (P := P) W t e i0 z ht hi hz0 .i64 .i64 0 (m : Int) (by omega) (by omega)
    (by
      have h3 : ((i0.bytes * m : Nat) : Int) ≤ 281474976710656 := by rw [hz2, Nat.mul_comm]; omega
      rwa [Int.natCast_mul] at h3) (by omega)
  simp only [Int.toNat_natCast, Int.toNat_zero] at hr
  have hrun : (execOp a.eval o).run P W = .ok (.value (.slice (some ⟨W.heap.size, 0, none⟩) 0 m)) (W.alloc (.cells (madeCells z.cells (m * i0.size)) e)) := by
    simp [execOp, ho, hx, hy, hr]
  refine Kd.event_run hgd hrun (h _ _ ⟨fun k hk => ?_, [], ⟨by simp, Or.inr ⟨W.heap.size, m, _, rfl, hbase, heap_alloc_new W _, Nat.zero_le _, ?_, ?_, by simp⟩⟩, Reps.none _ _⟩ (HB.alloc hbase _) (World.grownBy_alloc W _ none) ⟨W.heap.size, by simp [Value.ownBlock], Nat.le_refl _⟩)
  · have : W.heap.size = k := by simpa [Value.ownBlock] using hk
    subst this
    exact hfresh
  · unfold maxLen; omega
  · rw [size_madeCells, hz1]

section
variable {P : Program} {ops : Array Oper} {rest : List Oper} {o : Oper} {a : Act} {Q' : Exit → Act → World → Prop} {Kc : Act → World → Prop} {α : Type}
/-- 'xs = append(xs[k:], xs[:h]...)': the run. -/
theorem _root_.Go.Proofs.YtlbmfnjhpojghaaW.PrintWords.Kd.Q_rot_run (d : Kd α) {w0 W : World} (base : Nat) (t ty e : TypeId) (z : Value) (bytes : Nat)
    (ht : P.underlying t = some (.slice e)) (hinfo : (P.info? e).map (fun i => (i.zero, i.size, i.bytes)) = some (some z, d.sz, bytes)) (hz : z.cells.size = d.sz) (hs0 : 0 < d.sz) (hb0 : 0 < bytes)
    (A : Option Addr) (n c : Nat) (xs : List α) {k h : Nat} (ok : Nat → Prop) (c2 : Nat) (hk : k ≤ n) (hh0 : 0 < h) (hh : h ≤ n) (hfresh : ∀ k, W.heap.size ≤ k → ok k)
    (HO : d.Q e W base ok (.slice A n c) xs) (HB : Below base w0 W) (hbase : base ≤ W.heap.size) (hl : (xs.length + h) * bytes ≤ 140737488355328) :
    ∃ v1 w1, (Builtin.append_ #[t, t] ty #[.slice (if c = k then A else A.map (·.add (k * d.sz))) (n - k) (c - k), .slice A h c2]).run P W = .ok v1 w1 ∧ d.Q e w1 base ok v1 (xs.drop k ++ xs.take h) ∧ Below base w0 w1 ∧ W.grownBy w1 (Value.slice A n c).ownBlock ∧
      (v1.ownBlock = (Value.slice A n c).ownBlock ∨ ∃ b, v1.ownBlock = some b ∧ W.heap.size ≤ b) := by
  have hn : n = xs.length := (Kd.Q_reads' HO).1
  subst hn
  have hQ := Kd.Q_drop HO hk
  obtain ⟨h0, inner, hown, hr⟩ := HO
  obtain ⟨i0, hi, hzz⟩ := Option.map_eq_some_iff.1 hinfo
  simp only [Prod.mk.injEq] at hzz
  obtain ⟨hz0, hz1, hz2⟩ := hzz
  have hbe : (Value.slice (if c = k then A else A.map (·.add (k * d.sz))) (xs.length - k) (c - k)).ownBlock = (Value.slice A xs.length c).ownBlock := by
    split
    · cases A <;> rfl
    · cases A with
      | none => rfl
      | some a => simp [Value.ownBlock]; unfold Addr.add; split <;> rfl
  obtain ⟨ad, hA, hc⟩ := q_cells hown (by omega)
  have hil : inner.length = xs.length * d.sz := hr.1
  have hle : h * d.sz ≤ xs.length * d.sz := Nat.mul_le_mul_right _ hh
  have hrt := Kd.reps_take hr hh
  have hone : ∀ u ∈ inner.take (h * d.sz), u.oneCell' = true := Kd.reps_one hrt hs0 (fun p c hp => d.K_one (d.K_of_M hp))
  have hlen : (xs.length - k) + h ≤ 140737488355328 := Nat.le_trans (by omega) (Nat.le_trans (Nat.le_mul_of_pos_right _ hb0) hl)
  obtain ⟨v1, w1, hrun, hq1, hg1, hat⟩ := q_append (P := P) W base t ty e i0 z d.sz bytes ht hi hz0 hz1 hz2 hz hs0 _ (xs.length - k) (inner.drop (k * d.sz)) (q_drop hown hk) ad h c2 (inner.take (h * d.sz))
    (by rw [List.length_take, hil, Nat.min_eq_left hle])
    (fun j u hu => by
      rw [List.getElem?_take] at hu
      split at hu
      · exact hc j u hu
      · cases hu) hone hh0 (by simp only [maxLen]; omega) (Nat.le_trans (Nat.mul_le_mul_right _ (by omega)) hl) hbase
  rw [hbe] at hg1 hat
  subst hA
  have hne : ∀ k', some k' ≠ (Value.slice (some ad) xs.length c).ownBlock → k' < W.heap.size → some k' ≠ v1.ownBlock := by
    intro k' hk' hlt
    rcases hat with hat | ⟨b, hb, hle'⟩
    · rw [hat]; exact hk'
    · rw [hb]
      intro he
      injection he with he
      omega
  have step : ∀ (q : α) (c' : List Value), d.M W base (fun k' => ok k' ∧ some k' ≠ (Value.slice (some ad) xs.length c).ownBlock) q c' → d.M w1 base (fun k' => ok k' ∧ some k' ≠ v1.ownBlock) q c' := by
    intro q c' hq
    have h1 := d.M_move (w1 := w1) (fun k' hk' => hg1.block k' hk'.2.2.1 hk'.1.2) (d.M_bound hq)
    exact d.M_mono (fun k' hk' => ⟨hk'.1.1, hne k' hk'.1.2 hk'.2.2.1⟩) h1
  refine ⟨v1, w1, hrun, ⟨fun k' hk' => ?_, _, ?_, Kd.reps_append ((Kd.reps_drop hr).imp_ step) (hrt.imp_ step)⟩, HB.grown hg1 hbase (fun k' hk' => (q_typed hown k' hk').1), hg1, hat⟩
  · rcases hat with hat | ⟨b, hb, hle'⟩
    · exact h0 k' (hat ▸ hk')
    · rw [hb] at hk'
      injection hk' with hk'
      exact hfresh k' (by omega)
  · rw [List.length_append, List.length_drop, List.length_take, Nat.min_eq_left hh]
    exact hq1
theorem _root_.Go.Proofs.YtlbmfnjhpojghaaW.PrintWords.Kd.Q_rot (d : Kd α) {w0 W : World} (base : Nat) (hgd : o.guard = none) (s x : Operand) (t e : TypeId) (z : Value) (bytes : Nat)
    (ho : o.op = .call { callee := .builtin .append, args := #[s, x], argTypes := #[t, t] })
    (ht : P.underlying t = some (.slice e)) (hinfo : (P.info? e).map (fun i => (i.zero, i.size, i.bytes)) = some (some z, d.sz, bytes)) (hz : z.cells.size = d.sz) (hs0 : 0 < d.sz) (hb0 : 0 < bytes)
    (A : Option Addr) (n c : Nat) (xs : List α) {k h : Nat} (ok : Nat → Prop) {A1 : Option Addr} {n1 c1 m c2 : Nat} {y1 y2 : List α}
    (hs : a.eval s = .slice A1 n1 c1) (hx : a.eval x = .slice A m c2)
    (hA : A1 = if c = k then A else A.map (·.add (k * d.sz))) (hn1 : n1 = n - k) (hc1 : c1 = c - k) (hy1 : y1 = xs.drop k) (hy2 : y2 = xs.take h) (hm : m = h) (hk : k ≤ n) (hh0 : 0 < h) (hh : h ≤ n)
    (hfresh : ∀ k, W.heap.size ≤ k → ok k) (HO : d.Q e W base ok (.slice A n c) xs) (HB : Below base w0 W) (hbase : base ≤ W.heap.size) (hl : (xs.length + h) * bytes ≤ 140737488355328)
    (H : ∀ v1 w1, d.Q e w1 base ok v1 (y1 ++ y2) → Below base w0 w1 → W.grownBy w1 (Value.slice A n c).ownBlock → (v1.ownBlock = (Value.slice A n c).ownBlock ∨ ∃ b, v1.ownBlock = some b ∧ W.heap.size ≤ b) → wpList P ops Q' rest (a.put o.dst v1) w1) :
    wpList P ops Q' (o :: rest) a W := by
  subst hA hn1 hc1 hy1 hy2 hm
  obtain ⟨v1, w1, hr, h1, h2, h3, h4⟩ := Kd.Q_rot_run (P := P) d base t o.type e z bytes ht hinfo hz hs0 hb0 A n c xs ok c2 hk hh0 hh hfresh HO HB hbase hl
  refine wpList_plain hgd fun K hK => ?_
  unfold Oper.wp execOp
  simp only [ho, resolve, invoke, builtin, Sem.run_bind, Sem.run_pure, Result.andThen_ok, List.map_toArray, List.map_cons, List.map_nil, hs, hx, hr]
  exact hK _ _ (H v1 w1 h1 h2 h3 h4)
theorem _root_.Go.Proofs.YtlbmfnjhpojghaaW.PrintWords.Kd.Q_rot_step (d : Kd α) {w0 W : World} (base : Nat) (hw : Region.wanted o (yielded ops a.tmps) = true) (s x : Operand) (t e : TypeId) (z : Value) (bytes : Nat)
    (ho : o.op = .call { callee := .builtin .append, args := #[s, x], argTypes := #[t, t] })
    (ht : P.underlying t = some (.slice e)) (hinfo : (P.info? e).map (fun i => (i.zero, i.size, i.bytes)) = some (some z, d.sz, bytes)) (hz : z.cells.size = d.sz) (hs0 : 0 < d.sz) (hb0 : 0 < bytes)
    (A : Option Addr) (n c : Nat) (xs : List α) {k h : Nat} (ok : Nat → Prop) {A1 : Option Addr} {n1 c1 m c2 : Nat} {y1 y2 : List α}
    (hs : a.eval s = .slice A1 n1 c1) (hx : a.eval x = .slice A m c2)
    (hA : A1 = if c = k then A else A.map (·.add (k * d.sz))) (hn1 : n1 = n - k) (hc1 : c1 = c - k) (hy1 : y1 = xs.drop k) (hy2 : y2 = xs.take h) (hm : m = h) (hk : k ≤ n) (hh0 : 0 < h) (hh : h ≤ n)
    (hfresh : ∀ k, W.heap.size ≤ k → ok k) (HO : d.Q e W base ok (.slice A n c) xs) (HB : Below base w0 W) (hbase : base ≤ W.heap.size) (hl : (xs.length + h) * bytes ≤ 140737488355328)
    (H : ∀ v1 w1, d.Q e w1 base ok v1 (y1 ++ y2) → Below base w0 w1 → W.grownBy w1 (Value.slice A n c).ownBlock → (v1.ownBlock = (Value.slice A n c).ownBlock ∨ ∃ b, v1.ownBlock = some b ∧ W.heap.size ≤ b) → Kc (a.put o.dst v1) w1) :
    if Region.wanted o (yielded ops a.tmps) = true then Oper.wp P o a W Kc Q' else Kc (a.put o.dst undef) W := by
  subst hA hn1 hc1 hy1 hy2 hm
  obtain ⟨v1, w1, hr, h1, h2, h3, h4⟩ := Kd.Q_rot_run (P := P) d base t o.type e z bytes ht hinfo hz hs0 hb0 A n c xs ok c2 hk hh0 hh hfresh HO HB hbase hl
  rw [if_pos hw]
  unfold Oper.wp execOp
  simp only [ho, resolve, invoke, builtin, Sem.run_bind, Sem.run_pure, Result.andThen_ok, List.map_toArray, List.map_cons, List.map_nil, hs, hx, hr]
  exact H v1 w1 h1 h2 h3 h4
end

/-! floats: told by their words -/
/-- Is the operation valid (no NaN)? -/
def fok (op : BinOp) (k : FloatKind) (x y : Nat) : Bool := (floatBits op k x y).isSome
/-- What it gives. -/
def fv (op : BinOp) (k : FloatKind) (x y : Nat) : Nat := (floatBits op k x y).getD 0
theorem fok_some {op : BinOp} {k : FloatKind} {x y : Nat} (h : fok op k x y = true) : floatBits op k x y = some (fv op k x y) := by
  unfold fok at h
  unfold fv
  cases hb : floatBits op k x y with
  | none => rw [hb] at h; cases h
  | some r => rfl
theorem f_arith {op : BinOp} (t : TypeId) (k : FloatKind) (x y : Nat) (h : fok op k x y = true) : binOp op t (.float k x) (.float k y) = pure (.float k (fv op k x y)) := by
  have hb := fok_some h
  revert hb
  generalize fv op k x y = r
  intro hb
  unfold floatBits at hb
  cases op <;> simp only at hb <;> first | (cases hb; done) | skip
  all_goals simp [binOp, Op.floatArith, hb]
theorem f_add (t : TypeId) (k : FloatKind) (x y : Nat) (h : fok .add k x y = true) : binOp .add t (.float k x) (.float k y) = pure (.float k (fv .add k x y)) := f_arith t k x y h
theorem f_sub (t : TypeId) (k : FloatKind) (x y : Nat) (h : fok .sub k x y = true) : binOp .sub t (.float k x) (.float k y) = pure (.float k (fv .sub k x y)) := f_arith t k x y h
theorem f_mul (t : TypeId) (k : FloatKind) (x y : Nat) (h : fok .mul k x y = true) : binOp .mul t (.float k x) (.float k y) = pure (.float k (fv .mul k x y)) := f_arith t k x y h
theorem f_quo (t : TypeId) (k : FloatKind) (x y : Nat) (h : fok .quo k x y = true) : binOp .quo t (.float k x) (.float k y) = pure (.float k (fv .quo k x y)) := f_arith t k x y h
/-- A float of the other kind. -/
def fcok (s : FloatKind) (b : Nat) (k : FloatKind) : Bool := (floatToFloatBits s b k).isSome
def fc (s : FloatKind) (b : Nat) (k : FloatKind) : Nat := (floatToFloatBits s b k).getD 0
theorem f_conv {P : Program} (w : World) (src dst : TypeId) (s k : FloatKind) (b : Nat) (hs : (P.underlying src).isSome = true) (hd : P.underlying dst = some (.float k)) (h : fcok s b k = true) :
    (convert src dst (.float s b)).run P w = .ok (.float k (fc s b k)) w := by
  unfold fcok at h
  unfold fc
  cases hb : floatToFloatBits s b k with
  | none => rw [hb] at h; cases h
  | some r => exact run_convert_float_float w src dst s k b r hs hd hb
theorem f_same {P : Program} (w : World) (src dst : TypeId) (k : FloatKind) (b : Nat) (hs : (P.underlying src).isSome = true) (hd : P.underlying dst = some (.float k)) :
    (convert src dst (.float k b)).run P w = .ok (.float k b) w := run_convert_float_float w src dst k k b b hs hd (by unfold floatToFloatBits; rw [if_pos rfl])
/-- A whole number of a float. -/
def fiok (s : FloatKind) (b : Nat) (k : IntKind) : Bool := (floatToIntVal s b k).isSome
def fi (s : FloatKind) (b : Nat) (k : IntKind) : Int := (floatToIntVal s b k).getD 0
theorem f_int {P : Program} (w : World) (src dst : TypeId) (s : FloatKind) (k : IntKind) (b : Nat) (hs : (P.underlying src).isSome = true) (hd : P.underlying dst = some (.int k)) (h : fiok s b k = true) :
    (convert src dst (.float s b)).run P w = .ok (.int k (fi s b k)) w := by
  unfold fiok at h
  unfold fi
  cases hb : floatToIntVal s b k with
  | none => rw [hb] at h; cases h
  | some r => exact run_convert_float_int w src dst s k b r hs hd hb
/-- The greater one, as Go's max tells it of floats; valid where neither is a NaN. -/
def fmok (k : FloatKind) (x y : Nat) : Bool := (k.format.order x y).isSome
def fmx (k : FloatKind) (x y : Nat) : Nat := match k.format.order x y with | some .lt => y | some .gt => x | some .eq => (if (k.decode x).neg then y else x) | none => 0
theorem f_store {P : Program} (w : World) (a : Addr) (m : Mode) (k : FloatKind) (x : Nat) : (store a (.float k x) m).run P w = stored P w a (.float k x) m := run_store P w a _ m rfl
theorem f_max (k k' : FloatKind) (x y : Nat) (h : fmok k x y = true) : Builtin.max2 (.float k x) (.float k' y) = pure (.float k (fmx k x y)) := by
  unfold fmok at h
  unfold fmx Builtin.max2
  cases hb : k.format.order x y with
  | none => rw [hb] at h; cases h
  | some o => cases o <;> simp [hb]

def kflt (k : FloatKind) : Kd Nat := Kd.scalar (Value.float k) (fun _ => rfl)
theorem at_flt {w : World} {A : Option Addr} {n : Nat} {k : FloatKind} {xs : List Nat} (h : (kflt k).C w A n xs) (i : Int) (h0 : 0 ≤ i) (h1 : i < n) : ∃ ad, A = some ad ∧ w.cell? (ad.add i.toNat) = some (.float k (rdOf (0 : Nat) xs i)) :=
  ReadsOf.at_ (Kd.reads_of_C (enc := Value.float k) (d := (0 : Nat)) (h1 := fun _ => rfl) h) i h0 h1

theorem info60 : (Try.prog.info? 60).map (fun i => (i.zero, i.size, i.bytes)) = some (some (.slice none 0 0), 1, 24) := by kernel_rfl
theorem info62 : (Try.prog.info? 62).map (fun i => (i.zero, i.size, i.bytes)) = some (some (.slice none 0 0), 1, 24) := by kernel_rfl
theorem info65 : (Try.prog.info? 65).map (fun i => (i.zero, i.size, i.bytes)) = some (some (.agg #[(.bool false), (.int .i64 0), (.int .i64 0)]), 3, 24) := by kernel_rfl
theorem info127 : (Try.prog.info? 127).map (fun i => (i.zero, i.size, i.bytes)) = some (some (.agg #[(.int .i64 0), (.float .f32 0), (.float .f32 0), (.float .f32 0), (.float .f32 0), (.float .f32 0), (.float .f32 0)]), 7, 32) := by kernel_rfl
theorem info129 : (Try.prog.info? 129).map (fun i => (i.zero, i.size, i.bytes)) = some (some (.agg #[(.bool false), (.float .f32 0), (.float .f32 0), (.float .f32 0), (.float .f32 0), (.float .f32 0), (.float .f32 0)]), 7, 28) := by kernel_rfl
theorem info133 : (Try.prog.info? 133).map (fun i => (i.zero, i.size, i.bytes)) = some (some (.agg #[(.bool false), (.bool false), (.float .f32 0), (.float .f32 0)]), 4, 12) := by kernel_rfl
theorem info141 : (Try.prog.info? 141).map (fun i => (i.zero, i.size, i.bytes)) = some (some (.agg #[(.bool false), (.float .f32 0), (.float .f32 0)]), 3, 12) := by kernel_rfl
theorem info195 : (Try.prog.info? 195).map (fun i => (i.zero, i.size, i.bytes)) = some (some (.agg #[(.int .u8 0), (.float .f32 0), (.float .f32 0), (.float .f32 0), (.float .f32 0), (.float .f32 0), (.float .f32 0)]), 7, 28) := by kernel_rfl
theorem info198 : (Try.prog.info? 198).map (fun i => (i.zero, i.size, i.bytes)) = some (some (.agg #[(.float .f32 0), (.float .f32 0), (.bool false), (.bool false), (.bool false)]), 5, 12) := by kernel_rfl
-- the values' own types
/-! #### struct type 65 -/
structure S65 where
  f0 : Bool
  f1 : Int
  f2 : Int
def z65 : S65 := ⟨false, (0 : Int), (0 : Int)⟩
def k65 : Kd S65 := Kd.iso (Kd.pair Kd.bool (Kd.pair (Kd.int .i64) (Kd.int .i64))) (fun x : S65 => (x.f0, x.f1, x.f2))
theorem k65_open {w : World} {x : S65} {cs : List Value} (h : k65.K w x cs) : cs = [.bool x.f0, .int .i64 x.f1, .int .i64 x.f2] := by
  obtain ⟨_, _, rfl, rfl, ⟨_, _, rfl, rfl, rfl⟩⟩ := h
  exact rfl
theorem k65_openM {w : World} {base : Nat} {ok : Nat → Prop} {x : S65} {cs : List Value} (h : k65.M w base ok x cs) : cs = [.bool x.f0, .int .i64 x.f1, .int .i64 x.f2] := by
  obtain ⟨_, _, rfl, rfl, ⟨_, _, rfl, rfl, rfl⟩⟩ := h
  exact rfl
theorem k65_mk (w : World) (x : S65)  : k65.K w x [.bool x.f0, .int .i64 x.f1, .int .i64 x.f2] := ⟨[.bool x.f0], [.int .i64 x.f1, .int .i64 x.f2], rfl, rfl, ⟨[.int .i64 x.f1], [.int .i64 x.f2], rfl, rfl, rfl⟩⟩
theorem k65_mkM (w : World) (base : Nat) (ok : Nat → Prop) (x : S65)  : k65.M w base ok x [.bool x.f0, .int .i64 x.f1, .int .i64 x.f2] := ⟨[.bool x.f0], [.int .i64 x.f1, .int .i64 x.f2], rfl, rfl, ⟨[.int .i64 x.f1], [.int .i64 x.f2], rfl, rfl, rfl⟩⟩
theorem k65_mkF (W : World) (ok : Nat → Prop) (x : S65) : Kd.FK k65 W ok x [.bool x.f0, .int .i64 x.f1, .int .i64 x.f2] := fun W2 _ => k65_mk W2 x
def rd_T65 (xs : List S65) (i : Int) : S65 := xs.getD i.toNat z65
theorem at_T65 {w : World} {A : Option Addr} {n : Nat} {xs : List S65} (h : Kd.C k65 w A n xs) (i : Int) (h0 : 0 ≤ i) (h1 : i < n) : ∃ ad , A = some ad ∧ w.cell? (ad.add (i.toNat * 3)) = some (.bool (rd_T65 xs i).f0) ∧ w.cell? ⟨(ad.add (i.toNat * 3)).block, (ad.add (i.toNat * 3)).off + 1, none⟩ = some (.int .i64 (rd_T65 xs i).f1) ∧ w.cell? ⟨(ad.add (i.toNat * 3)).block, (ad.add (i.toNat * 3)).off + 2, none⟩ = some (.int .i64 (rd_T65 xs i).f2) := by
  obtain ⟨ad, c, e, _, hK, hc0⟩ := Kd.C_get h z65 i h0 h1
  have hc : ∀ j u, c[j]? = some u → w.cell? (ad.add (i.toNat * 3 + j)) = some u := hc0
  obtain rfl := k65_open hK
  exact ⟨ad, e, hc 0 _ rfl, by rw [← add_field _ _ 1 (by omega)]; exact hc 1 _ rfl, by rw [← add_field _ _ 2 (by omega)]; exact hc 2 _ rfl⟩

def rd_L3 (xs : List (List S65)) (i : Int) : (List S65) := xs.getD i.toNat ([] : List S65)
theorem at_L3 {w : World} {A : Option Addr} {n : Nat} {xs : List (List S65)} (h : Kd.C (Kd.slice 65 k65) w A n xs) (i : Int) (h0 : 0 ≤ i) (h1 : i < n) : ∃ ad A0 c0, A = some ad ∧ w.cell? (ad.add i.toNat) = some (.slice A0 (rd_L3 xs i).length c0) ∧ (rd_L3 xs i).length ≤ c0 ∧ k65.C w A0 (rd_L3 xs i).length (rd_L3 xs i) := by
  obtain ⟨ad, c, e, _, hK, hc0⟩ := Kd.C_get h ([] : List S65) i h0 h1
  have hc : ∀ j u, c[j]? = some u → w.cell? (ad.add (i.toNat * 1 + j)) = some u := hc0
  obtain ⟨A0, c0, rfl, l0, g0⟩ := hK
  exact ⟨ad, A0, c0, e, by have hq := hc 0 _ rfl; rwa [Nat.mul_one, Nat.add_zero] at hq, l0, g0⟩

/-! #### struct type 125 -/
structure S125 where
  f0 : Nat
  f1 : Nat
  f2 : Nat
def z125 : S125 := ⟨(0 : Nat), (0 : Nat), (0 : Nat)⟩
def k125 : Kd S125 := Kd.iso (Kd.pair (kflt .f32) (Kd.pair (kflt .f32) (kflt .f32))) (fun x : S125 => (x.f0, x.f1, x.f2))
theorem k125_open {w : World} {x : S125} {cs : List Value} (h : k125.K w x cs) : cs = [.float .f32 x.f0, .float .f32 x.f1, .float .f32 x.f2] := by
  obtain ⟨_, _, rfl, rfl, ⟨_, _, rfl, rfl, rfl⟩⟩ := h
  exact rfl
theorem k125_openM {w : World} {base : Nat} {ok : Nat → Prop} {x : S125} {cs : List Value} (h : k125.M w base ok x cs) : cs = [.float .f32 x.f0, .float .f32 x.f1, .float .f32 x.f2] := by
  obtain ⟨_, _, rfl, rfl, ⟨_, _, rfl, rfl, rfl⟩⟩ := h
  exact rfl
theorem k125_mk (w : World) (x : S125)  : k125.K w x [.float .f32 x.f0, .float .f32 x.f1, .float .f32 x.f2] := ⟨[.float .f32 x.f0], [.float .f32 x.f1, .float .f32 x.f2], rfl, rfl, ⟨[.float .f32 x.f1], [.float .f32 x.f2], rfl, rfl, rfl⟩⟩
theorem k125_mkM (w : World) (base : Nat) (ok : Nat → Prop) (x : S125)  : k125.M w base ok x [.float .f32 x.f0, .float .f32 x.f1, .float .f32 x.f2] := ⟨[.float .f32 x.f0], [.float .f32 x.f1, .float .f32 x.f2], rfl, rfl, ⟨[.float .f32 x.f1], [.float .f32 x.f2], rfl, rfl, rfl⟩⟩
theorem k125_mkF (W : World) (ok : Nat → Prop) (x : S125) : Kd.FK k125 W ok x [.float .f32 x.f0, .float .f32 x.f1, .float .f32 x.f2] := fun W2 _ => k125_mk W2 x
def rd_T125 (xs : List S125) (i : Int) : S125 := xs.getD i.toNat z125
theorem at_T125 {w : World} {A : Option Addr} {n : Nat} {xs : List S125} (h : Kd.C k125 w A n xs) (i : Int) (h0 : 0 ≤ i) (h1 : i < n) : ∃ ad , A = some ad ∧ w.cell? (ad.add (i.toNat * 3)) = some (.float .f32 (rd_T125 xs i).f0) ∧ w.cell? ⟨(ad.add (i.toNat * 3)).block, (ad.add (i.toNat * 3)).off + 1, none⟩ = some (.float .f32 (rd_T125 xs i).f1) ∧ w.cell? ⟨(ad.add (i.toNat * 3)).block, (ad.add (i.toNat * 3)).off + 2, none⟩ = some (.float .f32 (rd_T125 xs i).f2) := by
  obtain ⟨ad, c, e, _, hK, hc0⟩ := Kd.C_get h z125 i h0 h1
  have hc : ∀ j u, c[j]? = some u → w.cell? (ad.add (i.toNat * 3 + j)) = some u := hc0
  obtain rfl := k125_open hK
  exact ⟨ad, e, hc 0 _ rfl, by rw [← add_field _ _ 1 (by omega)]; exact hc 1 _ rfl, by rw [← add_field _ _ 2 (by omega)]; exact hc 2 _ rfl⟩

/-! #### struct type 127 -/
structure S127 where
  f0 : Int
  f1 : S125
  f2 : S125
def z127 : S127 := ⟨(0 : Int), z125, z125⟩
def k127 : Kd S127 := Kd.iso (Kd.pair (Kd.int .i64) (Kd.pair k125 k125)) (fun x : S127 => (x.f0, x.f1, x.f2))
theorem k127_open {w : World} {x : S127} {cs : List Value} (h : k127.K w x cs) : cs = [.int .i64 x.f0, .float .f32 x.f1.f0, .float .f32 x.f1.f1, .float .f32 x.f1.f2, .float .f32 x.f2.f0, .float .f32 x.f2.f1, .float .f32 x.f2.f2] := by
  obtain ⟨_, _, rfl, rfl, ⟨_, _, rfl, s1, s4⟩⟩ := h
  obtain rfl := k125_open s1
  obtain rfl := k125_open s4
  exact rfl
theorem k127_openM {w : World} {base : Nat} {ok : Nat → Prop} {x : S127} {cs : List Value} (h : k127.M w base ok x cs) : cs = [.int .i64 x.f0, .float .f32 x.f1.f0, .float .f32 x.f1.f1, .float .f32 x.f1.f2, .float .f32 x.f2.f0, .float .f32 x.f2.f1, .float .f32 x.f2.f2] := by
  obtain ⟨_, _, rfl, rfl, ⟨_, _, rfl, s1, s4⟩⟩ := h
  obtain rfl := k125_openM s1
  obtain rfl := k125_openM s4
  exact rfl
theorem k127_mk (w : World) (x : S127)  : k127.K w x [.int .i64 x.f0, .float .f32 x.f1.f0, .float .f32 x.f1.f1, .float .f32 x.f1.f2, .float .f32 x.f2.f0, .float .f32 x.f2.f1, .float .f32 x.f2.f2] := ⟨[.int .i64 x.f0], [.float .f32 x.f1.f0, .float .f32 x.f1.f1, .float .f32 x.f1.f2, .float .f32 x.f2.f0, .float .f32 x.f2.f1, .float .f32 x.f2.f2], rfl, rfl, ⟨[.float .f32 x.f1.f0, .float .f32 x.f1.f1, .float .f32 x.f1.f2], [.float .f32 x.f2.f0, .float .f32 x.f2.f1, .float .f32 x.f2.f2], rfl, (k125_mk w x.f1 ), (k125_mk w x.f2 )⟩⟩
theorem k127_mkM (w : World) (base : Nat) (ok : Nat → Prop) (x : S127)  : k127.M w base ok x [.int .i64 x.f0, .float .f32 x.f1.f0, .float .f32 x.f1.f1, .float .f32 x.f1.f2, .float .f32 x.f2.f0, .float .f32 x.f2.f1, .float .f32 x.f2.f2] := ⟨[.int .i64 x.f0], [.float .f32 x.f1.f0, .float .f32 x.f1.f1, .float .f32 x.f1.f2, .float .f32 x.f2.f0, .float .f32 x.f2.f1, .float .f32 x.f2.f2], rfl, rfl, ⟨[.float .f32 x.f1.f0, .float .f32 x.f1.f1, .float .f32 x.f1.f2], [.float .f32 x.f2.f0, .float .f32 x.f2.f1, .float .f32 x.f2.f2], rfl, (k125_mkM w base ok x.f1 ), (k125_mkM w base ok x.f2 )⟩⟩
theorem k127_mkF (W : World) (ok : Nat → Prop) (x : S127) : Kd.FK k127 W ok x [.int .i64 x.f0, .float .f32 x.f1.f0, .float .f32 x.f1.f1, .float .f32 x.f1.f2, .float .f32 x.f2.f0, .float .f32 x.f2.f1, .float .f32 x.f2.f2] := fun W2 _ => k127_mk W2 x
def rd_T127 (xs : List S127) (i : Int) : S127 := xs.getD i.toNat z127
theorem at_T127 {w : World} {A : Option Addr} {n : Nat} {xs : List S127} (h : Kd.C k127 w A n xs) (i : Int) (h0 : 0 ≤ i) (h1 : i < n) : ∃ ad , A = some ad ∧ w.cell? (ad.add (i.toNat * 7)) = some (.int .i64 (rd_T127 xs i).f0) ∧ w.cell? ⟨(ad.add (i.toNat * 7)).block, (ad.add (i.toNat * 7)).off + 1, none⟩ = some (.float .f32 (rd_T127 xs i).f1.f0) ∧ w.cell? ⟨(ad.add (i.toNat * 7)).block, (ad.add (i.toNat * 7)).off + 2, none⟩ = some (.float .f32 (rd_T127 xs i).f1.f1) ∧ w.cell? ⟨(ad.add (i.toNat * 7)).block, (ad.add (i.toNat * 7)).off + 3, none⟩ = some (.float .f32 (rd_T127 xs i).f1.f2) ∧ w.cell? ⟨(ad.add (i.toNat * 7)).block, (ad.add (i.toNat * 7)).off + 4, none⟩ = some (.float .f32 (rd_T127 xs i).f2.f0) ∧ w.cell? ⟨(ad.add (i.toNat * 7)).block, (ad.add (i.toNat * 7)).off + 5, none⟩ = some (.float .f32 (rd_T127 xs i).f2.f1) ∧ w.cell? ⟨(ad.add (i.toNat * 7)).block, (ad.add (i.toNat * 7)).off + 6, none⟩ = some (.float .f32 (rd_T127 xs i).f2.f2) := by
  obtain ⟨ad, c, e, _, hK, hc0⟩ := Kd.C_get h z127 i h0 h1
  have hc : ∀ j u, c[j]? = some u → w.cell? (ad.add (i.toNat * 7 + j)) = some u := hc0
  obtain rfl := k127_open hK
  exact ⟨ad, e, hc 0 _ rfl, by rw [← add_field _ _ 1 (by omega)]; exact hc 1 _ rfl, by rw [← add_field _ _ 2 (by omega)]; exact hc 2 _ rfl, by rw [← add_field _ _ 3 (by omega)]; exact hc 3 _ rfl, by rw [← add_field _ _ 4 (by omega)]; exact hc 4 _ rfl, by rw [← add_field _ _ 5 (by omega)]; exact hc 5 _ rfl, by rw [← add_field _ _ 6 (by omega)]; exact hc 6 _ rfl⟩

/-! #### struct type 124 -/
structure S124 where
  f0 : Nat
  f1 : Nat
def z124 : S124 := ⟨(0 : Nat), (0 : Nat)⟩
def k124 : Kd S124 := Kd.iso (Kd.pair (kflt .f32) (kflt .f32)) (fun x : S124 => (x.f0, x.f1))
theorem k124_open {w : World} {x : S124} {cs : List Value} (h : k124.K w x cs) : cs = [.float .f32 x.f0, .float .f32 x.f1] := by
  obtain ⟨_, _, rfl, rfl, rfl⟩ := h
  exact rfl
theorem k124_openM {w : World} {base : Nat} {ok : Nat → Prop} {x : S124} {cs : List Value} (h : k124.M w base ok x cs) : cs = [.float .f32 x.f0, .float .f32 x.f1] := by
  obtain ⟨_, _, rfl, rfl, rfl⟩ := h
  exact rfl
theorem k124_mk (w : World) (x : S124)  : k124.K w x [.float .f32 x.f0, .float .f32 x.f1] := ⟨[.float .f32 x.f0], [.float .f32 x.f1], rfl, rfl, rfl⟩
theorem k124_mkM (w : World) (base : Nat) (ok : Nat → Prop) (x : S124)  : k124.M w base ok x [.float .f32 x.f0, .float .f32 x.f1] := ⟨[.float .f32 x.f0], [.float .f32 x.f1], rfl, rfl, rfl⟩
theorem k124_mkF (W : World) (ok : Nat → Prop) (x : S124) : Kd.FK k124 W ok x [.float .f32 x.f0, .float .f32 x.f1] := fun W2 _ => k124_mk W2 x
def rd_T124 (xs : List S124) (i : Int) : S124 := xs.getD i.toNat z124
theorem at_T124 {w : World} {A : Option Addr} {n : Nat} {xs : List S124} (h : Kd.C k124 w A n xs) (i : Int) (h0 : 0 ≤ i) (h1 : i < n) : ∃ ad , A = some ad ∧ w.cell? (ad.add (i.toNat * 2)) = some (.float .f32 (rd_T124 xs i).f0) ∧ w.cell? ⟨(ad.add (i.toNat * 2)).block, (ad.add (i.toNat * 2)).off + 1, none⟩ = some (.float .f32 (rd_T124 xs i).f1) := by
  obtain ⟨ad, c, e, _, hK, hc0⟩ := Kd.C_get h z124 i h0 h1
  have hc : ∀ j u, c[j]? = some u → w.cell? (ad.add (i.toNat * 2 + j)) = some u := hc0
  obtain rfl := k124_open hK
  exact ⟨ad, e, hc 0 _ rfl, by rw [← add_field _ _ 1 (by omega)]; exact hc 1 _ rfl⟩

/-! #### struct type 129 -/
structure S129 where
  f0 : Bool
  f1 : S124
  f2 : S124
  f3 : S124
def z129 : S129 := ⟨false, z124, z124, z124⟩
def k129 : Kd S129 := Kd.iso (Kd.pair Kd.bool (Kd.pair k124 (Kd.pair k124 k124))) (fun x : S129 => (x.f0, x.f1, x.f2, x.f3))
theorem k129_open {w : World} {x : S129} {cs : List Value} (h : k129.K w x cs) : cs = [.bool x.f0, .float .f32 x.f1.f0, .float .f32 x.f1.f1, .float .f32 x.f2.f0, .float .f32 x.f2.f1, .float .f32 x.f3.f0, .float .f32 x.f3.f1] := by
  obtain ⟨_, _, rfl, rfl, ⟨_, _, rfl, s1, ⟨_, _, rfl, s3, s5⟩⟩⟩ := h
  obtain rfl := k124_open s1
  obtain rfl := k124_open s3
  obtain rfl := k124_open s5
  exact rfl
theorem k129_openM {w : World} {base : Nat} {ok : Nat → Prop} {x : S129} {cs : List Value} (h : k129.M w base ok x cs) : cs = [.bool x.f0, .float .f32 x.f1.f0, .float .f32 x.f1.f1, .float .f32 x.f2.f0, .float .f32 x.f2.f1, .float .f32 x.f3.f0, .float .f32 x.f3.f1] := by
  obtain ⟨_, _, rfl, rfl, ⟨_, _, rfl, s1, ⟨_, _, rfl, s3, s5⟩⟩⟩ := h
  obtain rfl := k124_openM s1
  obtain rfl := k124_openM s3
  obtain rfl := k124_openM s5
  exact rfl
theorem k129_mk (w : World) (x : S129)  : k129.K w x [.bool x.f0, .float .f32 x.f1.f0, .float .f32 x.f1.f1, .float .f32 x.f2.f0, .float .f32 x.f2.f1, .float .f32 x.f3.f0, .float .f32 x.f3.f1] := ⟨[.bool x.f0], [.float .f32 x.f1.f0, .float .f32 x.f1.f1, .float .f32 x.f2.f0, .float .f32 x.f2.f1, .float .f32 x.f3.f0, .float .f32 x.f3.f1], rfl, rfl, ⟨[.float .f32 x.f1.f0, .float .f32 x.f1.f1], [.float .f32 x.f2.f0, .float .f32 x.f2.f1, .float .f32 x.f3.f0, .float .f32 x.f3.f1], rfl, (k124_mk w x.f1 ), ⟨[.float .f32 x.f2.f0, .float .f32 x.f2.f1], [.float .f32 x.f3.f0, .float .f32 x.f3.f1], rfl, (k124_mk w x.f2 ), (k124_mk w x.f3 )⟩⟩⟩
theorem k129_mkM (w : World) (base : Nat) (ok : Nat → Prop) (x : S129)  : k129.M w base ok x [.bool x.f0, .float .f32 x.f1.f0, .float .f32 x.f1.f1, .float .f32 x.f2.f0, .float .f32 x.f2.f1, .float .f32 x.f3.f0, .float .f32 x.f3.f1] := ⟨[.bool x.f0], [.float .f32 x.f1.f0, .float .f32 x.f1.f1, .float .f32 x.f2.f0, .float .f32 x.f2.f1, .float .f32 x.f3.f0, .float .f32 x.f3.f1], rfl, rfl, ⟨[.float .f32 x.f1.f0, .float .f32 x.f1.f1], [.float .f32 x.f2.f0, .float .f32 x.f2.f1, .float .f32 x.f3.f0, .float .f32 x.f3.f1], rfl, (k124_mkM w base ok x.f1 ), ⟨[.float .f32 x.f2.f0, .float .f32 x.f2.f1], [.float .f32 x.f3.f0, .float .f32 x.f3.f1], rfl, (k124_mkM w base ok x.f2 ), (k124_mkM w base ok x.f3 )⟩⟩⟩
theorem k129_mkF (W : World) (ok : Nat → Prop) (x : S129) : Kd.FK k129 W ok x [.bool x.f0, .float .f32 x.f1.f0, .float .f32 x.f1.f1, .float .f32 x.f2.f0, .float .f32 x.f2.f1, .float .f32 x.f3.f0, .float .f32 x.f3.f1] := fun W2 _ => k129_mk W2 x
def rd_T129 (xs : List S129) (i : Int) : S129 := xs.getD i.toNat z129
theorem at_T129 {w : World} {A : Option Addr} {n : Nat} {xs : List S129} (h : Kd.C k129 w A n xs) (i : Int) (h0 : 0 ≤ i) (h1 : i < n) : ∃ ad , A = some ad ∧ w.cell? (ad.add (i.toNat * 7)) = some (.bool (rd_T129 xs i).f0) ∧ w.cell? ⟨(ad.add (i.toNat * 7)).block, (ad.add (i.toNat * 7)).off + 1, none⟩ = some (.float .f32 (rd_T129 xs i).f1.f0) ∧ w.cell? ⟨(ad.add (i.toNat * 7)).block, (ad.add (i.toNat * 7)).off + 2, none⟩ = some (.float .f32 (rd_T129 xs i).f1.f1) ∧ w.cell? ⟨(ad.add (i.toNat * 7)).block, (ad.add (i.toNat * 7)).off + 3, none⟩ = some (.float .f32 (rd_T129 xs i).f2.f0) ∧ w.cell? ⟨(ad.add (i.toNat * 7)).block, (ad.add (i.toNat * 7)).off + 4, none⟩ = some (.float .f32 (rd_T129 xs i).f2.f1) ∧ w.cell? ⟨(ad.add (i.toNat * 7)).block, (ad.add (i.toNat * 7)).off + 5, none⟩ = some (.float .f32 (rd_T129 xs i).f3.f0) ∧ w.cell? ⟨(ad.add (i.toNat * 7)).block, (ad.add (i.toNat * 7)).off + 6, none⟩ = some (.float .f32 (rd_T129 xs i).f3.f1) := by
  obtain ⟨ad, c, e, _, hK, hc0⟩ := Kd.C_get h z129 i h0 h1
  have hc : ∀ j u, c[j]? = some u → w.cell? (ad.add (i.toNat * 7 + j)) = some u := hc0
  obtain rfl := k129_open hK
  exact ⟨ad, e, hc 0 _ rfl, by rw [← add_field _ _ 1 (by omega)]; exact hc 1 _ rfl, by rw [← add_field _ _ 2 (by omega)]; exact hc 2 _ rfl, by rw [← add_field _ _ 3 (by omega)]; exact hc 3 _ rfl, by rw [← add_field _ _ 4 (by omega)]; exact hc 4 _ rfl, by rw [← add_field _ _ 5 (by omega)]; exact hc 5 _ rfl, by rw [← add_field _ _ 6 (by omega)]; exact hc 6 _ rfl⟩

def rd_L9 (xs : List (List S129)) (i : Int) : (List S129) := xs.getD i.toNat ([] : List S129)
theorem at_L9 {w : World} {A : Option Addr} {n : Nat} {xs : List (List S129)} (h : Kd.C (Kd.slice 129 k129) w A n xs) (i : Int) (h0 : 0 ≤ i) (h1 : i < n) : ∃ ad A0 c0, A = some ad ∧ w.cell? (ad.add i.toNat) = some (.slice A0 (rd_L9 xs i).length c0) ∧ (rd_L9 xs i).length ≤ c0 ∧ k129.C w A0 (rd_L9 xs i).length (rd_L9 xs i) := by
  obtain ⟨ad, c, e, _, hK, hc0⟩ := Kd.C_get h ([] : List S129) i h0 h1
  have hc : ∀ j u, c[j]? = some u → w.cell? (ad.add (i.toNat * 1 + j)) = some u := hc0
  obtain ⟨A0, c0, rfl, l0, g0⟩ := hK
  exact ⟨ad, A0, c0, e, by have hq := hc 0 _ rfl; rwa [Nat.mul_one, Nat.add_zero] at hq, l0, g0⟩

/-! #### struct type 192 -/
structure S192 where
  f0 : Nat
  f1 : Nat
def z192 : S192 := ⟨(0 : Nat), (0 : Nat)⟩
def k192 : Kd S192 := Kd.iso (Kd.pair (kflt .f32) (kflt .f32)) (fun x : S192 => (x.f0, x.f1))
theorem k192_open {w : World} {x : S192} {cs : List Value} (h : k192.K w x cs) : cs = [.float .f32 x.f0, .float .f32 x.f1] := by
  obtain ⟨_, _, rfl, rfl, rfl⟩ := h
  exact rfl
theorem k192_openM {w : World} {base : Nat} {ok : Nat → Prop} {x : S192} {cs : List Value} (h : k192.M w base ok x cs) : cs = [.float .f32 x.f0, .float .f32 x.f1] := by
  obtain ⟨_, _, rfl, rfl, rfl⟩ := h
  exact rfl
theorem k192_mk (w : World) (x : S192)  : k192.K w x [.float .f32 x.f0, .float .f32 x.f1] := ⟨[.float .f32 x.f0], [.float .f32 x.f1], rfl, rfl, rfl⟩
theorem k192_mkM (w : World) (base : Nat) (ok : Nat → Prop) (x : S192)  : k192.M w base ok x [.float .f32 x.f0, .float .f32 x.f1] := ⟨[.float .f32 x.f0], [.float .f32 x.f1], rfl, rfl, rfl⟩
theorem k192_mkF (W : World) (ok : Nat → Prop) (x : S192) : Kd.FK k192 W ok x [.float .f32 x.f0, .float .f32 x.f1] := fun W2 _ => k192_mk W2 x
def rd_T192 (xs : List S192) (i : Int) : S192 := xs.getD i.toNat z192
theorem at_T192 {w : World} {A : Option Addr} {n : Nat} {xs : List S192} (h : Kd.C k192 w A n xs) (i : Int) (h0 : 0 ≤ i) (h1 : i < n) : ∃ ad , A = some ad ∧ w.cell? (ad.add (i.toNat * 2)) = some (.float .f32 (rd_T192 xs i).f0) ∧ w.cell? ⟨(ad.add (i.toNat * 2)).block, (ad.add (i.toNat * 2)).off + 1, none⟩ = some (.float .f32 (rd_T192 xs i).f1) := by
  obtain ⟨ad, c, e, _, hK, hc0⟩ := Kd.C_get h z192 i h0 h1
  have hc : ∀ j u, c[j]? = some u → w.cell? (ad.add (i.toNat * 2 + j)) = some u := hc0
  obtain rfl := k192_open hK
  exact ⟨ad, e, hc 0 _ rfl, by rw [← add_field _ _ 1 (by omega)]; exact hc 1 _ rfl⟩

/-! #### struct type 193 -/
structure S193 where
  f0 : S192
  f1 : S192
  f2 : S192
def z193 : S193 := ⟨z192, z192, z192⟩
def k193 : Kd S193 := Kd.iso (Kd.pair k192 (Kd.pair k192 k192)) (fun x : S193 => (x.f0, x.f1, x.f2))
theorem k193_open {w : World} {x : S193} {cs : List Value} (h : k193.K w x cs) : cs = [.float .f32 x.f0.f0, .float .f32 x.f0.f1, .float .f32 x.f1.f0, .float .f32 x.f1.f1, .float .f32 x.f2.f0, .float .f32 x.f2.f1] := by
  obtain ⟨_, _, rfl, s0, ⟨_, _, rfl, s2, s4⟩⟩ := h
  obtain rfl := k192_open s0
  obtain rfl := k192_open s2
  obtain rfl := k192_open s4
  exact rfl
theorem k193_openM {w : World} {base : Nat} {ok : Nat → Prop} {x : S193} {cs : List Value} (h : k193.M w base ok x cs) : cs = [.float .f32 x.f0.f0, .float .f32 x.f0.f1, .float .f32 x.f1.f0, .float .f32 x.f1.f1, .float .f32 x.f2.f0, .float .f32 x.f2.f1] := by
  obtain ⟨_, _, rfl, s0, ⟨_, _, rfl, s2, s4⟩⟩ := h
  obtain rfl := k192_openM s0
  obtain rfl := k192_openM s2
  obtain rfl := k192_openM s4
  exact rfl
theorem k193_mk (w : World) (x : S193)  : k193.K w x [.float .f32 x.f0.f0, .float .f32 x.f0.f1, .float .f32 x.f1.f0, .float .f32 x.f1.f1, .float .f32 x.f2.f0, .float .f32 x.f2.f1] := ⟨[.float .f32 x.f0.f0, .float .f32 x.f0.f1], [.float .f32 x.f1.f0, .float .f32 x.f1.f1, .float .f32 x.f2.f0, .float .f32 x.f2.f1], rfl, (k192_mk w x.f0 ), ⟨[.float .f32 x.f1.f0, .float .f32 x.f1.f1], [.float .f32 x.f2.f0, .float .f32 x.f2.f1], rfl, (k192_mk w x.f1 ), (k192_mk w x.f2 )⟩⟩
theorem k193_mkM (w : World) (base : Nat) (ok : Nat → Prop) (x : S193)  : k193.M w base ok x [.float .f32 x.f0.f0, .float .f32 x.f0.f1, .float .f32 x.f1.f0, .float .f32 x.f1.f1, .float .f32 x.f2.f0, .float .f32 x.f2.f1] := ⟨[.float .f32 x.f0.f0, .float .f32 x.f0.f1], [.float .f32 x.f1.f0, .float .f32 x.f1.f1, .float .f32 x.f2.f0, .float .f32 x.f2.f1], rfl, (k192_mkM w base ok x.f0 ), ⟨[.float .f32 x.f1.f0, .float .f32 x.f1.f1], [.float .f32 x.f2.f0, .float .f32 x.f2.f1], rfl, (k192_mkM w base ok x.f1 ), (k192_mkM w base ok x.f2 )⟩⟩
theorem k193_mkF (W : World) (ok : Nat → Prop) (x : S193) : Kd.FK k193 W ok x [.float .f32 x.f0.f0, .float .f32 x.f0.f1, .float .f32 x.f1.f0, .float .f32 x.f1.f1, .float .f32 x.f2.f0, .float .f32 x.f2.f1] := fun W2 _ => k193_mk W2 x
def rd_T193 (xs : List S193) (i : Int) : S193 := xs.getD i.toNat z193
theorem at_T193 {w : World} {A : Option Addr} {n : Nat} {xs : List S193} (h : Kd.C k193 w A n xs) (i : Int) (h0 : 0 ≤ i) (h1 : i < n) : ∃ ad , A = some ad ∧ w.cell? (ad.add (i.toNat * 6)) = some (.float .f32 (rd_T193 xs i).f0.f0) ∧ w.cell? ⟨(ad.add (i.toNat * 6)).block, (ad.add (i.toNat * 6)).off + 1, none⟩ = some (.float .f32 (rd_T193 xs i).f0.f1) ∧ w.cell? ⟨(ad.add (i.toNat * 6)).block, (ad.add (i.toNat * 6)).off + 2, none⟩ = some (.float .f32 (rd_T193 xs i).f1.f0) ∧ w.cell? ⟨(ad.add (i.toNat * 6)).block, (ad.add (i.toNat * 6)).off + 3, none⟩ = some (.float .f32 (rd_T193 xs i).f1.f1) ∧ w.cell? ⟨(ad.add (i.toNat * 6)).block, (ad.add (i.toNat * 6)).off + 4, none⟩ = some (.float .f32 (rd_T193 xs i).f2.f0) ∧ w.cell? ⟨(ad.add (i.toNat * 6)).block, (ad.add (i.toNat * 6)).off + 5, none⟩ = some (.float .f32 (rd_T193 xs i).f2.f1) := by
  obtain ⟨ad, c, e, _, hK, hc0⟩ := Kd.C_get h z193 i h0 h1
  have hc : ∀ j u, c[j]? = some u → w.cell? (ad.add (i.toNat * 6 + j)) = some u := hc0
  obtain rfl := k193_open hK
  exact ⟨ad, e, hc 0 _ rfl, by rw [← add_field _ _ 1 (by omega)]; exact hc 1 _ rfl, by rw [← add_field _ _ 2 (by omega)]; exact hc 2 _ rfl, by rw [← add_field _ _ 3 (by omega)]; exact hc 3 _ rfl, by rw [← add_field _ _ 4 (by omega)]; exact hc 4 _ rfl, by rw [← add_field _ _ 5 (by omega)]; exact hc 5 _ rfl⟩

/-! #### struct type 195 -/
structure S195 where
  f0 : Int
  f1 : S193
def z195 : S195 := ⟨(0 : Int), z193⟩
def k195 : Kd S195 := Kd.iso (Kd.pair (Kd.int .u8) k193) (fun x : S195 => (x.f0, x.f1))
theorem k195_open {w : World} {x : S195} {cs : List Value} (h : k195.K w x cs) : cs = [.int .u8 x.f0, .float .f32 x.f1.f0.f0, .float .f32 x.f1.f0.f1, .float .f32 x.f1.f1.f0, .float .f32 x.f1.f1.f1, .float .f32 x.f1.f2.f0, .float .f32 x.f1.f2.f1] := by
  obtain ⟨_, _, rfl, rfl, s1⟩ := h
  obtain rfl := k193_open s1
  exact rfl
theorem k195_openM {w : World} {base : Nat} {ok : Nat → Prop} {x : S195} {cs : List Value} (h : k195.M w base ok x cs) : cs = [.int .u8 x.f0, .float .f32 x.f1.f0.f0, .float .f32 x.f1.f0.f1, .float .f32 x.f1.f1.f0, .float .f32 x.f1.f1.f1, .float .f32 x.f1.f2.f0, .float .f32 x.f1.f2.f1] := by
  obtain ⟨_, _, rfl, rfl, s1⟩ := h
  obtain rfl := k193_openM s1
  exact rfl
theorem k195_mk (w : World) (x : S195)  : k195.K w x [.int .u8 x.f0, .float .f32 x.f1.f0.f0, .float .f32 x.f1.f0.f1, .float .f32 x.f1.f1.f0, .float .f32 x.f1.f1.f1, .float .f32 x.f1.f2.f0, .float .f32 x.f1.f2.f1] := ⟨[.int .u8 x.f0], [.float .f32 x.f1.f0.f0, .float .f32 x.f1.f0.f1, .float .f32 x.f1.f1.f0, .float .f32 x.f1.f1.f1, .float .f32 x.f1.f2.f0, .float .f32 x.f1.f2.f1], rfl, rfl, (k193_mk w x.f1 )⟩
theorem k195_mkM (w : World) (base : Nat) (ok : Nat → Prop) (x : S195)  : k195.M w base ok x [.int .u8 x.f0, .float .f32 x.f1.f0.f0, .float .f32 x.f1.f0.f1, .float .f32 x.f1.f1.f0, .float .f32 x.f1.f1.f1, .float .f32 x.f1.f2.f0, .float .f32 x.f1.f2.f1] := ⟨[.int .u8 x.f0], [.float .f32 x.f1.f0.f0, .float .f32 x.f1.f0.f1, .float .f32 x.f1.f1.f0, .float .f32 x.f1.f1.f1, .float .f32 x.f1.f2.f0, .float .f32 x.f1.f2.f1], rfl, rfl, (k193_mkM w base ok x.f1 )⟩
theorem k195_mkF (W : World) (ok : Nat → Prop) (x : S195) : Kd.FK k195 W ok x [.int .u8 x.f0, .float .f32 x.f1.f0.f0, .float .f32 x.f1.f0.f1, .float .f32 x.f1.f1.f0, .float .f32 x.f1.f1.f1, .float .f32 x.f1.f2.f0, .float .f32 x.f1.f2.f1] := fun W2 _ => k195_mk W2 x
def rd_T195 (xs : List S195) (i : Int) : S195 := xs.getD i.toNat z195
theorem at_T195 {w : World} {A : Option Addr} {n : Nat} {xs : List S195} (h : Kd.C k195 w A n xs) (i : Int) (h0 : 0 ≤ i) (h1 : i < n) : ∃ ad , A = some ad ∧ w.cell? (ad.add (i.toNat * 7)) = some (.int .u8 (rd_T195 xs i).f0) ∧ w.cell? ⟨(ad.add (i.toNat * 7)).block, (ad.add (i.toNat * 7)).off + 1, none⟩ = some (.float .f32 (rd_T195 xs i).f1.f0.f0) ∧ w.cell? ⟨(ad.add (i.toNat * 7)).block, (ad.add (i.toNat * 7)).off + 2, none⟩ = some (.float .f32 (rd_T195 xs i).f1.f0.f1) ∧ w.cell? ⟨(ad.add (i.toNat * 7)).block, (ad.add (i.toNat * 7)).off + 3, none⟩ = some (.float .f32 (rd_T195 xs i).f1.f1.f0) ∧ w.cell? ⟨(ad.add (i.toNat * 7)).block, (ad.add (i.toNat * 7)).off + 4, none⟩ = some (.float .f32 (rd_T195 xs i).f1.f1.f1) ∧ w.cell? ⟨(ad.add (i.toNat * 7)).block, (ad.add (i.toNat * 7)).off + 5, none⟩ = some (.float .f32 (rd_T195 xs i).f1.f2.f0) ∧ w.cell? ⟨(ad.add (i.toNat * 7)).block, (ad.add (i.toNat * 7)).off + 6, none⟩ = some (.float .f32 (rd_T195 xs i).f1.f2.f1) := by
  obtain ⟨ad, c, e, _, hK, hc0⟩ := Kd.C_get h z195 i h0 h1
  have hc : ∀ j u, c[j]? = some u → w.cell? (ad.add (i.toNat * 7 + j)) = some u := hc0
  obtain rfl := k195_open hK
  exact ⟨ad, e, hc 0 _ rfl, by rw [← add_field _ _ 1 (by omega)]; exact hc 1 _ rfl, by rw [← add_field _ _ 2 (by omega)]; exact hc 2 _ rfl, by rw [← add_field _ _ 3 (by omega)]; exact hc 3 _ rfl, by rw [← add_field _ _ 4 (by omega)]; exact hc 4 _ rfl, by rw [← add_field _ _ 5 (by omega)]; exact hc 5 _ rfl, by rw [← add_field _ _ 6 (by omega)]; exact hc 6 _ rfl⟩

/-! #### struct type 198 -/
structure S198 where
  f0 : S192
  f1 : Bool
  f2 : Bool
  f3 : Bool
def z198 : S198 := ⟨z192, false, false, false⟩
def k198 : Kd S198 := Kd.iso (Kd.pair k192 (Kd.pair Kd.bool (Kd.pair Kd.bool Kd.bool))) (fun x : S198 => (x.f0, x.f1, x.f2, x.f3))
theorem k198_open {w : World} {x : S198} {cs : List Value} (h : k198.K w x cs) : cs = [.float .f32 x.f0.f0, .float .f32 x.f0.f1, .bool x.f1, .bool x.f2, .bool x.f3] := by
  obtain ⟨_, _, rfl, s0, ⟨_, _, rfl, rfl, ⟨_, _, rfl, rfl, rfl⟩⟩⟩ := h
  obtain rfl := k192_open s0
  exact rfl
theorem k198_openM {w : World} {base : Nat} {ok : Nat → Prop} {x : S198} {cs : List Value} (h : k198.M w base ok x cs) : cs = [.float .f32 x.f0.f0, .float .f32 x.f0.f1, .bool x.f1, .bool x.f2, .bool x.f3] := by
  obtain ⟨_, _, rfl, s0, ⟨_, _, rfl, rfl, ⟨_, _, rfl, rfl, rfl⟩⟩⟩ := h
  obtain rfl := k192_openM s0
  exact rfl
theorem k198_mk (w : World) (x : S198)  : k198.K w x [.float .f32 x.f0.f0, .float .f32 x.f0.f1, .bool x.f1, .bool x.f2, .bool x.f3] := ⟨[.float .f32 x.f0.f0, .float .f32 x.f0.f1], [.bool x.f1, .bool x.f2, .bool x.f3], rfl, (k192_mk w x.f0 ), ⟨[.bool x.f1], [.bool x.f2, .bool x.f3], rfl, rfl, ⟨[.bool x.f2], [.bool x.f3], rfl, rfl, rfl⟩⟩⟩
theorem k198_mkM (w : World) (base : Nat) (ok : Nat → Prop) (x : S198)  : k198.M w base ok x [.float .f32 x.f0.f0, .float .f32 x.f0.f1, .bool x.f1, .bool x.f2, .bool x.f3] := ⟨[.float .f32 x.f0.f0, .float .f32 x.f0.f1], [.bool x.f1, .bool x.f2, .bool x.f3], rfl, (k192_mkM w base ok x.f0 ), ⟨[.bool x.f1], [.bool x.f2, .bool x.f3], rfl, rfl, ⟨[.bool x.f2], [.bool x.f3], rfl, rfl, rfl⟩⟩⟩
theorem k198_mkF (W : World) (ok : Nat → Prop) (x : S198) : Kd.FK k198 W ok x [.float .f32 x.f0.f0, .float .f32 x.f0.f1, .bool x.f1, .bool x.f2, .bool x.f3] := fun W2 _ => k198_mk W2 x
def rd_T198 (xs : List S198) (i : Int) : S198 := xs.getD i.toNat z198
theorem at_T198 {w : World} {A : Option Addr} {n : Nat} {xs : List S198} (h : Kd.C k198 w A n xs) (i : Int) (h0 : 0 ≤ i) (h1 : i < n) : ∃ ad , A = some ad ∧ w.cell? (ad.add (i.toNat * 5)) = some (.float .f32 (rd_T198 xs i).f0.f0) ∧ w.cell? ⟨(ad.add (i.toNat * 5)).block, (ad.add (i.toNat * 5)).off + 1, none⟩ = some (.float .f32 (rd_T198 xs i).f0.f1) ∧ w.cell? ⟨(ad.add (i.toNat * 5)).block, (ad.add (i.toNat * 5)).off + 2, none⟩ = some (.bool (rd_T198 xs i).f1) ∧ w.cell? ⟨(ad.add (i.toNat * 5)).block, (ad.add (i.toNat * 5)).off + 3, none⟩ = some (.bool (rd_T198 xs i).f2) ∧ w.cell? ⟨(ad.add (i.toNat * 5)).block, (ad.add (i.toNat * 5)).off + 4, none⟩ = some (.bool (rd_T198 xs i).f3) := by
  obtain ⟨ad, c, e, _, hK, hc0⟩ := Kd.C_get h z198 i h0 h1
  have hc : ∀ j u, c[j]? = some u → w.cell? (ad.add (i.toNat * 5 + j)) = some u := hc0
  obtain rfl := k198_open hK
  exact ⟨ad, e, hc 0 _ rfl, by rw [← add_field _ _ 1 (by omega)]; exact hc 1 _ rfl, by rw [← add_field _ _ 2 (by omega)]; exact hc 2 _ rfl, by rw [← add_field _ _ 3 (by omega)]; exact hc 3 _ rfl, by rw [← add_field _ _ 4 (by omega)]; exact hc 4 _ rfl⟩

/-! #### struct type 133 -/
structure S133 where
  f0 : Bool
  f1 : Bool
  f2 : Nat
  f3 : Nat
def z133 : S133 := ⟨false, false, (0 : Nat), (0 : Nat)⟩
def k133 : Kd S133 := Kd.iso (Kd.pair Kd.bool (Kd.pair Kd.bool (Kd.pair (kflt .f32) (kflt .f32)))) (fun x : S133 => (x.f0, x.f1, x.f2, x.f3))
theorem k133_open {w : World} {x : S133} {cs : List Value} (h : k133.K w x cs) : cs = [.bool x.f0, .bool x.f1, .float .f32 x.f2, .float .f32 x.f3] := by
  obtain ⟨_, _, rfl, rfl, ⟨_, _, rfl, rfl, ⟨_, _, rfl, rfl, rfl⟩⟩⟩ := h
  exact rfl
theorem k133_openM {w : World} {base : Nat} {ok : Nat → Prop} {x : S133} {cs : List Value} (h : k133.M w base ok x cs) : cs = [.bool x.f0, .bool x.f1, .float .f32 x.f2, .float .f32 x.f3] := by
  obtain ⟨_, _, rfl, rfl, ⟨_, _, rfl, rfl, ⟨_, _, rfl, rfl, rfl⟩⟩⟩ := h
  exact rfl
theorem k133_mk (w : World) (x : S133)  : k133.K w x [.bool x.f0, .bool x.f1, .float .f32 x.f2, .float .f32 x.f3] := ⟨[.bool x.f0], [.bool x.f1, .float .f32 x.f2, .float .f32 x.f3], rfl, rfl, ⟨[.bool x.f1], [.float .f32 x.f2, .float .f32 x.f3], rfl, rfl, ⟨[.float .f32 x.f2], [.float .f32 x.f3], rfl, rfl, rfl⟩⟩⟩
theorem k133_mkM (w : World) (base : Nat) (ok : Nat → Prop) (x : S133)  : k133.M w base ok x [.bool x.f0, .bool x.f1, .float .f32 x.f2, .float .f32 x.f3] := ⟨[.bool x.f0], [.bool x.f1, .float .f32 x.f2, .float .f32 x.f3], rfl, rfl, ⟨[.bool x.f1], [.float .f32 x.f2, .float .f32 x.f3], rfl, rfl, ⟨[.float .f32 x.f2], [.float .f32 x.f3], rfl, rfl, rfl⟩⟩⟩
theorem k133_mkF (W : World) (ok : Nat → Prop) (x : S133) : Kd.FK k133 W ok x [.bool x.f0, .bool x.f1, .float .f32 x.f2, .float .f32 x.f3] := fun W2 _ => k133_mk W2 x
def rd_T133 (xs : List S133) (i : Int) : S133 := xs.getD i.toNat z133
theorem at_T133 {w : World} {A : Option Addr} {n : Nat} {xs : List S133} (h : Kd.C k133 w A n xs) (i : Int) (h0 : 0 ≤ i) (h1 : i < n) : ∃ ad , A = some ad ∧ w.cell? (ad.add (i.toNat * 4)) = some (.bool (rd_T133 xs i).f0) ∧ w.cell? ⟨(ad.add (i.toNat * 4)).block, (ad.add (i.toNat * 4)).off + 1, none⟩ = some (.bool (rd_T133 xs i).f1) ∧ w.cell? ⟨(ad.add (i.toNat * 4)).block, (ad.add (i.toNat * 4)).off + 2, none⟩ = some (.float .f32 (rd_T133 xs i).f2) ∧ w.cell? ⟨(ad.add (i.toNat * 4)).block, (ad.add (i.toNat * 4)).off + 3, none⟩ = some (.float .f32 (rd_T133 xs i).f3) := by
  obtain ⟨ad, c, e, _, hK, hc0⟩ := Kd.C_get h z133 i h0 h1
  have hc : ∀ j u, c[j]? = some u → w.cell? (ad.add (i.toNat * 4 + j)) = some u := hc0
  obtain rfl := k133_open hK
  exact ⟨ad, e, hc 0 _ rfl, by rw [← add_field _ _ 1 (by omega)]; exact hc 1 _ rfl, by rw [← add_field _ _ 2 (by omega)]; exact hc 2 _ rfl, by rw [← add_field _ _ 3 (by omega)]; exact hc 3 _ rfl⟩

/-! #### struct type 141 -/
structure S141 where
  f0 : Bool
  f1 : S124
def z141 : S141 := ⟨false, z124⟩
def k141 : Kd S141 := Kd.iso (Kd.pair Kd.bool k124) (fun x : S141 => (x.f0, x.f1))
theorem k141_open {w : World} {x : S141} {cs : List Value} (h : k141.K w x cs) : cs = [.bool x.f0, .float .f32 x.f1.f0, .float .f32 x.f1.f1] := by
  obtain ⟨_, _, rfl, rfl, s1⟩ := h
  obtain rfl := k124_open s1
  exact rfl
theorem k141_openM {w : World} {base : Nat} {ok : Nat → Prop} {x : S141} {cs : List Value} (h : k141.M w base ok x cs) : cs = [.bool x.f0, .float .f32 x.f1.f0, .float .f32 x.f1.f1] := by
  obtain ⟨_, _, rfl, rfl, s1⟩ := h
  obtain rfl := k124_openM s1
  exact rfl
theorem k141_mk (w : World) (x : S141)  : k141.K w x [.bool x.f0, .float .f32 x.f1.f0, .float .f32 x.f1.f1] := ⟨[.bool x.f0], [.float .f32 x.f1.f0, .float .f32 x.f1.f1], rfl, rfl, (k124_mk w x.f1 )⟩
theorem k141_mkM (w : World) (base : Nat) (ok : Nat → Prop) (x : S141)  : k141.M w base ok x [.bool x.f0, .float .f32 x.f1.f0, .float .f32 x.f1.f1] := ⟨[.bool x.f0], [.float .f32 x.f1.f0, .float .f32 x.f1.f1], rfl, rfl, (k124_mkM w base ok x.f1 )⟩
theorem k141_mkF (W : World) (ok : Nat → Prop) (x : S141) : Kd.FK k141 W ok x [.bool x.f0, .float .f32 x.f1.f0, .float .f32 x.f1.f1] := fun W2 _ => k141_mk W2 x
def rd_T141 (xs : List S141) (i : Int) : S141 := xs.getD i.toNat z141
theorem at_T141 {w : World} {A : Option Addr} {n : Nat} {xs : List S141} (h : Kd.C k141 w A n xs) (i : Int) (h0 : 0 ≤ i) (h1 : i < n) : ∃ ad , A = some ad ∧ w.cell? (ad.add (i.toNat * 3)) = some (.bool (rd_T141 xs i).f0) ∧ w.cell? ⟨(ad.add (i.toNat * 3)).block, (ad.add (i.toNat * 3)).off + 1, none⟩ = some (.float .f32 (rd_T141 xs i).f1.f0) ∧ w.cell? ⟨(ad.add (i.toNat * 3)).block, (ad.add (i.toNat * 3)).off + 2, none⟩ = some (.float .f32 (rd_T141 xs i).f1.f1) := by
  obtain ⟨ad, c, e, _, hK, hc0⟩ := Kd.C_get h z141 i h0 h1
  have hc : ∀ j u, c[j]? = some u → w.cell? (ad.add (i.toNat * 3 + j)) = some u := hc0
  obtain rfl := k141_open hK
  exact ⟨ad, e, hc 0 _ rfl, by rw [← add_field _ _ 1 (by omega)]; exact hc 1 _ rfl, by rw [← add_field _ _ 2 (by omega)]; exact hc 2 _ rfl⟩

end Go.Proofs.Ytlbmfnjhpojghaa.PFnContours
