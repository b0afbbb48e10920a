-- Written by a program of this session (xprint) out of the translation; Lean checks it.
import Derived.Laws.FloatArith
import Derived.Test.YtlbmfnjhpojghaaProg
import Derived.Below
import Derived.Deep.Draws
import Derived.Deep.AppendLies
import Derived.Maps.AppendAt
import Derived.OwnWalk
import Derived.Laws.BytesArg
import Derived.Laws.MakeOwn
import Derived.Laws.OwnMore
import Derived.Deep.OwnRows
import Derived.Tactics
import Derived.Lib.ConvBytes
import Derived.Laws.Slices
import Derived.WalkKit
import Derived.KernelRfl
import Derived.RowKit3
import Derived.Deep.LoopGhost
import Derived.Deep.QuietTactic
import Derived.BigQuiet
import Derived.WideLaws
import Derived.Deep.DeepCutAuto
import Derived.Deep.CutBlock
import Derived.Deep.RegionHeld3
import Derived.Laws.Rows
import Derived.Lib.AppendStr
import Derived.ArgAppend
import Derived.Laws.IdiomCopy
import Derived.OrdersHeld
import Derived.Laws.BitsLemmas
import Derived.RowKit
import Derived.Lib.SmallJoins
import Derived.Deep.RegionWith
import Derived.RegionTactic
import Derived.Laws.Externs
import Derived.Lib.AppendZerosOnto
import Derived.Lib.Overlaps
import Derived.Laws.IdiomCopy
import Derived.Shelf.RegionOpenPlain
import Derived.Laws.NewBlocks
import Derived.Test.YtlbmfnjhpojghaaWWords
import Derived.Test.YtlbmfnjhpojghaaWLast
import Derived.Test.YtlbmfnjhpojghaaWTab
import Derived.Test.YtlbmfnjhpojghaaWFour
import Derived.Test.YtlbmfnjhpojghaaWQPut
import Derived.Test.YtlbmfnjhpojghaaWApart
import Derived.Test.YtlbmfnjhpojghaaWArr
import Derived.Test.YtlbmfnjhpojghaaWZeros
import Derived.Test.YtlbmfnjhpojghaaWFoot
import Derived.Test.YtlbmfnjhpojghaaWKept
import Derived.Test.YtlbmfnjhpojghaaWShare
import Derived.Test.YtlbmfnjhpojghaaWN
import Derived.Test.YtlbmfnjhpojghaaWFootNe
import Derived.Test.YtlbmfnjhpojghaaWAt
import Derived.Test.YtlbmfnjhpojghaaWEqStruct
import Derived.Test.YtlbmfnjhpojghaaWRepsOne
import Derived.Test.YtlbmfnjhpojghaaWInv
import Derived.Test.YtlbmfnjhpojghaaWInvWords
import Derived.Test.YtlbmfnjhpojghaaWGuard
import Derived.Test.YtlbmfnjhpojghaaWNEv
import Derived.Test.YtlbmfnjhpojghaaWMore
namespace Go.Proofs.Ytlbmfnjhpojghaa.PFnNormalized
open Go.RowKit Go.Proofs.YtlbmfnjhpojghaaW.PrintWords Go.Proofs.YtlbmfnjhpojghaaW.PrintLast Go.Proofs.YtlbmfnjhpojghaaW.PrintMore
attribute [local go_sem] max2_int min2_int max_two min_two max_three min_three max_four min_four   -- for this text's walks alone
set_option linter.unusedVariables false
set_option linter.unusedSimpArgs false



def errW : Option Int → Value
  | none => .nilIface
  | some c => .iface 0 (.int .i64 c)
theorem errW_none : errW none = .nilIface := rfl
theorem errW_some (c : Int) : errW (some c) = .iface 0 (.int .i64 c) := rfl

abbrev tt : Bool := true
abbrev ff : Bool := false
theorem b1_ {w : World} {g : Nat} {o : Obj} (h : w.heap[g]? = some o) (n : Nat) : (w.drewN n).heap[g]? = some o := h
theorem b2_ {w : World} {g : Nat} {o : Obj} (h : w.heap[g]? = some o) : w.drew.heap[g]? = some o := h
theorem b3_ {w : World} {g : Nat} {o : Obj} (h : w.heap[g]? = some o) (ob : Obj) : (w.alloc ob).heap[g]? = some o := blk_alloc h ob
theorem n1_ (n : Int) (h : -9223372036854775808 ≤ n ∧ n ≤ 9223372036854775807) : IntKind.i64.wrap n = n := IntWalk.i64_in n h
theorem n2_ (n : Int) (h : -2147483648 ≤ n ∧ n ≤ 2147483647) : IntKind.i32.wrap n = n := IntWalk.i32_in n h
theorem n3_ (n : Int) {m k : Int} (h : m ∣ k) : n % k % m = n % m := Int.emod_emod_of_dvd n h
theorem L1_ {α : Type} (l : List α) (i : Nat) (a : α) : l.toArray.setIfInBounds i a = (l.set i a).toArray := List.setIfInBounds_toArray l i a
theorem L2_ {α : Type} {x : α} {l : List α} {a : α} : (x :: l).set 0 a = a :: l := List.set_cons_zero
theorem L3_ {α : Type} {x : α} {l : List α} {i : Nat} {a : α} : (x :: l).set (i + 1) a = x :: l.set i a := List.set_cons_succ
/-! floats: told by their words -/
/-- Is the operation valid (no NaN)? -/
def fok (op : BinOp) (k : FloatKind) (x y : Nat) : Bool := (floatBits op k x y).isSome
/-- What it gives. -/
def fv (op : BinOp) (k : FloatKind) (x y : Nat) : Nat := (floatBits op k x y).getD 0
theorem fok_some {op : BinOp} {k : FloatKind} {x y : Nat} (h : fok op k x y = true) : floatBits op k x y = some (fv op k x y) := by
  unfold fok at h
  unfold fv
  cases hb : floatBits op k x y with
  | none => rw [hb] at h; cases h
  | some r => rfl
theorem f_arith {op : BinOp} (t : TypeId) (k : FloatKind) (x y : Nat) (h : fok op k x y = true) : binOp op t (.float k x) (.float k y) = pure (.float k (fv op k x y)) := by
  have hb := fok_some h
  revert hb
  generalize fv op k x y = r
  intro hb
  unfold floatBits at hb
  cases op <;> simp only at hb <;> first | (cases hb; done) | skip
  all_goals simp [binOp, Op.floatArith, hb]
theorem f_add (t : TypeId) (k : FloatKind) (x y : Nat) (h : fok .add k x y = true) : binOp .add t (.float k x) (.float k y) = pure (.float k (fv .add k x y)) := f_arith t k x y h
theorem f_sub (t : TypeId) (k : FloatKind) (x y : Nat) (h : fok .sub k x y = true) : binOp .sub t (.float k x) (.float k y) = pure (.float k (fv .sub k x y)) := f_arith t k x y h
theorem f_mul (t : TypeId) (k : FloatKind) (x y : Nat) (h : fok .mul k x y = true) : binOp .mul t (.float k x) (.float k y) = pure (.float k (fv .mul k x y)) := f_arith t k x y h
theorem f_quo (t : TypeId) (k : FloatKind) (x y : Nat) (h : fok .quo k x y = true) : binOp .quo t (.float k x) (.float k y) = pure (.float k (fv .quo k x y)) := f_arith t k x y h
/-- A float of the other kind. -/
def fcok (s : FloatKind) (b : Nat) (k : FloatKind) : Bool := (floatToFloatBits s b k).isSome
def fc (s : FloatKind) (b : Nat) (k : FloatKind) : Nat := (floatToFloatBits s b k).getD 0
theorem f_conv {P : Program} (w : World) (src dst : TypeId) (s k : FloatKind) (b : Nat) (hs : (P.underlying src).isSome = true) (hd : P.underlying dst = some (.float k)) (h : fcok s b k = true) :
    (convert src dst (.float s b)).run P w = .ok (.float k (fc s b k)) w := by
  unfold fcok at h
  unfold fc
  cases hb : floatToFloatBits s b k with
  | none => rw [hb] at h; cases h
  | some r => exact run_convert_float_float w src dst s k b r hs hd hb
theorem f_same {P : Program} (w : World) (src dst : TypeId) (k : FloatKind) (b : Nat) (hs : (P.underlying src).isSome = true) (hd : P.underlying dst = some (.float k)) :
    (convert src dst (.float k b)).run P w = .ok (.float k b) w := run_convert_float_float w src dst k k b b hs hd (by unfold floatToFloatBits; rw [if_pos rfl])
/-- A whole number of a float. -/
def fiok (s : FloatKind) (b : Nat) (k : IntKind) : Bool := (floatToIntVal s b k).isSome
def fi (s : FloatKind) (b : Nat) (k : IntKind) : Int := (floatToIntVal s b k).getD 0
theorem f_int {P : Program} (w : World) (src dst : TypeId) (s : FloatKind) (k : IntKind) (b : Nat) (hs : (P.underlying src).isSome = true) (hd : P.underlying dst = some (.int k)) (h : fiok s b k = true) :
    (convert src dst (.float s b)).run P w = .ok (.int k (fi s b k)) w := by
  unfold fiok at h
  unfold fi
  cases hb : floatToIntVal s b k with
  | none => rw [hb] at h; cases h
  | some r => exact run_convert_float_int w src dst s k b r hs hd hb
/-- The greater one, as Go's max tells it of floats; valid where neither is a NaN. -/
def fmok (k : FloatKind) (x y : Nat) : Bool := (k.format.order x y).isSome
def fmx (k : FloatKind) (x y : Nat) : Nat := match k.format.order x y with | some .lt => y | some .gt => x | some .eq => (if (k.decode x).neg then y else x) | none => 0
theorem f_store {P : Program} (w : World) (a : Addr) (m : Mode) (k : FloatKind) (x : Nat) : (store a (.float k x) m).run P w = stored P w a (.float k x) m := run_store P w a _ m rfl
/-- The lesser one. -/
def fmn (k : FloatKind) (x y : Nat) : Nat := match k.format.order x y with | some .lt => x | some .gt => y | some .eq => (if (k.decode x).neg then x else y) | none => 0
theorem f_min (k k' : FloatKind) (x y : Nat) (h : fmok k x y = true) : Builtin.min2 (.float k x) (.float k' y) = pure (.float k (fmn k x y)) := by
  unfold fmok at h
  unfold fmn Builtin.min2
  cases hb : k.format.order x y with
  | none => rw [hb] at h; cases h
  | some o => cases o <;> simp [hb]
theorem f_neg (k : FloatKind) (x : Nat) : Op.unary .neg (.float k x) = pure (.float k (Go.Op.negFloat k x)) := rfl
theorem f_max (k k' : FloatKind) (x y : Nat) (h : fmok k x y = true) : Builtin.max2 (.float k x) (.float k' y) = pure (.float k (fmx k x y)) := by
  unfold fmok at h
  unfold fmx Builtin.max2
  cases hb : k.format.order x y with
  | none => rw [hb] at h; cases h
  | some o => cases o <;> simp [hb]

def kflt (k : FloatKind) : Kd Nat := Kd.scalar (Value.float k) (fun _ => rfl)
theorem at_flt {w : World} {A : Option Addr} {n : Nat} {k : FloatKind} {xs : List Nat} (h : (kflt k).C w A n xs) (i : Int) (h0 : 0 ≤ i) (h1 : i < n) : ∃ ad, A = some ad ∧ w.cell? (ad.add i.toNat) = some (.float k (rdOf (0 : Nat) xs i)) :=
  ReadsOf.at_ (Kd.reads_of_C (enc := Value.float k) (d := (0 : Nat)) (h1 := fun _ => rfl) h) i h0 h1

theorem info3 : (Try.prog.info? 3).map (fun i => (i.zero, i.size, i.bytes)) = some (some (.int .i64 0), 1, 8) := by kernel_rfl
theorem info34 : (Try.prog.info? 34).map (fun i => (i.zero, i.size, i.bytes)) = some (some (.float .f32 0), 1, 4) := by kernel_rfl
theorem info46 : (Try.prog.info? 46).map (fun i => (i.zero, i.size, i.bytes)) = some (some (.slice none 0 0), 1, 24) := by kernel_rfl
theorem info48 : (Try.prog.info? 48).map (fun i => (i.zero, i.size, i.bytes)) = some (some (.agg #[(.int .i64 0), (.int .i64 0)]), 2, 16) := by kernel_rfl
theorem info92 : (Try.prog.info? 92).map (fun i => (i.zero, i.size, i.bytes)) = some (some (.agg #[(.float .f32 0), (.float .f32 0), (.float .f32 0)]), 3, 12) := by kernel_rfl
theorem info98 : (Try.prog.info? 98).map (fun i => (i.zero, i.size, i.bytes)) = some (some (.int .i16 0), 1, 2) := by kernel_rfl
theorem info170 : (Try.prog.info? 170).map (fun i => (i.zero, i.size, i.bytes)) = some (some (.agg #[(.int .u32 0), (.float .f32 0), (.float .f32 0), (.float .f32 0), (.int .u16 0), (.int .u16 0)]), 6, 20) := by kernel_rfl
theorem info174 : (Try.prog.info? 174).map (fun i => (i.zero, i.size, i.bytes)) = some (some (.agg #[(.slice none 0 0)]), 1, 24) := by kernel_rfl
theorem info175 : (Try.prog.info? 175).map (fun i => (i.zero, i.size, i.bytes)) = some (some (.int .i16 0), 1, 2) := by kernel_rfl
theorem info177 : (Try.prog.info? 177).map (fun i => (i.zero, i.size, i.bytes)) = some (some (.agg #[(.int .i16 0), (.int .i16 0)]), 2, 4) := by kernel_rfl
-- the values' own types
/-! #### struct type 164 -/
structure S164 where
  f0 : Int
  f1 : Int
def z164 : S164 := ⟨(0 : Int), (0 : Int)⟩
def k164 : Kd S164 := Kd.iso (Kd.pair (Kd.int .i16) (Kd.int .i16)) (fun x : S164 => (x.f0, x.f1))
theorem k164_open {w : World} {x : S164} {cs : List Value} (h : k164.K w x cs) : cs = [.int .i16 x.f0, .int .i16 x.f1] := by
  obtain ⟨_, _, rfl, rfl, rfl⟩ := h
  exact rfl
theorem k164_openM {w : World} {base : Nat} {ok : Nat → Prop} {x : S164} {cs : List Value} (h : k164.M w base ok x cs) : cs = [.int .i16 x.f0, .int .i16 x.f1] := by
  obtain ⟨_, _, rfl, rfl, rfl⟩ := h
  exact rfl
theorem k164_mk (w : World) (x : S164)  : k164.K w x [.int .i16 x.f0, .int .i16 x.f1] := ⟨[.int .i16 x.f0], [.int .i16 x.f1], rfl, rfl, rfl⟩
theorem k164_mkM (w : World) (base : Nat) (ok : Nat → Prop) (x : S164)  : k164.M w base ok x [.int .i16 x.f0, .int .i16 x.f1] := ⟨[.int .i16 x.f0], [.int .i16 x.f1], rfl, rfl, rfl⟩
def rd_T164 (xs : List S164) (i : Int) : S164 := xs.getD i.toNat z164
theorem at_T164 {w : World} {A : Option Addr} {n : Nat} {xs : List S164} (h : Kd.C k164 w A n xs) (i : Int) (h0 : 0 ≤ i) (h1 : i < n) : ∃ ad , A = some ad ∧ w.cell? (ad.add (i.toNat * 2)) = some (.int .i16 (rd_T164 xs i).f0) ∧ w.cell? ⟨(ad.add (i.toNat * 2)).block, (ad.add (i.toNat * 2)).off + 1, none⟩ = some (.int .i16 (rd_T164 xs i).f1) := by
  obtain ⟨ad, c, e, _, hK, hc0⟩ := Kd.C_get h z164 i h0 h1
  have hc : ∀ j u, c[j]? = some u → w.cell? (ad.add (i.toNat * 2 + j)) = some u := hc0
  obtain rfl := k164_open hK
  exact ⟨ad, e, hc 0 _ rfl, by rw [← add_field _ _ 1 (by omega)]; exact hc 1 _ rfl⟩

def rd_L2 (xs : List (List S164)) (i : Int) : (List S164) := xs.getD i.toNat ([] : List S164)
theorem at_L2 {w : World} {A : Option Addr} {n : Nat} {xs : List (List S164)} (h : Kd.C (Kd.slice 164 k164) w A n xs) (i : Int) (h0 : 0 ≤ i) (h1 : i < n) : ∃ ad A0 c0, A = some ad ∧ w.cell? (ad.add i.toNat) = some (.slice A0 (rd_L2 xs i).length c0) ∧ (rd_L2 xs i).length ≤ c0 ∧ k164.C w A0 (rd_L2 xs i).length (rd_L2 xs i) := by
  obtain ⟨ad, c, e, _, hK, hc0⟩ := Kd.C_get h ([] : List S164) i h0 h1
  have hc : ∀ j u, c[j]? = some u → w.cell? (ad.add (i.toNat * 1 + j)) = some u := hc0
  obtain ⟨A0, c0, rfl, l0, g0⟩ := hK
  exact ⟨ad, A0, c0, e, by have hq := hc 0 _ rfl; rwa [Nat.mul_one, Nat.add_zero] at hq, l0, g0⟩

/-! #### struct type 48 -/
structure S48 where
  f0 : Int
  f1 : Int
def z48 : S48 := ⟨(0 : Int), (0 : Int)⟩
def k48 : Kd S48 := Kd.iso (Kd.pair (Kd.int .i64) (Kd.int .i64)) (fun x : S48 => (x.f0, x.f1))
theorem k48_open {w : World} {x : S48} {cs : List Value} (h : k48.K w x cs) : cs = [.int .i64 x.f0, .int .i64 x.f1] := by
  obtain ⟨_, _, rfl, rfl, rfl⟩ := h
  exact rfl
theorem k48_openM {w : World} {base : Nat} {ok : Nat → Prop} {x : S48} {cs : List Value} (h : k48.M w base ok x cs) : cs = [.int .i64 x.f0, .int .i64 x.f1] := by
  obtain ⟨_, _, rfl, rfl, rfl⟩ := h
  exact rfl
theorem k48_mk (w : World) (x : S48)  : k48.K w x [.int .i64 x.f0, .int .i64 x.f1] := ⟨[.int .i64 x.f0], [.int .i64 x.f1], rfl, rfl, rfl⟩
theorem k48_mkM (w : World) (base : Nat) (ok : Nat → Prop) (x : S48)  : k48.M w base ok x [.int .i64 x.f0, .int .i64 x.f1] := ⟨[.int .i64 x.f0], [.int .i64 x.f1], rfl, rfl, rfl⟩
def rd_T48 (xs : List S48) (i : Int) : S48 := xs.getD i.toNat z48
theorem at_T48 {w : World} {A : Option Addr} {n : Nat} {xs : List S48} (h : Kd.C k48 w A n xs) (i : Int) (h0 : 0 ≤ i) (h1 : i < n) : ∃ ad , A = some ad ∧ w.cell? (ad.add (i.toNat * 2)) = some (.int .i64 (rd_T48 xs i).f0) ∧ w.cell? ⟨(ad.add (i.toNat * 2)).block, (ad.add (i.toNat * 2)).off + 1, none⟩ = some (.int .i64 (rd_T48 xs i).f1) := by
  obtain ⟨ad, c, e, _, hK, hc0⟩ := Kd.C_get h z48 i h0 h1
  have hc : ∀ j u, c[j]? = some u → w.cell? (ad.add (i.toNat * 2 + j)) = some u := hc0
  obtain rfl := k48_open hK
  exact ⟨ad, e, hc 0 _ rfl, by rw [← add_field _ _ 1 (by omega)]; exact hc 1 _ rfl⟩

/-! #### struct type 161 -/
structure S161 where
  f0 : Int
  f1 : Int
  f2 : Int
def z161 : S161 := ⟨(0 : Int), (0 : Int), (0 : Int)⟩
def k161 : Kd S161 := Kd.iso (Kd.pair (Kd.int .i16) (Kd.pair (Kd.int .i16) (Kd.int .i16))) (fun x : S161 => (x.f0, x.f1, x.f2))
theorem k161_open {w : World} {x : S161} {cs : List Value} (h : k161.K w x cs) : cs = [.int .i16 x.f0, .int .i16 x.f1, .int .i16 x.f2] := by
  obtain ⟨_, _, rfl, rfl, ⟨_, _, rfl, rfl, rfl⟩⟩ := h
  exact rfl
theorem k161_openM {w : World} {base : Nat} {ok : Nat → Prop} {x : S161} {cs : List Value} (h : k161.M w base ok x cs) : cs = [.int .i16 x.f0, .int .i16 x.f1, .int .i16 x.f2] := by
  obtain ⟨_, _, rfl, rfl, ⟨_, _, rfl, rfl, rfl⟩⟩ := h
  exact rfl
theorem k161_mk (w : World) (x : S161)  : k161.K w x [.int .i16 x.f0, .int .i16 x.f1, .int .i16 x.f2] := ⟨[.int .i16 x.f0], [.int .i16 x.f1, .int .i16 x.f2], rfl, rfl, ⟨[.int .i16 x.f1], [.int .i16 x.f2], rfl, rfl, rfl⟩⟩
theorem k161_mkM (w : World) (base : Nat) (ok : Nat → Prop) (x : S161)  : k161.M w base ok x [.int .i16 x.f0, .int .i16 x.f1, .int .i16 x.f2] := ⟨[.int .i16 x.f0], [.int .i16 x.f1, .int .i16 x.f2], rfl, rfl, ⟨[.int .i16 x.f1], [.int .i16 x.f2], rfl, rfl, rfl⟩⟩
def rd_T161 (xs : List S161) (i : Int) : S161 := xs.getD i.toNat z161
theorem at_T161 {w : World} {A : Option Addr} {n : Nat} {xs : List S161} (h : Kd.C k161 w A n xs) (i : Int) (h0 : 0 ≤ i) (h1 : i < n) : ∃ ad , A = some ad ∧ w.cell? (ad.add (i.toNat * 3)) = some (.int .i16 (rd_T161 xs i).f0) ∧ w.cell? ⟨(ad.add (i.toNat * 3)).block, (ad.add (i.toNat * 3)).off + 1, none⟩ = some (.int .i16 (rd_T161 xs i).f1) ∧ w.cell? ⟨(ad.add (i.toNat * 3)).block, (ad.add (i.toNat * 3)).off + 2, none⟩ = some (.int .i16 (rd_T161 xs i).f2) := by
  obtain ⟨ad, c, e, _, hK, hc0⟩ := Kd.C_get h z161 i h0 h1
  have hc : ∀ j u, c[j]? = some u → w.cell? (ad.add (i.toNat * 3 + j)) = some u := hc0
  obtain rfl := k161_open hK
  exact ⟨ad, e, hc 0 _ rfl, by rw [← add_field _ _ 1 (by omega)]; exact hc 1 _ rfl, by rw [← add_field _ _ 2 (by omega)]; exact hc 2 _ rfl⟩

/-! #### struct type 92 -/
structure S92 where
  f0 : Nat
  f1 : Nat
  f2 : Nat
def z92 : S92 := ⟨(0 : Nat), (0 : Nat), (0 : Nat)⟩
def k92 : Kd S92 := Kd.iso (Kd.pair (kflt .f32) (Kd.pair (kflt .f32) (kflt .f32))) (fun x : S92 => (x.f0, x.f1, x.f2))
theorem k92_open {w : World} {x : S92} {cs : List Value} (h : k92.K w x cs) : cs = [.float .f32 x.f0, .float .f32 x.f1, .float .f32 x.f2] := by
  obtain ⟨_, _, rfl, rfl, ⟨_, _, rfl, rfl, rfl⟩⟩ := h
  exact rfl
theorem k92_openM {w : World} {base : Nat} {ok : Nat → Prop} {x : S92} {cs : List Value} (h : k92.M w base ok x cs) : cs = [.float .f32 x.f0, .float .f32 x.f1, .float .f32 x.f2] := by
  obtain ⟨_, _, rfl, rfl, ⟨_, _, rfl, rfl, rfl⟩⟩ := h
  exact rfl
theorem k92_mk (w : World) (x : S92)  : k92.K w x [.float .f32 x.f0, .float .f32 x.f1, .float .f32 x.f2] := ⟨[.float .f32 x.f0], [.float .f32 x.f1, .float .f32 x.f2], rfl, rfl, ⟨[.float .f32 x.f1], [.float .f32 x.f2], rfl, rfl, rfl⟩⟩
theorem k92_mkM (w : World) (base : Nat) (ok : Nat → Prop) (x : S92)  : k92.M w base ok x [.float .f32 x.f0, .float .f32 x.f1, .float .f32 x.f2] := ⟨[.float .f32 x.f0], [.float .f32 x.f1, .float .f32 x.f2], rfl, rfl, ⟨[.float .f32 x.f1], [.float .f32 x.f2], rfl, rfl, rfl⟩⟩
def rd_T92 (xs : List S92) (i : Int) : S92 := xs.getD i.toNat z92
theorem at_T92 {w : World} {A : Option Addr} {n : Nat} {xs : List S92} (h : Kd.C k92 w A n xs) (i : Int) (h0 : 0 ≤ i) (h1 : i < n) : ∃ ad , A = some ad ∧ w.cell? (ad.add (i.toNat * 3)) = some (.float .f32 (rd_T92 xs i).f0) ∧ w.cell? ⟨(ad.add (i.toNat * 3)).block, (ad.add (i.toNat * 3)).off + 1, none⟩ = some (.float .f32 (rd_T92 xs i).f1) ∧ w.cell? ⟨(ad.add (i.toNat * 3)).block, (ad.add (i.toNat * 3)).off + 2, none⟩ = some (.float .f32 (rd_T92 xs i).f2) := by
  obtain ⟨ad, c, e, _, hK, hc0⟩ := Kd.C_get h z92 i h0 h1
  have hc : ∀ j u, c[j]? = some u → w.cell? (ad.add (i.toNat * 3 + j)) = some u := hc0
  obtain rfl := k92_open hK
  exact ⟨ad, e, hc 0 _ rfl, by rw [← add_field _ _ 1 (by omega)]; exact hc 1 _ rfl, by rw [← add_field _ _ 2 (by omega)]; exact hc 2 _ rfl⟩

def rd_L8 (xs : List (List S48)) (i : Int) : (List S48) := xs.getD i.toNat ([] : List S48)
theorem at_L8 {w : World} {A : Option Addr} {n : Nat} {xs : List (List S48)} (h : Kd.C (Kd.slice 48 k48) w A n xs) (i : Int) (h0 : 0 ≤ i) (h1 : i < n) : ∃ ad A0 c0, A = some ad ∧ w.cell? (ad.add i.toNat) = some (.slice A0 (rd_L8 xs i).length c0) ∧ (rd_L8 xs i).length ≤ c0 ∧ k48.C w A0 (rd_L8 xs i).length (rd_L8 xs i) := by
  obtain ⟨ad, c, e, _, hK, hc0⟩ := Kd.C_get h ([] : List S48) i h0 h1
  have hc : ∀ j u, c[j]? = some u → w.cell? (ad.add (i.toNat * 1 + j)) = some u := hc0
  obtain ⟨A0, c0, rfl, l0, g0⟩ := hK
  exact ⟨ad, A0, c0, e, by have hq := hc 0 _ rfl; rwa [Nat.mul_one, Nat.add_zero] at hq, l0, g0⟩

/-! #### struct type 170 -/
structure S170 where
  f0 : Int
  f1 : Nat
  f2 : Nat
  f3 : Nat
  f4 : Int
  f5 : Int
def z170 : S170 := ⟨(0 : Int), (0 : Nat), (0 : Nat), (0 : Nat), (0 : Int), (0 : Int)⟩
def k170 : Kd S170 := Kd.iso (Kd.pair (Kd.int .u32) (Kd.pair (kflt .f32) (Kd.pair (kflt .f32) (Kd.pair (kflt .f32) (Kd.pair (Kd.int .u16) (Kd.int .u16)))))) (fun x : S170 => (x.f0, x.f1, x.f2, x.f3, x.f4, x.f5))
theorem k170_open {w : World} {x : S170} {cs : List Value} (h : k170.K w x cs) : cs = [.int .u32 x.f0, .float .f32 x.f1, .float .f32 x.f2, .float .f32 x.f3, .int .u16 x.f4, .int .u16 x.f5] := by
  obtain ⟨_, _, rfl, rfl, ⟨_, _, rfl, rfl, ⟨_, _, rfl, rfl, ⟨_, _, rfl, rfl, ⟨_, _, rfl, rfl, rfl⟩⟩⟩⟩⟩ := h
  exact rfl
theorem k170_openM {w : World} {base : Nat} {ok : Nat → Prop} {x : S170} {cs : List Value} (h : k170.M w base ok x cs) : cs = [.int .u32 x.f0, .float .f32 x.f1, .float .f32 x.f2, .float .f32 x.f3, .int .u16 x.f4, .int .u16 x.f5] := by
  obtain ⟨_, _, rfl, rfl, ⟨_, _, rfl, rfl, ⟨_, _, rfl, rfl, ⟨_, _, rfl, rfl, ⟨_, _, rfl, rfl, rfl⟩⟩⟩⟩⟩ := h
  exact rfl
theorem k170_mk (w : World) (x : S170)  : k170.K w x [.int .u32 x.f0, .float .f32 x.f1, .float .f32 x.f2, .float .f32 x.f3, .int .u16 x.f4, .int .u16 x.f5] := ⟨[.int .u32 x.f0], [.float .f32 x.f1, .float .f32 x.f2, .float .f32 x.f3, .int .u16 x.f4, .int .u16 x.f5], rfl, rfl, ⟨[.float .f32 x.f1], [.float .f32 x.f2, .float .f32 x.f3, .int .u16 x.f4, .int .u16 x.f5], rfl, rfl, ⟨[.float .f32 x.f2], [.float .f32 x.f3, .int .u16 x.f4, .int .u16 x.f5], rfl, rfl, ⟨[.float .f32 x.f3], [.int .u16 x.f4, .int .u16 x.f5], rfl, rfl, ⟨[.int .u16 x.f4], [.int .u16 x.f5], rfl, rfl, rfl⟩⟩⟩⟩⟩
theorem k170_mkM (w : World) (base : Nat) (ok : Nat → Prop) (x : S170)  : k170.M w base ok x [.int .u32 x.f0, .float .f32 x.f1, .float .f32 x.f2, .float .f32 x.f3, .int .u16 x.f4, .int .u16 x.f5] := ⟨[.int .u32 x.f0], [.float .f32 x.f1, .float .f32 x.f2, .float .f32 x.f3, .int .u16 x.f4, .int .u16 x.f5], rfl, rfl, ⟨[.float .f32 x.f1], [.float .f32 x.f2, .float .f32 x.f3, .int .u16 x.f4, .int .u16 x.f5], rfl, rfl, ⟨[.float .f32 x.f2], [.float .f32 x.f3, .int .u16 x.f4, .int .u16 x.f5], rfl, rfl, ⟨[.float .f32 x.f3], [.int .u16 x.f4, .int .u16 x.f5], rfl, rfl, ⟨[.int .u16 x.f4], [.int .u16 x.f5], rfl, rfl, rfl⟩⟩⟩⟩⟩
def rd_T170 (xs : List S170) (i : Int) : S170 := xs.getD i.toNat z170
theorem at_T170 {w : World} {A : Option Addr} {n : Nat} {xs : List S170} (h : Kd.C k170 w A n xs) (i : Int) (h0 : 0 ≤ i) (h1 : i < n) : ∃ ad , A = some ad ∧ w.cell? (ad.add (i.toNat * 6)) = some (.int .u32 (rd_T170 xs i).f0) ∧ w.cell? ⟨(ad.add (i.toNat * 6)).block, (ad.add (i.toNat * 6)).off + 1, none⟩ = some (.float .f32 (rd_T170 xs i).f1) ∧ w.cell? ⟨(ad.add (i.toNat * 6)).block, (ad.add (i.toNat * 6)).off + 2, none⟩ = some (.float .f32 (rd_T170 xs i).f2) ∧ w.cell? ⟨(ad.add (i.toNat * 6)).block, (ad.add (i.toNat * 6)).off + 3, none⟩ = some (.float .f32 (rd_T170 xs i).f3) ∧ w.cell? ⟨(ad.add (i.toNat * 6)).block, (ad.add (i.toNat * 6)).off + 4, none⟩ = some (.int .u16 (rd_T170 xs i).f4) ∧ w.cell? ⟨(ad.add (i.toNat * 6)).block, (ad.add (i.toNat * 6)).off + 5, none⟩ = some (.int .u16 (rd_T170 xs i).f5) := by
  obtain ⟨ad, c, e, _, hK, hc0⟩ := Kd.C_get h z170 i h0 h1
  have hc : ∀ j u, c[j]? = some u → w.cell? (ad.add (i.toNat * 6 + j)) = some u := hc0
  obtain rfl := k170_open hK
  exact ⟨ad, e, hc 0 _ rfl, by rw [← add_field _ _ 1 (by omega)]; exact hc 1 _ rfl, by rw [← add_field _ _ 2 (by omega)]; exact hc 2 _ rfl, by rw [← add_field _ _ 3 (by omega)]; exact hc 3 _ rfl, by rw [← add_field _ _ 4 (by omega)]; exact hc 4 _ rfl, by rw [← add_field _ _ 5 (by omega)]; exact hc 5 _ rfl⟩

/-! #### struct type 177 -/
structure S177 where
  f0 : Int
  f1 : Int
def z177 : S177 := ⟨(0 : Int), (0 : Int)⟩
def k177 : Kd S177 := Kd.iso (Kd.pair (Kd.int .i16) (Kd.int .i16)) (fun x : S177 => (x.f0, x.f1))
theorem k177_open {w : World} {x : S177} {cs : List Value} (h : k177.K w x cs) : cs = [.int .i16 x.f0, .int .i16 x.f1] := by
  obtain ⟨_, _, rfl, rfl, rfl⟩ := h
  exact rfl
theorem k177_openM {w : World} {base : Nat} {ok : Nat → Prop} {x : S177} {cs : List Value} (h : k177.M w base ok x cs) : cs = [.int .i16 x.f0, .int .i16 x.f1] := by
  obtain ⟨_, _, rfl, rfl, rfl⟩ := h
  exact rfl
theorem k177_mk (w : World) (x : S177)  : k177.K w x [.int .i16 x.f0, .int .i16 x.f1] := ⟨[.int .i16 x.f0], [.int .i16 x.f1], rfl, rfl, rfl⟩
theorem k177_mkM (w : World) (base : Nat) (ok : Nat → Prop) (x : S177)  : k177.M w base ok x [.int .i16 x.f0, .int .i16 x.f1] := ⟨[.int .i16 x.f0], [.int .i16 x.f1], rfl, rfl, rfl⟩
def rd_T177 (xs : List S177) (i : Int) : S177 := xs.getD i.toNat z177
theorem at_T177 {w : World} {A : Option Addr} {n : Nat} {xs : List S177} (h : Kd.C k177 w A n xs) (i : Int) (h0 : 0 ≤ i) (h1 : i < n) : ∃ ad , A = some ad ∧ w.cell? (ad.add (i.toNat * 2)) = some (.int .i16 (rd_T177 xs i).f0) ∧ w.cell? ⟨(ad.add (i.toNat * 2)).block, (ad.add (i.toNat * 2)).off + 1, none⟩ = some (.int .i16 (rd_T177 xs i).f1) := by
  obtain ⟨ad, c, e, _, hK, hc0⟩ := Kd.C_get h z177 i h0 h1
  have hc : ∀ j u, c[j]? = some u → w.cell? (ad.add (i.toNat * 2 + j)) = some u := hc0
  obtain rfl := k177_open hK
  exact ⟨ad, e, hc 0 _ rfl, by rw [← add_field _ _ 1 (by omega)]; exact hc 1 _ rfl⟩

def rd_L13 (xs : List (List S177)) (i : Int) : (List S177) := xs.getD i.toNat ([] : List S177)
theorem at_L13 {w : World} {A : Option Addr} {n : Nat} {xs : List (List S177)} (h : Kd.C (Kd.slice 177 k177) w A n xs) (i : Int) (h0 : 0 ≤ i) (h1 : i < n) : ∃ ad A0 c0, A = some ad ∧ w.cell? (ad.add i.toNat) = some (.slice A0 (rd_L13 xs i).length c0) ∧ (rd_L13 xs i).length ≤ c0 ∧ k177.C w A0 (rd_L13 xs i).length (rd_L13 xs i) := by
  obtain ⟨ad, c, e, _, hK, hc0⟩ := Kd.C_get h ([] : List S177) i h0 h1
  have hc : ∀ j u, c[j]? = some u → w.cell? (ad.add (i.toNat * 1 + j)) = some u := hc0
  obtain ⟨A0, c0, rfl, l0, g0⟩ := hK
  exact ⟨ad, A0, c0, e, by have hq := hc 0 _ rfl; rwa [Nat.mul_one, Nat.add_zero] at hq, l0, g0⟩

/-! #### struct type 174 -/
structure S174 where
  f0 : (List S177)
def z174 : S174 := ⟨([] : List S177)⟩
def k174 : Kd S174 := Kd.iso (Kd.slice 177 k177) (fun x : S174 => x.f0)
theorem k174_open {w : World} {x : S174} {cs : List Value} (h : k174.K w x cs) : ∃ A0 c0, cs = [.slice A0 x.f0.length c0] ∧ x.f0.length ≤ c0 ∧ k177.C w A0 x.f0.length x.f0 := by
  obtain ⟨A0, c0, rfl, l0, g0⟩ := h
  exact ⟨A0, c0, rfl, l0, g0⟩
theorem k174_openM {w : World} {base : Nat} {ok : Nat → Prop} {x : S174} {cs : List Value} (h : k174.M w base ok x cs) : ∃ v0, cs = [v0] ∧ k177.R 177 w base ok v0 x.f0 := by
  obtain ⟨v0, rfl, g0⟩ := h
  exact ⟨v0, rfl, g0⟩
theorem k174_mk (w : World) (x : S174) {A0 : Option Addr} {c0 : Nat} (l0 : x.f0.length ≤ c0) (g0 : k177.C w A0 x.f0.length x.f0) : k174.K w x [.slice A0 x.f0.length c0] := ⟨A0, c0, rfl, l0, g0⟩
theorem k174_mkM (w : World) (base : Nat) (ok : Nat → Prop) (x : S174) {v0 : Value} (g0 : k177.R 177 w base ok v0 x.f0) : k174.M w base ok x [v0] := ⟨v0, rfl, g0⟩
def rd_T174 (xs : List S174) (i : Int) : S174 := xs.getD i.toNat z174
theorem at_T174 {w : World} {A : Option Addr} {n : Nat} {xs : List S174} (h : Kd.C k174 w A n xs) (i : Int) (h0 : 0 ≤ i) (h1 : i < n) : ∃ ad A0 c0, A = some ad ∧ w.cell? (ad.add i.toNat) = some (.slice A0 (rd_T174 xs i).f0.length c0) ∧ (rd_T174 xs i).f0.length ≤ c0 ∧ k177.C w A0 (rd_T174 xs i).f0.length (rd_T174 xs i).f0 := by
  obtain ⟨ad, c, e, _, hK, hc0⟩ := Kd.C_get h z174 i h0 h1
  have hc : ∀ j u, c[j]? = some u → w.cell? (ad.add (i.toNat * 1 + j)) = some u := hc0
  obtain ⟨A0, c0, rfl, l0, g0⟩ := k174_open hK
  exact ⟨ad, A0, c0, e, by have hq := hc 0 _ rfl; rwa [Nat.mul_one, Nat.add_zero] at hq, l0, g0⟩

end Go.Proofs.Ytlbmfnjhpojghaa.PFnNormalized
