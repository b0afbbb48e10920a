-- Written by a program of this session (xprint) out of the translation; Lean checks it.
import Derived.Laws.FloatArith
import Derived.Test.YtlbmfnjhpojghaaProg
import Derived.Below
import Derived.Deep.Draws
import Derived.Deep.AppendLies
import Derived.Maps.AppendAt
import Derived.OwnWalk
import Derived.Laws.BytesArg
import Derived.Laws.MakeOwn
import Derived.Laws.OwnMore
import Derived.Deep.OwnRows
import Derived.Tactics
import Derived.Lib.ConvBytes
import Derived.Laws.Slices
import Derived.WalkKit
import Derived.KernelRfl
import Derived.RowKit3
import Derived.Deep.LoopGhost
import Derived.Deep.QuietTactic
import Derived.BigQuiet
import Derived.WideLaws
import Derived.Deep.DeepCutAuto
import Derived.Deep.CutBlock
import Derived.Deep.RegionHeld3
import Derived.Laws.Rows
import Derived.Lib.AppendStr
import Derived.ArgAppend
import Derived.Laws.IdiomCopy
import Derived.OrdersHeld
import Derived.Laws.BitsLemmas
import Derived.RowKit
import Derived.Lib.SmallJoins
import Derived.Lib.EndianMore
import Derived.Deep.RegionWith
import Derived.RegionTactic
import Derived.Test.YtlbmfnjhpojghaaWWords
import Derived.Test.YtlbmfnjhpojghaaWLast
import Derived.Test.YtlbmfnjhpojghaaWTab
import Derived.Test.YtlbmfnjhpojghaaWFour
import Derived.Test.YtlbmfnjhpojghaaWQPut
import Derived.Test.YtlbmfnjhpojghaaWApart
import Derived.Test.YtlbmfnjhpojghaaWArr
import Derived.Test.YtlbmfnjhpojghaaWZeros
import Derived.Test.YtlbmfnjhpojghaaWFoot
import Derived.Test.YtlbmfnjhpojghaaWKept
import Derived.Test.YtlbmfnjhpojghaaWShare
import Derived.Test.YtlbmfnjhpojghaaWN
import Derived.Test.YtlbmfnjhpojghaaWFootNe
import Derived.Test.YtlbmfnjhpojghaaWAt
import Derived.Test.YtlbmfnjhpojghaaWEqStruct
import Derived.Test.YtlbmfnjhpojghaaWRepsOne
import Derived.Test.YtlbmfnjhpojghaaWInv
import Derived.Test.YtlbmfnjhpojghaaWInvWords
import Derived.Test.YtlbmfnjhpojghaaWGuard
import Derived.Test.YtlbmfnjhpojghaaWNEv
import Derived.Test.YtlbmfnjhpojghaaWMore
namespace Go.Proofs.Ytlbmfnjhpojghaa.PFnAdvanceDelta
open Go.RowKit Go.Proofs.YtlbmfnjhpojghaaW.PrintWords Go.Proofs.YtlbmfnjhpojghaaW.PrintLast Go.Proofs.YtlbmfnjhpojghaaW.PrintMore
attribute [local go_sem] max2_int min2_int max_two min_two max_three min_three max_four min_four   -- for this text's walks alone
set_option linter.unusedVariables false
set_option linter.unusedSimpArgs false



def errW : Option Int → Value
  | none => .nilIface
  | some c => .iface 0 (.int .i64 c)
theorem errW_none : errW none = .nilIface := rfl
theorem errW_some (c : Int) : errW (some c) = .iface 0 (.int .i64 c) := rfl

abbrev tt : Bool := true
abbrev ff : Bool := false
theorem b1_ {w : World} {g : Nat} {o : Obj} (h : w.heap[g]? = some o) (n : Nat) : (w.drewN n).heap[g]? = some o := h
theorem b2_ {w : World} {g : Nat} {o : Obj} (h : w.heap[g]? = some o) : w.drew.heap[g]? = some o := h
theorem b3_ {w : World} {g : Nat} {o : Obj} (h : w.heap[g]? = some o) (ob : Obj) : (w.alloc ob).heap[g]? = some o := blk_alloc h ob
theorem n1_ (n : Int) (h : -9223372036854775808 ≤ n ∧ n ≤ 9223372036854775807) : IntKind.i64.wrap n = n := IntWalk.i64_in n h
theorem n2_ (n : Int) (h : -2147483648 ≤ n ∧ n ≤ 2147483647) : IntKind.i32.wrap n = n := IntWalk.i32_in n h
theorem n3_ (n : Int) {m k : Int} (h : m ∣ k) : n % k % m = n % m := Int.emod_emod_of_dvd n h
theorem L1_ {α : Type} (l : List α) (i : Nat) (a : α) : l.toArray.setIfInBounds i a = (l.set i a).toArray := List.setIfInBounds_toArray l i a
theorem L2_ {α : Type} {x : α} {l : List α} {a : α} : (x :: l).set 0 a = a :: l := List.set_cons_zero
theorem L3_ {α : Type} {x : α} {l : List α} {i : Nat} {a : α} : (x :: l).set (i + 1) a = x :: l.set i a := List.set_cons_succ
/-! floats: told by their words -/
/-- Is the operation valid (no NaN)? -/
def fok (op : BinOp) (k : FloatKind) (x y : Nat) : Bool := (floatBits op k x y).isSome
/-- What it gives. -/
def fv (op : BinOp) (k : FloatKind) (x y : Nat) : Nat := (floatBits op k x y).getD 0
theorem fok_some {op : BinOp} {k : FloatKind} {x y : Nat} (h : fok op k x y = true) : floatBits op k x y = some (fv op k x y) := by
  unfold fok at h
  unfold fv
  cases hb : floatBits op k x y with
  | none => rw [hb] at h; cases h
  | some r => rfl
theorem f_arith {op : BinOp} (t : TypeId) (k : FloatKind) (x y : Nat) (h : fok op k x y = true) : binOp op t (.float k x) (.float k y) = pure (.float k (fv op k x y)) := by
  have hb := fok_some h
  revert hb
  generalize fv op k x y = r
  intro hb
  unfold floatBits at hb
  cases op <;> simp only at hb <;> first | (cases hb; done) | skip
  all_goals simp [binOp, Op.floatArith, hb]
theorem f_add (t : TypeId) (k : FloatKind) (x y : Nat) (h : fok .add k x y = true) : binOp .add t (.float k x) (.float k y) = pure (.float k (fv .add k x y)) := f_arith t k x y h
theorem f_sub (t : TypeId) (k : FloatKind) (x y : Nat) (h : fok .sub k x y = true) : binOp .sub t (.float k x) (.float k y) = pure (.float k (fv .sub k x y)) := f_arith t k x y h
theorem f_mul (t : TypeId) (k : FloatKind) (x y : Nat) (h : fok .mul k x y = true) : binOp .mul t (.float k x) (.float k y) = pure (.float k (fv .mul k x y)) := f_arith t k x y h
theorem f_quo (t : TypeId) (k : FloatKind) (x y : Nat) (h : fok .quo k x y = true) : binOp .quo t (.float k x) (.float k y) = pure (.float k (fv .quo k x y)) := f_arith t k x y h
/-- A float of the other kind. -/
def fcok (s : FloatKind) (b : Nat) (k : FloatKind) : Bool := (floatToFloatBits s b k).isSome
def fc (s : FloatKind) (b : Nat) (k : FloatKind) : Nat := (floatToFloatBits s b k).getD 0
theorem f_conv {P : Program} (w : World) (src dst : TypeId) (s k : FloatKind) (b : Nat) (hs : (P.underlying src).isSome = true) (hd : P.underlying dst = some (.float k)) (h : fcok s b k = true) :
    (convert src dst (.float s b)).run P w = .ok (.float k (fc s b k)) w := by
  unfold fcok at h
  unfold fc
  cases hb : floatToFloatBits s b k with
  | none => rw [hb] at h; cases h
  | some r => exact run_convert_float_float w src dst s k b r hs hd hb
theorem f_same {P : Program} (w : World) (src dst : TypeId) (k : FloatKind) (b : Nat) (hs : (P.underlying src).isSome = true) (hd : P.underlying dst = some (.float k)) :
    (convert src dst (.float k b)).run P w = .ok (.float k b) w := run_convert_float_float w src dst k k b b hs hd (by unfold floatToFloatBits; rw [if_pos rfl])
/-- A whole number of a float. -/
def fiok (s : FloatKind) (b : Nat) (k : IntKind) : Bool := (floatToIntVal s b k).isSome
def fi (s : FloatKind) (b : Nat) (k : IntKind) : Int := (floatToIntVal s b k).getD 0
theorem f_int {P : Program} (w : World) (src dst : TypeId) (s : FloatKind) (k : IntKind) (b : Nat) (hs : (P.underlying src).isSome = true) (hd : P.underlying dst = some (.int k)) (h : fiok s b k = true) :
    (convert src dst (.float s b)).run P w = .ok (.int k (fi s b k)) w := by
  unfold fiok at h
  unfold fi
  cases hb : floatToIntVal s b k with
  | none => rw [hb] at h; cases h
  | some r => exact run_convert_float_int w src dst s k b r hs hd hb
/-- The greater one, as Go's max tells it of floats; valid where neither is a NaN. -/
def fmok (k : FloatKind) (x y : Nat) : Bool := (k.format.order x y).isSome
def fmx (k : FloatKind) (x y : Nat) : Nat := match k.format.order x y with | some .lt => y | some .gt => x | some .eq => (if (k.decode x).neg then y else x) | none => 0
theorem f_max (k k' : FloatKind) (x y : Nat) (h : fmok k x y = true) : Builtin.max2 (.float k x) (.float k' y) = pure (.float k (fmx k x y)) := by
  unfold fmok at h
  unfold fmx Builtin.max2
  cases hb : k.format.order x y with
  | none => rw [hb] at h; cases h
  | some o => cases o <;> simp [hb]

def kflt (k : FloatKind) : Kd Nat := Kd.scalar (Value.float k) (fun _ => rfl)
theorem at_flt {w : World} {A : Option Addr} {n : Nat} {k : FloatKind} {xs : List Nat} (h : (kflt k).C w A n xs) (i : Int) (h0 : 0 ≤ i) (h1 : i < n) : ∃ ad, A = some ad ∧ w.cell? (ad.add i.toNat) = some (.float k (rdOf (0 : Nat) xs i)) :=
  ReadsOf.at_ (Kd.reads_of_C (enc := Value.float k) (d := (0 : Nat)) (h1 := fun _ => rfl) h) i h0 h1
theorem heap_flt (k : FloatKind) : Kd.Heap (kflt k) := ⟨fun _ h => h⟩

def knp : Kd Unit := Kd.scalar (fun _ => Value.pointer none) (fun _ => rfl)
theorem heap_np : Kd.Heap knp := ⟨fun _ h => h⟩

theorem info3 : (Try.prog.info? 3).map (fun i => (i.zero, i.size, i.bytes)) = some (some (.int .i64 0), 1, 8) := by kernel_rfl
theorem info25 : (Try.prog.info? 25).map (fun i => (i.zero, i.size, i.bytes)) = some (some (.slice none 0 0), 1, 24) := by kernel_rfl
theorem info31 : (Try.prog.info? 31).map (fun i => (i.zero, i.size, i.bytes)) = some (some (.slice none 0 0), 1, 24) := by kernel_rfl
theorem info36 : (Try.prog.info? 36).map (fun i => (i.zero, i.size, i.bytes)) = some (some (.agg #[(.int .i64 0), (.int .i64 0), (.int .i64 0)]), 3, 24) := by kernel_rfl
theorem info38 : (Try.prog.info? 38).map (fun i => (i.zero, i.size, i.bytes)) = some (some (.slice none 0 0), 1, 24) := by kernel_rfl
theorem info41 : (Try.prog.info? 41).map (fun i => (i.zero, i.size, i.bytes)) = some (some (.agg #[(.slice none 0 0), (.slice none 0 0)]), 2, 48) := by kernel_rfl
theorem info48 : (Try.prog.info? 48).map (fun i => (i.zero, i.size, i.bytes)) = some (some (.agg #[(.int .i64 0), (.int .i64 0)]), 2, 16) := by kernel_rfl
theorem info98 : (Try.prog.info? 98).map (fun i => (i.zero, i.size, i.bytes)) = some (some (.int .i16 0), 1, 2) := by kernel_rfl
theorem info103 : (Try.prog.info? 103).map (fun i => (i.zero, i.size, i.bytes)) = some (some (.int .u16 0), 1, 2) := by kernel_rfl
theorem info115 : (Try.prog.info? 115).map (fun i => (i.zero, i.size, i.bytes)) = some (some (.agg #[(.int .u16 0), (.int .u16 0)]), 2, 4) := by kernel_rfl
theorem info175 : (Try.prog.info? 175).map (fun i => (i.zero, i.size, i.bytes)) = some (some (.int .i16 0), 1, 2) := by kernel_rfl
theorem info182 : (Try.prog.info? 182).map (fun i => (i.zero, i.size, i.bytes)) = some (some (.agg #[(.slice none 0 0)]), 1, 24) := by kernel_rfl
theorem info184 : (Try.prog.info? 184).map (fun i => (i.zero, i.size, i.bytes)) = some (some (.agg #[(.int .i16 0), (.int .i16 0), (.int .i16 0)]), 3, 6) := by kernel_rfl
theorem info186 : (Try.prog.info? 186).map (fun i => (i.zero, i.size, i.bytes)) = some (some (.agg #[(.int .u16 0), (.int .u16 0), (.int .u16 0), (.slice none 0 0), (.slice none 0 0)]), 5, 56) := by kernel_rfl
-- the values' own types
/-! #### struct type 161 -/
structure S161 where
  f0 : Int
  f1 : Int
  f2 : Int
def z161 : S161 := ⟨(0 : Int), (0 : Int), (0 : Int)⟩
def k161 : Kd S161 := Kd.iso (Kd.pair (Kd.int .i16) (Kd.pair (Kd.int .i16) (Kd.int .i16))) (fun x : S161 => (x.f0, x.f1, x.f2))
theorem k161_heap : Kd.Heap k161 := Kd.heap_iso _ (Kd.heap_pair (Kd.heap_int .i16) (Kd.heap_pair (Kd.heap_int .i16) (Kd.heap_int .i16)))
theorem k161_open {w : World} {x : S161} {cs : List Value} (h : k161.K w x cs) : cs = [.int .i16 x.f0, .int .i16 x.f1, .int .i16 x.f2] := by
  obtain ⟨_, _, rfl, rfl, ⟨_, _, rfl, rfl, rfl⟩⟩ := h
  exact rfl
theorem k161_openM {w : World} {base : Nat} {ok : Nat → Prop} {x : S161} {cs : List Value} (h : k161.M w base ok x cs) : cs = [.int .i16 x.f0, .int .i16 x.f1, .int .i16 x.f2] := by
  obtain ⟨_, _, rfl, rfl, ⟨_, _, rfl, rfl, rfl⟩⟩ := h
  exact rfl
theorem k161_mk (w : World) (x : S161)  : k161.K w x [.int .i16 x.f0, .int .i16 x.f1, .int .i16 x.f2] := ⟨[.int .i16 x.f0], [.int .i16 x.f1, .int .i16 x.f2], rfl, rfl, ⟨[.int .i16 x.f1], [.int .i16 x.f2], rfl, rfl, rfl⟩⟩
theorem k161_mkM (w : World) (base : Nat) (ok : Nat → Prop) (x : S161)  : k161.M w base ok x [.int .i16 x.f0, .int .i16 x.f1, .int .i16 x.f2] := ⟨[.int .i16 x.f0], [.int .i16 x.f1, .int .i16 x.f2], rfl, rfl, ⟨[.int .i16 x.f1], [.int .i16 x.f2], rfl, rfl, rfl⟩⟩
theorem k161_mkF (W : World) (ok : Nat → Prop) (x : S161) : Kd.FK k161 W ok x [.int .i16 x.f0, .int .i16 x.f1, .int .i16 x.f2] := fun W2 _ => k161_mk W2 x
def rd_T161 (xs : List S161) (i : Int) : S161 := xs.getD i.toNat z161
theorem at_T161 {w : World} {A : Option Addr} {n : Nat} {xs : List S161} (h : Kd.C k161 w A n xs) (i : Int) (h0 : 0 ≤ i) (h1 : i < n) : ∃ ad , A = some ad ∧ w.cell? (ad.add (i.toNat * 3)) = some (.int .i16 (rd_T161 xs i).f0) ∧ w.cell? ⟨(ad.add (i.toNat * 3)).block, (ad.add (i.toNat * 3)).off + 1, none⟩ = some (.int .i16 (rd_T161 xs i).f1) ∧ w.cell? ⟨(ad.add (i.toNat * 3)).block, (ad.add (i.toNat * 3)).off + 2, none⟩ = some (.int .i16 (rd_T161 xs i).f2) := by
  obtain ⟨ad, c, e, _, hK, hc0⟩ := Kd.C_get h z161 i h0 h1
  have hc : ∀ j u, c[j]? = some u → w.cell? (ad.add (i.toNat * 3 + j)) = some u := hc0
  obtain rfl := k161_open hK
  exact ⟨ad, e, hc 0 _ rfl, by rw [← add_field _ _ 1 (by omega)]; exact hc 1 _ rfl, by rw [← add_field _ _ 2 (by omega)]; exact hc 2 _ rfl⟩

def rd_L2 (xs : List (List S161)) (i : Int) : (List S161) := xs.getD i.toNat ([] : List S161)
theorem at_L2 {w : World} {A : Option Addr} {n : Nat} {xs : List (List S161)} (h : Kd.C (Kd.slice 161 k161) w A n xs) (i : Int) (h0 : 0 ≤ i) (h1 : i < n) : ∃ ad A0 c0, A = some ad ∧ w.cell? (ad.add i.toNat) = some (.slice A0 (rd_L2 xs i).length c0) ∧ (rd_L2 xs i).length ≤ c0 ∧ k161.C w A0 (rd_L2 xs i).length (rd_L2 xs i) := by
  obtain ⟨ad, c, e, _, hK, hc0⟩ := Kd.C_get h ([] : List S161) i h0 h1
  have hc : ∀ j u, c[j]? = some u → w.cell? (ad.add (i.toNat * 1 + j)) = some u := hc0
  obtain ⟨A0, c0, rfl, l0, g0⟩ := hK
  exact ⟨ad, A0, c0, e, by have hq := hc 0 _ rfl; rwa [Nat.mul_one, Nat.add_zero] at hq, l0, g0⟩

def rd_L4 (xs : List (List Int)) (i : Int) : (List Int) := xs.getD i.toNat ([] : List Int)
theorem at_L4 {w : World} {A : Option Addr} {n : Nat} {xs : List (List Int)} (h : Kd.C (Kd.slice 5 (Kd.int .u8)) w A n xs) (i : Int) (h0 : 0 ≤ i) (h1 : i < n) : ∃ ad A0 c0, A = some ad ∧ w.cell? (ad.add i.toNat) = some (.slice A0 (rd_L4 xs i).length c0) ∧ (rd_L4 xs i).length ≤ c0 ∧ (Kd.int .u8).C w A0 (rd_L4 xs i).length (rd_L4 xs i) := by
  obtain ⟨ad, c, e, _, hK, hc0⟩ := Kd.C_get h ([] : List Int) i h0 h1
  have hc : ∀ j u, c[j]? = some u → w.cell? (ad.add (i.toNat * 1 + j)) = some u := hc0
  obtain ⟨A0, c0, rfl, l0, g0⟩ := hK
  exact ⟨ad, A0, c0, e, by have hq := hc 0 _ rfl; rwa [Nat.mul_one, Nat.add_zero] at hq, l0, g0⟩

def rd_L5 (xs : List (List Int)) (i : Int) : (List Int) := xs.getD i.toNat ([] : List Int)
theorem at_L5 {w : World} {A : Option Addr} {n : Nat} {xs : List (List Int)} (h : Kd.C (Kd.slice 98 (Kd.int .i16)) w A n xs) (i : Int) (h0 : 0 ≤ i) (h1 : i < n) : ∃ ad A0 c0, A = some ad ∧ w.cell? (ad.add i.toNat) = some (.slice A0 (rd_L5 xs i).length c0) ∧ (rd_L5 xs i).length ≤ c0 ∧ (Kd.int .i16).C w A0 (rd_L5 xs i).length (rd_L5 xs i) := by
  obtain ⟨ad, c, e, _, hK, hc0⟩ := Kd.C_get h ([] : List Int) i h0 h1
  have hc : ∀ j u, c[j]? = some u → w.cell? (ad.add (i.toNat * 1 + j)) = some u := hc0
  obtain ⟨A0, c0, rfl, l0, g0⟩ := hK
  exact ⟨ad, A0, c0, e, by have hq := hc 0 _ rfl; rwa [Nat.mul_one, Nat.add_zero] at hq, l0, g0⟩

/-! #### struct type 36 -/
structure S36 where
  f0 : Int
  f1 : Int
  f2 : Int
def z36 : S36 := ⟨(0 : Int), (0 : Int), (0 : Int)⟩
def k36 : Kd S36 := Kd.iso (Kd.pair (Kd.int .i64) (Kd.pair (Kd.int .i64) (Kd.int .i64))) (fun x : S36 => (x.f0, x.f1, x.f2))
theorem k36_heap : Kd.Heap k36 := Kd.heap_iso _ (Kd.heap_pair (Kd.heap_int .i64) (Kd.heap_pair (Kd.heap_int .i64) (Kd.heap_int .i64)))
theorem k36_open {w : World} {x : S36} {cs : List Value} (h : k36.K w x cs) : cs = [.int .i64 x.f0, .int .i64 x.f1, .int .i64 x.f2] := by
  obtain ⟨_, _, rfl, rfl, ⟨_, _, rfl, rfl, rfl⟩⟩ := h
  exact rfl
theorem k36_openM {w : World} {base : Nat} {ok : Nat → Prop} {x : S36} {cs : List Value} (h : k36.M w base ok x cs) : cs = [.int .i64 x.f0, .int .i64 x.f1, .int .i64 x.f2] := by
  obtain ⟨_, _, rfl, rfl, ⟨_, _, rfl, rfl, rfl⟩⟩ := h
  exact rfl
theorem k36_mk (w : World) (x : S36)  : k36.K w x [.int .i64 x.f0, .int .i64 x.f1, .int .i64 x.f2] := ⟨[.int .i64 x.f0], [.int .i64 x.f1, .int .i64 x.f2], rfl, rfl, ⟨[.int .i64 x.f1], [.int .i64 x.f2], rfl, rfl, rfl⟩⟩
theorem k36_mkM (w : World) (base : Nat) (ok : Nat → Prop) (x : S36)  : k36.M w base ok x [.int .i64 x.f0, .int .i64 x.f1, .int .i64 x.f2] := ⟨[.int .i64 x.f0], [.int .i64 x.f1, .int .i64 x.f2], rfl, rfl, ⟨[.int .i64 x.f1], [.int .i64 x.f2], rfl, rfl, rfl⟩⟩
theorem k36_mkF (W : World) (ok : Nat → Prop) (x : S36) : Kd.FK k36 W ok x [.int .i64 x.f0, .int .i64 x.f1, .int .i64 x.f2] := fun W2 _ => k36_mk W2 x
def rd_T36 (xs : List S36) (i : Int) : S36 := xs.getD i.toNat z36
theorem at_T36 {w : World} {A : Option Addr} {n : Nat} {xs : List S36} (h : Kd.C k36 w A n xs) (i : Int) (h0 : 0 ≤ i) (h1 : i < n) : ∃ ad , A = some ad ∧ w.cell? (ad.add (i.toNat * 3)) = some (.int .i64 (rd_T36 xs i).f0) ∧ w.cell? ⟨(ad.add (i.toNat * 3)).block, (ad.add (i.toNat * 3)).off + 1, none⟩ = some (.int .i64 (rd_T36 xs i).f1) ∧ w.cell? ⟨(ad.add (i.toNat * 3)).block, (ad.add (i.toNat * 3)).off + 2, none⟩ = some (.int .i64 (rd_T36 xs i).f2) := by
  obtain ⟨ad, c, e, _, hK, hc0⟩ := Kd.C_get h z36 i h0 h1
  have hc : ∀ j u, c[j]? = some u → w.cell? (ad.add (i.toNat * 3 + j)) = some u := hc0
  obtain rfl := k36_open hK
  exact ⟨ad, e, hc 0 _ rfl, by rw [← add_field _ _ 1 (by omega)]; exact hc 1 _ rfl, by rw [← add_field _ _ 2 (by omega)]; exact hc 2 _ rfl⟩

def rd_L8 (xs : List (List S36)) (i : Int) : (List S36) := xs.getD i.toNat ([] : List S36)
theorem at_L8 {w : World} {A : Option Addr} {n : Nat} {xs : List (List S36)} (h : Kd.C (Kd.slice 36 k36) w A n xs) (i : Int) (h0 : 0 ≤ i) (h1 : i < n) : ∃ ad A0 c0, A = some ad ∧ w.cell? (ad.add i.toNat) = some (.slice A0 (rd_L8 xs i).length c0) ∧ (rd_L8 xs i).length ≤ c0 ∧ k36.C w A0 (rd_L8 xs i).length (rd_L8 xs i) := by
  obtain ⟨ad, c, e, _, hK, hc0⟩ := Kd.C_get h ([] : List S36) i h0 h1
  have hc : ∀ j u, c[j]? = some u → w.cell? (ad.add (i.toNat * 1 + j)) = some u := hc0
  obtain ⟨A0, c0, rfl, l0, g0⟩ := hK
  exact ⟨ad, A0, c0, e, by have hq := hc 0 _ rfl; rwa [Nat.mul_one, Nat.add_zero] at hq, l0, g0⟩

def rd_L9 (xs : List (List Int)) (i : Int) : (List Int) := xs.getD i.toNat ([] : List Int)
theorem at_L9 {w : World} {A : Option Addr} {n : Nat} {xs : List (List Int)} (h : Kd.C (Kd.slice 3 (Kd.int .i64)) w A n xs) (i : Int) (h0 : 0 ≤ i) (h1 : i < n) : ∃ ad A0 c0, A = some ad ∧ w.cell? (ad.add i.toNat) = some (.slice A0 (rd_L9 xs i).length c0) ∧ (rd_L9 xs i).length ≤ c0 ∧ (Kd.int .i64).C w A0 (rd_L9 xs i).length (rd_L9 xs i) := by
  obtain ⟨ad, c, e, _, hK, hc0⟩ := Kd.C_get h ([] : List Int) i h0 h1
  have hc : ∀ j u, c[j]? = some u → w.cell? (ad.add (i.toNat * 1 + j)) = some u := hc0
  obtain ⟨A0, c0, rfl, l0, g0⟩ := hK
  exact ⟨ad, A0, c0, e, by have hq := hc 0 _ rfl; rwa [Nat.mul_one, Nat.add_zero] at hq, l0, g0⟩

def rd_L10 (xs : List (List (List Int))) (i : Int) : (List (List Int)) := xs.getD i.toNat ([] : List (List Int))
theorem at_L10 {w : World} {A : Option Addr} {n : Nat} {xs : List (List (List Int))} (h : Kd.C (Kd.slice 31 (Kd.slice 3 (Kd.int .i64))) w A n xs) (i : Int) (h0 : 0 ≤ i) (h1 : i < n) : ∃ ad A0 c0, A = some ad ∧ w.cell? (ad.add i.toNat) = some (.slice A0 (rd_L10 xs i).length c0) ∧ (rd_L10 xs i).length ≤ c0 ∧ (Kd.slice 3 (Kd.int .i64)).C w A0 (rd_L10 xs i).length (rd_L10 xs i) := by
  obtain ⟨ad, c, e, _, hK, hc0⟩ := Kd.C_get h ([] : List (List Int)) i h0 h1
  have hc : ∀ j u, c[j]? = some u → w.cell? (ad.add (i.toNat * 1 + j)) = some u := hc0
  obtain ⟨A0, c0, rfl, l0, g0⟩ := hK
  exact ⟨ad, A0, c0, e, by have hq := hc 0 _ rfl; rwa [Nat.mul_one, Nat.add_zero] at hq, l0, g0⟩

/-! #### struct type 41 -/
structure S41 where
  f0 : (List Int)
  f1 : (List (List Int))
def z41 : S41 := ⟨([] : List Int), ([] : List (List Int))⟩
def k41 : Kd S41 := Kd.iso (Kd.pair (Kd.slice 3 (Kd.int .i64)) (Kd.slice 31 (Kd.slice 3 (Kd.int .i64)))) (fun x : S41 => (x.f0, x.f1))
theorem k41_heap : Kd.Heap k41 := Kd.heap_iso _ (Kd.heap_pair (Kd.heap_slice 3 (Kd.heap_int .i64)) (Kd.heap_slice 31 (Kd.heap_slice 3 (Kd.heap_int .i64))))
theorem k41_open {w : World} {x : S41} {cs : List Value} (h : k41.K w x cs) : ∃ A0 c0 A1 c1, cs = [.slice A0 x.f0.length c0, .slice A1 x.f1.length c1] ∧ x.f0.length ≤ c0 ∧ (Kd.int .i64).C w A0 x.f0.length x.f0 ∧ x.f1.length ≤ c1 ∧ (Kd.slice 3 (Kd.int .i64)).C w A1 x.f1.length x.f1 := by
  obtain ⟨_, _, rfl, ⟨A0, c0, rfl, l0, g0⟩, ⟨A1, c1, rfl, l1, g1⟩⟩ := h
  exact ⟨A0, c0, A1, c1, rfl, l0, g0, l1, g1⟩
theorem k41_openM {w : World} {base : Nat} {ok : Nat → Prop} {x : S41} {cs : List Value} (h : k41.M w base ok x cs) : ∃ v0 v1, cs = [v0, v1] ∧ (Kd.int .i64).R 3 w base ok v0 x.f0 ∧ (Kd.slice 3 (Kd.int .i64)).R 31 w base ok v1 x.f1 := by
  obtain ⟨_, _, rfl, ⟨v0, rfl, g0⟩, ⟨v1, rfl, g1⟩⟩ := h
  exact ⟨v0, v1, rfl, g0, g1⟩
theorem k41_mk (w : World) (x : S41) {A0 : Option Addr} {c0 : Nat} (l0 : x.f0.length ≤ c0) (g0 : (Kd.int .i64).C w A0 x.f0.length x.f0) {A1 : Option Addr} {c1 : Nat} (l1 : x.f1.length ≤ c1) (g1 : (Kd.slice 3 (Kd.int .i64)).C w A1 x.f1.length x.f1) : k41.K w x [.slice A0 x.f0.length c0, .slice A1 x.f1.length c1] := ⟨[.slice A0 x.f0.length c0], [.slice A1 x.f1.length c1], rfl, ⟨A0, c0, rfl, l0, g0⟩, ⟨A1, c1, rfl, l1, g1⟩⟩
theorem k41_mkM (w : World) (base : Nat) (ok : Nat → Prop) (x : S41) {v0 : Value} (g0 : (Kd.int .i64).R 3 w base ok v0 x.f0) {v1 : Value} (g1 : (Kd.slice 3 (Kd.int .i64)).R 31 w base ok v1 x.f1) : k41.M w base ok x [v0, v1] := ⟨[v0], [v1], rfl, ⟨v0, rfl, g0⟩, ⟨v1, rfl, g1⟩⟩
theorem k41_openF {W : World} {ok : Nat → Prop} {x : S41} {cs : List Value} (h : Kd.FK k41 W ok x cs) : ∃ A0 c0 A1 c1, cs = [.slice A0 x.f0.length c0, .slice A1 x.f1.length c1] ∧ x.f0.length ≤ c0 ∧ Kd.F (Kd.int .i64) W ok A0 x.f0.length x.f0 ∧ x.f1.length ≤ c1 ∧ Kd.F (Kd.slice 3 (Kd.int .i64)) W ok A1 x.f1.length x.f1 := by
  obtain ⟨A0, c0, A1, c1, rfl, l0, _, l1, _⟩ := k41_open (Kd.FK_now h)
  exact ⟨A0, c0, A1, c1, rfl, l0, (fun W' hW => by obtain ⟨A0_, c0_, A1_, c1_, he, l0_, g0_, l1_, g1_⟩ := k41_open (h W' hW); injection (Option.some.inj (show some (Value.slice A0 x.f0.length c0) = some (Value.slice A0_ x.f0.length c0_) from congrArg (fun l => l[0]?) he)) with ha_ _ _; rw [ha_]; exact g0_), l1, (fun W' hW => by obtain ⟨A0_, c0_, A1_, c1_, he, l0_, g0_, l1_, g1_⟩ := k41_open (h W' hW); injection (Option.some.inj (show some (Value.slice A1 x.f1.length c1) = some (Value.slice A1_ x.f1.length c1_) from congrArg (fun l => l[1]?) he)) with ha_ _ _; rw [ha_]; exact g1_)⟩
theorem k41_mkF (W : World) (ok : Nat → Prop) (x : S41) {A0 : Option Addr} {c0 : Nat} (l0 : x.f0.length ≤ c0) (g0 : Kd.F (Kd.int .i64) W ok A0 x.f0.length x.f0) {A1 : Option Addr} {c1 : Nat} (l1 : x.f1.length ≤ c1) (g1 : Kd.F (Kd.slice 3 (Kd.int .i64)) W ok A1 x.f1.length x.f1) : Kd.FK k41 W ok x [.slice A0 x.f0.length c0, .slice A1 x.f1.length c1] := fun W2 hW => k41_mk W2 x l0 (g0 W2 hW) l1 (g1 W2 hW)
def rd_T41 (xs : List S41) (i : Int) : S41 := xs.getD i.toNat z41
theorem at_T41 {w : World} {A : Option Addr} {n : Nat} {xs : List S41} (h : Kd.C k41 w A n xs) (i : Int) (h0 : 0 ≤ i) (h1 : i < n) : ∃ ad A0 c0 A1 c1, A = some ad ∧ w.cell? (ad.add (i.toNat * 2)) = some (.slice A0 (rd_T41 xs i).f0.length c0) ∧ w.cell? ⟨(ad.add (i.toNat * 2)).block, (ad.add (i.toNat * 2)).off + 1, none⟩ = some (.slice A1 (rd_T41 xs i).f1.length c1) ∧ (rd_T41 xs i).f0.length ≤ c0 ∧ (Kd.int .i64).C w A0 (rd_T41 xs i).f0.length (rd_T41 xs i).f0 ∧ (rd_T41 xs i).f1.length ≤ c1 ∧ (Kd.slice 3 (Kd.int .i64)).C w A1 (rd_T41 xs i).f1.length (rd_T41 xs i).f1 := by
  obtain ⟨ad, c, e, _, hK, hc0⟩ := Kd.C_get h z41 i h0 h1
  have hc : ∀ j u, c[j]? = some u → w.cell? (ad.add (i.toNat * 2 + j)) = some u := hc0
  obtain ⟨A0, c0, A1, c1, rfl, l0, g0, l1, g1⟩ := k41_open hK
  exact ⟨ad, A0, c0, A1, c1, e, hc 0 _ rfl, by rw [← add_field _ _ 1 (by omega)]; exact hc 1 _ rfl, l0, g0, l1, g1⟩

/-! #### struct type 184 -/
structure S184 where
  f0 : Int
  f1 : Int
  f2 : Int
def z184 : S184 := ⟨(0 : Int), (0 : Int), (0 : Int)⟩
def k184 : Kd S184 := Kd.iso (Kd.pair (Kd.int .i16) (Kd.pair (Kd.int .i16) (Kd.int .i16))) (fun x : S184 => (x.f0, x.f1, x.f2))
theorem k184_heap : Kd.Heap k184 := Kd.heap_iso _ (Kd.heap_pair (Kd.heap_int .i16) (Kd.heap_pair (Kd.heap_int .i16) (Kd.heap_int .i16)))
theorem k184_open {w : World} {x : S184} {cs : List Value} (h : k184.K w x cs) : cs = [.int .i16 x.f0, .int .i16 x.f1, .int .i16 x.f2] := by
  obtain ⟨_, _, rfl, rfl, ⟨_, _, rfl, rfl, rfl⟩⟩ := h
  exact rfl
theorem k184_openM {w : World} {base : Nat} {ok : Nat → Prop} {x : S184} {cs : List Value} (h : k184.M w base ok x cs) : cs = [.int .i16 x.f0, .int .i16 x.f1, .int .i16 x.f2] := by
  obtain ⟨_, _, rfl, rfl, ⟨_, _, rfl, rfl, rfl⟩⟩ := h
  exact rfl
theorem k184_mk (w : World) (x : S184)  : k184.K w x [.int .i16 x.f0, .int .i16 x.f1, .int .i16 x.f2] := ⟨[.int .i16 x.f0], [.int .i16 x.f1, .int .i16 x.f2], rfl, rfl, ⟨[.int .i16 x.f1], [.int .i16 x.f2], rfl, rfl, rfl⟩⟩
theorem k184_mkM (w : World) (base : Nat) (ok : Nat → Prop) (x : S184)  : k184.M w base ok x [.int .i16 x.f0, .int .i16 x.f1, .int .i16 x.f2] := ⟨[.int .i16 x.f0], [.int .i16 x.f1, .int .i16 x.f2], rfl, rfl, ⟨[.int .i16 x.f1], [.int .i16 x.f2], rfl, rfl, rfl⟩⟩
theorem k184_mkF (W : World) (ok : Nat → Prop) (x : S184) : Kd.FK k184 W ok x [.int .i16 x.f0, .int .i16 x.f1, .int .i16 x.f2] := fun W2 _ => k184_mk W2 x
def rd_T184 (xs : List S184) (i : Int) : S184 := xs.getD i.toNat z184
theorem at_T184 {w : World} {A : Option Addr} {n : Nat} {xs : List S184} (h : Kd.C k184 w A n xs) (i : Int) (h0 : 0 ≤ i) (h1 : i < n) : ∃ ad , A = some ad ∧ w.cell? (ad.add (i.toNat * 3)) = some (.int .i16 (rd_T184 xs i).f0) ∧ w.cell? ⟨(ad.add (i.toNat * 3)).block, (ad.add (i.toNat * 3)).off + 1, none⟩ = some (.int .i16 (rd_T184 xs i).f1) ∧ w.cell? ⟨(ad.add (i.toNat * 3)).block, (ad.add (i.toNat * 3)).off + 2, none⟩ = some (.int .i16 (rd_T184 xs i).f2) := by
  obtain ⟨ad, c, e, _, hK, hc0⟩ := Kd.C_get h z184 i h0 h1
  have hc : ∀ j u, c[j]? = some u → w.cell? (ad.add (i.toNat * 3 + j)) = some u := hc0
  obtain rfl := k184_open hK
  exact ⟨ad, e, hc 0 _ rfl, by rw [← add_field _ _ 1 (by omega)]; exact hc 1 _ rfl, by rw [← add_field _ _ 2 (by omega)]; exact hc 2 _ rfl⟩

def rd_L13 (xs : List (List S184)) (i : Int) : (List S184) := xs.getD i.toNat ([] : List S184)
theorem at_L13 {w : World} {A : Option Addr} {n : Nat} {xs : List (List S184)} (h : Kd.C (Kd.slice 184 k184) w A n xs) (i : Int) (h0 : 0 ≤ i) (h1 : i < n) : ∃ ad A0 c0, A = some ad ∧ w.cell? (ad.add i.toNat) = some (.slice A0 (rd_L13 xs i).length c0) ∧ (rd_L13 xs i).length ≤ c0 ∧ k184.C w A0 (rd_L13 xs i).length (rd_L13 xs i) := by
  obtain ⟨ad, c, e, _, hK, hc0⟩ := Kd.C_get h ([] : List S184) i h0 h1
  have hc : ∀ j u, c[j]? = some u → w.cell? (ad.add (i.toNat * 1 + j)) = some u := hc0
  obtain ⟨A0, c0, rfl, l0, g0⟩ := hK
  exact ⟨ad, A0, c0, e, by have hq := hc 0 _ rfl; rwa [Nat.mul_one, Nat.add_zero] at hq, l0, g0⟩

/-! #### struct type 182 -/
structure S182 where
  f0 : (List S184)
def z182 : S182 := ⟨([] : List S184)⟩
def k182 : Kd S182 := Kd.iso (Kd.slice 184 k184) (fun x : S182 => x.f0)
theorem k182_heap : Kd.Heap k182 := Kd.heap_iso _ (Kd.heap_slice 184 k184_heap)
theorem k182_open {w : World} {x : S182} {cs : List Value} (h : k182.K w x cs) : ∃ A0 c0, cs = [.slice A0 x.f0.length c0] ∧ x.f0.length ≤ c0 ∧ k184.C w A0 x.f0.length x.f0 := by
  obtain ⟨A0, c0, rfl, l0, g0⟩ := h
  exact ⟨A0, c0, rfl, l0, g0⟩
theorem k182_openM {w : World} {base : Nat} {ok : Nat → Prop} {x : S182} {cs : List Value} (h : k182.M w base ok x cs) : ∃ v0, cs = [v0] ∧ k184.R 184 w base ok v0 x.f0 := by
  obtain ⟨v0, rfl, g0⟩ := h
  exact ⟨v0, rfl, g0⟩
theorem k182_mk (w : World) (x : S182) {A0 : Option Addr} {c0 : Nat} (l0 : x.f0.length ≤ c0) (g0 : k184.C w A0 x.f0.length x.f0) : k182.K w x [.slice A0 x.f0.length c0] := ⟨A0, c0, rfl, l0, g0⟩
theorem k182_mkM (w : World) (base : Nat) (ok : Nat → Prop) (x : S182) {v0 : Value} (g0 : k184.R 184 w base ok v0 x.f0) : k182.M w base ok x [v0] := ⟨v0, rfl, g0⟩
theorem k182_openF {W : World} {ok : Nat → Prop} {x : S182} {cs : List Value} (h : Kd.FK k182 W ok x cs) : ∃ A0 c0, cs = [.slice A0 x.f0.length c0] ∧ x.f0.length ≤ c0 ∧ Kd.F k184 W ok A0 x.f0.length x.f0 := by
  obtain ⟨A0, c0, rfl, l0, _⟩ := k182_open (Kd.FK_now h)
  exact ⟨A0, c0, rfl, l0, (fun W' hW => by obtain ⟨A0_, c0_, he, l0_, g0_⟩ := k182_open (h W' hW); injection (Option.some.inj (show some (Value.slice A0 x.f0.length c0) = some (Value.slice A0_ x.f0.length c0_) from congrArg (fun l => l[0]?) he)) with ha_ _ _; rw [ha_]; exact g0_)⟩
theorem k182_mkF (W : World) (ok : Nat → Prop) (x : S182) {A0 : Option Addr} {c0 : Nat} (l0 : x.f0.length ≤ c0) (g0 : Kd.F k184 W ok A0 x.f0.length x.f0) : Kd.FK k182 W ok x [.slice A0 x.f0.length c0] := fun W2 hW => k182_mk W2 x l0 (g0 W2 hW)
def rd_T182 (xs : List S182) (i : Int) : S182 := xs.getD i.toNat z182
theorem at_T182 {w : World} {A : Option Addr} {n : Nat} {xs : List S182} (h : Kd.C k182 w A n xs) (i : Int) (h0 : 0 ≤ i) (h1 : i < n) : ∃ ad A0 c0, A = some ad ∧ w.cell? (ad.add i.toNat) = some (.slice A0 (rd_T182 xs i).f0.length c0) ∧ (rd_T182 xs i).f0.length ≤ c0 ∧ k184.C w A0 (rd_T182 xs i).f0.length (rd_T182 xs i).f0 := by
  obtain ⟨ad, c, e, _, hK, hc0⟩ := Kd.C_get h z182 i h0 h1
  have hc : ∀ j u, c[j]? = some u → w.cell? (ad.add (i.toNat * 1 + j)) = some u := hc0
  obtain ⟨A0, c0, rfl, l0, g0⟩ := k182_open hK
  exact ⟨ad, A0, c0, e, by have hq := hc 0 _ rfl; rwa [Nat.mul_one, Nat.add_zero] at hq, l0, g0⟩

def rd_L16 (xs : List (List Int)) (i : Int) : (List Int) := xs.getD i.toNat ([] : List Int)
theorem at_L16 {w : World} {A : Option Addr} {n : Nat} {xs : List (List Int)} (h : Kd.C (Kd.slice 103 (Kd.int .u16)) w A n xs) (i : Int) (h0 : 0 ≤ i) (h1 : i < n) : ∃ ad A0 c0, A = some ad ∧ w.cell? (ad.add i.toNat) = some (.slice A0 (rd_L16 xs i).length c0) ∧ (rd_L16 xs i).length ≤ c0 ∧ (Kd.int .u16).C w A0 (rd_L16 xs i).length (rd_L16 xs i) := by
  obtain ⟨ad, c, e, _, hK, hc0⟩ := Kd.C_get h ([] : List Int) i h0 h1
  have hc : ∀ j u, c[j]? = some u → w.cell? (ad.add (i.toNat * 1 + j)) = some u := hc0
  obtain ⟨A0, c0, rfl, l0, g0⟩ := hK
  exact ⟨ad, A0, c0, e, by have hq := hc 0 _ rfl; rwa [Nat.mul_one, Nat.add_zero] at hq, l0, g0⟩

def rd_L17 (xs : List (List (List Int))) (i : Int) : (List (List Int)) := xs.getD i.toNat ([] : List (List Int))
theorem at_L17 {w : World} {A : Option Addr} {n : Nat} {xs : List (List (List Int))} (h : Kd.C (Kd.slice 25 (Kd.slice 98 (Kd.int .i16))) w A n xs) (i : Int) (h0 : 0 ≤ i) (h1 : i < n) : ∃ ad A0 c0, A = some ad ∧ w.cell? (ad.add i.toNat) = some (.slice A0 (rd_L17 xs i).length c0) ∧ (rd_L17 xs i).length ≤ c0 ∧ (Kd.slice 98 (Kd.int .i16)).C w A0 (rd_L17 xs i).length (rd_L17 xs i) := by
  obtain ⟨ad, c, e, _, hK, hc0⟩ := Kd.C_get h ([] : List (List Int)) i h0 h1
  have hc : ∀ j u, c[j]? = some u → w.cell? (ad.add (i.toNat * 1 + j)) = some u := hc0
  obtain ⟨A0, c0, rfl, l0, g0⟩ := hK
  exact ⟨ad, A0, c0, e, by have hq := hc 0 _ rfl; rwa [Nat.mul_one, Nat.add_zero] at hq, l0, g0⟩

/-! #### struct type 186 -/
structure S186 where
  f0 : Int
  f1 : Int
  f2 : Int
  f3 : (List Int)
  f4 : (List (List Int))
def z186 : S186 := ⟨(0 : Int), (0 : Int), (0 : Int), ([] : List Int), ([] : List (List Int))⟩
def k186 : Kd S186 := Kd.iso (Kd.pair (Kd.int .u16) (Kd.pair (Kd.int .u16) (Kd.pair (Kd.int .u16) (Kd.pair (Kd.slice 103 (Kd.int .u16)) (Kd.slice 25 (Kd.slice 98 (Kd.int .i16))))))) (fun x : S186 => (x.f0, x.f1, x.f2, x.f3, x.f4))
theorem k186_heap : Kd.Heap k186 := Kd.heap_iso _ (Kd.heap_pair (Kd.heap_int .u16) (Kd.heap_pair (Kd.heap_int .u16) (Kd.heap_pair (Kd.heap_int .u16) (Kd.heap_pair (Kd.heap_slice 103 (Kd.heap_int .u16)) (Kd.heap_slice 25 (Kd.heap_slice 98 (Kd.heap_int .i16)))))))
theorem k186_open {w : World} {x : S186} {cs : List Value} (h : k186.K w x cs) : ∃ A3 c3 A4 c4, cs = [.int .u16 x.f0, .int .u16 x.f1, .int .u16 x.f2, .slice A3 x.f3.length c3, .slice A4 x.f4.length c4] ∧ x.f3.length ≤ c3 ∧ (Kd.int .u16).C w A3 x.f3.length x.f3 ∧ x.f4.length ≤ c4 ∧ (Kd.slice 98 (Kd.int .i16)).C w A4 x.f4.length x.f4 := by
  obtain ⟨_, _, rfl, rfl, ⟨_, _, rfl, rfl, ⟨_, _, rfl, rfl, ⟨_, _, rfl, ⟨A3, c3, rfl, l3, g3⟩, ⟨A4, c4, rfl, l4, g4⟩⟩⟩⟩⟩ := h
  exact ⟨A3, c3, A4, c4, rfl, l3, g3, l4, g4⟩
theorem k186_openM {w : World} {base : Nat} {ok : Nat → Prop} {x : S186} {cs : List Value} (h : k186.M w base ok x cs) : ∃ v3 v4, cs = [.int .u16 x.f0, .int .u16 x.f1, .int .u16 x.f2, v3, v4] ∧ (Kd.int .u16).R 103 w base ok v3 x.f3 ∧ (Kd.slice 98 (Kd.int .i16)).R 25 w base ok v4 x.f4 := by
  obtain ⟨_, _, rfl, rfl, ⟨_, _, rfl, rfl, ⟨_, _, rfl, rfl, ⟨_, _, rfl, ⟨v3, rfl, g3⟩, ⟨v4, rfl, g4⟩⟩⟩⟩⟩ := h
  exact ⟨v3, v4, rfl, g3, g4⟩
theorem k186_mk (w : World) (x : S186) {A3 : Option Addr} {c3 : Nat} (l3 : x.f3.length ≤ c3) (g3 : (Kd.int .u16).C w A3 x.f3.length x.f3) {A4 : Option Addr} {c4 : Nat} (l4 : x.f4.length ≤ c4) (g4 : (Kd.slice 98 (Kd.int .i16)).C w A4 x.f4.length x.f4) : k186.K w x [.int .u16 x.f0, .int .u16 x.f1, .int .u16 x.f2, .slice A3 x.f3.length c3, .slice A4 x.f4.length c4] := ⟨[.int .u16 x.f0], [.int .u16 x.f1, .int .u16 x.f2, .slice A3 x.f3.length c3, .slice A4 x.f4.length c4], rfl, rfl, ⟨[.int .u16 x.f1], [.int .u16 x.f2, .slice A3 x.f3.length c3, .slice A4 x.f4.length c4], rfl, rfl, ⟨[.int .u16 x.f2], [.slice A3 x.f3.length c3, .slice A4 x.f4.length c4], rfl, rfl, ⟨[.slice A3 x.f3.length c3], [.slice A4 x.f4.length c4], rfl, ⟨A3, c3, rfl, l3, g3⟩, ⟨A4, c4, rfl, l4, g4⟩⟩⟩⟩⟩
theorem k186_mkM (w : World) (base : Nat) (ok : Nat → Prop) (x : S186) {v3 : Value} (g3 : (Kd.int .u16).R 103 w base ok v3 x.f3) {v4 : Value} (g4 : (Kd.slice 98 (Kd.int .i16)).R 25 w base ok v4 x.f4) : k186.M w base ok x [.int .u16 x.f0, .int .u16 x.f1, .int .u16 x.f2, v3, v4] := ⟨[.int .u16 x.f0], [.int .u16 x.f1, .int .u16 x.f2, v3, v4], rfl, rfl, ⟨[.int .u16 x.f1], [.int .u16 x.f2, v3, v4], rfl, rfl, ⟨[.int .u16 x.f2], [v3, v4], rfl, rfl, ⟨[v3], [v4], rfl, ⟨v3, rfl, g3⟩, ⟨v4, rfl, g4⟩⟩⟩⟩⟩
theorem k186_openF {W : World} {ok : Nat → Prop} {x : S186} {cs : List Value} (h : Kd.FK k186 W ok x cs) : ∃ A3 c3 A4 c4, cs = [.int .u16 x.f0, .int .u16 x.f1, .int .u16 x.f2, .slice A3 x.f3.length c3, .slice A4 x.f4.length c4] ∧ x.f3.length ≤ c3 ∧ Kd.F (Kd.int .u16) W ok A3 x.f3.length x.f3 ∧ x.f4.length ≤ c4 ∧ Kd.F (Kd.slice 98 (Kd.int .i16)) W ok A4 x.f4.length x.f4 := by
  obtain ⟨A3, c3, A4, c4, rfl, l3, _, l4, _⟩ := k186_open (Kd.FK_now h)
  exact ⟨A3, c3, A4, c4, rfl, l3, (fun W' hW => by obtain ⟨A3_, c3_, A4_, c4_, he, l3_, g3_, l4_, g4_⟩ := k186_open (h W' hW); injection (Option.some.inj (show some (Value.slice A3 x.f3.length c3) = some (Value.slice A3_ x.f3.length c3_) from congrArg (fun l => l[3]?) he)) with ha_ _ _; rw [ha_]; exact g3_), l4, (fun W' hW => by obtain ⟨A3_, c3_, A4_, c4_, he, l3_, g3_, l4_, g4_⟩ := k186_open (h W' hW); injection (Option.some.inj (show some (Value.slice A4 x.f4.length c4) = some (Value.slice A4_ x.f4.length c4_) from congrArg (fun l => l[4]?) he)) with ha_ _ _; rw [ha_]; exact g4_)⟩
theorem k186_mkF (W : World) (ok : Nat → Prop) (x : S186) {A3 : Option Addr} {c3 : Nat} (l3 : x.f3.length ≤ c3) (g3 : Kd.F (Kd.int .u16) W ok A3 x.f3.length x.f3) {A4 : Option Addr} {c4 : Nat} (l4 : x.f4.length ≤ c4) (g4 : Kd.F (Kd.slice 98 (Kd.int .i16)) W ok A4 x.f4.length x.f4) : Kd.FK k186 W ok x [.int .u16 x.f0, .int .u16 x.f1, .int .u16 x.f2, .slice A3 x.f3.length c3, .slice A4 x.f4.length c4] := fun W2 hW => k186_mk W2 x l3 (g3 W2 hW) l4 (g4 W2 hW)
def rd_T186 (xs : List S186) (i : Int) : S186 := xs.getD i.toNat z186
theorem at_T186 {w : World} {A : Option Addr} {n : Nat} {xs : List S186} (h : Kd.C k186 w A n xs) (i : Int) (h0 : 0 ≤ i) (h1 : i < n) : ∃ ad A3 c3 A4 c4, A = some ad ∧ w.cell? (ad.add (i.toNat * 5)) = some (.int .u16 (rd_T186 xs i).f0) ∧ w.cell? ⟨(ad.add (i.toNat * 5)).block, (ad.add (i.toNat * 5)).off + 1, none⟩ = some (.int .u16 (rd_T186 xs i).f1) ∧ w.cell? ⟨(ad.add (i.toNat * 5)).block, (ad.add (i.toNat * 5)).off + 2, none⟩ = some (.int .u16 (rd_T186 xs i).f2) ∧ w.cell? ⟨(ad.add (i.toNat * 5)).block, (ad.add (i.toNat * 5)).off + 3, none⟩ = some (.slice A3 (rd_T186 xs i).f3.length c3) ∧ w.cell? ⟨(ad.add (i.toNat * 5)).block, (ad.add (i.toNat * 5)).off + 4, none⟩ = some (.slice A4 (rd_T186 xs i).f4.length c4) ∧ (rd_T186 xs i).f3.length ≤ c3 ∧ (Kd.int .u16).C w A3 (rd_T186 xs i).f3.length (rd_T186 xs i).f3 ∧ (rd_T186 xs i).f4.length ≤ c4 ∧ (Kd.slice 98 (Kd.int .i16)).C w A4 (rd_T186 xs i).f4.length (rd_T186 xs i).f4 := by
  obtain ⟨ad, c, e, _, hK, hc0⟩ := Kd.C_get h z186 i h0 h1
  have hc : ∀ j u, c[j]? = some u → w.cell? (ad.add (i.toNat * 5 + j)) = some u := hc0
  obtain ⟨A3, c3, A4, c4, rfl, l3, g3, l4, g4⟩ := k186_open hK
  exact ⟨ad, A3, c3, A4, c4, e, hc 0 _ rfl, by rw [← add_field _ _ 1 (by omega)]; exact hc 1 _ rfl, by rw [← add_field _ _ 2 (by omega)]; exact hc 2 _ rfl, by rw [← add_field _ _ 3 (by omega)]; exact hc 3 _ rfl, by rw [← add_field _ _ 4 (by omega)]; exact hc 4 _ rfl, l3, g3, l4, g4⟩

/-! #### struct type 115 -/
structure S115 where
  f0 : Int
  f1 : Int
def z115 : S115 := ⟨(0 : Int), (0 : Int)⟩
def k115 : Kd S115 := Kd.iso (Kd.pair (Kd.int .u16) (Kd.int .u16)) (fun x : S115 => (x.f0, x.f1))
theorem k115_heap : Kd.Heap k115 := Kd.heap_iso _ (Kd.heap_pair (Kd.heap_int .u16) (Kd.heap_int .u16))
theorem k115_open {w : World} {x : S115} {cs : List Value} (h : k115.K w x cs) : cs = [.int .u16 x.f0, .int .u16 x.f1] := by
  obtain ⟨_, _, rfl, rfl, rfl⟩ := h
  exact rfl
theorem k115_openM {w : World} {base : Nat} {ok : Nat → Prop} {x : S115} {cs : List Value} (h : k115.M w base ok x cs) : cs = [.int .u16 x.f0, .int .u16 x.f1] := by
  obtain ⟨_, _, rfl, rfl, rfl⟩ := h
  exact rfl
theorem k115_mk (w : World) (x : S115)  : k115.K w x [.int .u16 x.f0, .int .u16 x.f1] := ⟨[.int .u16 x.f0], [.int .u16 x.f1], rfl, rfl, rfl⟩
theorem k115_mkM (w : World) (base : Nat) (ok : Nat → Prop) (x : S115)  : k115.M w base ok x [.int .u16 x.f0, .int .u16 x.f1] := ⟨[.int .u16 x.f0], [.int .u16 x.f1], rfl, rfl, rfl⟩
theorem k115_mkF (W : World) (ok : Nat → Prop) (x : S115) : Kd.FK k115 W ok x [.int .u16 x.f0, .int .u16 x.f1] := fun W2 _ => k115_mk W2 x
def rd_T115 (xs : List S115) (i : Int) : S115 := xs.getD i.toNat z115
theorem at_T115 {w : World} {A : Option Addr} {n : Nat} {xs : List S115} (h : Kd.C k115 w A n xs) (i : Int) (h0 : 0 ≤ i) (h1 : i < n) : ∃ ad , A = some ad ∧ w.cell? (ad.add (i.toNat * 2)) = some (.int .u16 (rd_T115 xs i).f0) ∧ w.cell? ⟨(ad.add (i.toNat * 2)).block, (ad.add (i.toNat * 2)).off + 1, none⟩ = some (.int .u16 (rd_T115 xs i).f1) := by
  obtain ⟨ad, c, e, _, hK, hc0⟩ := Kd.C_get h z115 i h0 h1
  have hc : ∀ j u, c[j]? = some u → w.cell? (ad.add (i.toNat * 2 + j)) = some u := hc0
  obtain rfl := k115_open hK
  exact ⟨ad, e, hc 0 _ rfl, by rw [← add_field _ _ 1 (by omega)]; exact hc 1 _ rfl⟩

/-! #### struct type 48 -/
structure S48 where
  f0 : Int
  f1 : Int
def z48 : S48 := ⟨(0 : Int), (0 : Int)⟩
def k48 : Kd S48 := Kd.iso (Kd.pair (Kd.int .i64) (Kd.int .i64)) (fun x : S48 => (x.f0, x.f1))
theorem k48_heap : Kd.Heap k48 := Kd.heap_iso _ (Kd.heap_pair (Kd.heap_int .i64) (Kd.heap_int .i64))
theorem k48_open {w : World} {x : S48} {cs : List Value} (h : k48.K w x cs) : cs = [.int .i64 x.f0, .int .i64 x.f1] := by
  obtain ⟨_, _, rfl, rfl, rfl⟩ := h
  exact rfl
theorem k48_openM {w : World} {base : Nat} {ok : Nat → Prop} {x : S48} {cs : List Value} (h : k48.M w base ok x cs) : cs = [.int .i64 x.f0, .int .i64 x.f1] := by
  obtain ⟨_, _, rfl, rfl, rfl⟩ := h
  exact rfl
theorem k48_mk (w : World) (x : S48)  : k48.K w x [.int .i64 x.f0, .int .i64 x.f1] := ⟨[.int .i64 x.f0], [.int .i64 x.f1], rfl, rfl, rfl⟩
theorem k48_mkM (w : World) (base : Nat) (ok : Nat → Prop) (x : S48)  : k48.M w base ok x [.int .i64 x.f0, .int .i64 x.f1] := ⟨[.int .i64 x.f0], [.int .i64 x.f1], rfl, rfl, rfl⟩
theorem k48_mkF (W : World) (ok : Nat → Prop) (x : S48) : Kd.FK k48 W ok x [.int .i64 x.f0, .int .i64 x.f1] := fun W2 _ => k48_mk W2 x
def rd_T48 (xs : List S48) (i : Int) : S48 := xs.getD i.toNat z48
theorem at_T48 {w : World} {A : Option Addr} {n : Nat} {xs : List S48} (h : Kd.C k48 w A n xs) (i : Int) (h0 : 0 ≤ i) (h1 : i < n) : ∃ ad , A = some ad ∧ w.cell? (ad.add (i.toNat * 2)) = some (.int .i64 (rd_T48 xs i).f0) ∧ w.cell? ⟨(ad.add (i.toNat * 2)).block, (ad.add (i.toNat * 2)).off + 1, none⟩ = some (.int .i64 (rd_T48 xs i).f1) := by
  obtain ⟨ad, c, e, _, hK, hc0⟩ := Kd.C_get h z48 i h0 h1
  have hc : ∀ j u, c[j]? = some u → w.cell? (ad.add (i.toNat * 2 + j)) = some u := hc0
  obtain rfl := k48_open hK
  exact ⟨ad, e, hc 0 _ rfl, by rw [← add_field _ _ 1 (by omega)]; exact hc 1 _ rfl⟩

/-! #### struct type 47 -/
structure S47 where
  f0 : Int
  f1 : Int
def z47 : S47 := ⟨(0 : Int), (0 : Int)⟩
def k47 : Kd S47 := Kd.iso (Kd.pair (Kd.int .u8) (Kd.int .u8)) (fun x : S47 => (x.f0, x.f1))
theorem k47_heap : Kd.Heap k47 := Kd.heap_iso _ (Kd.heap_pair (Kd.heap_int .u8) (Kd.heap_int .u8))
theorem k47_open {w : World} {x : S47} {cs : List Value} (h : k47.K w x cs) : cs = [.int .u8 x.f0, .int .u8 x.f1] := by
  obtain ⟨_, _, rfl, rfl, rfl⟩ := h
  exact rfl
theorem k47_openM {w : World} {base : Nat} {ok : Nat → Prop} {x : S47} {cs : List Value} (h : k47.M w base ok x cs) : cs = [.int .u8 x.f0, .int .u8 x.f1] := by
  obtain ⟨_, _, rfl, rfl, rfl⟩ := h
  exact rfl
theorem k47_mk (w : World) (x : S47)  : k47.K w x [.int .u8 x.f0, .int .u8 x.f1] := ⟨[.int .u8 x.f0], [.int .u8 x.f1], rfl, rfl, rfl⟩
theorem k47_mkM (w : World) (base : Nat) (ok : Nat → Prop) (x : S47)  : k47.M w base ok x [.int .u8 x.f0, .int .u8 x.f1] := ⟨[.int .u8 x.f0], [.int .u8 x.f1], rfl, rfl, rfl⟩
theorem k47_mkF (W : World) (ok : Nat → Prop) (x : S47) : Kd.FK k47 W ok x [.int .u8 x.f0, .int .u8 x.f1] := fun W2 _ => k47_mk W2 x
def rd_T47 (xs : List S47) (i : Int) : S47 := xs.getD i.toNat z47
theorem at_T47 {w : World} {A : Option Addr} {n : Nat} {xs : List S47} (h : Kd.C k47 w A n xs) (i : Int) (h0 : 0 ≤ i) (h1 : i < n) : ∃ ad , A = some ad ∧ w.cell? (ad.add (i.toNat * 2)) = some (.int .u8 (rd_T47 xs i).f0) ∧ w.cell? ⟨(ad.add (i.toNat * 2)).block, (ad.add (i.toNat * 2)).off + 1, none⟩ = some (.int .u8 (rd_T47 xs i).f1) := by
  obtain ⟨ad, c, e, _, hK, hc0⟩ := Kd.C_get h z47 i h0 h1
  have hc : ∀ j u, c[j]? = some u → w.cell? (ad.add (i.toNat * 2 + j)) = some u := hc0
  obtain rfl := k47_open hK
  exact ⟨ad, e, hc 0 _ rfl, by rw [← add_field _ _ 1 (by omega)]; exact hc 1 _ rfl⟩

end Go.Proofs.Ytlbmfnjhpojghaa.PFnAdvanceDelta
