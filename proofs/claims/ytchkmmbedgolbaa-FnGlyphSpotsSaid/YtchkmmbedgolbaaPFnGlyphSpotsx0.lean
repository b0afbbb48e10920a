-- Written by a program of this session (xprint) out of the translation; Lean checks it.
import Derived.Test.YtchkmmbedgolbaaProg
import Derived.Below
import Derived.Deep.Draws
import Derived.Deep.AppendLies
import Derived.Maps.AppendAt
import Derived.OwnWalk
import Derived.Laws.BytesArg
import Derived.Laws.MakeOwn
import Derived.Laws.OwnMore
import Derived.Deep.OwnRows
import Derived.Tactics
import Derived.Lib.ConvBytes
import Derived.Laws.Slices
import Derived.WalkKit
import Derived.KernelRfl
import Derived.RowKit3
import Derived.Deep.LoopGhost
import Derived.Deep.QuietTactic
import Derived.BigQuiet
import Derived.WideLaws
import Derived.Deep.DeepCutAuto
import Derived.Deep.CutBlock
import Derived.Deep.RegionHeld3
import Derived.Laws.Rows
import Derived.Lib.AppendStr
import Derived.ArgAppend
import Derived.Laws.IdiomCopy
import Derived.OrdersHeld
import Derived.Laws.BitsLemmas
import Derived.RowKit
import Derived.Lib.SmallJoins
import Derived.Deep.RegionWith
import Derived.RegionTactic
import Derived.Lib.EndianBits
import Derived.Stop.LaidErr
import Derived.Shelf.RegionOpenPlain
import Derived.Test.YtchkmmbedgolbaaWWords
import Derived.Test.YtchkmmbedgolbaaWLast
import Derived.Test.YtchkmmbedgolbaaWTab
import Derived.Test.YtchkmmbedgolbaaWFour
import Derived.Test.YtchkmmbedgolbaaWQPut
import Derived.Test.YtchkmmbedgolbaaWApart
import Derived.Test.YtchkmmbedgolbaaWArr
import Derived.Test.YtchkmmbedgolbaaWZeros
import Derived.Test.YtchkmmbedgolbaaWFoot
import Derived.Test.YtchkmmbedgolbaaWKept
import Derived.Test.YtchkmmbedgolbaaWShare
import Derived.Test.YtchkmmbedgolbaaWN
import Derived.Test.YtchkmmbedgolbaaWFootNe
import Derived.Test.YtchkmmbedgolbaaWAt
import Derived.Test.YtchkmmbedgolbaaWEqStruct
import Derived.Test.YtchkmmbedgolbaaWRepsOne
import Derived.Test.YtchkmmbedgolbaaWInv
import Derived.Test.YtchkmmbedgolbaaWInvWords
import Derived.Test.YtchkmmbedgolbaaWGuard
import Derived.Test.YtchkmmbedgolbaaWNEv
import Derived.Test.YtchkmmbedgolbaaWMore
namespace Go.Proofs.Ytchkmmbedgolbaa.PFnGlyphSpots
open Go.RowKit Go.Proofs.YtchkmmbedgolbaaW.PrintWords Go.Proofs.YtchkmmbedgolbaaW.PrintLast Go.Proofs.YtchkmmbedgolbaaW.PrintMore
attribute [local go_sem] max2_int min2_int max_two min_two max_three min_three max_four min_four   -- for this text's walks alone
set_option linter.unusedVariables false
set_option linter.unusedSimpArgs false



def errW : Option Int → Value
  | none => .nilIface
  | some c => .iface 0 (.int .i64 c)
theorem errW_none : errW none = .nilIface := rfl
theorem errW_some (c : Int) : errW (some c) = .iface 0 (.int .i64 c) := rfl

abbrev tt : Bool := true
abbrev ff : Bool := false
theorem b1_ {w : World} {g : Nat} {o : Obj} (h : w.heap[g]? = some o) (n : Nat) : (w.drewN n).heap[g]? = some o := h
theorem b2_ {w : World} {g : Nat} {o : Obj} (h : w.heap[g]? = some o) : w.drew.heap[g]? = some o := h
theorem b3_ {w : World} {g : Nat} {o : Obj} (h : w.heap[g]? = some o) (ob : Obj) : (w.alloc ob).heap[g]? = some o := blk_alloc h ob
theorem n1_ (n : Int) (h : -9223372036854775808 ≤ n ∧ n ≤ 9223372036854775807) : IntKind.i64.wrap n = n := IntWalk.i64_in n h
theorem n2_ (n : Int) (h : -2147483648 ≤ n ∧ n ≤ 2147483647) : IntKind.i32.wrap n = n := IntWalk.i32_in n h
theorem n3_ (n : Int) {m k : Int} (h : m ∣ k) : n % k % m = n % m := Int.emod_emod_of_dvd n h
theorem L1_ {α : Type} (l : List α) (i : Nat) (a : α) : l.toArray.setIfInBounds i a = (l.set i a).toArray := List.setIfInBounds_toArray l i a
theorem L2_ {α : Type} {x : α} {l : List α} {a : α} : (x :: l).set 0 a = a :: l := List.set_cons_zero
theorem L3_ {α : Type} {x : α} {l : List α} {i : Nat} {a : α} : (x :: l).set (i + 1) a = x :: l.set i a := List.set_cons_succ
/-- What an error is told by: is it nil? -/
def EV (ev : Value) : Option Int → Prop
  | none => ev = .nilIface
  | some _ => ∃ te pe, ev = .iface te (.pointer pe)
theorem EV_none {ev : Value} (h : EV ev none) : ev = .nilIface := h
theorem EV_some {ev : Value} {q : Int} (h : EV ev (some q)) : ∃ te pe, ev = .iface te (.pointer pe) := h
def knp : Kd Unit := Kd.scalar (fun _ => Value.slice none 0 0) (fun _ => rfl)

theorem info3 : (Try.prog.info? 3).map (fun i => (i.zero, i.size, i.bytes)) = some (some (.int .i64 0), 1, 8) := by kernel_rfl
theorem info5 : (Try.prog.info? 5).map (fun i => (i.zero, i.size, i.bytes)) = some (some (.int .u8 0), 1, 1) := by kernel_rfl
theorem info35 : (Try.prog.info? 35).map (fun i => (i.zero, i.size, i.bytes)) = some (some (.int .u16 0), 1, 2) := by kernel_rfl
theorem info51 : (Try.prog.info? 51).map (fun i => (i.zero, i.size, i.bytes)) = some (some (.agg #[(.bool false), (.int .i64 0), (.int .i64 0)]), 3, 24) := by kernel_rfl
theorem info52 : (Try.prog.info? 52).map (fun i => (i.zero, i.size, i.bytes)) = some (some (.slice none 0 0), 1, 24) := by kernel_rfl
theorem info123 : (Try.prog.info? 123).map (fun i => (i.zero, i.size, i.bytes)) = some (some (.agg #[(.int .u8 0), (.int .i16 0), (.int .i16 0)]), 3, 6) := by kernel_rfl
-- the values' own types
/-! #### struct type 51 -/
structure S51 where
  f0 : Bool
  f1 : Int
  f2 : Int
def z51 : S51 := ⟨false, (0 : Int), (0 : Int)⟩
def k51 : Kd S51 := Kd.iso (Kd.pair Kd.bool (Kd.pair (Kd.int .i64) (Kd.int .i64))) (fun x : S51 => (x.f0, x.f1, x.f2))
theorem k51_open {w : World} {x : S51} {cs : List Value} (h : k51.K w x cs) : cs = [.bool x.f0, .int .i64 x.f1, .int .i64 x.f2] := by
  obtain ⟨_, _, rfl, rfl, ⟨_, _, rfl, rfl, rfl⟩⟩ := h
  exact rfl
theorem k51_openM {w : World} {base : Nat} {ok : Nat → Prop} {x : S51} {cs : List Value} (h : k51.M w base ok x cs) : cs = [.bool x.f0, .int .i64 x.f1, .int .i64 x.f2] := by
  obtain ⟨_, _, rfl, rfl, ⟨_, _, rfl, rfl, rfl⟩⟩ := h
  exact rfl
theorem k51_mk (w : World) (x : S51)  : k51.K w x [.bool x.f0, .int .i64 x.f1, .int .i64 x.f2] := ⟨[.bool x.f0], [.int .i64 x.f1, .int .i64 x.f2], rfl, rfl, ⟨[.int .i64 x.f1], [.int .i64 x.f2], rfl, rfl, rfl⟩⟩
theorem k51_mkM (w : World) (base : Nat) (ok : Nat → Prop) (x : S51)  : k51.M w base ok x [.bool x.f0, .int .i64 x.f1, .int .i64 x.f2] := ⟨[.bool x.f0], [.int .i64 x.f1, .int .i64 x.f2], rfl, rfl, ⟨[.int .i64 x.f1], [.int .i64 x.f2], rfl, rfl, rfl⟩⟩
theorem k51_mkF (W : World) (ok : Nat → Prop) (x : S51) : Kd.FK k51 W ok x [.bool x.f0, .int .i64 x.f1, .int .i64 x.f2] := fun W2 _ => k51_mk W2 x
def rd_T51 (xs : List S51) (i : Int) : S51 := xs.getD i.toNat z51
theorem at_T51 {w : World} {A : Option Addr} {n : Nat} {xs : List S51} (h : Kd.C k51 w A n xs) (i : Int) (h0 : 0 ≤ i) (h1 : i < n) : ∃ ad , A = some ad ∧ w.cell? (ad.add (i.toNat * 3)) = some (.bool (rd_T51 xs i).f0) ∧ w.cell? ⟨(ad.add (i.toNat * 3)).block, (ad.add (i.toNat * 3)).off + 1, none⟩ = some (.int .i64 (rd_T51 xs i).f1) ∧ w.cell? ⟨(ad.add (i.toNat * 3)).block, (ad.add (i.toNat * 3)).off + 2, none⟩ = some (.int .i64 (rd_T51 xs i).f2) := by
  obtain ⟨ad, c, e, _, hK, hc0⟩ := Kd.C_get h z51 i h0 h1
  have hc : ∀ j u, c[j]? = some u → w.cell? (ad.add (i.toNat * 3 + j)) = some u := hc0
  obtain rfl := k51_open hK
  exact ⟨ad, e, hc 0 _ rfl, by rw [← add_field _ _ 1 (by omega)]; exact hc 1 _ rfl, by rw [← add_field _ _ 2 (by omega)]; exact hc 2 _ rfl⟩

def rd_L3 (xs : List (List S51)) (i : Int) : (List S51) := xs.getD i.toNat ([] : List S51)
theorem at_L3 {w : World} {A : Option Addr} {n : Nat} {xs : List (List S51)} (h : Kd.C (Kd.slice 51 k51) w A n xs) (i : Int) (h0 : 0 ≤ i) (h1 : i < n) : ∃ ad A0 c0, A = some ad ∧ w.cell? (ad.add i.toNat) = some (.slice A0 (rd_L3 xs i).length c0) ∧ (rd_L3 xs i).length ≤ c0 ∧ k51.C w A0 (rd_L3 xs i).length (rd_L3 xs i) := by
  obtain ⟨ad, c, e, _, hK, hc0⟩ := Kd.C_get h ([] : List S51) i h0 h1
  have hc : ∀ j u, c[j]? = some u → w.cell? (ad.add (i.toNat * 1 + j)) = some u := hc0
  obtain ⟨A0, c0, rfl, l0, g0⟩ := hK
  exact ⟨ad, A0, c0, e, by have hq := hc 0 _ rfl; rwa [Nat.mul_one, Nat.add_zero] at hq, l0, g0⟩

/-! #### struct type 123 -/
structure S123 where
  f0 : Int
  f1 : Int
  f2 : Int
def z123 : S123 := ⟨(0 : Int), (0 : Int), (0 : Int)⟩
def k123 : Kd S123 := Kd.iso (Kd.pair (Kd.int .u8) (Kd.pair (Kd.int .i16) (Kd.int .i16))) (fun x : S123 => (x.f0, x.f1, x.f2))
theorem k123_open {w : World} {x : S123} {cs : List Value} (h : k123.K w x cs) : cs = [.int .u8 x.f0, .int .i16 x.f1, .int .i16 x.f2] := by
  obtain ⟨_, _, rfl, rfl, ⟨_, _, rfl, rfl, rfl⟩⟩ := h
  exact rfl
theorem k123_openM {w : World} {base : Nat} {ok : Nat → Prop} {x : S123} {cs : List Value} (h : k123.M w base ok x cs) : cs = [.int .u8 x.f0, .int .i16 x.f1, .int .i16 x.f2] := by
  obtain ⟨_, _, rfl, rfl, ⟨_, _, rfl, rfl, rfl⟩⟩ := h
  exact rfl
theorem k123_mk (w : World) (x : S123)  : k123.K w x [.int .u8 x.f0, .int .i16 x.f1, .int .i16 x.f2] := ⟨[.int .u8 x.f0], [.int .i16 x.f1, .int .i16 x.f2], rfl, rfl, ⟨[.int .i16 x.f1], [.int .i16 x.f2], rfl, rfl, rfl⟩⟩
theorem k123_mkM (w : World) (base : Nat) (ok : Nat → Prop) (x : S123)  : k123.M w base ok x [.int .u8 x.f0, .int .i16 x.f1, .int .i16 x.f2] := ⟨[.int .u8 x.f0], [.int .i16 x.f1, .int .i16 x.f2], rfl, rfl, ⟨[.int .i16 x.f1], [.int .i16 x.f2], rfl, rfl, rfl⟩⟩
theorem k123_mkF (W : World) (ok : Nat → Prop) (x : S123) : Kd.FK k123 W ok x [.int .u8 x.f0, .int .i16 x.f1, .int .i16 x.f2] := fun W2 _ => k123_mk W2 x
def rd_T123 (xs : List S123) (i : Int) : S123 := xs.getD i.toNat z123
theorem at_T123 {w : World} {A : Option Addr} {n : Nat} {xs : List S123} (h : Kd.C k123 w A n xs) (i : Int) (h0 : 0 ≤ i) (h1 : i < n) : ∃ ad , A = some ad ∧ w.cell? (ad.add (i.toNat * 3)) = some (.int .u8 (rd_T123 xs i).f0) ∧ w.cell? ⟨(ad.add (i.toNat * 3)).block, (ad.add (i.toNat * 3)).off + 1, none⟩ = some (.int .i16 (rd_T123 xs i).f1) ∧ w.cell? ⟨(ad.add (i.toNat * 3)).block, (ad.add (i.toNat * 3)).off + 2, none⟩ = some (.int .i16 (rd_T123 xs i).f2) := by
  obtain ⟨ad, c, e, _, hK, hc0⟩ := Kd.C_get h z123 i h0 h1
  have hc : ∀ j u, c[j]? = some u → w.cell? (ad.add (i.toNat * 3 + j)) = some u := hc0
  obtain rfl := k123_open hK
  exact ⟨ad, e, hc 0 _ rfl, by rw [← add_field _ _ 1 (by omega)]; exact hc 1 _ rfl, by rw [← add_field _ _ 2 (by omega)]; exact hc 2 _ rfl⟩

/-! #### struct type 46 -/
structure S46 where
  f0 : Int
  f1 : Int
  f2 : Int
  f3 : Int
def z46 : S46 := ⟨(0 : Int), (0 : Int), (0 : Int), (0 : Int)⟩
def k46 : Kd S46 := Kd.iso (Kd.pair (Kd.int .i16) (Kd.pair (Kd.int .i16) (Kd.pair (Kd.int .i16) (Kd.int .i16)))) (fun x : S46 => (x.f0, x.f1, x.f2, x.f3))
theorem k46_open {w : World} {x : S46} {cs : List Value} (h : k46.K w x cs) : cs = [.int .i16 x.f0, .int .i16 x.f1, .int .i16 x.f2, .int .i16 x.f3] := by
  obtain ⟨_, _, rfl, rfl, ⟨_, _, rfl, rfl, ⟨_, _, rfl, rfl, rfl⟩⟩⟩ := h
  exact rfl
theorem k46_openM {w : World} {base : Nat} {ok : Nat → Prop} {x : S46} {cs : List Value} (h : k46.M w base ok x cs) : cs = [.int .i16 x.f0, .int .i16 x.f1, .int .i16 x.f2, .int .i16 x.f3] := by
  obtain ⟨_, _, rfl, rfl, ⟨_, _, rfl, rfl, ⟨_, _, rfl, rfl, rfl⟩⟩⟩ := h
  exact rfl
theorem k46_mk (w : World) (x : S46)  : k46.K w x [.int .i16 x.f0, .int .i16 x.f1, .int .i16 x.f2, .int .i16 x.f3] := ⟨[.int .i16 x.f0], [.int .i16 x.f1, .int .i16 x.f2, .int .i16 x.f3], rfl, rfl, ⟨[.int .i16 x.f1], [.int .i16 x.f2, .int .i16 x.f3], rfl, rfl, ⟨[.int .i16 x.f2], [.int .i16 x.f3], rfl, rfl, rfl⟩⟩⟩
theorem k46_mkM (w : World) (base : Nat) (ok : Nat → Prop) (x : S46)  : k46.M w base ok x [.int .i16 x.f0, .int .i16 x.f1, .int .i16 x.f2, .int .i16 x.f3] := ⟨[.int .i16 x.f0], [.int .i16 x.f1, .int .i16 x.f2, .int .i16 x.f3], rfl, rfl, ⟨[.int .i16 x.f1], [.int .i16 x.f2, .int .i16 x.f3], rfl, rfl, ⟨[.int .i16 x.f2], [.int .i16 x.f3], rfl, rfl, rfl⟩⟩⟩
theorem k46_mkF (W : World) (ok : Nat → Prop) (x : S46) : Kd.FK k46 W ok x [.int .i16 x.f0, .int .i16 x.f1, .int .i16 x.f2, .int .i16 x.f3] := fun W2 _ => k46_mk W2 x
def rd_T46 (xs : List S46) (i : Int) : S46 := xs.getD i.toNat z46
theorem at_T46 {w : World} {A : Option Addr} {n : Nat} {xs : List S46} (h : Kd.C k46 w A n xs) (i : Int) (h0 : 0 ≤ i) (h1 : i < n) : ∃ ad , A = some ad ∧ w.cell? (ad.add (i.toNat * 4)) = some (.int .i16 (rd_T46 xs i).f0) ∧ w.cell? ⟨(ad.add (i.toNat * 4)).block, (ad.add (i.toNat * 4)).off + 1, none⟩ = some (.int .i16 (rd_T46 xs i).f1) ∧ w.cell? ⟨(ad.add (i.toNat * 4)).block, (ad.add (i.toNat * 4)).off + 2, none⟩ = some (.int .i16 (rd_T46 xs i).f2) ∧ w.cell? ⟨(ad.add (i.toNat * 4)).block, (ad.add (i.toNat * 4)).off + 3, none⟩ = some (.int .i16 (rd_T46 xs i).f3) := by
  obtain ⟨ad, c, e, _, hK, hc0⟩ := Kd.C_get h z46 i h0 h1
  have hc : ∀ j u, c[j]? = some u → w.cell? (ad.add (i.toNat * 4 + j)) = some u := hc0
  obtain rfl := k46_open hK
  exact ⟨ad, e, hc 0 _ rfl, by rw [← add_field _ _ 1 (by omega)]; exact hc 1 _ rfl, by rw [← add_field _ _ 2 (by omega)]; exact hc 2 _ rfl, by rw [← add_field _ _ 3 (by omega)]; exact hc 3 _ rfl⟩

end Go.Proofs.Ytchkmmbedgolbaa.PFnGlyphSpots
