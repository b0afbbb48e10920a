-- Written by a program of this session (xprint) out of the translation; Lean checks it.
import Derived.Test.YtchkmmbedgolbaaPFnTuplesOfx0
import Derived.Test.YtchkmmbedgolbaaPFnTuplesOfx9
import Derived.Test.YtchkmmbedgolbaaPFnTuplesOfx10
import Derived.Test.YtchkmmbedgolbaaPFnTuplesOfx11
import Derived.Test.YtchkmmbedgolbaaPFnTuplesOfx12
namespace Go.Proofs.Ytchkmmbedgolbaa.PFnTuplesOf
open Go.RowKit Go.Proofs.YtchkmmbedgolbaaW.PrintWords Go.Proofs.YtchkmmbedgolbaaW.PrintLast Go.Proofs.YtchkmmbedgolbaaW.PrintMore
attribute [local go_sem] max2_int min2_int max_two min_two max_three min_three max_four min_four   -- for this text's walks alone
set_option linter.unusedVariables false
set_option linter.unusedSimpArgs false
theorem prx13 {P : Program} {ops : Array Oper} {Q : Exit → Act → World → Prop} {md : Region.Mode} {S : World → Prop} {ds : List Nat} (i N : Nat) {oi : Oper} {v : Value} {fuel : Nat} {l : Array Bool} {a : Act} {w : World} (l' : Array Bool) {a' : Act} (h : wpAnyLast P md ops Q S ds fuel l' a' w) (hi : ops[i]? = some oi := by rfl) (hN : oi.dst = some N := by rfl) (hc : anyB md ops l l' i = true := by first | exact any_of HT_.out (by kernel_rfl) | kernel_rfl) (hQ : ∀ c a w, Q (.panic c) (a.put oi.dst v) w → Q (.panic c) a w := by exact fun _ _ _ h => h) (hy : Yields P ops oi v a := by refine Or.inl ⟨by rfl, ?_⟩; intro w'; go_simp; with_reducible rfl) (ha : a.put (some N) v = a' := by first | (simp only [Act.put, L1_, L2_, L3_, i64_w, i32_w]; rfl) | ((try go_ints); (try simp (disch := omega) only [n3_]); simp only [Act.put, L1_, L2_, L3_, i64_w, i32_w]; rfl)) : wpAnyLast P md ops Q S ds (fuel + 1) l a w := pure_ l' hi hN hc hQ hy ha h
theorem z13_0 {p : Prop} (h : p := by kernel_rfl) : p := h

structure S164 where
  f0 : (List Int)
def z164 : S164 := ⟨([] : List Int)⟩
def k164 : Kd S164 := Kd.iso (Kd.slice 145 (Kd.int .i16)) (fun x : S164 => x.f0)
theorem k164_open {w : World} {x : S164} {cs : List Value} (h : k164.K w x cs) : ∃ A0 c0, cs = [.slice A0 x.f0.length c0] ∧ x.f0.length ≤ c0 ∧ (Kd.int .i16).C w A0 x.f0.length x.f0 := by
  obtain ⟨A0, c0, rfl, l0, g0⟩ := h
  exact ⟨A0, c0, rfl, l0, g0⟩
theorem k164_mk (w : World) (x : S164) {A0 : Option Addr} {c0 : Nat} (l0 : x.f0.length ≤ c0) (g0 : (Kd.int .i16).C w A0 x.f0.length x.f0) : k164.K w x [.slice A0 x.f0.length c0] := ⟨A0, c0, rfl, l0, g0⟩
theorem k164_mkF (W : World) (ok : Nat → Prop) (x : S164) {A0 : Option Addr} {c0 : Nat} (l0 : x.f0.length ≤ c0) (g0 : Kd.F (Kd.int .i16) W ok A0 x.f0.length x.f0) : Kd.FK k164 W ok x [.slice A0 x.f0.length c0] := fun W2 hW => k164_mk W2 x l0 (g0 W2 hW)
structure S165 where
  f0 : S164
  f1 : S164
def z165 : S165 := ⟨z164, z164⟩
def k165 : Kd S165 := Kd.iso (Kd.pair k164 k164) (fun x : S165 => (x.f0, x.f1))
theorem k165_open {w : World} {x : S165} {cs : List Value} (h : k165.K w x cs) : ∃ A0 c0 A1 c1, cs = [.slice A0 x.f0.f0.length c0, .slice A1 x.f1.f0.length c1] ∧ x.f0.f0.length ≤ c0 ∧ (Kd.int .i16).C w A0 x.f0.f0.length x.f0.f0 ∧ x.f1.f0.length ≤ c1 ∧ (Kd.int .i16).C w A1 x.f1.f0.length x.f1.f0 := by
  obtain ⟨_, _, rfl, s0, s1⟩ := h
  obtain ⟨A0, c0, rfl, l0, g0⟩ := k164_open s0
  obtain ⟨A1, c1, rfl, l1, g1⟩ := k164_open s1
  exact ⟨A0, c0, A1, c1, rfl, l0, g0, l1, g1⟩
theorem k165_mk (w : World) (x : S165) {A0 : Option Addr} {c0 : Nat} (l0 : x.f0.f0.length ≤ c0) (g0 : (Kd.int .i16).C w A0 x.f0.f0.length x.f0.f0) {A1 : Option Addr} {c1 : Nat} (l1 : x.f1.f0.length ≤ c1) (g1 : (Kd.int .i16).C w A1 x.f1.f0.length x.f1.f0) : k165.K w x [.slice A0 x.f0.f0.length c0, .slice A1 x.f1.f0.length c1] := ⟨[.slice A0 x.f0.f0.length c0], [.slice A1 x.f1.f0.length c1], rfl, (k164_mk w x.f0 l0 g0), (k164_mk w x.f1 l1 g1)⟩
structure S167 where
  f0 : Int
  f1 : Int
  f2 : S164
  f3 : S165
def z167 : S167 := ⟨(0 : Int), (0 : Int), z164, z165⟩
def k167 : Kd S167 := Kd.iso (Kd.pair (Kd.int .u16) (Kd.pair (Kd.int .u16) (Kd.pair k164 k165))) (fun x : S167 => (x.f0, x.f1, x.f2, x.f3))
theorem k167_open {w : World} {x : S167} {cs : List Value} (h : k167.K w x cs) : ∃ A2 c2 A3 c3 A4 c4, cs = [.int .u16 x.f0, .int .u16 x.f1, .slice A2 x.f2.f0.length c2, .slice A3 x.f3.f0.f0.length c3, .slice A4 x.f3.f1.f0.length c4] ∧ x.f2.f0.length ≤ c2 ∧ (Kd.int .i16).C w A2 x.f2.f0.length x.f2.f0 ∧ x.f3.f0.f0.length ≤ c3 ∧ (Kd.int .i16).C w A3 x.f3.f0.f0.length x.f3.f0.f0 ∧ x.f3.f1.f0.length ≤ c4 ∧ (Kd.int .i16).C w A4 x.f3.f1.f0.length x.f3.f1.f0 := by
  obtain ⟨_, _, rfl, rfl, ⟨_, _, rfl, rfl, ⟨_, _, rfl, s2, s3⟩⟩⟩ := h
  obtain ⟨A2, c2, rfl, l2, g2⟩ := k164_open s2
  obtain ⟨A3, c3, A4, c4, rfl, l3, g3, l4, g4⟩ := k165_open s3
  exact ⟨A2, c2, A3, c3, A4, c4, rfl, l2, g2, l3, g3, l4, g4⟩
theorem k167_mk (w : World) (x : S167) {A2 : Option Addr} {c2 : Nat} (l2 : x.f2.f0.length ≤ c2) (g2 : (Kd.int .i16).C w A2 x.f2.f0.length x.f2.f0) {A3 : Option Addr} {c3 : Nat} (l3 : x.f3.f0.f0.length ≤ c3) (g3 : (Kd.int .i16).C w A3 x.f3.f0.f0.length x.f3.f0.f0) {A4 : Option Addr} {c4 : Nat} (l4 : x.f3.f1.f0.length ≤ c4) (g4 : (Kd.int .i16).C w A4 x.f3.f1.f0.length x.f3.f1.f0) : k167.K w x [.int .u16 x.f0, .int .u16 x.f1, .slice A2 x.f2.f0.length c2, .slice A3 x.f3.f0.f0.length c3, .slice A4 x.f3.f1.f0.length c4] := ⟨[.int .u16 x.f0], [.int .u16 x.f1, .slice A2 x.f2.f0.length c2, .slice A3 x.f3.f0.f0.length c3, .slice A4 x.f3.f1.f0.length c4], rfl, rfl, ⟨[.int .u16 x.f1], [.slice A2 x.f2.f0.length c2, .slice A3 x.f3.f0.f0.length c3, .slice A4 x.f3.f1.f0.length c4], rfl, rfl, ⟨[.slice A2 x.f2.f0.length c2], [.slice A3 x.f3.f0.f0.length c3, .slice A4 x.f3.f1.f0.length c4], rfl, (k164_mk w x.f2 l2 g2), (k165_mk w x.f3 l3 g3 l4 g4)⟩⟩⟩
theorem k167_openF {W : World} {ok : Nat → Prop} {x : S167} {cs : List Value} (h : Kd.FK k167 W ok x cs) : ∃ A2 c2 A3 c3 A4 c4, cs = [.int .u16 x.f0, .int .u16 x.f1, .slice A2 x.f2.f0.length c2, .slice A3 x.f3.f0.f0.length c3, .slice A4 x.f3.f1.f0.length c4] ∧ x.f2.f0.length ≤ c2 ∧ Kd.F (Kd.int .i16) W ok A2 x.f2.f0.length x.f2.f0 ∧ x.f3.f0.f0.length ≤ c3 ∧ Kd.F (Kd.int .i16) W ok A3 x.f3.f0.f0.length x.f3.f0.f0 ∧ x.f3.f1.f0.length ≤ c4 ∧ Kd.F (Kd.int .i16) W ok A4 x.f3.f1.f0.length x.f3.f1.f0 := by
  obtain ⟨A2, c2, A3, c3, A4, c4, rfl, l2, _, l3, _, l4, _⟩ := k167_open (Kd.FK_now h)
  exact ⟨A2, c2, A3, c3, A4, c4, rfl, l2, (fun W' hW => by obtain ⟨A2_, c2_, A3_, c3_, A4_, c4_, he, l2_, g2_, l3_, g3_, l4_, g4_⟩ := k167_open (h W' hW); injection (Option.some.inj (show some (Value.slice A2 x.f2.f0.length c2) = some (Value.slice A2_ x.f2.f0.length c2_) from congrArg (fun l => l[2]?) he)) with ha_ _ _; rw [ha_]; exact g2_), l3, (fun W' hW => by obtain ⟨A2_, c2_, A3_, c3_, A4_, c4_, he, l2_, g2_, l3_, g3_, l4_, g4_⟩ := k167_open (h W' hW); injection (Option.some.inj (show some (Value.slice A3 x.f3.f0.f0.length c3) = some (Value.slice A3_ x.f3.f0.f0.length c3_) from congrArg (fun l => l[3]?) he)) with ha_ _ _; rw [ha_]; exact g3_), l4, (fun W' hW => by obtain ⟨A2_, c2_, A3_, c3_, A4_, c4_, he, l2_, g2_, l3_, g3_, l4_, g4_⟩ := k167_open (h W' hW); injection (Option.some.inj (show some (Value.slice A4 x.f3.f1.f0.length c4) = some (Value.slice A4_ x.f3.f1.f0.length c4_) from congrArg (fun l => l[4]?) he)) with ha_ _ _; rw [ha_]; exact g4_)⟩
theorem k167_mkF (W : World) (ok : Nat → Prop) (x : S167) {A2 : Option Addr} {c2 : Nat} (l2 : x.f2.f0.length ≤ c2) (g2 : Kd.F (Kd.int .i16) W ok A2 x.f2.f0.length x.f2.f0) {A3 : Option Addr} {c3 : Nat} (l3 : x.f3.f0.f0.length ≤ c3) (g3 : Kd.F (Kd.int .i16) W ok A3 x.f3.f0.f0.length x.f3.f0.f0) {A4 : Option Addr} {c4 : Nat} (l4 : x.f3.f1.f0.length ≤ c4) (g4 : Kd.F (Kd.int .i16) W ok A4 x.f3.f1.f0.length x.f3.f1.f0) : Kd.FK k167 W ok x [.int .u16 x.f0, .int .u16 x.f1, .slice A2 x.f2.f0.length c2, .slice A3 x.f3.f0.f0.length c3, .slice A4 x.f3.f1.f0.length c4] := fun W2 hW => k167_mk W2 x l2 (g2 W2 hW) l3 (g3 W2 hW) l4 (g4 W2 hW)
def rd_T167 (xs : List S167) (i : Int) : S167 := xs.getD i.toNat z167
structure S169 where
  f0 : S167
  f1 : (List Int)
  f2 : (List Int)
def z169 : S169 := ⟨z167, ([] : List Int), ([] : List Int)⟩
def k169 : Kd S169 := Kd.iso (Kd.pair k167 (Kd.pair (Kd.slice 35 (Kd.int .u16)) (Kd.slice 30 (Kd.int .i16)))) (fun x : S169 => (x.f0, x.f1, x.f2))
theorem k169_open {w : World} {x : S169} {cs : List Value} (h : k169.K w x cs) : ∃ A2 c2 A3 c3 A4 c4 A5 c5 A6 c6, cs = [.int .u16 x.f0.f0, .int .u16 x.f0.f1, .slice A2 x.f0.f2.f0.length c2, .slice A3 x.f0.f3.f0.f0.length c3, .slice A4 x.f0.f3.f1.f0.length c4, .slice A5 x.f1.length c5, .slice A6 x.f2.length c6] ∧ x.f0.f2.f0.length ≤ c2 ∧ (Kd.int .i16).C w A2 x.f0.f2.f0.length x.f0.f2.f0 ∧ x.f0.f3.f0.f0.length ≤ c3 ∧ (Kd.int .i16).C w A3 x.f0.f3.f0.f0.length x.f0.f3.f0.f0 ∧ x.f0.f3.f1.f0.length ≤ c4 ∧ (Kd.int .i16).C w A4 x.f0.f3.f1.f0.length x.f0.f3.f1.f0 ∧ x.f1.length ≤ c5 ∧ (Kd.int .u16).C w A5 x.f1.length x.f1 ∧ x.f2.length ≤ c6 ∧ (Kd.int .i16).C w A6 x.f2.length x.f2 := by
  obtain ⟨_, _, rfl, s0, ⟨_, _, rfl, ⟨A5, c5, rfl, l5, g5⟩, ⟨A6, c6, rfl, l6, g6⟩⟩⟩ := h
  obtain ⟨A2, c2, A3, c3, A4, c4, rfl, l2, g2, l3, g3, l4, g4⟩ := k167_open s0
  exact ⟨A2, c2, A3, c3, A4, c4, A5, c5, A6, c6, rfl, l2, g2, l3, g3, l4, g4, l5, g5, l6, g6⟩
theorem k169_mk (w : World) (x : S169) {A2 : Option Addr} {c2 : Nat} (l2 : x.f0.f2.f0.length ≤ c2) (g2 : (Kd.int .i16).C w A2 x.f0.f2.f0.length x.f0.f2.f0) {A3 : Option Addr} {c3 : Nat} (l3 : x.f0.f3.f0.f0.length ≤ c3) (g3 : (Kd.int .i16).C w A3 x.f0.f3.f0.f0.length x.f0.f3.f0.f0) {A4 : Option Addr} {c4 : Nat} (l4 : x.f0.f3.f1.f0.length ≤ c4) (g4 : (Kd.int .i16).C w A4 x.f0.f3.f1.f0.length x.f0.f3.f1.f0) {A5 : Option Addr} {c5 : Nat} (l5 : x.f1.length ≤ c5) (g5 : (Kd.int .u16).C w A5 x.f1.length x.f1) {A6 : Option Addr} {c6 : Nat} (l6 : x.f2.length ≤ c6) (g6 : (Kd.int .i16).C w A6 x.f2.length x.f2) : k169.K w x [.int .u16 x.f0.f0, .int .u16 x.f0.f1, .slice A2 x.f0.f2.f0.length c2, .slice A3 x.f0.f3.f0.f0.length c3, .slice A4 x.f0.f3.f1.f0.length c4, .slice A5 x.f1.length c5, .slice A6 x.f2.length c6] := ⟨[.int .u16 x.f0.f0, .int .u16 x.f0.f1, .slice A2 x.f0.f2.f0.length c2, .slice A3 x.f0.f3.f0.f0.length c3, .slice A4 x.f0.f3.f1.f0.length c4], [.slice A5 x.f1.length c5, .slice A6 x.f2.length c6], rfl, (k167_mk w x.f0 l2 g2 l3 g3 l4 g4), ⟨[.slice A5 x.f1.length c5], [.slice A6 x.f2.length c6], rfl, ⟨A5, c5, rfl, l5, g5⟩, ⟨A6, c6, rfl, l6, g6⟩⟩⟩
theorem k169_openF {W : World} {ok : Nat → Prop} {x : S169} {cs : List Value} (h : Kd.FK k169 W ok x cs) : ∃ A2 c2 A3 c3 A4 c4 A5 c5 A6 c6, cs = [.int .u16 x.f0.f0, .int .u16 x.f0.f1, .slice A2 x.f0.f2.f0.length c2, .slice A3 x.f0.f3.f0.f0.length c3, .slice A4 x.f0.f3.f1.f0.length c4, .slice A5 x.f1.length c5, .slice A6 x.f2.length c6] ∧ x.f0.f2.f0.length ≤ c2 ∧ Kd.F (Kd.int .i16) W ok A2 x.f0.f2.f0.length x.f0.f2.f0 ∧ x.f0.f3.f0.f0.length ≤ c3 ∧ Kd.F (Kd.int .i16) W ok A3 x.f0.f3.f0.f0.length x.f0.f3.f0.f0 ∧ x.f0.f3.f1.f0.length ≤ c4 ∧ Kd.F (Kd.int .i16) W ok A4 x.f0.f3.f1.f0.length x.f0.f3.f1.f0 ∧ x.f1.length ≤ c5 ∧ Kd.F (Kd.int .u16) W ok A5 x.f1.length x.f1 ∧ x.f2.length ≤ c6 ∧ Kd.F (Kd.int .i16) W ok A6 x.f2.length x.f2 := by
  obtain ⟨A2, c2, A3, c3, A4, c4, A5, c5, A6, c6, rfl, l2, _, l3, _, l4, _, l5, _, l6, _⟩ := k169_open (Kd.FK_now h)
  exact ⟨A2, c2, A3, c3, A4, c4, A5, c5, A6, c6, rfl, l2, (fun W' hW => by obtain ⟨A2_, c2_, A3_, c3_, A4_, c4_, A5_, c5_, A6_, c6_, he, l2_, g2_, l3_, g3_, l4_, g4_, l5_, g5_, l6_, g6_⟩ := k169_open (h W' hW); injection (Option.some.inj (show some (Value.slice A2 x.f0.f2.f0.length c2) = some (Value.slice A2_ x.f0.f2.f0.length c2_) from congrArg (fun l => l[2]?) he)) with ha_ _ _; rw [ha_]; exact g2_), l3, (fun W' hW => by obtain ⟨A2_, c2_, A3_, c3_, A4_, c4_, A5_, c5_, A6_, c6_, he, l2_, g2_, l3_, g3_, l4_, g4_, l5_, g5_, l6_, g6_⟩ := k169_open (h W' hW); injection (Option.some.inj (show some (Value.slice A3 x.f0.f3.f0.f0.length c3) = some (Value.slice A3_ x.f0.f3.f0.f0.length c3_) from congrArg (fun l => l[3]?) he)) with ha_ _ _; rw [ha_]; exact g3_), l4, (fun W' hW => by obtain ⟨A2_, c2_, A3_, c3_, A4_, c4_, A5_, c5_, A6_, c6_, he, l2_, g2_, l3_, g3_, l4_, g4_, l5_, g5_, l6_, g6_⟩ := k169_open (h W' hW); injection (Option.some.inj (show some (Value.slice A4 x.f0.f3.f1.f0.length c4) = some (Value.slice A4_ x.f0.f3.f1.f0.length c4_) from congrArg (fun l => l[4]?) he)) with ha_ _ _; rw [ha_]; exact g4_), l5, (fun W' hW => by obtain ⟨A2_, c2_, A3_, c3_, A4_, c4_, A5_, c5_, A6_, c6_, he, l2_, g2_, l3_, g3_, l4_, g4_, l5_, g5_, l6_, g6_⟩ := k169_open (h W' hW); injection (Option.some.inj (show some (Value.slice A5 x.f1.length c5) = some (Value.slice A5_ x.f1.length c5_) from congrArg (fun l => l[5]?) he)) with ha_ _ _; rw [ha_]; exact g5_), l6, (fun W' hW => by obtain ⟨A2_, c2_, A3_, c3_, A4_, c4_, A5_, c5_, A6_, c6_, he, l2_, g2_, l3_, g3_, l4_, g4_, l5_, g5_, l6_, g6_⟩ := k169_open (h W' hW); injection (Option.some.inj (show some (Value.slice A6 x.f2.length c6) = some (Value.slice A6_ x.f2.length c6_) from congrArg (fun l => l[6]?) he)) with ha_ _ _; rw [ha_]; exact g6_)⟩
theorem k169_mkF (W : World) (ok : Nat → Prop) (x : S169) {A2 : Option Addr} {c2 : Nat} (l2 : x.f0.f2.f0.length ≤ c2) (g2 : Kd.F (Kd.int .i16) W ok A2 x.f0.f2.f0.length x.f0.f2.f0) {A3 : Option Addr} {c3 : Nat} (l3 : x.f0.f3.f0.f0.length ≤ c3) (g3 : Kd.F (Kd.int .i16) W ok A3 x.f0.f3.f0.f0.length x.f0.f3.f0.f0) {A4 : Option Addr} {c4 : Nat} (l4 : x.f0.f3.f1.f0.length ≤ c4) (g4 : Kd.F (Kd.int .i16) W ok A4 x.f0.f3.f1.f0.length x.f0.f3.f1.f0) {A5 : Option Addr} {c5 : Nat} (l5 : x.f1.length ≤ c5) (g5 : Kd.F (Kd.int .u16) W ok A5 x.f1.length x.f1) {A6 : Option Addr} {c6 : Nat} (l6 : x.f2.length ≤ c6) (g6 : Kd.F (Kd.int .i16) W ok A6 x.f2.length x.f2) : Kd.FK k169 W ok x [.int .u16 x.f0.f0, .int .u16 x.f0.f1, .slice A2 x.f0.f2.f0.length c2, .slice A3 x.f0.f3.f0.f0.length c3, .slice A4 x.f0.f3.f1.f0.length c4, .slice A5 x.f1.length c5, .slice A6 x.f2.length c6] := fun W2 hW => k169_mk W2 x l2 (g2 W2 hW) l3 (g3 W2 hW) l4 (g4 W2 hW) l5 (g5 W2 hW) l6 (g6 W2 hW)
def rd_T169 (xs : List S169) (i : Int) : S169 := xs.getD i.toNat z169
set_option maxHeartbeats 4000000 in
set_option maxRecDepth 100000 in
theorem peak89 (k g : Nat) (a ti : Int) (q r : Value) (A1 : Option Addr) (c1 : Nat) (l1 : List Int) (n : Int) (vals : List Int) (rd : Int) (w : World)
    (hg : w.heap[g]? = some (.cells #[.int .u16 a, .int .u16 ti, .slice none 0 0, q, r] 167 (0, 0))) (hbit : (Go.bits .and .u16 ti 32768 != 0) = true)
    (hr1 : Kd.C (Kd.int .u8) w A1 l1.length l1) (hc1 : l1.length ≤ c1) (h : tPT.f k l1 n = some (vals, rd, none)) :
    Calls Try.prog 89 #[.pointer (some ⟨g, 0, none⟩), .slice A1 l1.length c1, .int .i64 n] w fun e w' => ∃ (A : Option Addr) (c : Nat) (w1 : World), e = .returned (.tuple #[.int .i64 rd, .nilIface]) ∧ w' = w1.setCell ⟨g, 2, none⟩ (.slice A vals.length c) ∧ Kd.R (Kd.int .i16) 145 w1 w.heap.size (fun _ => True) (.slice A vals.length c) vals ∧ Below w.heap.size w w1 := by
  have hu164 := Try.underlying164
  have hu167 := Try.underlying167
  have HG := Aside0.mk hg
  have HR1 := Aside0.mk hr1
  have HC1 := Aside0.mk hc1
  have H' := Aside0.mk h
  have hcz_1 : w.cell? ⟨g, 1, none⟩ = some (.int .u16 ti) := (blk_cell HG.out 1).trans rfl
  clear hg hr1 hc1 h
  go_enter Try.func89, Try.ntmps89
  go_wp2_with (go_at_call 96; (with_reducible refine (tPT.calls k _ _ l1 n vals rd none _ HR1.out HC1.out H'.out).mono ?_); rintro e w1 ⟨v0, e2, rfl, z0, z1, z2⟩; obtain rfl := EV_none z1; obtain ⟨A2_, c2_, rfl⟩ := Kd.R_slice z0; have Z0 := Aside0.mk z0; have Z2 := Aside0.mk z2; have HG1 := Aside0.mk (blk_below HG.out z2); clear z0 z1 z2; have hcz_2 : w1.cell? ⟨g, 2, none⟩ = some (.slice none 0 0) := (blk_cell HG1.out 2).trans rfl; have hfz_2 := blk_frozen HG1.out 2)
  go_ret2
  exact ⟨_, _, _, rfl, rfl, Z0.out, Z2.out⟩
set_option maxHeartbeats 4000000 in
set_option maxRecDepth 100000 in
theorem mid90no (g : Nat) (a ti : Int) (p q r : Value) (A1 : Option Addr) (c1 : Nat) (l1 : List Int) (n : Int) (w : World)
    (hg : w.heap[g]? = some (.cells #[.int .u16 a, .int .u16 ti, p, q, r] 167 (0, 0))) (hbit : (Go.bits .and .u16 ti 16384 != 0) = false) :
    Calls Try.prog 90 #[.pointer (some ⟨g, 0, none⟩), .slice A1 l1.length c1, .int .i64 n] w fun e w' => e = .returned (.tuple #[.int .i64 0, .nilIface]) ∧ w = w' := by
  have hu164 := Try.underlying164
  have hu167 := Try.underlying167
  have HG := Aside0.mk hg
  have hcz_1 : w.cell? ⟨g, 1, none⟩ = some (.int .u16 ti) := (blk_cell HG.out 1).trans rfl
  clear hg
  go_enter Try.func90, Try.ntmps90
  go_wp2
  go_ret2
  exact ⟨rfl, rfl⟩
theorem R_Vnew {w1 : World} {base : Nat} {ok : Nat → Prop} {v : Value} {xs : List Int} {g t : Nat} {cells : Array Value} (h : Kd.R (Kd.int .i16) 145 w1 base ok v xs) (hg : w1.heap[g]? = some (.cells cells t (0, 0))) (ht : 145 ≠ t) : Kd.V (Kd.int .i16) 145 w1 0 (fun k_ => k_ ≠ g ∧ base ≤ k_) v xs :=
  Kd.V_mono (Kd.R_V (Kd.R_tight rfl h)) (fun k hk => ⟨fun e => Kd.R_ne h hg ht (e ▸ hk), Kd.R_base h k hk.symm⟩)
set_option maxHeartbeats 4000000 in
set_option maxRecDepth 100000 in
theorem mid90 (k g : Nat) (a ti : Int) (p : Value) (A1 : Option Addr) (c1 : Nat) (l1 : List Int) (n : Int) (x3 x4 : List Int) (rd rd2 : Int) (w0 w : World) (hB : Below w0.heap.size w0 w) (hgw : w0.heap.size ≤ g)
    (hg : w.heap[g]? = some (.cells #[.int .u16 a, .int .u16 ti, p, .slice none 0 0, .slice none 0 0] 167 (0, 0))) (hbit : (Go.bits .and .u16 ti 16384 != 0) = true)
    (hr1 : ∀ W', KeepBut w W' g none → Kd.C (Kd.int .u8) W' A1 l1.length l1) (hc1 : l1.length ≤ c1) (h : tPT.f k l1 n = some (x3, rd, none)) (hrd0 : 0 ≤ rd) (hrd1 : rd ≤ l1.length) (h2 : tPT.f k (l1.drop rd.toNat) n = some (x4, rd2, none)) :
    Calls Try.prog 90 #[.pointer (some ⟨g, 0, none⟩), .slice A1 l1.length c1, .int .i64 n] w fun e w' => ∃ (A3 : Option Addr) (c3 : Nat) (A4 : Option Addr) (c4 : Nat), e = .returned (.tuple #[.int .i64 (wrap64 (rd * 2)), .nilIface]) ∧ w'.heap[g]? = some (.cells #[.int .u16 a, .int .u16 ti, p, .slice A3 x3.length c3, .slice A4 x4.length c4] 167 (0, 0)) ∧ Kd.V (Kd.int .i16) 145 w' 0 (fun k_ => k_ ≠ g ∧ w.heap.size ≤ k_) (.slice A3 x3.length c3) x3 ∧ Kd.V (Kd.int .i16) 145 w' 0 (fun k_ => k_ ≠ g ∧ w.heap.size ≤ k_) (.slice A4 x4.length c4) x4 ∧ KeepBut w w' g none ∧ Below w0.heap.size w0 w' := by
  have HB := Aside0.mk hB
  have HGW := Aside0.mk hgw
  clear hB hgw
  have hu164 := Try.underlying164
  have hu165 := Try.underlying165
  have hu167 := Try.underlying167
  have HG := Aside0.mk hg
  have HR1 := Aside0.mk hr1
  have HC1 := Aside0.mk hc1
  have H1 := Aside0.mk h
  obtain ⟨i0_, hi0_, _, hsz_, _⟩ := info_parts info5
  obtain ⟨D0, hcut0, hD0, hDc0⟩ := print_drop_of (P := Try.prog) (Value.int .u8) 0 22 5 .i64 Try.underlying22 hi0_ hsz_ A1 c1 l1 rd hrd0 hrd1 HC1.out
  have HD0 : Aside0 (∀ W', KeepBut w W' g none → Kd.C (Kd.int .u8) W' D0 (l1.drop rd.toNat).length (l1.drop rd.toNat)) := ⟨fun W' hk => Kd.C_of_reads (h1 := fun _ => rfl) (hD0 _ (Kd.reads_of_C (HR1.out W' hk)))⟩
  have HDC0 := Aside0.mk hDc0
  clear hD0 hDc0 hi0_ hsz_
  obtain ⟨d0, hd0_⟩ : ∃ l : List Int, l = l1.drop rd.toNat := ⟨_, rfl⟩
  rw [← hd0_] at hcut0 HD0 HDC0 h2
  clear hd0_
  obtain ⟨cd0, hcd0⟩ : ∃ n : Nat, n = c1 - rd.toNat := ⟨_, rfl⟩
  rw [← hcd0] at hcut0 HDC0
  clear hcd0
  have H2 := Aside0.mk h2
  have hcz_1 : w.cell? ⟨g, 1, none⟩ = some (.int .u16 ti) := (blk_cell HG.out 1).trans rfl
  clear hg hr1 hc1 h h2 hrd0 hrd1
  go_enter Try.func90, Try.ntmps90
  go_upto_region 3 with (fail)
  go_cut [6, 7] (fun v6 v7 wx => v6 = .int .i64 rd ∧ v7 = .nilIface ∧ ∃ (A3 : Option Addr) (c3 : Nat), Aside0 (wx.heap[g]? = some (.cells #[.int .u16 a, .int .u16 ti, p, .slice A3 x3.length c3, .slice none 0 0] 167 (0, 0))) ∧ Aside0 (Kd.V (Kd.int .i16) 145 wx 0 (fun k_ => k_ ≠ g ∧ w.heap.size ≤ k_) (.slice A3 x3.length c3) x3) ∧ Aside0 (KeepBut w wx g none) ∧ Aside0 (Below w0.heap.size w0 wx))
  case first =>
    go_region_with (go_at_call 96; (with_reducible refine (tPT.calls k _ _ l1 n x3 rd none _ (HR1.out _ (keep_drew (KeepBut.refl w g none))) HC1.out H1.out).mono ?_); rintro e w1 ⟨v0, e2, rfl, z0, z1, z2⟩; obtain rfl := EV_none z1; obtain ⟨A3_, c3_, rfl⟩ := Kd.R_slice z0; have Z0 := Aside0.mk z0; have HG1 := Aside0.mk (blk_below (b2_ HG.out) z2); have HK1 := Aside0.mk (KeepBut.trans (keep_drew (KeepBut.refl w g none)) (KeepBut.of_below z2 g none) (.inl rfl)); have HB1 := Aside0.mk (below_step (below_drew1 HB.out) z2); clear z0 z1 z2; have hcz_3 : w1.cell? ⟨g, 3, none⟩ = some (.slice none 0 0) := (blk_cell HG1.out 3).trans rfl; have hfz_3 := blk_frozen HG1.out 3)
    all_goals
      go_wp2_with fail
      go_meet
      exact ⟨rfl, rfl, _, _, ⟨blk_put HG1.out 3 _ rfl⟩, ⟨Kd.V_far (p := ⟨g, 3, none⟩) (Kd.V_mono (R_Vnew Z0.out HG1.out (by decide)) (fun _ hk => ⟨hk.1, Nat.le_trans (Nat.le_refl _) hk.2⟩)) (fun _ hk => hk.1) _⟩, ⟨KeepBut.set_ HK1.out 3 _⟩, ⟨below_set HB1.out HGW.out⟩⟩
  case rest =>
    obtain ⟨rfl, rfl, A3_, c3_, HG3, HV3, HK, HBx⟩ := hcut
    go_wp2
    go_cut [6, 7] (fun v6 v7 wx => v6 = .int .i64 rd ∧ v7 = .nilIface ∧ ∃ (A3 : Option Addr) (c3 : Nat) (A4 : Option Addr) (c4 : Nat), Aside0 (wx.heap[g]? = some (.cells #[.int .u16 a, .int .u16 ti, p, .slice A3 x3.length c3, .slice A4 x4.length c4] 167 (0, 0))) ∧ Aside0 (Kd.V (Kd.int .i16) 145 wx 0 (fun k_ => k_ ≠ g ∧ w.heap.size ≤ k_) (.slice A3 x3.length c3) x3) ∧ Aside0 (Kd.V (Kd.int .i16) 145 wx 0 (fun k_ => k_ ≠ g ∧ w.heap.size ≤ k_) (.slice A4 x4.length c4) x4) ∧ Aside0 (KeepBut w wx g none) ∧ Aside0 (Below w0.heap.size w0 wx))
    case first =>
      go_region_with (go_at_call 96; (with_reducible refine (tPT.calls k _ _ d0 n x4 rd2 none _ (HD0.out _ (keep_drew HK.out)) HDC0.out H2.out).mono ?_); rintro e w1 ⟨v0, e2, rfl, z0, z1, z2⟩; obtain rfl := EV_none z1; obtain ⟨A4_, c4_, rfl⟩ := Kd.R_slice z0; have Z0 := Aside0.mk z0; have HG1 := Aside0.mk (blk_below (b2_ HG3.out) z2); have HV1 := Aside0.mk (Kd.V_below (Kd.V_drew HV3.out) z2); have HK1 := Aside0.mk (KeepBut.trans (keep_drew HK.out) (KeepBut.of_below z2 g none) (.inl rfl)); have HB1 := Aside0.mk (below_step (below_drew1 HBx.out) z2); clear z0 z1 z2; have hcz_4 : w1.cell? ⟨g, 4, none⟩ = some (.slice none 0 0) := (blk_cell HG1.out 4).trans rfl; have hfz_4 := blk_frozen HG1.out 4)
      all_goals
        go_wp2_with fail
        go_meet
        exact ⟨rfl, rfl, _, _, _, _, ⟨blk_put HG1.out 4 _ rfl⟩, ⟨Kd.V_far (p := ⟨g, 4, none⟩) HV1.out (fun _ hk => hk.1) _⟩, ⟨Kd.V_far (p := ⟨g, 4, none⟩) (Kd.V_mono (R_Vnew Z0.out HG1.out (by decide)) (fun _ hk => ⟨hk.1, Nat.le_trans HK.out.1 hk.2⟩)) (fun _ hk => hk.1) _⟩, ⟨KeepBut.set_ HK1.out 4 _⟩, ⟨below_set HB1.out HGW.out⟩⟩
    case rest =>
      obtain ⟨rfl, rfl, A3b_, c3b_, A4_, c4_, HG4, HV3b, HV4, HKb, HBy⟩ := hcut
      go_wp2
      go_ret2
      exact ⟨_, _, _, _, rfl, HG4.out, HV3b.out, HV4.out, HKb.out, HBy.out⟩
/-- ParseTupleVariationHeader, where it succeeds: a peak of its own. -/
def hdr76.f (k : Nat) (l : List Int) (n : Int) : Option (S167 × Int) :=
  if 4 ≤ l.length then (bU.f (l.drop 0)).bind fun t0 => (bU.f (l.drop 2)).bind fun t1 =>
    if (Go.bits .and .u16 t1 32768 != 0) = true then (tPT.f k (l.drop 4) n).bind fun p =>
      if p.2.2 = none ∧ 0 ≤ p.2.1 ∧ 4 + p.2.1 ≤ l.length then
        if (Go.bits .and .u16 t1 16384 != 0) = true then (tPT.f k (l.drop (4 + p.2.1).toNat) n).bind fun q =>
          if q.2.2 = none ∧ 0 ≤ q.2.1 ∧ 4 + p.2.1 + q.2.1 * 2 ≤ l.length then (tPT.f k ((l.drop (4 + p.2.1).toNat).drop q.2.1.toNat) n).bind fun q2 =>
            if q2.2.2 = none then some (⟨t0, t1, ⟨p.1⟩, ⟨⟨q.1⟩, ⟨q2.1⟩⟩⟩, 4 + p.2.1 + q.2.1 * 2) else none
          else none
        else some (⟨t0, t1, ⟨p.1⟩, ⟨⟨[]⟩, ⟨[]⟩⟩⟩, 4 + p.2.1)
      else none
    else none
  else none
theorem hdr76.mono : ∀ a0 a1 k, LeO (hdr76.f k a0 a1) (hdr76.f (k + 1) a0 a1) := by
  intro a0 a1 k
  unfold hdr76.f
  refine LeO.ite (LeO.bind (LeO.refl _) fun t0 => LeO.bind (LeO.refl _) fun t1 => LeO.ite (LeO.bind (tPT.mono _ _ _) fun p => LeO.ite (LeO.ite (LeO.bind (tPT.mono _ _ _) fun q => LeO.ite (LeO.bind (tPT.mono _ _ _) fun q2 => LeO.refl _) (LeO.none _)) (LeO.refl _)) (LeO.none _)) (LeO.none _)) (LeO.none _)
set_option maxHeartbeats 8000000 in
set_option maxRecDepth 100000 in
theorem hdr76.calls (k : Nat) (A0 : Option Addr) (c0 : Nat) (l0 : List Int) (n : Int) (x : S167) (rt : Int) (w : World) (hr0 : Kd.C (Kd.int .u8) w A0 l0.length l0) (hc0 : l0.length ≤ c0) (h : hdr76.f k l0 n = some (x, rt)) :
    Calls Try.prog 76 #[.slice A0 l0.length c0, .int .i64 n] w fun e w' => ∃ (A2 : Option Addr) (c2 : Nat) (A3 : Option Addr) (c3 : Nat) (A4 : Option Addr) (c4 : Nat), e = .returned (.tuple #[.agg #[.int .u16 x.f0, .int .u16 x.f1, .slice A2 x.f2.f0.length c2, .slice A3 x.f3.f0.f0.length c3, .slice A4 x.f3.f1.f0.length c4], .int .i64 rt, .nilIface]) ∧ Kd.V (Kd.int .i16) 145 w' 0 (fun k_ => w.heap.size ≤ k_) (.slice A2 x.f2.f0.length c2) x.f2.f0 ∧ Kd.V (Kd.int .i16) 145 w' 0 (fun k_ => w.heap.size ≤ k_) (.slice A3 x.f3.f0.f0.length c3) x.f3.f0.f0 ∧ Kd.V (Kd.int .i16) 145 w' 0 (fun k_ => w.heap.size ≤ k_) (.slice A4 x.f3.f1.f0.length c4) x.f3.f1.f0 ∧ Below w.heap.size w w' := by
  have hu164 := Try.underlying164
  have hu165 := Try.underlying165
  have hu167 := Try.underlying167
  have HR0 := Aside0.mk hr0
  have HC0 := Aside0.mk hc0
  clear hr0 hc0
  have HB := Aside0.mk (Below.refl w.heap.size w)
  unfold hdr76.f at h
  by_cases hlen : 4 ≤ l0.length
  case neg => rw [if_neg hlen] at h; cases h
  rw [if_pos hlen] at h
  replace h := Option.bind_eq_some_iff.mp h
  obtain ⟨t0, a0, h⟩ := h
  have A0_ := Aside0.mk a0
  clear a0
  replace h := Option.bind_eq_some_iff.mp h
  obtain ⟨t1, a1, h⟩ := h
  have A1_ := Aside0.mk a1
  clear a1
  by_cases hb1 : (Go.bits .and .u16 t1 32768 != 0) = true
  case neg => rw [if_neg hb1] at h; cases h
  rw [if_pos hb1] at h
  have HBT := Aside0.mk hb1
  clear hb1
  replace h := Option.bind_eq_some_iff.mp h
  obtain ⟨⟨p1, rr, er⟩, ap, h⟩ := h
  dsimp only at h
  by_cases hp : er = none ∧ 0 ≤ rr ∧ 4 + rr ≤ l0.length
  case neg => rw [if_neg hp] at h; cases h
  rw [if_pos hp] at h
  obtain ⟨rfl, hp0, hp1⟩ := hp
  have AP := Aside0.mk ap
  clear ap
  have HX := Aside0.mk h
  clear h
  have HLEN := Aside0.mk hlen
  have hmax : l0.length ≤ 9223372036854775807 := HR0.out.2.1
  have hd4 : decide ((l0.length : Int) < 4) = false := decide_eq_false (by omega)
  have hd4n : decide (l0.length < 4) = false := decide_eq_false (by omega)
  obtain ⟨ad9, e9, hx9⟩ := Kd.at_int HR0.out 3 (by omega) (by omega)
  cases e9
  have p9 := eq_true (show (3 : Int) < (l0.length : Int) by omega)
  have p9n := eq_true (show 3 < l0.length by omega)
  obtain ⟨i0_, hi0_, _, hsz_, _⟩ := info_parts info5
  obtain ⟨D0, hcut0, hD0, hDc0⟩ := print_drop_of (P := Try.prog) (Value.int .u8) 0 22 5 .i64 Try.underlying22 hi0_ hsz_ (some ad9) c0 l0 (0 : Int) (by omega) (by omega) HC0.out
  have HD0 : Aside0 (Kd.C (Kd.int .u8) w D0 (l0.drop ((0 : Int)).toNat).length (l0.drop ((0 : Int)).toNat)) := ⟨Kd.C_of_reads (h1 := fun _ => rfl) (hD0 _ (Kd.reads_of_C HR0.out))⟩
  have HDC0 := Aside0.mk hDc0
  clear hD0 hDc0
  obtain ⟨d0, hd0_⟩ : ∃ l : List Int, l = l0.drop ((0 : Int)).toNat := ⟨_, rfl⟩
  rw [← hd0_] at hcut0 HD0 HDC0
  replace A0_ : Aside0 (bU.f d0 = some t0) := ⟨by rw [hd0_]; exact A0_.out⟩
  clear hd0_
  obtain ⟨cd0, hcd0⟩ : ∃ n : Nat, n = c0 - ((0 : Int)).toNat := ⟨_, rfl⟩
  rw [← hcd0] at hcut0 HDC0
  clear hcd0
  obtain ⟨D1, hcut1, hD1, hDc1⟩ := print_drop_of (P := Try.prog) (Value.int .u8) 0 22 5 .i64 Try.underlying22 hi0_ hsz_ (some ad9) c0 l0 (2 : Int) (by omega) (by omega) HC0.out
  have HD1 : Aside0 (Kd.C (Kd.int .u8) w D1 (l0.drop ((2 : Int)).toNat).length (l0.drop ((2 : Int)).toNat)) := ⟨Kd.C_of_reads (h1 := fun _ => rfl) (hD1 _ (Kd.reads_of_C HR0.out))⟩
  have HDC1 := Aside0.mk hDc1
  clear hD1 hDc1
  obtain ⟨d1, hd1_⟩ : ∃ l : List Int, l = l0.drop ((2 : Int)).toNat := ⟨_, rfl⟩
  rw [← hd1_] at hcut1 HD1 HDC1
  replace A1_ : Aside0 (bU.f d1 = some t1) := ⟨by rw [hd1_]; exact A1_.out⟩
  clear hd1_
  obtain ⟨cd1, hcd1⟩ : ∃ n : Nat, n = c0 - ((2 : Int)).toNat := ⟨_, rfl⟩
  rw [← hcd1] at hcut1 HDC1
  clear hcd1
  obtain ⟨D2, hcut2, hD2, hDc2⟩ := print_drop_of (P := Try.prog) (Value.int .u8) 0 22 5 .i64 Try.underlying22 hi0_ hsz_ (some ad9) c0 l0 (4 : Int) (by omega) (by omega) HC0.out
  have HD2 : Aside0 (Kd.C (Kd.int .u8) w D2 (l0.drop ((4 : Int)).toNat).length (l0.drop ((4 : Int)).toNat)) := ⟨Kd.C_of_reads (h1 := fun _ => rfl) (hD2 _ (Kd.reads_of_C HR0.out))⟩
  have HDC2 := Aside0.mk hDc2
  clear hD2 hDc2
  obtain ⟨d2, hd2_⟩ : ∃ l : List Int, l = l0.drop ((4 : Int)).toNat := ⟨_, rfl⟩
  rw [← hd2_] at hcut2 HD2 HDC2
  replace AP : Aside0 (tPT.f k d2 n = some (p1, rr, none)) := ⟨by rw [hd2_]; exact AP.out⟩
  clear hd2_
  obtain ⟨cd2, hcd2⟩ : ∃ n : Nat, n = c0 - ((4 : Int)).toNat := ⟨_, rfl⟩
  rw [← hcd2] at hcut2 HDC2
  clear hcd2
  obtain ⟨D3, hcut3, hD3, hDc3⟩ := print_drop_of (P := Try.prog) (Value.int .u8) 0 22 5 .i64 Try.underlying22 hi0_ hsz_ (some ad9) c0 l0 (4 + rr) (by omega) (by omega) HC0.out
  have HD3 : Aside0 (Kd.C (Kd.int .u8) w D3 (l0.drop ((4 + rr)).toNat).length (l0.drop ((4 + rr)).toNat)) := ⟨Kd.C_of_reads (h1 := fun _ => rfl) (hD3 _ (Kd.reads_of_C HR0.out))⟩
  have HDC3 := Aside0.mk hDc3
  clear hD3 hDc3
  obtain ⟨d3, hd3_⟩ : ∃ l : List Int, l = l0.drop ((4 + rr)).toNat := ⟨_, rfl⟩
  rw [← hd3_] at hcut3 HD3 HDC3
  have HD3L : Aside0 ((d3.length : Int) = (l0.length : Int) - (4 + rr)) := ⟨by rw [hd3_, List.length_drop]; omega⟩
  rw [← hd3_] at HX
  clear hd3_
  obtain ⟨cd3, hcd3⟩ : ∃ n : Nat, n = c0 - ((4 + rr)).toNat := ⟨_, rfl⟩
  rw [← hcd3] at hcut3 HDC3
  clear hcd3
  have hp2 : rr ≤ 9223372036854775803 := by omega
  have HP0 := Aside0.mk hp0
  have HP1 := Aside0.mk hp1
  clear hi0_ hsz_ hlen hmax hp1
  go_enter Try.func76, Try.ntmps76
  go_wp2_with (first | ((with_reducible refine gate_dst (N := 4) rfl ?_); refine box_event ?hg (N := 4) ?hd (cs := #[.int .u16 0, .int .u16 0, .slice none 0 0, .slice none 0 0, .slice none 0 0]) (t := 167) ?hr ?_; (case hd => rfl); (case hg => rfl); (case hr => first | (go_simp; done) | (go_simp; rfl)); intro gr hg wa hbox hb; have n0_ := Aside0.mk (below_step HB.out hb); have BR := Aside0.mk hbox; have GR := Aside0.mk (show w.heap.size ≤ gr by rw [hg]; exact HB.out.size); clear HB; have HB := n0_; clear n0_; clear hg hbox hb) | ((with_reducible refine gate_dst (N := 7) rfl ?_); refine box_event ?hg (N := 7) ?hd (cs := #[.int .u16 0, .int .u16 0, .slice none 0 0, .slice none 0 0, .slice none 0 0]) (t := 167) ?hr ?_; (case hd => rfl); (case hg => rfl); (case hr => first | (go_simp; done) | (go_simp; rfl)); intro gi hg wb hbox hb; have n0_ := Aside0.mk (below_step HB.out hb); have n1_ := Aside0.mk (blk_below BR.out hb); have BI := Aside0.mk hbox; have GI := Aside0.mk (show w.heap.size ≤ gi by rw [hg]; exact HB.out.size); have NRI := Aside0.mk (show gr ≠ gi by rw [hg]; exact Nat.ne_of_lt (blk_lt BR.out)); have NIR := Aside0.mk (Ne.symm NRI.out); clear HB BR; have HB := n0_; have BR := n1_; clear n0_ n1_; have hx9b : wb.cell? { block := ad9.block, off := ad9.off + 3 } = some (.int .u8 (rd l0 3)) := pw_cell_below HB.out hx9; clear hg hbox hb))
  have hcz : wb.cell? ⟨gi, 0, none⟩ = some (.int .u16 0) := (blk_cell BI.out 0).trans rfl
  have hfz := blk_frozen BI.out 0
  go_region_with (go_at_call 57; refine (bU.calls _ _ d0 t0 _ ?s1 ?s2 A0_.out).mono ?_; (case s1 => exact Kd.C_below HD0.out (below_drew1 HB.out)); (case s2 => exact HDC0.out); rintro e w0 ⟨rfl, hb⟩; have n0_ := Aside0.mk (below_step (below_drew1 HB.out) hb); have n1_ := Aside0.mk (blk_below (b2_ BR.out) hb); have n2_ := Aside0.mk (blk_below (b2_ BI.out) hb); clear HB BR BI hcz hfz hb; have HB := n0_; have BR := n1_; have BI := n2_; clear n0_ n1_ n2_; have hcz : w0.cell? ⟨gi, 0, none⟩ = some (.int .u16 0) := (blk_cell BI.out 0).trans rfl; have hfz := blk_frozen BI.out 0)
  have n0_ : Aside0 (Below w.heap.size w (w0.setCell ⟨gi, 0, none⟩ (.int .u16 t0))) := ⟨below_set HB.out GI.out⟩
  have n1_ := Aside0.mk (blk_far BR.out (p := ⟨gi, 0, none⟩) NRI.out (.int .u16 t0))
  have n2_ : Aside0 ((w0.setCell ⟨gi, 0, none⟩ (.int .u16 t0)).heap[gi]? = some (.cells #[.int .u16 t0, .int .u16 0, .slice none 0 0, .slice none 0 0, .slice none 0 0] 167 (0, 0))) := ⟨blk_put BI.out 0 _ rfl⟩
  generalize (w0.setCell ⟨gi, 0, none⟩ (.int .u16 t0)) = v0 at n0_ n1_ n2_ ⊢
  clear HB BR BI hcz hfz
  have HB := n0_
  have BR := n1_
  have BI := n2_
  clear n0_ n1_ n2_
  go_wp2
  have hcz : v0.cell? ⟨gi, 1, none⟩ = some (.int .u16 0) := (blk_cell BI.out 1).trans rfl
  have hfz := blk_frozen BI.out 1
  go_region_with (go_at_call 57; refine (bU.calls _ _ d1 t1 _ ?s1 ?s2 A1_.out).mono ?_; (case s1 => exact Kd.C_below HD1.out (below_drew1 HB.out)); (case s2 => exact HDC1.out); rintro e w1 ⟨rfl, hb⟩; have n0_ := Aside0.mk (below_step (below_drew1 HB.out) hb); have n1_ := Aside0.mk (blk_below (b2_ BR.out) hb); have n2_ := Aside0.mk (blk_below (b2_ BI.out) hb); clear HB BR BI hcz hfz hb; have HB := n0_; have BR := n1_; have BI := n2_; clear n0_ n1_ n2_; have hcz : w1.cell? ⟨gi, 1, none⟩ = some (.int .u16 0) := (blk_cell BI.out 1).trans rfl; have hfz := blk_frozen BI.out 1)
  have n0_ : Aside0 (Below w.heap.size w (w1.setCell ⟨gi, 1, none⟩ (.int .u16 t1))) := ⟨below_set HB.out GI.out⟩
  have n1_ := Aside0.mk (blk_far BR.out (p := ⟨gi, 1, none⟩) NRI.out (.int .u16 t1))
  have n2_ : Aside0 ((w1.setCell ⟨gi, 1, none⟩ (.int .u16 t1)).heap[gi]? = some (.cells #[.int .u16 t0, .int .u16 t1, .slice none 0 0, .slice none 0 0, .slice none 0 0] 167 (0, 0))) := ⟨blk_put BI.out 1 _ rfl⟩
  generalize (w1.setCell ⟨gi, 1, none⟩ (.int .u16 t1)) = v1 at n0_ n1_ n2_ ⊢
  clear HB BR BI hcz hfz
  have HB := n0_
  have BR := n1_
  have BI := n2_
  clear n0_ n1_ n2_
  go_upto_region 14 with ((go_at_call 89; (with_reducible refine (peak89 k gi t0 t1 (.slice none 0 0) (.slice none 0 0) _ _ d2 n p1 rr _ BI.out HBT.out ?s1 HDC2.out AP.out).mono ?_); (case s1 => exact Kd.C_below HD2.out HB.out); rintro e w_ ⟨A2_, c2_, w2, rfl, rfl, z0, zb⟩; have LTR := Aside0.mk (blk_lt BR.out); have n3_ := Aside0.mk (Kd.V_far (p := ⟨gi, 2, none⟩) (ok := fun k_ => k_ ≠ gi ∧ k_ ≠ gr ∧ w.heap.size ≤ k_) (Kd.V_mono (R_Vnew z0 (blk_below BI.out zb) (by decide)) (fun _ hk => ⟨hk.1, Ne.symm (Nat.ne_of_lt (Nat.lt_of_lt_of_le LTR.out hk.2)), Nat.le_trans HB.out.size hk.2⟩)) (fun _ hk => hk.1) (.slice A2_ p1.length c2_)); have n0_ := Aside0.mk (show Below w.heap.size w (w2.setCell ⟨gi, 2, none⟩ (.slice A2_ p1.length c2_)) from below_set (below_step HB.out zb) GI.out); have n1_ := Aside0.mk (blk_far (blk_below BR.out zb) (p := ⟨gi, 2, none⟩) NRI.out (.slice A2_ p1.length c2_)); have n2_ := Aside0.mk (show (w2.setCell ⟨gi, 2, none⟩ (.slice A2_ p1.length c2_)).heap[gi]? = some (.cells #[.int .u16 t0, .int .u16 t1, .slice A2_ p1.length c2_, .slice none 0 0, .slice none 0 0] 167 (0, 0)) from blk_put (blk_below BI.out zb) 2 _ rfl); clear HB BR BI z0 zb LTR; generalize (w2.setCell ⟨gi, 2, none⟩ (.slice A2_ p1.length c2_)) = v2 at n0_ n1_ n2_ n3_ ⊢; have HB := n0_; have BR := n1_; have BI := n2_; have HV2 := n3_; clear n0_ n1_ n2_ n3_))
  have h := HX.out
  clear HX
  by_cases hb2 : (Go.bits .and .u16 t1 16384 != 0) = true
  · rw [if_pos hb2] at h
    have HBT2 := Aside0.mk hb2
    clear hb2
    replace h := Option.bind_eq_some_iff.mp h
    obtain ⟨⟨q1, qq, er⟩, aq, h⟩ := h
    dsimp only at h
    by_cases hq : er = none ∧ 0 ≤ qq ∧ 4 + rr + qq * 2 ≤ l0.length
    case neg => rw [if_neg hq] at h; cases h
    rw [if_pos hq] at h
    obtain ⟨rfl, hq0, hq1⟩ := hq
    replace h := Option.bind_eq_some_iff.mp h
    obtain ⟨⟨q2, qr, er⟩, aq2, h⟩ := h
    dsimp only at h
    by_cases hq2 : er = none
    case neg => rw [if_neg hq2] at h; cases h
    rw [if_pos hq2] at h
    subst hq2
    simp only [Option.some.injEq, Prod.mk.injEq] at h
    obtain ⟨rfl, rfl⟩ := h
    have AQ := Aside0.mk aq
    have AQ2 := Aside0.mk aq2
    clear aq aq2
    have hmax : l0.length ≤ 9223372036854775807 := HR0.out.2.1
    have HQ1 : Aside0 (qq ≤ (d3.length : Int)) := ⟨by have := HD3L.out; omega⟩
    have hw2 : wrap64 (qq * 2) = qq * 2 := by unfold wrap64; have := HP0.out; omega
    have hq3 : 4 + rr + qq * 2 ≤ 9223372036854775807 := by omega
    have HQ0 := Aside0.mk hq0
    clear hq1 hmax
    go_wp2_with ((go_at_call 90; (with_reducible refine (mid90 k gi t0 t1 (.slice A2_ p1.length c2_) _ _ d3 n q1 q2 qq qr w _ HB.out GI.out BI.out HBT2.out (Kd.C_foot_came (Kd.heap_int .u8) HD3.out HB.out GI.out) HDC3.out AQ.out HQ0.out HQ1.out AQ2.out).mono ?_); rintro e v3 ⟨A3_, c3_, A4_, c4_, rfl, z0, z1, z2, z3, z4⟩; rw [hw2]; have LTR := Aside0.mk (blk_lt BR.out); have n1_ := Aside0.mk (KeepBut.blk z3 BR.out NRI.out (by simp)); have n3_ := Aside0.mk (Kd.V_keep HV2.out z3 (fun _ hk => hk.1)); have HV3 := Aside0.mk (Kd.V_mono (ok' := fun k_ => k_ ≠ gi ∧ k_ ≠ gr ∧ w.heap.size ≤ k_) z1 (fun _ hk => ⟨hk.1, Ne.symm (Nat.ne_of_lt (Nat.lt_of_lt_of_le LTR.out hk.2)), Nat.le_trans HB.out.size hk.2⟩)); have HV4 := Aside0.mk (Kd.V_mono (ok' := fun k_ => k_ ≠ gi ∧ k_ ≠ gr ∧ w.heap.size ≤ k_) z2 (fun _ hk => ⟨hk.1, Ne.symm (Nat.ne_of_lt (Nat.lt_of_lt_of_le LTR.out hk.2)), Nat.le_trans HB.out.size hk.2⟩)); clear HB BR BI HV2 LTR; have HB := Aside0.mk z4; have BI := Aside0.mk z0; have BR := n1_; have HV2 := n3_; clear z0 z1 z2 z3 z4 n1_ n3_; have hz0 : v3.cell? ⟨gi, 0, none⟩ = some (.int .u16 t0) := (blk_cell BI.out 0).trans rfl; have hz1 : v3.cell? ⟨gi, 1, none⟩ = some (.int .u16 t1) := (blk_cell BI.out 1).trans rfl; have hz2 : v3.cell? ⟨gi, 2, none⟩ = some (.slice A2_ p1.length c2_) := (blk_cell BI.out 2).trans rfl; have hz3 : v3.cell? ⟨gi, 3, none⟩ = some (.slice A3_ q1.length c3_) := (blk_cell BI.out 3).trans rfl; have hz4 : v3.cell? ⟨gi, 4, none⟩ = some (.slice A4_ q2.length c4_) := (blk_cell BI.out 4).trans rfl; have hy0 : v3.cell? ⟨gr, 0, none⟩ = some (.int .u16 0) := (blk_cell BR.out 0).trans rfl; have hf0 := blk_frozen BR.out 0; have hy1 : v3.cell? ⟨gr, 1, none⟩ = some (.int .u16 0) := (blk_cell BR.out 1).trans rfl; have hf1 := blk_frozen BR.out 1; have hy2 : v3.cell? ⟨gr, 2, none⟩ = some (.slice none 0 0) := (blk_cell BR.out 2).trans rfl; have hf2 := blk_frozen BR.out 2; have hy3 : v3.cell? ⟨gr, 3, none⟩ = some (.slice none 0 0) := (blk_cell BR.out 3).trans rfl; have hf3 := blk_frozen BR.out 3; have hy4 : v3.cell? ⟨gr, 4, none⟩ = some (.slice none 0 0) := (blk_cell BR.out 4).trans rfl; have hf4 := blk_frozen BR.out 4))
    have BR0 := blk_put (cs' := #[.int .u16 t0, .int .u16 0, .slice none 0 0, .slice none 0 0, .slice none 0 0]) BR.out 0 (.int .u16 t0) rfl
    have BR1 := blk_put (cs' := #[.int .u16 t0, .int .u16 t1, .slice none 0 0, .slice none 0 0, .slice none 0 0]) BR0 1 (.int .u16 t1) rfl
    have BR2 := blk_put (cs' := #[.int .u16 t0, .int .u16 t1, .slice A2_ p1.length c2_, .slice none 0 0, .slice none 0 0]) BR1 2 (.slice A2_ p1.length c2_) rfl
    have BR3 := blk_put (cs' := #[.int .u16 t0, .int .u16 t1, .slice A2_ p1.length c2_, .slice A3_ q1.length c3_, .slice none 0 0]) BR2 3 (.slice A3_ q1.length c3_) rfl
    have BR4 := blk_put (cs' := #[.int .u16 t0, .int .u16 t1, .slice A2_ p1.length c2_, .slice A3_ q1.length c3_, .slice A4_ q2.length c4_]) BR3 4 (.slice A4_ q2.length c4_) rfl
    have HV2f := Kd.V_mono (ok' := fun k_ => w.heap.size ≤ k_) (Kd.V_far (p := ⟨gr, 4, none⟩) (Kd.V_far (p := ⟨gr, 3, none⟩) (Kd.V_far (p := ⟨gr, 2, none⟩) (Kd.V_far (p := ⟨gr, 1, none⟩) (Kd.V_far (p := ⟨gr, 0, none⟩) HV2.out (fun _ hk => hk.2.1) (.int .u16 t0)) (fun _ hk => hk.2.1) (.int .u16 t1)) (fun _ hk => hk.2.1) (.slice A2_ p1.length c2_)) (fun _ hk => hk.2.1) (.slice A3_ q1.length c3_)) (fun _ hk => hk.2.1) (.slice A4_ q2.length c4_)) (fun _ hk => hk.2.2)
    have HV3f := Kd.V_mono (ok' := fun k_ => w.heap.size ≤ k_) (Kd.V_far (p := ⟨gr, 4, none⟩) (Kd.V_far (p := ⟨gr, 3, none⟩) (Kd.V_far (p := ⟨gr, 2, none⟩) (Kd.V_far (p := ⟨gr, 1, none⟩) (Kd.V_far (p := ⟨gr, 0, none⟩) HV3.out (fun _ hk => hk.2.1) (.int .u16 t0)) (fun _ hk => hk.2.1) (.int .u16 t1)) (fun _ hk => hk.2.1) (.slice A2_ p1.length c2_)) (fun _ hk => hk.2.1) (.slice A3_ q1.length c3_)) (fun _ hk => hk.2.1) (.slice A4_ q2.length c4_)) (fun _ hk => hk.2.2)
    have HV4f := Kd.V_mono (ok' := fun k_ => w.heap.size ≤ k_) (Kd.V_far (p := ⟨gr, 4, none⟩) (Kd.V_far (p := ⟨gr, 3, none⟩) (Kd.V_far (p := ⟨gr, 2, none⟩) (Kd.V_far (p := ⟨gr, 1, none⟩) (Kd.V_far (p := ⟨gr, 0, none⟩) HV4.out (fun _ hk => hk.2.1) (.int .u16 t0)) (fun _ hk => hk.2.1) (.int .u16 t1)) (fun _ hk => hk.2.1) (.slice A2_ p1.length c2_)) (fun _ hk => hk.2.1) (.slice A3_ q1.length c3_)) (fun _ hk => hk.2.1) (.slice A4_ q2.length c4_)) (fun _ hk => hk.2.2)
    have HBf := (below_set (j := 4) (v := .slice A4_ q2.length c4_) (below_set (j := 3) (v := .slice A3_ q1.length c3_) (below_set (j := 2) (v := .slice A2_ p1.length c2_) (below_set (j := 1) (v := .int .u16 t1) (below_set (j := 0) (v := .int .u16 t0) HB.out GR.out) GR.out) GR.out) GR.out) GR.out)
    refine bodyPost_ret (results_ctt rfl _ _ gr 167 #[.int .u16 t0, .int .u16 t1, .slice A2_ p1.length c2_, .slice A3_ q1.length c3_, .slice A4_ q2.length c4_] (0, 0) _ rfl BR4 Try.underlying167 rfl z13_0) rfl ?_
    exact ⟨_, _, _, _, _, _, rfl, HV2f, HV3f, HV4f, HBf⟩
  · rw [if_neg hb2] at h
    have HBT2 := Aside0.mk (show (Go.bits .and .u16 t1 16384 != 0) = false by simpa using hb2)
    clear hb2
    simp only [Option.some.injEq, Prod.mk.injEq] at h
    obtain ⟨rfl, rfl⟩ := h
    go_wp2_with ((go_at_call 90; (with_reducible refine (mid90no gi t0 t1 _ _ _ _ _ d3 n _ BI.out HBT2.out).mono ?_); rintro e w' ⟨rfl, rfl⟩; have hz0 : v2.cell? ⟨gi, 0, none⟩ = some (.int .u16 t0) := (blk_cell BI.out 0).trans rfl; have hz1 : v2.cell? ⟨gi, 1, none⟩ = some (.int .u16 t1) := (blk_cell BI.out 1).trans rfl; have hz2 : v2.cell? ⟨gi, 2, none⟩ = some (.slice A2_ p1.length c2_) := (blk_cell BI.out 2).trans rfl; have hz3 : v2.cell? ⟨gi, 3, none⟩ = some (.slice none 0 0) := (blk_cell BI.out 3).trans rfl; have hz4 : v2.cell? ⟨gi, 4, none⟩ = some (.slice none 0 0) := (blk_cell BI.out 4).trans rfl; have hy0 : v2.cell? ⟨gr, 0, none⟩ = some (.int .u16 0) := (blk_cell BR.out 0).trans rfl; have hf0 := blk_frozen BR.out 0; have hy1 : v2.cell? ⟨gr, 1, none⟩ = some (.int .u16 0) := (blk_cell BR.out 1).trans rfl; have hf1 := blk_frozen BR.out 1; have hy2 : v2.cell? ⟨gr, 2, none⟩ = some (.slice none 0 0) := (blk_cell BR.out 2).trans rfl; have hf2 := blk_frozen BR.out 2; have hy3 : v2.cell? ⟨gr, 3, none⟩ = some (.slice none 0 0) := (blk_cell BR.out 3).trans rfl; have hf3 := blk_frozen BR.out 3; have hy4 : v2.cell? ⟨gr, 4, none⟩ = some (.slice none 0 0) := (blk_cell BR.out 4).trans rfl; have hf4 := blk_frozen BR.out 4))
    have BR0 := blk_put (cs' := #[.int .u16 t0, .int .u16 0, .slice none 0 0, .slice none 0 0, .slice none 0 0]) BR.out 0 (.int .u16 t0) rfl
    have BR1 := blk_put (cs' := #[.int .u16 t0, .int .u16 t1, .slice none 0 0, .slice none 0 0, .slice none 0 0]) BR0 1 (.int .u16 t1) rfl
    have BR2 := blk_put (cs' := #[.int .u16 t0, .int .u16 t1, .slice A2_ p1.length c2_, .slice none 0 0, .slice none 0 0]) BR1 2 (.slice A2_ p1.length c2_) rfl
    have BR3 := blk_put (cs' := #[.int .u16 t0, .int .u16 t1, .slice A2_ p1.length c2_, .slice none 0 0, .slice none 0 0]) BR2 3 (.slice none 0 0) rfl
    have BR4 := blk_put (cs' := #[.int .u16 t0, .int .u16 t1, .slice A2_ p1.length c2_, .slice none 0 0, .slice none 0 0]) BR3 4 (.slice none 0 0) rfl
    have HV2f := Kd.V_mono (ok' := fun k_ => w.heap.size ≤ k_) (Kd.V_far (p := ⟨gr, 4, none⟩) (Kd.V_far (p := ⟨gr, 3, none⟩) (Kd.V_far (p := ⟨gr, 2, none⟩) (Kd.V_far (p := ⟨gr, 1, none⟩) (Kd.V_far (p := ⟨gr, 0, none⟩) HV2.out (fun _ hk => hk.2.1) (.int .u16 t0)) (fun _ hk => hk.2.1) (.int .u16 t1)) (fun _ hk => hk.2.1) (.slice A2_ p1.length c2_)) (fun _ hk => hk.2.1) (.slice none 0 0)) (fun _ hk => hk.2.1) (.slice none 0 0)) (fun _ hk => hk.2.2)
    have HBf := (below_set (j := 4) (v := .slice none 0 0) (below_set (j := 3) (v := .slice none 0 0) (below_set (j := 2) (v := .slice A2_ p1.length c2_) (below_set (j := 1) (v := .int .u16 t1) (below_set (j := 0) (v := .int .u16 t0) HB.out GR.out) GR.out) GR.out) GR.out) GR.out)
    refine bodyPost_ret (results_ctt rfl _ _ gr 167 #[.int .u16 t0, .int .u16 t1, .slice A2_ p1.length c2_, .slice none 0 0, .slice none 0 0] (0, 0) _ rfl BR4 Try.underlying167 rfl z13_0) rfl ?_
    exact ⟨_, _, none, 0, none, 0, rfl, HV2f, Kd.V_nil _ _ _ _ _, Kd.V_nil _ _ _ _ _, HBf⟩
theorem info167 : (Try.prog.info? 167).map (fun i => (i.zero, i.size, i.bytes)) = some (some (.agg #[.int .u16 0, .int .u16 0, .slice none 0 0, .slice none 0 0, .slice none 0 0]), 5, 80) := by kernel_rfl
theorem FK_far {α : Type} {d : Kd α} {W : World} {ok : Nat → Prop} {x : α} {c : List Value} (h : Kd.FK d W ok x c) {p : Addr} (hok : ∀ k, ok k → k ≠ p.block) (u : Value) : Kd.FK d (W.setCell p u) ok x c := Kd.FK_step h (fun k hk _ => Below.heap_setCell W p u k (hok k hk))
/-- The loop of ParseGlyphVariationData over the headers. -/
def gvd60.l0 : Nat → List Int → Int → Int → Int → Int → List S167 → Option (Int × List S167)
 | 0, _, _, _, _, _, _ => none
 | k + 1, l, n, m, i, off, acc => if i < m then (if 0 ≤ i ∧ i ≤ 65536 ∧ 0 ≤ off ∧ off ≤ l.length ∧ acc.length < 65536 then (hdr76.f k (l.drop off.toNat) n).bind fun p => (if 0 ≤ p.2 ∧ off + p.2 ≤ l.length then gvd60.l0 k l n m (i + 1) (off + p.2) (acc ++ [p.1]) else none) else none) else some (off, acc)
theorem gvd60.mono_l : ∀ k y0 y1 y2 y3 y4 y5, LeO (gvd60.l0 k y0 y1 y2 y3 y4 y5) (gvd60.l0 (k + 1) y0 y1 y2 y3 y4 y5)
 | 0, _, _, _, _, _, _ => fun r h => by simp [gvd60.l0] at h
 | k + 1, y0, y1, y2, y3, y4, y5 => by
  rw [gvd60.l0, gvd60.l0]
  exact LeO.ite (LeO.ite (LeO.bind (hdr76.mono _ _ _) fun p => LeO.ite (gvd60.mono_l k _ _ _ _ _ _) (LeO.none _)) (LeO.none _)) (LeO.refl _)
/-- ParseGlyphVariationData, where it succeeds: what follows the headers is there. -/
def gvd60.f (k : Nat) (l : List Int) (n : Int) : Option (Int × List Int × List S167 × Int) :=
  if 4 ≤ l.length then (bU.f (l.drop 0)).bind fun t0 => (bU.f (l.drop 2)).bind fun t1 =>
    if t1 ≠ 0 ∧ t1 ≤ l.length then (gvd60.l0 k l n (wrap64 (Go.bits .and .u16 t0 4095)) 0 4 []).bind fun r => some (t0, l.drop t1.toNat, r.2, r.1) else none
  else none
theorem gvd60.mono : ∀ a0 a1 k, LeO (gvd60.f k a0 a1) (gvd60.f (k + 1) a0 a1) := by
  intro a0 a1 k
  unfold gvd60.f
  exact LeO.ite (LeO.bind (LeO.refl _) fun t0 => LeO.bind (LeO.refl _) fun t1 => LeO.ite (LeO.bind (gvd60.mono_l _ _ _ _ _ _ _) fun r => LeO.refl _) (LeO.none _)) (LeO.none _)
theorem u16_bounds {l : List Int} {t : Int} (h : bU.f l = some t) : 0 ≤ t ∧ t ≤ 65535 := by
  unfold bU.f at h
  split at h
  case isFalse => cases h
  rename_i hh
  injection h with h
  omega
set_option maxHeartbeats 8000000 in
set_option maxRecDepth 100000 in
theorem gvd60.calls (k : Nat) (A0 : Option Addr) (c0 : Nat) (l0 : List Int) (n : Int) (r1 : Int) (r2 : List Int) (r3 : List S167) (r4 : Int) (w : World) (hr0 : Kd.C (Kd.int .u8) w A0 l0.length l0) (hc0 : l0.length ≤ c0) (h : gvd60.f k l0 n = some (r1, r2, r3, r4)) :
    Calls Try.prog 60 #[.slice A0 l0.length c0, .int .i64 n] w fun e w' => ∃ (A1 : Option Addr) (c1 : Nat) (A2 : Option Addr) (c2 : Nat), e = .returned (.tuple #[.agg #[.int .u16 r1, .slice A1 r2.length c1, .slice A2 r3.length c2], .int .i64 r4, .nilIface]) ∧ Kd.C (Kd.int .u8) w A1 r2.length r2 ∧ r2.length ≤ c1 ∧ Kd.N k167 167 w' w.heap.size (fun k_ => w.heap.size ≤ k_) (.slice A2 r3.length c2) r3 ∧ Below w.heap.size w w' := by
  have hu157 := Try.underlying157
  have hu159 := Try.underlying159
  have hu164 := Try.underlying164
  have hu165 := Try.underlying165
  have hu167 := Try.underlying167
  have HR0 := Aside0.mk hr0
  have HC0 := Aside0.mk hc0
  clear hr0 hc0
  have HB := Aside0.mk (Below.refl w.heap.size w)
  unfold gvd60.f at h
  by_cases hlen : 4 ≤ l0.length
  case neg => rw [if_neg hlen] at h; cases h
  rw [if_pos hlen] at h
  replace h := Option.bind_eq_some_iff.mp h
  obtain ⟨t0, a0, h⟩ := h
  have A0_ := Aside0.mk a0
  clear a0
  replace h := Option.bind_eq_some_iff.mp h
  obtain ⟨t1, a1, h⟩ := h
  have hb1 := u16_bounds a1
  have A1_ := Aside0.mk a1
  clear a1
  by_cases hs : t1 ≠ 0 ∧ t1 ≤ l0.length
  case neg => rw [if_neg hs] at h; cases h
  rw [if_pos hs] at h
  obtain ⟨hs0, hs1⟩ := hs
  replace h := Option.bind_eq_some_iff.mp h
  obtain ⟨⟨off, hs_⟩, al, h⟩ := h
  simp only [Option.some.injEq, Prod.mk.injEq] at h
  obtain ⟨rfl, rfl, rfl, rfl⟩ := h
  have AL := Aside0.mk al
  clear al
  have HLEN := Aside0.mk hlen
  have hmax : l0.length ≤ 9223372036854775807 := HR0.out.2.1
  have hd4 : decide ((l0.length : Int) < 4) = false := decide_eq_false (by omega)
  have hd4n : decide (l0.length < 4) = false := decide_eq_false (by omega)
  have hs0b : (t1 != 0) = true := bne_iff_ne.mpr hs0
  have hs0c : (t1 == 0) = false := beq_eq_false_iff_ne.mpr hs0
  have hs1b : decide ((l0.length : Int) < t1) = false := decide_eq_false (by omega)
  obtain ⟨ad9, e9, hx9⟩ := Kd.at_int HR0.out 3 (by omega) (by omega)
  cases e9
  have p9 := eq_true (show (3 : Int) < (l0.length : Int) by omega)
  have p9n := eq_true (show 3 < l0.length by omega)
  obtain ⟨i0_, hi0_, _, hsz_, _⟩ := info_parts info5
  obtain ⟨D0, hcut0, hD0, hDc0⟩ := print_drop_of (P := Try.prog) (Value.int .u8) 0 22 5 .i64 Try.underlying22 hi0_ hsz_ (some ad9) c0 l0 (0 : Int) (by omega) (by omega) HC0.out
  have HD0 : Aside0 (Kd.C (Kd.int .u8) w D0 (l0.drop ((0 : Int)).toNat).length (l0.drop ((0 : Int)).toNat)) := ⟨Kd.C_of_reads (h1 := fun _ => rfl) (hD0 _ (Kd.reads_of_C HR0.out))⟩
  have HDC0 := Aside0.mk hDc0
  clear hD0 hDc0
  obtain ⟨d0, hd0_⟩ : ∃ l : List Int, l = l0.drop ((0 : Int)).toNat := ⟨_, rfl⟩
  rw [← hd0_] at hcut0 HD0 HDC0
  replace A0_ : Aside0 (bU.f d0 = some t0) := ⟨by rw [hd0_]; exact A0_.out⟩
  clear hd0_
  obtain ⟨cd0, hcd0⟩ : ∃ n : Nat, n = c0 - ((0 : Int)).toNat := ⟨_, rfl⟩
  rw [← hcd0] at hcut0 HDC0
  clear hcd0
  obtain ⟨D1, hcut1, hD1, hDc1⟩ := print_drop_of (P := Try.prog) (Value.int .u8) 0 22 5 .i64 Try.underlying22 hi0_ hsz_ (some ad9) c0 l0 (2 : Int) (by omega) (by omega) HC0.out
  have HD1 : Aside0 (Kd.C (Kd.int .u8) w D1 (l0.drop ((2 : Int)).toNat).length (l0.drop ((2 : Int)).toNat)) := ⟨Kd.C_of_reads (h1 := fun _ => rfl) (hD1 _ (Kd.reads_of_C HR0.out))⟩
  have HDC1 := Aside0.mk hDc1
  clear hD1 hDc1
  obtain ⟨d1, hd1_⟩ : ∃ l : List Int, l = l0.drop ((2 : Int)).toNat := ⟨_, rfl⟩
  rw [← hd1_] at hcut1 HD1 HDC1
  replace A1_ : Aside0 (bU.f d1 = some t1) := ⟨by rw [hd1_]; exact A1_.out⟩
  clear hd1_
  obtain ⟨cd1, hcd1⟩ : ∃ n : Nat, n = c0 - ((2 : Int)).toNat := ⟨_, rfl⟩
  rw [← hcd1] at hcut1 HDC1
  clear hcd1
  obtain ⟨D2, hcut2, hD2, hDc2⟩ := print_drop_of (P := Try.prog) (Value.int .u8) 0 22 5 .i64 Try.underlying22 hi0_ hsz_ (some ad9) c0 l0 t1 (by omega) (by omega) HC0.out
  have HD2 : Aside0 (Kd.C (Kd.int .u8) w D2 (l0.drop (t1).toNat).length (l0.drop (t1).toNat)) := ⟨Kd.C_of_reads (h1 := fun _ => rfl) (hD2 _ (Kd.reads_of_C HR0.out))⟩
  have HDC2 := Aside0.mk hDc2
  clear hD2 hDc2
  obtain ⟨d2, hd2_⟩ : ∃ l : List Int, l = l0.drop (t1).toNat := ⟨_, rfl⟩
  rw [← hd2_] at hcut2 HD2 HDC2
  rw [← hd2_]
  clear hd2_
  obtain ⟨cd2, hcd2⟩ : ∃ n : Nat, n = c0 - (t1).toNat := ⟨_, rfl⟩
  rw [← hcd2] at hcut2 HDC2
  clear hcd2
  have HS1 := Aside0.mk hs1
  have HI0 := Aside0.mk hi0_
  have HSZ := Aside0.mk hsz_
  obtain ⟨hb10, hb11⟩ := hb1
  clear hi0_ hsz_ hlen hmax hs1 hs0
  go_enter Try.func60, Try.ntmps60
  go_wp2_with (first | ((with_reducible refine gate_dst (N := 4) rfl ?_); refine box_event ?hg (N := 4) ?hd (cs := #[.int .u16 0, .slice none 0 0, .slice none 0 0]) (t := 159) ?hr ?_; (case hd => rfl); (case hg => rfl); (case hr => first | (go_simp; done) | (go_simp; rfl)); intro gr hg wa hbox hb; have n0_ := Aside0.mk (below_step HB.out hb); have BR := Aside0.mk hbox; have GR := Aside0.mk (show w.heap.size ≤ gr by rw [hg]; exact HB.out.size); clear HB; have HB := n0_; clear n0_; clear hg hbox hb) | ((with_reducible refine gate_dst (N := 7) rfl ?_); refine box_event ?hg (N := 7) ?hd (cs := #[.int .u16 0, .slice none 0 0, .slice none 0 0]) (t := 159) ?hr ?_; (case hd => rfl); (case hg => rfl); (case hr => first | (go_simp; done) | (go_simp; rfl)); intro gi hg wb hbox hb; have n0_ := Aside0.mk (below_step HB.out hb); have n1_ := Aside0.mk (blk_below BR.out hb); have BI := Aside0.mk hbox; have GI := Aside0.mk (show w.heap.size ≤ gi by rw [hg]; exact HB.out.size); have NRI := Aside0.mk (show gr ≠ gi by rw [hg]; exact Nat.ne_of_lt (blk_lt BR.out)); have NIR := Aside0.mk (Ne.symm NRI.out); clear HB BR; have HB := n0_; have BR := n1_; clear n0_ n1_; have hx9b : wb.cell? { block := ad9.block, off := ad9.off + 3 } = some (.int .u8 (rd l0 3)) := pw_cell_below HB.out hx9; clear hg hbox hb))
  have hcz : wb.cell? ⟨gi, 0, none⟩ = some (.int .u16 0) := (blk_cell BI.out 0).trans rfl
  have hfz := blk_frozen BI.out 0
  go_region_with (go_at_call 57; refine (bU.calls _ _ d0 t0 _ ?s1 ?s2 A0_.out).mono ?_; (case s1 => exact Kd.C_below HD0.out (below_drew1 HB.out)); (case s2 => exact HDC0.out); rintro e w0 ⟨rfl, hb⟩; have n0_ := Aside0.mk (below_step (below_drew1 HB.out) hb); have n1_ := Aside0.mk (blk_below (b2_ BR.out) hb); have n2_ := Aside0.mk (blk_below (b2_ BI.out) hb); clear HB BR BI hcz hfz hb; have HB := n0_; have BR := n1_; have BI := n2_; clear n0_ n1_ n2_; have hcz : w0.cell? ⟨gi, 0, none⟩ = some (.int .u16 0) := (blk_cell BI.out 0).trans rfl; have hfz := blk_frozen BI.out 0)
  have n0_ : Aside0 (Below w.heap.size w (w0.setCell ⟨gi, 0, none⟩ (.int .u16 t0))) := ⟨below_set HB.out GI.out⟩
  have n1_ := Aside0.mk (blk_far BR.out (p := ⟨gi, 0, none⟩) NRI.out (.int .u16 t0))
  have n2_ : Aside0 ((w0.setCell ⟨gi, 0, none⟩ (.int .u16 t0)).heap[gi]? = some (.cells #[.int .u16 t0, .slice none 0 0, .slice none 0 0] 159 (0, 0))) := ⟨blk_put BI.out 0 _ rfl⟩
  generalize (w0.setCell ⟨gi, 0, none⟩ (.int .u16 t0)) = v0 at n0_ n1_ n2_ ⊢
  clear HB BR BI hcz hfz
  have HB := n0_
  have BR := n1_
  have BI := n2_
  clear n0_ n1_ n2_
  go_wp2
  go_region_with (go_at_call 57; refine (bU.calls _ _ d1 t1 _ ?s1 ?s2 A1_.out).mono ?_; (case s1 => exact Kd.C_below HD1.out (below_drew1 HB.out)); (case s2 => exact HDC1.out); rintro e v1 ⟨rfl, hb⟩; have n0_ := Aside0.mk (below_step (below_drew1 HB.out) hb); have n1_ := Aside0.mk (blk_below (b2_ BR.out) hb); have n2_ := Aside0.mk (blk_below (b2_ BI.out) hb); clear HB BR BI hb; have HB := n0_; have BR := n1_; have BI := n2_; clear n0_ n1_ n2_; have hc0 : v1.cell? ⟨gi, 0, none⟩ = some (.int .u16 t0) := (blk_cell BI.out 0).trans rfl; have hc1 : v1.cell? ⟨gi, 1, none⟩ = some (.slice none 0 0) := (blk_cell BI.out 1).trans rfl; have hf1 := blk_frozen BI.out 1)
  go_wp2
  obtain ⟨m, hm⟩ : ∃ m : Int, wrap64 (Go.bits .and .u16 t0 4095) = m := ⟨_, rfl⟩
  rw [hm] at AL
  rw [hm]
  clear hm
  go_loopg [13, 14] k (fun kq v13 v14 w' => ∃ (off1 i1 : Int) (acc : List S167) (Ah : Option Addr) (ch : Nat), v13 = .int .i64 off1 ∧ v14 = .int .i64 i1 ∧ Aside0 (gvd60.l0 kq l0 n m i1 off1 acc = some (off, hs_)) ∧ Aside0 (kq ≤ k) ∧ Aside0 (Kd.N k167 167 w' w.heap.size (fun k_ => w.heap.size ≤ k_ ∧ k_ ≠ gi ∧ k_ ≠ gr) (.slice Ah acc.length ch) acc) ∧ Aside0 (w'.heap[gr]? = some (.cells #[.int .u16 0, .slice none 0 0, .slice none 0 0] 159 (0, 0))) ∧ Aside0 (w'.heap[gi]? = some (.cells #[.int .u16 t0, .slice D2 d2.length cd2, .slice Ah acc.length ch] 159 (0, 0))) ∧ Aside0 (Below w.heap.size w w'))
  case atStart => exact ⟨4, 0, [], none, 0, rfl, rfl, AL, ⟨Nat.le_refl _⟩, ⟨Kd.N_nil _ _ _ _ _⟩, ⟨blk_far BR.out (p := ⟨gi, 1, none⟩) NRI.out _⟩, ⟨blk_put BI.out 1 _ rfl⟩, ⟨below_set HB.out GI.out⟩⟩
  case round =>
    clear AL BR BI HB hc0 hc1 hf1
    obtain ⟨off1, i1, acc, Ah, ch, rfl, rfl, HA, HK2, HN, BR, BI, HB⟩ := hrel
    cases gk with
    | zero => exact absurd HA.out (by simp [gvd60.l0])
    | succ k2 =>
      have H := HA.out
      clear HA
      rw [gvd60.l0] at H
      by_cases hlt : i1 < m
      · rw [if_pos hlt] at H
        have hltb : decide (i1 < m) = true := decide_eq_true hlt
        clear hlt
        by_cases hc : 0 ≤ i1 ∧ i1 ≤ 65536 ∧ 0 ≤ off1 ∧ off1 ≤ l0.length ∧ acc.length < 65536
        case neg => rw [if_neg hc] at H; cases H
        rw [if_pos hc] at H
        obtain ⟨hi0, hi1, ho0, ho1, hal⟩ := hc
        replace H := Option.bind_eq_some_iff.mp H
        obtain ⟨⟨x, rt⟩, ah, H⟩ := H
        dsimp only at H
        by_cases hp : 0 ≤ rt ∧ off1 + rt ≤ l0.length
        case neg => rw [if_neg hp] at H; cases H
        rw [if_pos hp] at H
        obtain ⟨hp0, hp1⟩ := hp
        obtain ⟨y, hy⟩ : ∃ y : List S167, y = acc ++ [x] := ⟨_, rfl⟩
        rw [← hy] at H
        have HY := Aside0.mk hy
        have H' := Aside0.mk H
        have HAL := Aside0.mk hal
        clear hy H hal
        have hmax : l0.length ≤ 9223372036854775807 := HR0.out.2.1
        have hp2 : off1 + rt ≤ 9223372036854775807 := by omega
        obtain ⟨E0, hcutE, hE0, hEc0⟩ := print_drop_of (P := Try.prog) (Value.int .u8) 0 22 5 .i64 Try.underlying22 HI0.out HSZ.out (some ad9) c0 l0 off1 (by omega) (by omega) HC0.out
        have HE : Aside0 (Kd.C (Kd.int .u8) w E0 (l0.drop (off1).toNat).length (l0.drop (off1).toNat)) := ⟨Kd.C_of_reads (h1 := fun _ => rfl) (hE0 _ (Kd.reads_of_C HR0.out))⟩
        have HEC := Aside0.mk hEc0
        clear hE0 hEc0 hmax ho1 hp1
        obtain ⟨dE, hdE_⟩ : ∃ l : List Int, l = l0.drop (off1).toNat := ⟨_, rfl⟩
        rw [← hdE_] at hcutE HE HEC ah
        clear hdE_
        have AH := Aside0.mk ah
        clear ah
        obtain ⟨cE, hcE⟩ : ∃ n : Nat, n = c0 - (off1).toNat := ⟨_, rfl⟩
        rw [← hcE] at hcutE HEC
        clear hcE
        go_upto_region 21 with (first | (go_at_call 76; (with_reducible refine (hdr76.calls k2 _ _ dE n x rt _ ?s1 HEC.out AH.out).mono ?_); (case s1 => exact Kd.C_below HE.out HB.out); rintro e w1 ⟨A2_, c2_, A3_, c3_, A4_, c4_, rfl, z2, z3, z4, zb⟩; have LTI := Aside0.mk (blk_lt BI.out); have LTR := Aside0.mk (blk_lt BR.out); have LTN := Aside0.mk (Kd.N_lt HN.out); have LTW := Aside0.mk HB.out.size; have HF := Aside0.mk (k167_mkF w1 _ x (Kd.V_at z2).2.1 (Kd.V_at z2).2.2 (Kd.V_at z3).2.1 (Kd.V_at z3).2.2 (Kd.V_at z4).2.1 (Kd.V_at z4).2.2); have n0_ := Aside0.mk (below_step HB.out zb); have n1_ := Aside0.mk (blk_below BR.out zb); have n2_ := Aside0.mk (blk_below BI.out zb); have n3_ := Aside0.mk (Kd.N_below HN.out zb); clear HB BR BI HN z2 z3 z4 zb; have HB := n0_; have BR := n1_; have BI := n2_; have HN := n3_; clear n0_ n1_ n2_ n3_) | ((with_reducible refine gate_dst (N := 15) rfl ?_); refine box_event ?hg (N := 15) ?hd (cs := #[.int .u16 0, .int .u16 0, .slice none 0 0, .slice none 0 0, .slice none 0 0]) (t := 167) ?hr ?_; (case hd => rfl); (case hg => rfl); (case hr => first | (go_simp; done) | (go_simp; rfl)); intro gb hg w2 hbox hb; have GB := Aside0.mk (show w.heap.size ≤ gb by rw [hg]; exact HB.out.size); have NIB := Aside0.mk (show gi ≠ gb by rw [hg]; exact Nat.ne_of_lt (blk_lt BI.out)); have NRB := Aside0.mk (show gr ≠ gb by rw [hg]; exact Nat.ne_of_lt (blk_lt BR.out)); have n0_ := Aside0.mk (below_step HB.out hb); have n1_ := Aside0.mk (blk_below BR.out hb); have n2_ := Aside0.mk (blk_below BI.out hb); have n3_ := Aside0.mk (Kd.N_below (Kd.N_elderB HN.out gb (by rw [hg]; exact Nat.le_refl _)) hb); have n4_ := Aside0.mk (Kd.FK_below (Kd.FK_mono (Kd.FK_bound HF.out) (ok' := fun k_ => wr.heap.size ≤ k_ ∧ k_ ≠ gb) (fun _ hk => ⟨hk.1, by have := hk.2; omega⟩)) hb); have BX := Aside0.mk hbox; clear HB BR BI HN HF; have HB := n0_; have BR := n1_; have BI := n2_; have HN := n3_; have HF := n4_; clear n0_ n1_ n2_ n3_ n4_; have hx0_ : w2.cell? ⟨gb, 0, none⟩ = some (.int .u16 0) := (blk_cell BX.out 0).trans rfl; have hxf0_ := blk_frozen BX.out 0; have hx1_ : w2.cell? ⟨gb, 1, none⟩ = some (.int .u16 0) := (blk_cell BX.out 1).trans rfl; have hxf1_ := blk_frozen BX.out 1; have hx2_ : w2.cell? ⟨gb, 2, none⟩ = some (.slice none 0 0) := (blk_cell BX.out 2).trans rfl; have hxf2_ := blk_frozen BX.out 2; have hx3_ : w2.cell? ⟨gb, 3, none⟩ = some (.slice none 0 0) := (blk_cell BX.out 3).trans rfl; have hxf3_ := blk_frozen BX.out 3; have hx4_ : w2.cell? ⟨gb, 4, none⟩ = some (.slice none 0 0) := (blk_cell BX.out 4).trans rfl; have hxf4_ := blk_frozen BX.out 4; clear hbox hb hg))
        have BX0 := blk_put (cs' := #[.int .u16 x.f0, .int .u16 0, .slice none 0 0, .slice none 0 0, .slice none 0 0]) BX.out 0 (.int .u16 x.f0) rfl
        have BX1 := blk_put (cs' := #[.int .u16 x.f0, .int .u16 x.f1, .slice none 0 0, .slice none 0 0, .slice none 0 0]) BX0 1 (.int .u16 x.f1) rfl
        have BX2 := blk_put (cs' := #[.int .u16 x.f0, .int .u16 x.f1, .slice A2_ x.f2.f0.length c2_, .slice none 0 0, .slice none 0 0]) BX1 2 (.slice A2_ x.f2.f0.length c2_) rfl
        have BX3 := blk_put (cs' := #[.int .u16 x.f0, .int .u16 x.f1, .slice A2_ x.f2.f0.length c2_, .slice A3_ x.f3.f0.f0.length c3_, .slice none 0 0]) BX2 3 (.slice A3_ x.f3.f0.f0.length c3_) rfl
        have BX4 := blk_put (cs' := #[.int .u16 x.f0, .int .u16 x.f1, .slice A2_ x.f2.f0.length c2_, .slice A3_ x.f3.f0.f0.length c3_, .slice A4_ x.f3.f1.f0.length c4_]) BX3 4 (.slice A4_ x.f3.f1.f0.length c4_) rfl
        have n0_ : Aside0 (Below w.heap.size w (World.setCell (World.setCell (World.setCell (World.setCell (World.setCell w2 ⟨gb, 0, none⟩ (.int .u16 x.f0)) ⟨gb, 1, none⟩ (.int .u16 x.f1)) ⟨gb, 2, none⟩ (.slice A2_ x.f2.f0.length c2_)) ⟨gb, 3, none⟩ (.slice A3_ x.f3.f0.f0.length c3_)) ⟨gb, 4, none⟩ (.slice A4_ x.f3.f1.f0.length c4_))) := ⟨(below_set (j := 4) (v := .slice A4_ x.f3.f1.f0.length c4_) (below_set (j := 3) (v := .slice A3_ x.f3.f0.f0.length c3_) (below_set (j := 2) (v := .slice A2_ x.f2.f0.length c2_) (below_set (j := 1) (v := .int .u16 x.f1) (below_set (j := 0) (v := .int .u16 x.f0) HB.out GB.out) GB.out) GB.out) GB.out) GB.out)⟩
        have n1_ : Aside0 ((World.setCell (World.setCell (World.setCell (World.setCell (World.setCell w2 ⟨gb, 0, none⟩ (.int .u16 x.f0)) ⟨gb, 1, none⟩ (.int .u16 x.f1)) ⟨gb, 2, none⟩ (.slice A2_ x.f2.f0.length c2_)) ⟨gb, 3, none⟩ (.slice A3_ x.f3.f0.f0.length c3_)) ⟨gb, 4, none⟩ (.slice A4_ x.f3.f1.f0.length c4_)).heap[gr]? = _) := ⟨(blk_far (blk_far (blk_far (blk_far (blk_far BR.out (p := ⟨gb, 0, none⟩) NRB.out (.int .u16 x.f0)) (p := ⟨gb, 1, none⟩) NRB.out (.int .u16 x.f1)) (p := ⟨gb, 2, none⟩) NRB.out (.slice A2_ x.f2.f0.length c2_)) (p := ⟨gb, 3, none⟩) NRB.out (.slice A3_ x.f3.f0.f0.length c3_)) (p := ⟨gb, 4, none⟩) NRB.out (.slice A4_ x.f3.f1.f0.length c4_))⟩
        have n2_ : Aside0 ((World.setCell (World.setCell (World.setCell (World.setCell (World.setCell w2 ⟨gb, 0, none⟩ (.int .u16 x.f0)) ⟨gb, 1, none⟩ (.int .u16 x.f1)) ⟨gb, 2, none⟩ (.slice A2_ x.f2.f0.length c2_)) ⟨gb, 3, none⟩ (.slice A3_ x.f3.f0.f0.length c3_)) ⟨gb, 4, none⟩ (.slice A4_ x.f3.f1.f0.length c4_)).heap[gi]? = _) := ⟨(blk_far (blk_far (blk_far (blk_far (blk_far BI.out (p := ⟨gb, 0, none⟩) NIB.out (.int .u16 x.f0)) (p := ⟨gb, 1, none⟩) NIB.out (.int .u16 x.f1)) (p := ⟨gb, 2, none⟩) NIB.out (.slice A2_ x.f2.f0.length c2_)) (p := ⟨gb, 3, none⟩) NIB.out (.slice A3_ x.f3.f0.f0.length c3_)) (p := ⟨gb, 4, none⟩) NIB.out (.slice A4_ x.f3.f1.f0.length c4_))⟩
        have n3_ : Aside0 (Kd.N k167 167 (World.setCell (World.setCell (World.setCell (World.setCell (World.setCell w2 ⟨gb, 0, none⟩ (.int .u16 x.f0)) ⟨gb, 1, none⟩ (.int .u16 x.f1)) ⟨gb, 2, none⟩ (.slice A2_ x.f2.f0.length c2_)) ⟨gb, 3, none⟩ (.slice A3_ x.f3.f0.f0.length c3_)) ⟨gb, 4, none⟩ (.slice A4_ x.f3.f1.f0.length c4_)) w.heap.size (fun k_ => w.heap.size ≤ k_ ∧ k_ ≠ gi ∧ k_ ≠ gr) (.slice Ah acc.length ch) acc) := ⟨Kd.N_mono (Kd.N_far (p := ⟨gb, 4, none⟩) (Kd.N_far (p := ⟨gb, 3, none⟩) (Kd.N_far (p := ⟨gb, 2, none⟩) (Kd.N_far (p := ⟨gb, 1, none⟩) (Kd.N_far (p := ⟨gb, 0, none⟩) HN.out (fun _ hk => hk.2) (.int .u16 x.f0)) (fun _ hk => hk.2) (.int .u16 x.f1)) (fun _ hk => hk.2) (.slice A2_ x.f2.f0.length c2_)) (fun _ hk => hk.2) (.slice A3_ x.f3.f0.f0.length c3_)) (fun _ hk => hk.2) (.slice A4_ x.f3.f1.f0.length c4_)) (fun _ hk => hk.1)⟩
        have n4_ : Aside0 (Kd.FK k167 (World.setCell (World.setCell (World.setCell (World.setCell (World.setCell w2 ⟨gb, 0, none⟩ (.int .u16 x.f0)) ⟨gb, 1, none⟩ (.int .u16 x.f1)) ⟨gb, 2, none⟩ (.slice A2_ x.f2.f0.length c2_)) ⟨gb, 3, none⟩ (.slice A3_ x.f3.f0.f0.length c3_)) ⟨gb, 4, none⟩ (.slice A4_ x.f3.f1.f0.length c4_)) (fun k_ => wr.heap.size ≤ k_) x [.int .u16 x.f0, .int .u16 x.f1, .slice A2_ x.f2.f0.length c2_, .slice A3_ x.f3.f0.f0.length c3_, .slice A4_ x.f3.f1.f0.length c4_]) := ⟨Kd.FK_mono (FK_far (p := ⟨gb, 4, none⟩) (FK_far (p := ⟨gb, 3, none⟩) (FK_far (p := ⟨gb, 2, none⟩) (FK_far (p := ⟨gb, 1, none⟩) (FK_far (p := ⟨gb, 0, none⟩) HF.out (fun _ hk => hk.2) (.int .u16 x.f0)) (fun _ hk => hk.2) (.int .u16 x.f1)) (fun _ hk => hk.2) (.slice A2_ x.f2.f0.length c2_)) (fun _ hk => hk.2) (.slice A3_ x.f3.f0.f0.length c3_)) (fun _ hk => hk.2) (.slice A4_ x.f3.f1.f0.length c4_)) (fun _ hk => hk.1)⟩
        have n5_ : Aside0 ((World.setCell (World.setCell (World.setCell (World.setCell (World.setCell w2 ⟨gb, 0, none⟩ (.int .u16 x.f0)) ⟨gb, 1, none⟩ (.int .u16 x.f1)) ⟨gb, 2, none⟩ (.slice A2_ x.f2.f0.length c2_)) ⟨gb, 3, none⟩ (.slice A3_ x.f3.f0.f0.length c3_)) ⟨gb, 4, none⟩ (.slice A4_ x.f3.f1.f0.length c4_)).heap[gb]? = some (.cells #[.int .u16 x.f0, .int .u16 x.f1, .slice A2_ x.f2.f0.length c2_, .slice A3_ x.f3.f0.f0.length c3_, .slice A4_ x.f3.f1.f0.length c4_] 167 (0, 0))) := ⟨BX4⟩
        clear HB BR BI HN HF BX BX0 BX1 BX2 BX3 BX4 hx0_ hxf0_ hx1_ hxf1_ hx2_ hxf2_ hx3_ hxf3_ hx4_ hxf4_
        generalize (World.setCell (World.setCell (World.setCell (World.setCell (World.setCell w2 ⟨gb, 0, none⟩ (.int .u16 x.f0)) ⟨gb, 1, none⟩ (.int .u16 x.f1)) ⟨gb, 2, none⟩ (.slice A2_ x.f2.f0.length c2_)) ⟨gb, 3, none⟩ (.slice A3_ x.f3.f0.f0.length c3_)) ⟨gb, 4, none⟩ (.slice A4_ x.f3.f1.f0.length c4_)) = w3 at n0_ n1_ n2_ n3_ n4_ n5_ ⊢
        have HB := n0_
        have BR := n1_
        have BI := n2_
        have HN := n3_
        have HF := n4_
        have BX := n5_
        clear n0_ n1_ n2_ n3_ n4_ n5_
        have hx0_ : w3.cell? ⟨gb, 0, none⟩ = some (.int .u16 x.f0) := (blk_cell BX.out 0).trans rfl
        have hx1_ : w3.cell? ⟨gb, 1, none⟩ = some (.int .u16 x.f1) := (blk_cell BX.out 1).trans rfl
        have hx2_ : w3.cell? ⟨gb, 2, none⟩ = some (.slice A2_ x.f2.f0.length c2_) := (blk_cell BX.out 2).trans rfl
        have hx3_ : w3.cell? ⟨gb, 3, none⟩ = some (.slice A3_ x.f3.f0.f0.length c3_) := (blk_cell BX.out 3).trans rfl
        have hx4_ : w3.cell? ⟨gb, 4, none⟩ = some (.slice A4_ x.f3.f1.f0.length c4_) := (blk_cell BX.out 4).trans rfl
        have hi2_ : w3.cell? ⟨gi, 2, none⟩ = some (.slice Ah acc.length ch) := (blk_cell BI.out 2).trans rfl
        go_wp2_with (((with_reducible refine gate_builtin (b := .append) (xs := #[.tmp 75, .tmp 77]) rfl ?_); at_builtin; refine Kd.N_append k167 (w0 := w) w.heap.size rfl (.tmp 75) (.tmp 77) 157 167 (.agg #[.int .u16 0, .int .u16 0, .slice none 0 0, .slice none 0 0, .slice none 0 0]) 80 rfl Try.underlying157 info167 rfl (by decide) (by omega) (.slice Ah acc.length ch) acc x [.int .u16 x.f0, .int .u16 x.f1, .slice A2_ x.f2.f0.length c2_, .slice A3_ x.f3.f0.f0.length c3_, .slice A4_ x.f3.f1.f0.length c4_] (fun k_ => w.heap.size ≤ k_ ∧ k_ ≠ gi ∧ k_ ≠ gr) (fun k_ => wr.heap.size ≤ k_) rfl rfl HF.out ?aK ?aF HN.out HB.out (below_size HB.out) ?aL ?_; (case aK => exact (fun k_ hk => ⟨⟨Nat.le_trans LTW.out hk, Ne.symm (Nat.ne_of_lt (Nat.lt_of_lt_of_le LTI.out hk)), Ne.symm (Nat.ne_of_lt (Nat.lt_of_lt_of_le LTR.out hk))⟩, Kd.fresh' LTN.out k_ hk⟩)); (case aF => exact (fun k_ hk => ⟨Nat.le_trans (below_size HB.out) hk, Ne.symm (Nat.ne_of_lt (Nat.lt_of_lt_of_le (blk_lt BI.out) hk)), Ne.symm (Nat.ne_of_lt (Nat.lt_of_lt_of_le (blk_lt BR.out) hk))⟩)); (case aL => have := HAL.out; omega); intro v1_ w4 ho hb hg hat; rw [← HY.out] at ho; obtain ⟨Ah2, ch2, rfl⟩ := Kd.N_slice ho; have n1_ := Aside0.mk (blk_grown BR.out hg (Kd.N_ne HN.out BR.out (by decide))); have n2_ := Aside0.mk (blk_grown BI.out hg (Kd.N_ne HN.out BI.out (by decide))); have n3_ := Aside0.mk ho; have n0_ := Aside0.mk hb; clear HB BR BI HN ho hb hg hat; have HB := n0_; have BR := n1_; have BI := n2_; have HN := n3_; clear n0_ n1_ n2_ n3_; have hj2_ : w4.cell? ⟨gi, 2, none⟩ = some (.slice Ah acc.length ch) := (blk_cell BI.out 2).trans rfl; have hjf_ := blk_frozen BI.out 2))
        go_roundg k2
        case measure => have := HK2.out; omega
        case rel => exact ⟨off1 + rt, i1 + 1, y, Ah2, ch2, rfl, rfl, H', ⟨by have := HK2.out; omega⟩, ⟨Kd.N_far (p := ⟨gi, 2, none⟩) HN.out (fun _ hk => hk.2.1) _⟩, ⟨blk_far BR.out (p := ⟨gi, 2, none⟩) NRI.out _⟩, ⟨blk_put BI.out 2 _ rfl⟩, ⟨below_set HB.out GI.out⟩⟩
      · rw [if_neg hlt] at H
        have hltb : decide (i1 < m) = false := decide_eq_false hlt
        clear hlt
        simp only [Option.some.injEq, Prod.mk.injEq] at H
        obtain ⟨rfl, rfl⟩ := H
        have hz0 : wr.cell? ⟨gi, 0, none⟩ = some (.int .u16 t0) := (blk_cell BI.out 0).trans rfl
        have hy0 : wr.cell? ⟨gr, 0, none⟩ = some (.int .u16 0) := (blk_cell BR.out 0).trans rfl
        have hf0 := blk_frozen BR.out 0
        have hz1 : wr.cell? ⟨gi, 1, none⟩ = some (.slice D2 d2.length cd2) := (blk_cell BI.out 1).trans rfl
        have hy1 : wr.cell? ⟨gr, 1, none⟩ = some (.slice none 0 0) := (blk_cell BR.out 1).trans rfl
        have hf1 := blk_frozen BR.out 1
        have hz2 : wr.cell? ⟨gi, 2, none⟩ = some (.slice Ah acc.length ch) := (blk_cell BI.out 2).trans rfl
        have hy2 : wr.cell? ⟨gr, 2, none⟩ = some (.slice none 0 0) := (blk_cell BR.out 2).trans rfl
        have hf2 := blk_frozen BR.out 2
        go_wp2
        have BR0 := blk_put (cs' := #[.int .u16 t0, .slice none 0 0, .slice none 0 0]) BR.out 0 (.int .u16 t0) rfl
        have BR1 := blk_put (cs' := #[.int .u16 t0, .slice D2 d2.length cd2, .slice none 0 0]) BR0 1 (.slice D2 d2.length cd2) rfl
        have BR2 := blk_put (cs' := #[.int .u16 t0, .slice D2 d2.length cd2, .slice Ah acc.length ch]) BR1 2 (.slice Ah acc.length ch) rfl
        have HNf := Kd.N_mono (ok' := fun k_ => w.heap.size ≤ k_) (Kd.N_far (p := ⟨gr, 2, none⟩) (Kd.N_far (p := ⟨gr, 1, none⟩) (Kd.N_far (p := ⟨gr, 0, none⟩) HN.out (fun _ hk => hk.2.2) (.int .u16 t0)) (fun _ hk => hk.2.2) (.slice D2 d2.length cd2)) (fun _ hk => hk.2.2) (.slice Ah acc.length ch)) (fun _ hk => hk.1)
        have HBf := (below_set (j := 2) (v := .slice Ah acc.length ch) (below_set (j := 1) (v := .slice D2 d2.length cd2) (below_set (j := 0) (v := .int .u16 t0) HB.out GR.out) GR.out) GR.out)
        refine bodyPost_ret (results_ctt rfl _ _ gr 159 #[.int .u16 t0, .slice D2 d2.length cd2, .slice Ah acc.length ch] (0, 0) _ rfl BR2 Try.underlying159 rfl z13_0) rfl ?_
        exact ⟨_, _, _, _, rfl, HD2.out, HDC2.out, HNf, HBf⟩

set_option maxHeartbeats 2000000 in
set_option maxRecDepth 100000 in
theorem priv78 (g : Nat) (ti : Int) (w : World) (hc : w.cell? ⟨g, 1, none⟩ = some (.int .u16 ti)) :
    Calls Try.prog 78 #[.pointer (some ⟨g, 0, none⟩)] w fun e w' => e = .returned (.bool (Go.bits .and .u16 ti 8192 != 0)) ∧ w = w' := by
  have hu167 := Try.underlying167
  go_enter Try.func78, Try.ntmps78
  go_wp2
  go_ret
  exact ⟨rfl, rfl⟩
set_option maxHeartbeats 2000000 in
set_option maxRecDepth 100000 in
theorem pn77nil (P0_ : Nat → Prop) (A0 : Option Addr) (c0 : Nat) (l0 : List Int) (w : World) (hs0 : Kd.V (Kd.int .u8) 5 w w.heap.size (fun k_ => P0_ k_) (.slice A0 l0.length c0) l0) (h0 : 0 < l0.length) (hz : rd l0 0 = 0) :
    Calls Try.prog 77 #[.slice A0 l0.length c0] w fun e w' => ∃ v1_ : Value, e = .returned (.tuple #[.slice none 0 0, v1_, .nilIface]) ∧ Kd.V (Kd.int .u8) 5 w' w.heap.size (fun k_ => P0_ k_ ∨ w.heap.size ≤ k_) v1_ (l0.drop 1) ∧ Below w.heap.size w w' := by
  have hf : gPC.f l0 = some (0, l0.drop 1, none) := by
    unfold gPC.f
    rw [if_neg (by omega), if_pos (by omega), if_pos hz, if_pos (by omega)]
  obtain ⟨d, hd⟩ : ∃ d : List Int, d = l0.drop 1 := ⟨_, rfl⟩
  rw [← hd] at hf ⊢
  have HS := Aside0.mk hs0
  have HF := Aside0.mk hf
  clear hs0 hf h0 hz hd
  go_enter Try.func77, Try.ntmps77
  go_wp2_with (go_at_call 91; (with_reducible refine (gPC.calls P0_ A0 c0 l0 0 d none w HS.out HF.out).mono ?_); rintro e w1 ⟨v1, e2, rfl, z0, z1, z2⟩; obtain rfl := EV_none z1; have Z0 := Aside0.mk z0; have Z2 := Aside0.mk z2; clear z0 z1 z2)
  go_ret3
  exact ⟨_, rfl, Z0.out, Z2.out⟩
/-- parsePointNumbers, where it succeeds: none (nil), or some. -/
def pn77.f (k : Nat) (d : List Int) : Option (List Int × List Int) := if 0 < d.length ∧ rd d 0 = 0 then some ([], d.drop 1) else (fPN.f k d).bind fun p => if p.2.2 = none ∧ p.1 ≠ [] then some (p.1, p.2.1) else none
theorem pn77.mono : ∀ a0 k, LeO (pn77.f k a0) (pn77.f (k + 1) a0) := by
  intro a0 k
  unfold pn77.f
  exact LeO.ite (LeO.refl _) (LeO.bind (fPN.mono _ _) fun p => LeO.refl _)
def PnPost (P0_ : Nat → Prop) (r1 r2 : List Int) (w : World) (e : Ending) (w' : World) : Prop := ∃ (A1 : Option Addr) (c1 : Nat) (A2 : Option Addr) (c2 : Nat), e = .returned (.tuple #[.slice A1 r1.length c1, .slice A2 r2.length c2, .nilIface]) ∧ Kd.V (Kd.int .u16) 35 w' 0 (fun k_ => w.heap.size ≤ k_) (.slice A1 r1.length c1) r1 ∧ ((r1 = [] ∧ A1 = none ∧ c1 = 0) ∨ (r1 ≠ [] ∧ ∃ ad, A1 = some ad)) ∧ Kd.V (Kd.int .u8) 5 w' 0 (fun k_ => P0_ k_ ∨ w.heap.size ≤ k_) (.slice A2 r2.length c2) r2 ∧ Below w.heap.size w w'
theorem pn77.calls (k : Nat) (P0_ : Nat → Prop) (A0 : Option Addr) (c0 : Nat) (l0 : List Int) (r1 r2 : List Int) (w : World) (hs0 : Kd.V (Kd.int .u8) 5 w 0 (fun k_ => P0_ k_) (.slice A0 l0.length c0) l0) (h : pn77.f k l0 = some (r1, r2)) :
    Calls Try.prog 77 #[.slice A0 l0.length c0] w (PnPost P0_ r1 r2 w) := by
  unfold pn77.f at h
  by_cases hz : 0 < l0.length ∧ rd l0 0 = 0
  · rw [if_pos hz] at h
    simp only [Option.some.injEq, Prod.mk.injEq] at h
    obtain ⟨rfl, rfl⟩ := h
    refine (pn77nil P0_ A0 c0 l0 w hs0 hz.1 hz.2).mono ?_
    rintro e w' ⟨v1, rfl, z0, z1⟩
    obtain ⟨A2, c2, rfl⟩ := Kd.V_slice z0
    exact ⟨none, 0, A2, c2, rfl, Kd.V_nil _ _ _ _ _, .inl ⟨rfl, rfl, rfl⟩, z0, z1⟩
  · rw [if_neg hz] at h
    obtain ⟨⟨q1, q2, q3⟩, hq, h⟩ := Option.bind_eq_some_iff.mp h
    dsimp only at h
    by_cases hc : q3 = none ∧ q1 ≠ []
    case neg => rw [if_neg hc] at h; cases h
    rw [if_pos hc] at h
    obtain ⟨rfl, hc1⟩ := hc
    simp only [Option.some.injEq, Prod.mk.injEq] at h
    obtain ⟨rfl, rfl⟩ := h
    refine (fPN.calls k P0_ A0 c0 l0 q1 q2 none w hs0 hq).mono ?_
    rintro e w' ⟨v0, v1, e2, rfl, z0, z1, z2, z3⟩
    obtain rfl := EV_none z2
    obtain ⟨A1, c1, rfl⟩ := Kd.R_slice z0
    obtain ⟨A2, c2, rfl⟩ := Kd.V_slice z1
    have hV : Kd.V (Kd.int .u16) 35 w' 0 (fun k_ => w.heap.size ≤ k_) (.slice A1 q1.length c1) q1 := Kd.R_V z0
    refine ⟨A1, c1, A2, c2, rfl, hV, .inr ⟨hc1, ?_⟩, Kd.V_mono z1 (fun _ hk => hk.1), z3⟩
    have hl : 0 < q1.length := List.length_pos_iff.mpr hc1
    obtain ⟨ad, _, rfl, _⟩ := Kd.F_get (Kd.V_at hV).2.2 (0 : Int) 0 (by omega) (by omega)
    exact ⟨ad, rfl⟩
theorem info169 : (Try.prog.info? 169).map (fun i => (i.zero, i.size, i.bytes)) = some (some (.agg #[.int .u16 0, .int .u16 0, .slice none 0 0, .slice none 0 0, .slice none 0 0, .slice none 0 0, .slice none 0 0]), 7, 128) := by kernel_rfl
def ser61.l0 : Nat → Int → List Int → Int → List Int → List S169 → Option (List S169)
 | 0, _, _, _, _, _ => none
 | k + 1, ca, sh, i, d, out => if i < (out.length : Int) then
     (if 0 ≤ i ∧ 0 ≤ (rd_T169 out i).f0.f0 ∧ (rd_T169 out i).f0.f0 ≤ d.length then
       ((if (Go.bits .and .u16 (rd_T169 out i).f0.f1 8192 != 0) = true then pn77.f k d else some (sh, d)).bind fun p =>
        (fUD.f k p.2 (wrap64 ((if p.1 = [] then ca else (p.1.length : Int)) * 2))).bind fun q =>
          if q.2 = none then ser61.l0 k ca sh (i + 1) (d.drop (rd_T169 out i).f0.f0.toNat) (out.set i.toNat ⟨(rd_T169 out i).f0, p.1, q.1⟩) else none)
      else none)
   else some out
theorem ser61.mono_l : ∀ k y0 y1 y2 y3 y4, LeO (ser61.l0 k y0 y1 y2 y3 y4) (ser61.l0 (k + 1) y0 y1 y2 y3 y4)
 | 0, _, _, _, _, _ => fun r h => by simp [ser61.l0] at h
 | k + 1, y0, y1, y2, y3, y4 => by
  rw [ser61.l0, ser61.l0]
  exact LeO.ite (LeO.ite (LeO.bind (LeO.ite (pn77.mono _ _) (LeO.refl _)) fun p => LeO.bind (fUD.mono _ _ _) fun q => LeO.ite (ser61.mono_l k _ _ _ _ _) (LeO.none _)) (LeO.none _)) (LeO.refl _)
/-- parseGlyphVariationSerializedData, where it succeeds. -/
def ser61.f (k : Nat) (d : List Int) (hs : Bool) (ca : Int) (out : List S169) : Option (List S169) := (if hs = true then pn77.f k d else some ([], d)).bind fun p => ser61.l0 k ca p.1 0 p.2 out
theorem ser61.mono : ∀ a0 a1 a2 a3 k, LeO (ser61.f k a0 a1 a2 a3) (ser61.f (k + 1) a0 a1 a2 a3) := by
  intro a0 a1 a2 a3 k
  unfold ser61.f
  exact LeO.bind (LeO.ite (pn77.mono _ _) (LeO.refl _)) fun p => ser61.mono_l _ _ _ _ _ _
def NilIff (l : List Int) (A : Option Addr) (c : Nat) : Prop := (l = [] ∧ A = none ∧ c = 0) ∨ (l ≠ [] ∧ ∃ ad, A = some ad)
theorem getD_set_same {α : Type} (xs : List α) (n : Nat) (a z : α) (h : n < xs.length) : (xs.set n a).getD n z = a := by rw [List.getD_eq_getElem?_getD, List.getElem?_set_self h]; rfl
set_option maxHeartbeats 8000000 in
set_option maxRecDepth 100000 in
theorem ser61.calls (k : Nat) (A0 : Option Addr) (c0 : Nat) (d : List Int) (hs : Bool) (ca : Int) (g cap : Nat) (out out' : List S169) (w0 w : World) (hB : Below w0.heap.size w0 w) (hd : Kd.V (Kd.int .u8) 5 w 0 (fun k_ => k_ ≠ g) (.slice A0 d.length c0) d) (hN : Kd.N k169 169 w w0.heap.size (fun k_ => w0.heap.size ≤ k_) (.slice (some ⟨g, 0, none⟩) out.length cap) out) (h : ser61.f k d hs ca out = some out') :
    Calls Try.prog 61 #[.slice A0 d.length c0, .bool hs, .int .i64 ca, .bool false, (.slice (some ⟨g, 0, none⟩) out.length cap)] w fun e w' => e = .returned .nilIface ∧ Kd.N k169 169 w' w0.heap.size (fun k_ => w0.heap.size ≤ k_) (.slice (some ⟨g, 0, none⟩) out.length cap) out' ∧ Below w0.heap.size w0 w' := by
  have hu162 := Try.underlying162
  have hu164 := Try.underlying164
  have hu165 := Try.underlying165
  have hu167 := Try.underlying167
  have hu169 := Try.underlying169
  have HB := Aside0.mk hB
  have HD := Aside0.mk hd
  have HN := Aside0.mk hN
  have HG0 : Aside0 (w0.heap.size ≤ g) := ⟨hN.1 g rfl⟩
  have HGL : Aside0 (g < w.heap.size) := ⟨Kd.N_lt hN g rfl⟩
  have HX := Aside0.mk h
  clear hB hd hN h
  go_enter Try.func61, Try.ntmps61
  go_upto_if 18 with (fail)
  go_cut [0, 11] (fun v0 v11 wc => ∃ (d1 sh : List Int) (A1 : Option Addr) (c1 : Nat) (A2 : Option Addr) (c2 : Nat), v0 = .slice A1 d1.length c1 ∧ v11 = .slice A2 sh.length c2 ∧ Aside0 (ser61.l0 k ca sh 0 d1 out = some out') ∧ Aside0 (Kd.V (Kd.int .u8) 5 wc 0 (fun k_ => k_ ≠ g) (.slice A1 d1.length c1) d1) ∧ Aside0 (Kd.V (Kd.int .u16) 35 wc 0 (fun k_ => k_ ≠ g ∧ w0.heap.size ≤ k_) (.slice A2 sh.length c2) sh) ∧ Aside0 (NilIff sh A2 c2) ∧ Aside0 (Kd.N k169 169 wc w0.heap.size (fun k_ => w0.heap.size ≤ k_) (.slice (some ⟨g, 0, none⟩) out.length cap) out) ∧ Aside0 (Below w0.heap.size w0 wc))
  case first =>
    have h := HX.out
    clear HX
    unfold ser61.f at h
    cases hs with
    | true =>
      rw [if_pos rfl] at h
      replace h := Option.bind_eq_some_iff.mp h
      obtain ⟨⟨sh, d1⟩, hp, h⟩ := h
      have HP := Aside0.mk hp
      have H' := Aside0.mk h
      clear hp h
      go_wp2_with (go_at_call 77; (with_reducible refine (pn77.calls k (fun k_ => k_ ≠ g) A0 c0 d sh d1 w HD.out HP.out).mono ?_); rintro e w1 ⟨A1_, c1_, A2_, c2_, rfl, z0, z1, z2, z3⟩; have Z0 := Aside0.mk (Kd.V_mono (ok' := (fun k_ => k_ ≠ g ∧ w0.heap.size ≤ k_)) z0 (fun k_ hk => ⟨Ne.symm (Nat.ne_of_lt (Nat.lt_of_lt_of_le HGL.out hk)), Nat.le_trans HB.out.size hk⟩)); have Z1 : Aside0 (NilIff sh A1_ c1_) := ⟨z1⟩; have Z2 := Aside0.mk (Kd.V_mono (ok' := (fun k_ => k_ ≠ g)) z2 (fun k_ hk => hk.elim id (fun hk => Ne.symm (Nat.ne_of_lt (Nat.lt_of_lt_of_le HGL.out hk))))); have n0_ := Aside0.mk (Kd.N_below HN.out z3); have n1_ := Aside0.mk (below_step HB.out z3); clear HN HB z0 z1 z2 z3; have HN := n0_; have HB := n1_; clear n0_ n1_)
      go_meet
      exact ⟨d1, sh, _, _, _, _, rfl, rfl, H', Z2, Z0, Z1, HN, HB⟩
    | false =>
      rw [if_neg (by decide)] at h
      have H' := Aside0.mk (show ser61.l0 k ca [] 0 d out = some out' from h)
      clear h
      go_wp2
      go_meet
      exact ⟨d, [], _, _, none, 0, rfl, rfl, H', HD, ⟨Kd.V_nil _ _ _ _ _⟩, ⟨.inl ⟨rfl, rfl, rfl⟩⟩, HN, HB⟩
  case rest =>
    clear HD HN HB HX
    obtain ⟨d1, sh, A1, c1, As, cs, rfl, rfl, AL, HD, HS, HNI, HN, HB⟩ := hcut
    go_wp2
    go_loopg [0, 30] k (fun kq v0 v30 w' => ∃ (d2 : List Int) (i : Int) (out1 : List S169) (A2 : Option Addr) (c2 : Nat), v0 = .slice A2 d2.length c2 ∧ v30 = .int .i64 i ∧ Aside0 (ser61.l0 kq ca sh i d2 out1 = some out') ∧ Aside0 (kq ≤ k) ∧ Aside0 (Kd.V (Kd.int .u8) 5 w' 0 (fun k_ => k_ ≠ g) (.slice A2 d2.length c2) d2) ∧ Aside0 (Kd.V (Kd.int .u16) 35 w' 0 (fun k_ => k_ ≠ g ∧ w0.heap.size ≤ k_) (.slice As sh.length cs) sh) ∧ Aside0 (Kd.N k169 169 w' w0.heap.size (fun k_ => w0.heap.size ≤ k_) (.slice (some ⟨g, 0, none⟩) out.length cap) out1) ∧ Aside0 (Below w0.heap.size w0 w'))
    case atStart => exact ⟨d1, 0, out, A1, c1, rfl, rfl, AL, ⟨Nat.le_refl _⟩, HD, HS, HN, HB⟩
    case round =>
      clear AL HD HS HN HB
      obtain ⟨d2, i, out1, A2, c2, rfl, rfl, HA, HK2, HD, HS, HN, HB⟩ := hrel
      cases gk with
      | zero => exact absurd HA.out (by simp [ser61.l0])
      | succ k2 =>
        have H := HA.out
        clear HA
        rw [ser61.l0] at H
        have hlen : out.length = out1.length := (Kd.N_reads' HN.out).1
        have HLT : Aside0 (g < wr.heap.size) := ⟨Kd.N_lt HN.out g rfl⟩
        by_cases hlt : i < (out1.length : Int)
        · rw [if_pos hlt] at H
          have hltb : decide (i < (out.length : Int)) = true := decide_eq_true (by rw [hlen]; exact hlt)
          by_cases hc : 0 ≤ i ∧ 0 ≤ (rd_T169 out1 i).f0.f0 ∧ (rd_T169 out1 i).f0.f0 ≤ d2.length
          case neg => rw [if_neg hc] at H; cases H
          rw [if_pos hc] at H
          obtain ⟨hi0, hs0, hs1⟩ := hc
          have hil : i < (out.length : Int) := by rw [hlen]; exact hlt
          obtain ⟨x, hx⟩ : ∃ x : S169, x = rd_T169 out1 i := ⟨_, rfl⟩
          rw [← hx] at H hs0 hs1
          have HXX := Aside0.mk hx
          clear hx
          obtain ⟨cc_, hcl, hFK, hcc, hfr⟩ := Kd.N_elem HN.out z169 i hi0 hil
          have hFK2 : Kd.FK k169 wr (fun k => w0.heap.size ≤ k ∧ k ≠ g) x cc_ := by rw [HXX.out]; exact hFK
          obtain ⟨B2, b2, B3, b3, B4, b4, B5, b5, B6, b6, rfl, l2, f2, l3, f3, l4, f4, l5, f5, l6, f6⟩ := k169_openF hFK2
          have hx0 : wr.cell? ⟨g, i.toNat * 7, none⟩ = some (.int .u16 x.f0.f0) := hcc 0 _ rfl
          have hx1 : wr.cell? ⟨g, i.toNat * 7 + 1, none⟩ = some (.int .u16 x.f0.f1) := hcc 1 _ rfl
          have hx2 : wr.cell? ⟨g, i.toNat * 7 + 2, none⟩ = some (.slice B2 x.f0.f2.f0.length b2) := hcc 2 _ rfl
          have hx3 : wr.cell? ⟨g, i.toNat * 7 + 3, none⟩ = some (.slice B3 x.f0.f3.f0.f0.length b3) := hcc 3 _ rfl
          have hx4 : wr.cell? ⟨g, i.toNat * 7 + 4, none⟩ = some (.slice B4 x.f0.f3.f1.f0.length b4) := hcc 4 _ rfl
          have hx5 : wr.cell? ⟨g, i.toNat * 7 + 5, none⟩ = some (.slice B5 x.f1.length b5) := hcc 5 _ rfl
          have hx6 : wr.cell? ⟨g, i.toNat * 7 + 6, none⟩ = some (.slice B6 x.f2.length b6) := hcc 6 _ rfl
          have p1 := eq_true hi0
          have p2 := eq_true hil
          have HHX := Aside0.mk H
          clear H hcc hfr hFK hFK2 hcl l2 f2 l3 f3 l4 f4 l5 f5 l6 f6 hlen hlt
          go_upto_region 10 with (fail)
          have n0_ : Aside0 (Below w0.heap.size w0 (wr.alloc (.cells #[.int .u16 x.f0.f0, .int .u16 x.f0.f1, .slice B2 x.f0.f2.f0.length b2, .slice B3 x.f0.f3.f0.f0.length b3, .slice B4 x.f0.f3.f1.f0.length b4, .slice B5 x.f1.length b5, .slice B6 x.f2.length b6] 169))) := ⟨below_alloc HB.out _⟩
          have n1_ := Aside0.mk (Kd.N_alloc HN.out (.cells #[.int .u16 x.f0.f0, .int .u16 x.f0.f1, .slice B2 x.f0.f2.f0.length b2, .slice B3 x.f0.f3.f0.f0.length b3, .slice B4 x.f0.f3.f1.f0.length b4, .slice B5 x.f1.length b5, .slice B6 x.f2.length b6] 169))
          have n2_ := Aside0.mk (Kd.V_alloc HD.out (.cells #[.int .u16 x.f0.f0, .int .u16 x.f0.f1, .slice B2 x.f0.f2.f0.length b2, .slice B3 x.f0.f3.f0.f0.length b3, .slice B4 x.f0.f3.f1.f0.length b4, .slice B5 x.f1.length b5, .slice B6 x.f2.length b6] 169))
          have n3_ := Aside0.mk (Kd.V_alloc HS.out (.cells #[.int .u16 x.f0.f0, .int .u16 x.f0.f1, .slice B2 x.f0.f2.f0.length b2, .slice B3 x.f0.f3.f0.f0.length b3, .slice B4 x.f0.f3.f1.f0.length b4, .slice B5 x.f1.length b5, .slice B6 x.f2.length b6] 169))
          have BX := Aside0.mk (blk_new wr (.cells #[.int .u16 x.f0.f0, .int .u16 x.f0.f1, .slice B2 x.f0.f2.f0.length b2, .slice B3 x.f0.f3.f0.f0.length b3, .slice B4 x.f0.f3.f1.f0.length b4, .slice B5 x.f1.length b5, .slice B6 x.f2.length b6] 169))
          have hb0_ : (wr.alloc (.cells #[.int .u16 x.f0.f0, .int .u16 x.f0.f1, .slice B2 x.f0.f2.f0.length b2, .slice B3 x.f0.f3.f0.f0.length b3, .slice B4 x.f0.f3.f1.f0.length b4, .slice B5 x.f1.length b5, .slice B6 x.f2.length b6] 169)).cell? ⟨wr.heap.size, 0, none⟩ = some (.int .u16 x.f0.f0) := (blk_cell BX.out 0).trans rfl
          have hb1_ : (wr.alloc (.cells #[.int .u16 x.f0.f0, .int .u16 x.f0.f1, .slice B2 x.f0.f2.f0.length b2, .slice B3 x.f0.f3.f0.f0.length b3, .slice B4 x.f0.f3.f1.f0.length b4, .slice B5 x.f1.length b5, .slice B6 x.f2.length b6] 169)).cell? ⟨wr.heap.size, 1, none⟩ = some (.int .u16 x.f0.f1) := (blk_cell BX.out 1).trans rfl
          have HLG : Aside0 (g < (wr.alloc (.cells #[.int .u16 x.f0.f0, .int .u16 x.f0.f1, .slice B2 x.f0.f2.f0.length b2, .slice B3 x.f0.f3.f0.f0.length b3, .slice B4 x.f0.f3.f1.f0.length b4, .slice B5 x.f1.length b5, .slice B6 x.f2.length b6] 169)).heap.size) := ⟨Kd.N_lt n1_.out g rfl⟩
          clear HB HN HD HS BX hx0 hx1 hx2 hx3 hx4 hx5 hx6 HLT
          generalize (wr.alloc (.cells #[.int .u16 x.f0.f0, .int .u16 x.f0.f1, .slice B2 x.f0.f2.f0.length b2, .slice B3 x.f0.f3.f0.f0.length b3, .slice B4 x.f0.f3.f1.f0.length b4, .slice B5 x.f1.length b5, .slice B6 x.f2.length b6] 169)) = w2 at n0_ n1_ n2_ n3_ hb0_ hb1_ HLG ⊢
          generalize wr.heap.size = gb at hb0_ hb1_ ⊢
          have HB := n0_
          have HN := n1_
          have HD := n2_
          have HS := n3_
          clear n0_ n1_ n2_ n3_
          have hmx : d2.length ≤ 9223372036854775807 := (Kd.F_max (Kd.V_at HD.out).2.2)
          have hlt2 : decide ((d2.length : Int) < x.f0.f0) = false := decide_eq_false (by omega)
          obtain ⟨i0_, hi0_, _, hsz_, _⟩ := info_parts info5
          obtain ⟨D0, hcut0, hD0, hDc0⟩ := print_drop_of (P := Try.prog) (Value.int .u8) 0 22 5 .u16 Try.underlying22 hi0_ hsz_ A2 c2 d2 x.f0.f0 hs0 hs1 (Kd.V_at HD.out).2.1
          have HDN : Aside0 (Kd.V (Kd.int .u8) 5 w2 0 (fun k_ => k_ ≠ g) (.slice D0 (d2.drop x.f0.f0.toNat).length (c2 - x.f0.f0.toNat)) (d2.drop x.f0.f0.toNat)) := ⟨Kd.V_mk hDc0 (Kd.F_imp (Kd.V_at HD.out).2.2 (fun W' hC => Kd.C_of_reads (h1 := fun _ => rfl) (hD0 _ (Kd.reads_of_C hC))))⟩
          clear hD0 hDc0 hi0_ hsz_
          obtain ⟨dn, hdn_⟩ : ∃ l : List Int, l = d2.drop x.f0.f0.toNat := ⟨_, rfl⟩
          rw [← hdn_] at hcut0 HDN HHX
          clear hdn_
          obtain ⟨cn, hcn⟩ : ∃ n : Nat, n = c2 - x.f0.f0.toNat := ⟨_, rfl⟩
          rw [← hcn] at hcut0 HDN
          clear hcn
          go_upto_if 50 with (go_at_call 78; refine (priv78 gb x.f0.f1 _ hb1_).mono ?_; rintro e w' ⟨rfl, rfl⟩)
          go_cut [0, 16] (fun v0 v16 wc => ∃ (d3 pts : List Int) (A3 : Option Addr) (c3 : Nat) (A4 : Option Addr) (c4 : Nat), v0 = .slice A3 d3.length c3 ∧ v16 = .slice A4 pts.length c4 ∧ Aside0 (((fUD.f k2 d3 (wrap64 ((if pts = [] then ca else (pts.length : Int)) * 2))).bind fun q => if q.2 = none then ser61.l0 k2 ca sh (i + 1) dn (out1.set i.toNat ⟨x.f0, pts, q.1⟩) else none) = some out') ∧ Aside0 (Kd.V (Kd.int .u8) 5 wc 0 (fun k_ => k_ ≠ g) (.slice A3 d3.length c3) d3) ∧ Aside0 (Kd.V (Kd.int .u16) 35 wc 0 (fun k_ => k_ ≠ g ∧ w0.heap.size ≤ k_) (.slice A4 pts.length c4) pts) ∧ Aside0 (NilIff pts A4 c4) ∧ Aside0 (Kd.V (Kd.int .u8) 5 wc 0 (fun k_ => k_ ≠ g) (.slice D0 dn.length cn) dn) ∧ Aside0 (Kd.V (Kd.int .u16) 35 wc 0 (fun k_ => k_ ≠ g ∧ w0.heap.size ≤ k_) (.slice As sh.length cs) sh) ∧ Aside0 (Kd.N k169 169 wc w0.heap.size (fun k_ => w0.heap.size ≤ k_) (.slice (some ⟨g, 0, none⟩) out.length cap) out1) ∧ Aside0 (Below w0.heap.size w0 wc))
          case first =>
            have H := HHX.out
            clear HHX
            by_cases hpb : (Go.bits .and .u16 x.f0.f1 8192 != 0) = true
            · rw [if_pos hpb] at H
              replace H := Option.bind_eq_some_iff.mp H
              obtain ⟨⟨pts, d3⟩, hp, H⟩ := H
              have HP := Aside0.mk hp
              have H' := Aside0.mk H
              clear hp H
              go_wp2_with (go_at_call 77; (with_reducible refine (pn77.calls k2 (fun k_ => k_ ≠ g) A2 c2 d2 pts d3 _ HD.out HP.out).mono ?_); rintro e w3 ⟨A3_, c3_, A4_, c4_, rfl, z0, z1, z2, z3⟩; have Z0 := Aside0.mk (Kd.V_mono (ok' := fun k_ => k_ ≠ g ∧ w0.heap.size ≤ k_) z0 (fun k_ hk => ⟨Ne.symm (Nat.ne_of_lt (Nat.lt_of_lt_of_le HLG.out hk)), Nat.le_trans HB.out.size hk⟩)); have Z1 : Aside0 (NilIff pts A3_ c3_) := ⟨z1⟩; have Z2 := Aside0.mk (Kd.V_mono (ok' := fun k_ => k_ ≠ g) z2 (fun k_ hk => hk.elim id (fun hk => Ne.symm (Nat.ne_of_lt (Nat.lt_of_lt_of_le HLG.out hk))))); have n0_ := Aside0.mk (Kd.N_below HN.out z3); have n1_ := Aside0.mk (below_step HB.out z3); have n2_ := Aside0.mk (Kd.V_below HDN.out z3); have n3_ := Aside0.mk (Kd.V_below HS.out z3); clear HN HB HDN HS z0 z1 z2 z3; have HN := n0_; have HB := n1_; have HDN := n2_; have HS := n3_; clear n0_ n1_ n2_ n3_)
              go_meet
              exact ⟨d3, pts, _, _, _, _, rfl, rfl, H', Z2, Z0, Z1, HDN, HS, HN, HB⟩
            · rw [if_neg hpb] at H
              have hpb2 : (Go.bits .and .u16 x.f0.f1 8192 != 0) = false := by simpa using hpb
              clear hpb
              have H' := Aside0.mk (show ((fUD.f k2 d2 (wrap64 ((if sh = [] then ca else (sh.length : Int)) * 2))).bind fun q => if q.2 = none then ser61.l0 k2 ca sh (i + 1) dn (out1.set i.toNat ⟨x.f0, sh, q.1⟩) else none) = some out' from H)
              clear H
              go_wp2
              go_meet
              exact ⟨d2, sh, _, _, _, _, rfl, rfl, H', HD, HS, HNI, HDN, HS, HN, HB⟩
          case rest =>
            clear HHX HD HDN HS HN HB hb0_ hb1_ HLG hcut0
            obtain ⟨d3, pts, A3, c3, A4, c4, rfl, rfl, HHX, HD, HPT, HNP, HDN, HS, HN, HB⟩ := hcut
            have H := HHX.out
            clear HHX
            have hnil_ : ∀ (A_ : Option Addr) (n_ c_ : Nat) (W_ : World), (binOp .neq 34 (.slice A_ n_ c_) (.slice none 0 0)).run Try.prog W_ = .ok (.bool (!A_.isNone)) W_ := fun A_ n_ c_ W_ => Go.run_neq_slice_nil W_ 34 35 A_ n_ c_ Try.underlying34
            rcases HNP.out with ⟨rfl, rfl, rfl⟩ | ⟨hne, ad, rfl⟩
            · rw [if_pos rfl] at H
              clear HNP
              replace H := Option.bind_eq_some_iff.mp H
              obtain ⟨⟨q1, q2⟩, aq, H⟩ := H
              dsimp only at H
              by_cases hq : q2 = none
              case neg => rw [if_neg hq] at H; cases H
              rw [if_pos hq] at H
              subst hq
              have AQ := Aside0.mk aq
              have H' := Aside0.mk H
              clear aq H
              obtain ⟨cc_, hcl, hFK, hcc, hfr⟩ := Kd.N_elem HN.out z169 i hi0 hil
              have hFK2 : Kd.FK k169 wc (fun k => w0.heap.size ≤ k ∧ k ≠ g) x cc_ := by rw [HXX.out]; exact hFK
              obtain ⟨B2, b2, B3, b3, B4, b4, B5, b5, B6, b6, rfl, l2, f2, l3, f3, l4, f4, l5, f5, l6, f6⟩ := k169_openF hFK2
              have hx5 : wc.cell? ⟨g, i.toNat * 7 + 5, none⟩ = some (.slice B5 x.f1.length b5) := hcc 5 _ rfl
              have hfx5 : wc.frozen? ⟨g, i.toNat * 7 + 5, none⟩ = false := hfr 5
              have HP1 := Aside0.mk (Kd.N_seg HN.out i hi0 hil (seg := [.slice none ([] : List Int).length 0]) (j := 5) hcl hcc (show 5 + 1 ≤ 7 from by decide) (x' := (⟨x.f0, ([] : List Int), x.f2⟩ : S169)) (okp := fun k_ => w0.heap.size ≤ k_ ∧ k_ ≠ g) (k169_mkF wc _ ⟨x.f0, ([] : List Int), x.f2⟩ l2 f2 l3 f3 l4 f4 (Kd.V_at HPT.out).2.1 (Kd.F_mono (Kd.V_at HPT.out).2.2 (fun _ hk => ⟨hk.2, hk.1⟩)) l6 f6) (fun _ hk => hk)).1
              have hlt3 : i.toNat < out1.length := by have := (Kd.N_reads' HN.out).1; omega
              have HLT3 := Aside0.mk hlt3
              clear hcc hfr hFK hFK2 hcl l2 f2 l3 f3 l4 f4 l5 f5 l6 f6 hlt3
              go_upto_region 22 with (fail)
              have n0_ : Aside0 (Below w0.heap.size w0 (wc.setCell ⟨g, i.toNat * 7 + 5, none⟩ (.slice none ([] : List Int).length 0))) := ⟨below_set HB.out HG0.out⟩
              have n1_ : Aside0 (Kd.N k169 169 (wc.setCell ⟨g, i.toNat * 7 + 5, none⟩ (.slice none ([] : List Int).length 0)) w0.heap.size (fun k_ => w0.heap.size ≤ k_) (.slice (some ⟨g, 0, none⟩) out.length cap) (out1.set i.toNat ⟨x.f0, ([] : List Int), x.f2⟩)) := ⟨HP1.out⟩
              have n2_ := Aside0.mk (Kd.V_far (p := ⟨g, i.toNat * 7 + 5, none⟩) HD.out (fun _ hk => hk) (.slice none ([] : List Int).length 0))
              have n3_ := Aside0.mk (Kd.V_far (p := ⟨g, i.toNat * 7 + 5, none⟩) HDN.out (fun _ hk => hk) (.slice none ([] : List Int).length 0))
              have n4_ := Aside0.mk (Kd.V_far (p := ⟨g, i.toNat * 7 + 5, none⟩) HS.out (fun _ hk => hk.1) (.slice none ([] : List Int).length 0))
              have n5_ := Aside0.mk (Kd.V_far (p := ⟨g, i.toNat * 7 + 5, none⟩) HPT.out (fun _ hk => hk.1) (.slice none ([] : List Int).length 0))
              clear HB HN HD HDN HS HPT hx5 hfx5 HP1
              generalize (wc.setCell ⟨g, i.toNat * 7 + 5, none⟩ (.slice none ([] : List Int).length 0)) = w4 at n0_ n1_ n2_ n3_ n4_ n5_ ⊢
              have HB := n0_
              have HN := n1_
              have HD := n2_
              have HDN := n3_
              have HS := n4_
              have HPT := n5_
              clear n0_ n1_ n2_ n3_ n4_ n5_
              have HLG : Aside0 (g < w4.heap.size) := ⟨Kd.N_lt HN.out g rfl⟩
              go_upto_region 25 with (go_at_call 79; (with_reducible refine (fUD.calls k2 (fun k_ => k_ ≠ g) A3 c3 d3 (wrap64 (ca * 2)) q1 none _ HD.out AQ.out).mono ?_); rintro e w5 ⟨v0, e1, rfl, z0, z1, z2⟩; obtain rfl := EV_none z1; obtain ⟨A5, c5, rfl⟩ := Kd.R_slice z0; have ZV := Aside0.mk (Kd.V_mono (ok' := fun k_ => w0.heap.size ≤ k_ ∧ k_ ≠ g) (Kd.R_V (base' := 0) z0) (fun k_ hk => ⟨Nat.le_trans HB.out.size hk, Ne.symm (Nat.ne_of_lt (Nat.lt_of_lt_of_le HLG.out hk))⟩)); have n0_ := Aside0.mk (below_step HB.out z2); have n1_ := Aside0.mk (Kd.N_below HN.out z2); have n3_ := Aside0.mk (Kd.V_below HDN.out z2); have n4_ := Aside0.mk (Kd.V_below HS.out z2); have n5_ := Aside0.mk (Kd.V_below HPT.out z2); clear HB HN HD HDN HS HPT z0 z1 z2; have HB := n0_; have HN := n1_; have HDN := n3_; have HS := n4_; have HPT := n5_; clear n0_ n1_ n3_ n4_ n5_; obtain ⟨cc_, hcl, hFK, hcc, hfr⟩ := Kd.N_elem HN.out z169 i hi0 hil; have hFK2 : Kd.FK k169 w5 (fun k => w0.heap.size ≤ k ∧ k ≠ g) (⟨x.f0, ([] : List Int), x.f2⟩ : S169) cc_ := (by rw [getD_set_same _ _ _ _ HLT3.out] at hFK; exact hFK); obtain ⟨B2, b2, B3, b3, B4, b4, B5, b5, B6, b6, rfl, l2, f2, l3, f3, l4, f4, l5, f5, l6, f6⟩ := k169_openF hFK2; have hx6 : w5.cell? ⟨g, i.toNat * 7 + 6, none⟩ = some (.slice B6 x.f2.length b6) := hcc 6 _ rfl; have hfx6 : w5.frozen? ⟨g, i.toNat * 7 + 6, none⟩ = false := hfr 6; have HP2 := Aside0.mk (Kd.N_seg HN.out i hi0 hil (seg := [.slice A5 q1.length c5]) (j := 6) hcl hcc (show 6 + 1 ≤ 7 from by decide) (x' := (⟨x.f0, ([] : List Int), q1⟩ : S169)) (okp := fun k_ => w0.heap.size ≤ k_ ∧ k_ ≠ g) (k169_mkF w5 _ ⟨x.f0, ([] : List Int), q1⟩ l2 f2 l3 f3 l4 f4 l5 f5 (Kd.V_at ZV.out).2.1 (Kd.V_at ZV.out).2.2) (fun _ hk => hk)).1; clear hcc hfr hFK hFK2 hcl l2 f2 l3 f3 l4 f4 l5 f5 l6 f6 ZV HN HPT)
              have n0_ : Aside0 (Below w0.heap.size w0 (w5.setCell ⟨g, i.toNat * 7 + 6, none⟩ (.slice A5 q1.length c5))) := ⟨below_set HB.out HG0.out⟩
              have n1_ : Aside0 (Kd.N k169 169 (w5.setCell ⟨g, i.toNat * 7 + 6, none⟩ (.slice A5 q1.length c5)) w0.heap.size (fun k_ => w0.heap.size ≤ k_) (.slice (some ⟨g, 0, none⟩) out.length cap) (out1.set i.toNat ⟨x.f0, ([] : List Int), q1⟩)) := ⟨by have h_ := HP2.out; rw [List.set_set] at h_; exact h_⟩
              have n3_ := Aside0.mk (Kd.V_far (p := ⟨g, i.toNat * 7 + 6, none⟩) HDN.out (fun _ hk => hk) (.slice A5 q1.length c5))
              have n4_ := Aside0.mk (Kd.V_far (p := ⟨g, i.toNat * 7 + 6, none⟩) HS.out (fun _ hk => hk.1) (.slice A5 q1.length c5))
              clear HB HDN HS HP2 hx6 hfx6
              generalize (w5.setCell ⟨g, i.toNat * 7 + 6, none⟩ (.slice A5 q1.length c5)) = w6 at n0_ n1_ n3_ n4_ ⊢
              have hmi : i + 1 ≤ 9223372036854775807 := by have h_ := (Kd.N_reads' n1_.out).2.2.2.1; have g_ := (Kd.N_reads' n1_.out).1; omega
              clear HLG HLT3
              go_wp2
              go_roundg k2
              case measure => have := HK2.out; omega
              case rel => exact ⟨dn, i + 1, _, D0, cn, rfl, rfl, H', ⟨by have := HK2.out; omega⟩, n3_, n4_, n1_, n0_⟩
            · rw [if_neg hne] at H
              clear HNP hne
              replace H := Option.bind_eq_some_iff.mp H
              obtain ⟨⟨q1, q2⟩, aq, H⟩ := H
              dsimp only at H
              by_cases hq : q2 = none
              case neg => rw [if_neg hq] at H; cases H
              rw [if_pos hq] at H
              subst hq
              have AQ := Aside0.mk aq
              have H' := Aside0.mk H
              clear aq H
              obtain ⟨cc_, hcl, hFK, hcc, hfr⟩ := Kd.N_elem HN.out z169 i hi0 hil
              have hFK2 : Kd.FK k169 wc (fun k => w0.heap.size ≤ k ∧ k ≠ g) x cc_ := by rw [HXX.out]; exact hFK
              obtain ⟨B2, b2, B3, b3, B4, b4, B5, b5, B6, b6, rfl, l2, f2, l3, f3, l4, f4, l5, f5, l6, f6⟩ := k169_openF hFK2
              have hx5 : wc.cell? ⟨g, i.toNat * 7 + 5, none⟩ = some (.slice B5 x.f1.length b5) := hcc 5 _ rfl
              have hfx5 : wc.frozen? ⟨g, i.toNat * 7 + 5, none⟩ = false := hfr 5
              have HP1 := Aside0.mk (Kd.N_seg HN.out i hi0 hil (seg := [.slice (some ad) pts.length c4]) (j := 5) hcl hcc (show 5 + 1 ≤ 7 from by decide) (x' := (⟨x.f0, pts, x.f2⟩ : S169)) (okp := fun k_ => w0.heap.size ≤ k_ ∧ k_ ≠ g) (k169_mkF wc _ ⟨x.f0, pts, x.f2⟩ l2 f2 l3 f3 l4 f4 (Kd.V_at HPT.out).2.1 (Kd.F_mono (Kd.V_at HPT.out).2.2 (fun _ hk => ⟨hk.2, hk.1⟩)) l6 f6) (fun _ hk => hk)).1
              have hlt3 : i.toNat < out1.length := by have := (Kd.N_reads' HN.out).1; omega
              have HLT3 := Aside0.mk hlt3
              clear hcc hfr hFK hFK2 hcl l2 f2 l3 f3 l4 f4 l5 f5 l6 f6 hlt3
              go_upto_region 22 with (fail)
              have n0_ : Aside0 (Below w0.heap.size w0 (wc.setCell ⟨g, i.toNat * 7 + 5, none⟩ (.slice (some ad) pts.length c4))) := ⟨below_set HB.out HG0.out⟩
              have n1_ : Aside0 (Kd.N k169 169 (wc.setCell ⟨g, i.toNat * 7 + 5, none⟩ (.slice (some ad) pts.length c4)) w0.heap.size (fun k_ => w0.heap.size ≤ k_) (.slice (some ⟨g, 0, none⟩) out.length cap) (out1.set i.toNat ⟨x.f0, pts, x.f2⟩)) := ⟨HP1.out⟩
              have n2_ := Aside0.mk (Kd.V_far (p := ⟨g, i.toNat * 7 + 5, none⟩) HD.out (fun _ hk => hk) (.slice (some ad) pts.length c4))
              have n3_ := Aside0.mk (Kd.V_far (p := ⟨g, i.toNat * 7 + 5, none⟩) HDN.out (fun _ hk => hk) (.slice (some ad) pts.length c4))
              have n4_ := Aside0.mk (Kd.V_far (p := ⟨g, i.toNat * 7 + 5, none⟩) HS.out (fun _ hk => hk.1) (.slice (some ad) pts.length c4))
              have n5_ := Aside0.mk (Kd.V_far (p := ⟨g, i.toNat * 7 + 5, none⟩) HPT.out (fun _ hk => hk.1) (.slice (some ad) pts.length c4))
              clear HB HN HD HDN HS HPT hx5 hfx5 HP1
              generalize (wc.setCell ⟨g, i.toNat * 7 + 5, none⟩ (.slice (some ad) pts.length c4)) = w4 at n0_ n1_ n2_ n3_ n4_ n5_ ⊢
              have HB := n0_
              have HN := n1_
              have HD := n2_
              have HDN := n3_
              have HS := n4_
              have HPT := n5_
              clear n0_ n1_ n2_ n3_ n4_ n5_
              have HLG : Aside0 (g < w4.heap.size) := ⟨Kd.N_lt HN.out g rfl⟩
              go_upto_region 25 with (go_at_call 79; (with_reducible refine (fUD.calls k2 (fun k_ => k_ ≠ g) A3 c3 d3 (wrap64 ((pts.length : Int) * 2)) q1 none _ HD.out AQ.out).mono ?_); rintro e w5 ⟨v0, e1, rfl, z0, z1, z2⟩; obtain rfl := EV_none z1; obtain ⟨A5, c5, rfl⟩ := Kd.R_slice z0; have ZV := Aside0.mk (Kd.V_mono (ok' := fun k_ => w0.heap.size ≤ k_ ∧ k_ ≠ g) (Kd.R_V (base' := 0) z0) (fun k_ hk => ⟨Nat.le_trans HB.out.size hk, Ne.symm (Nat.ne_of_lt (Nat.lt_of_lt_of_le HLG.out hk))⟩)); have n0_ := Aside0.mk (below_step HB.out z2); have n1_ := Aside0.mk (Kd.N_below HN.out z2); have n3_ := Aside0.mk (Kd.V_below HDN.out z2); have n4_ := Aside0.mk (Kd.V_below HS.out z2); have n5_ := Aside0.mk (Kd.V_below HPT.out z2); clear HB HN HD HDN HS HPT z0 z1 z2; have HB := n0_; have HN := n1_; have HDN := n3_; have HS := n4_; have HPT := n5_; clear n0_ n1_ n3_ n4_ n5_; obtain ⟨cc_, hcl, hFK, hcc, hfr⟩ := Kd.N_elem HN.out z169 i hi0 hil; have hFK2 : Kd.FK k169 w5 (fun k => w0.heap.size ≤ k ∧ k ≠ g) (⟨x.f0, pts, x.f2⟩ : S169) cc_ := (by rw [getD_set_same _ _ _ _ HLT3.out] at hFK; exact hFK); obtain ⟨B2, b2, B3, b3, B4, b4, B5, b5, B6, b6, rfl, l2, f2, l3, f3, l4, f4, l5, f5, l6, f6⟩ := k169_openF hFK2; have hx6 : w5.cell? ⟨g, i.toNat * 7 + 6, none⟩ = some (.slice B6 x.f2.length b6) := hcc 6 _ rfl; have hfx6 : w5.frozen? ⟨g, i.toNat * 7 + 6, none⟩ = false := hfr 6; have HP2 := Aside0.mk (Kd.N_seg HN.out i hi0 hil (seg := [.slice A5 q1.length c5]) (j := 6) hcl hcc (show 6 + 1 ≤ 7 from by decide) (x' := (⟨x.f0, pts, q1⟩ : S169)) (okp := fun k_ => w0.heap.size ≤ k_ ∧ k_ ≠ g) (k169_mkF w5 _ ⟨x.f0, pts, q1⟩ l2 f2 l3 f3 l4 f4 l5 f5 (Kd.V_at ZV.out).2.1 (Kd.V_at ZV.out).2.2) (fun _ hk => hk)).1; clear hcc hfr hFK hFK2 hcl l2 f2 l3 f3 l4 f4 l5 f5 l6 f6 ZV HN HPT)
              have n0_ : Aside0 (Below w0.heap.size w0 (w5.setCell ⟨g, i.toNat * 7 + 6, none⟩ (.slice A5 q1.length c5))) := ⟨below_set HB.out HG0.out⟩
              have n1_ : Aside0 (Kd.N k169 169 (w5.setCell ⟨g, i.toNat * 7 + 6, none⟩ (.slice A5 q1.length c5)) w0.heap.size (fun k_ => w0.heap.size ≤ k_) (.slice (some ⟨g, 0, none⟩) out.length cap) (out1.set i.toNat ⟨x.f0, pts, q1⟩)) := ⟨by have h_ := HP2.out; rw [List.set_set] at h_; exact h_⟩
              have n3_ := Aside0.mk (Kd.V_far (p := ⟨g, i.toNat * 7 + 6, none⟩) HDN.out (fun _ hk => hk) (.slice A5 q1.length c5))
              have n4_ := Aside0.mk (Kd.V_far (p := ⟨g, i.toNat * 7 + 6, none⟩) HS.out (fun _ hk => hk.1) (.slice A5 q1.length c5))
              clear HB HDN HS HP2 hx6 hfx6
              generalize (w5.setCell ⟨g, i.toNat * 7 + 6, none⟩ (.slice A5 q1.length c5)) = w6 at n0_ n1_ n3_ n4_ ⊢
              have hmi : i + 1 ≤ 9223372036854775807 := by have h_ := (Kd.N_reads' n1_.out).2.2.2.1; have g_ := (Kd.N_reads' n1_.out).1; omega
              clear HLG HLT3
              go_wp2
              go_roundg k2
              case measure => have := HK2.out; omega
              case rel => exact ⟨dn, i + 1, _, D0, cn, rfl, rfl, H', ⟨by have := HK2.out; omega⟩, n3_, n4_, n1_, n0_⟩
        · rw [if_neg hlt] at H
          have hltb : decide (i < (out.length : Int)) = false := decide_eq_false (by rw [hlen]; exact hlt)
          clear hlt hlen
          simp only [Option.some.injEq] at H
          subst H
          go_wp2
          go_ret
          exact ⟨rfl, HN.out, HB.out⟩

def tup48.T17 : Bool × List (List Nat × List Nat) := (true, [([], []), ([], []), ([1], [1]), ([2], [2]), ([3], [3]), ([], []), ([5], [5]), ([6], [6]), ([7], [7]), ([8], [8]), ([], []), ([10], [10]), ([11], [11]), ([12], [12]), ([13], [13]), ([], []), ([15], [15]), ([], []), ([17], [17]), ([], []), ([18, 19], [18, 19]), ([], []), ([21], [21]), ([], []), ([22, 23], [22, 23]), ([4, 9, 14, 16, 20, 24], [4, 9, 14, 16, 20, 24]), ([25], [25]), ([0, 26], [0, 26]), ([27, 27, 0, 1, 2, 3, 4, 5, 6, 7, 8, 9, 10, 11, 12, 13, 14, 15, 16, 17, 18, 19, 20, 21, 22, 23, 24, 25, 26, 27], [0, 27])])
def tup48.B17 : List Nat := [0, 0, 2, 6, 14, 0, 32, 96, 224, 480, 0, 1024, 3072, 7168, 15360, 0, 32768, 0, 131072, 0, 917504, 0, 2097152, 0, 14680064, 33554430, 67108862, 134217727, 268435455]
theorem tup48.tab17 : rtab .any (opsOf Try.f48 17) = tup48.T17 := by kernel_rfl
theorem tup48.bits17 : waitsOk tup48.T17.2 tup48.B17 = true := by kernel_rfl
theorem info143 : (Try.prog.info? 143).map (fun i => (i.zero, i.size, i.bytes)) = some (some (.agg #[.slice none 0 0, .slice none 0 0, .slice none 0 0, .slice none 0 0, .slice none 0 0, .slice none 0 0]), 6, 144) := by kernel_rfl
def mk169 (h : S167) : S169 := ⟨h, [], []⟩
def fin143 (x : S169) : S143 := ⟨x.f0.f2.f0, x.f0.f3.f0.f0, x.f0.f3.f1.f0, x.f1, x.f2.take ((x.f2.length : Int) / 2).toNat, x.f2.drop ((x.f2.length : Int) / 2).toNat⟩
/-- ZzTuples, where it succeeds. -/
def tup48.f (k : Nat) (b : List Int) (n pts : Int) : Option (List S143) :=
  (gvd60.f k b n).bind fun g => if 0 < g.2.2.1.length ∧ g.2.2.1.length < 65536 then (ser61.f k g.2.1 (Go.bits .and .u16 g.1 32768 != 0) pts (g.2.2.1.map mk169)).bind fun all => if all.length < 65536 then some (all.map fin143) else none else none
theorem tup48.mono : ∀ a0 a1 a2 k, LeO (tup48.f k a0 a1 a2) (tup48.f (k + 1) a0 a1 a2) := by
  intro a0 a1 a2 k
  unfold tup48.f
  exact LeO.bind (gvd60.mono _ _ _) fun g => LeO.ite (LeO.bind (ser61.mono _ _ _ _ _) fun all => LeO.refl _) (LeO.none _)
set_option maxHeartbeats 2000000 in
set_option maxRecDepth 100000 in
theorem shar62 (g : Nat) (ti : Int) (w : World) (hc : w.cell? ⟨g, 0, none⟩ = some (.int .u16 ti)) :
    Calls Try.prog 62 #[.pointer (some ⟨g, 0, none⟩)] w fun e w' => e = .returned (.bool (Go.bits .and .u16 ti 32768 != 0)) ∧ w = w' := by
  have hu159 := Try.underlying159
  go_enter Try.func62, Try.ntmps62
  go_wp2
  go_ret
  exact ⟨rfl, rfl⟩
theorem fill_step {α β : Type} (f : α → β) (hs : List α) (z : β) (i : Nat) (x : α) (hx : hs[i]? = some x) : (((hs.take i).map f) ++ List.replicate (hs.length - i) z).set i (f x) = ((hs.take (i + 1)).map f) ++ List.replicate (hs.length - (i + 1)) z := by
  have hlt : i < hs.length := (List.getElem?_eq_some_iff.1 hx).1
  have hl : ((hs.take i).map f).length = i := by rw [List.length_map, List.length_take]; omega
  rw [List.set_append_right _ _ (by omega), hl, Nat.sub_self]
  obtain ⟨m, hm⟩ : ∃ m, hs.length - i = m + 1 := ⟨hs.length - i - 1, by omega⟩
  rw [hm, List.replicate_succ, List.set_cons_zero, show hs.length - (i + 1) = m by omega, List.take_add_one, hx, List.map_append, List.append_assoc]
  rfl
theorem take_step {α β : Type} (f : α → β) (hs : List α) (i : Nat) (x : α) (hx : hs[i]? = some x) : (hs.take (i + 1)).map f = (hs.take i).map f ++ [f x] := by
  rw [List.take_add_one, hx, List.map_append]
  rfl
theorem fill_get {α β : Type} (f : α → β) (hs : List α) (z : β) (i : Nat) (h : i < hs.length) : (((hs.take i).map f) ++ List.replicate (hs.length - i) z).getD i z = z := by
  have hl : ((hs.take i).map f).length = i := by rw [List.length_map, List.length_take]; omega
  rw [List.getD_eq_getElem?_getD, List.getElem?_append_right (by omega), hl, Nat.sub_self, List.getElem?_replicate_of_lt (by omega)]
  rfl
theorem V_came {α : Type} {d : Kd α} {e base : Nat} {w W : World} {A : Option Addr} {c : Nat} {xs : List α} (hd : Kd.Heap d) (h : d.C w A xs.length xs) (hc : xs.length ≤ c) (hb : Below w.heap.size w W) : Kd.V d e W base (fun k => k < w.heap.size) (.slice A xs.length c) xs :=
  Kd.V_mk hc (fun W' hW => hd.C (fun k hlt => (hW k hlt (Nat.lt_of_lt_of_le hlt hb.size)).trans (hb.block k hlt)) h)
theorem ser61.callsN (k : Nat) (A0 : Option Addr) (c0 : Nat) (d : List Int) (hs : Bool) (ca : Int) (g cap nn : Nat) (out out' : List S169) (hn : nn = out.length) (w0 w : World) (hB : Below w0.heap.size w0 w) (hd : Kd.V (Kd.int .u8) 5 w 0 (fun k_ => k_ ≠ g) (.slice A0 d.length c0) d) (hN : Kd.N k169 169 w w0.heap.size (fun k_ => w0.heap.size ≤ k_) (.slice (some ⟨g, 0, none⟩) nn cap) out) (h : ser61.f k d hs ca out = some out') :
    Calls Try.prog 61 #[.slice A0 d.length c0, .bool hs, .int .i64 ca, .bool false, .slice (some ⟨g, 0, none⟩) nn cap] w fun e w' => e = .returned .nilIface ∧ Kd.N k169 169 w' w0.heap.size (fun k_ => w0.heap.size ≤ k_) (.slice (some ⟨g, 0, none⟩) nn cap) out' ∧ Below w0.heap.size w0 w' := by
  subst hn
  exact ser61.calls k A0 c0 d hs ca g cap out out' w0 w hB hd hN h
set_option maxHeartbeats 8000000 in
set_option maxRecDepth 100000 in
theorem tup48.calls (k : Nat) (A0 : Option Addr) (c0 : Nat) (l0 : List Int) (n pts : Int) (res : List S143) (w : World) (hr0 : Kd.C (Kd.int .u8) w A0 l0.length l0) (hc0 : l0.length ≤ c0) (h : tup48.f k l0 n pts = some res) :
    Calls Try.prog 48 #[.slice A0 l0.length c0, .int .i64 n, .int .i64 pts] w fun e w' => ∃ v0_ : Value, e = .returned (.tuple #[v0_, .nilIface]) ∧ Kd.V k143 143 w' w.heap.size (fun k_ => (w.heap.size ≤ k_)) v0_ res ∧ Below w.heap.size w w' := by
  have hu138 := Try.underlying138
  have hu143 := Try.underlying143
  have hu159 := Try.underlying159
  have hu162 := Try.underlying162
  have hu164 := Try.underlying164
  have hu165 := Try.underlying165
  have hu167 := Try.underlying167
  have hu169 := Try.underlying169
  have HR0 := Aside0.mk hr0
  have HC0 := Aside0.mk hc0
  have HB := Aside0.mk (Below.refl w.heap.size w)
  clear hr0 hc0
  unfold tup48.f at h
  replace h := Option.bind_eq_some_iff.mp h
  obtain ⟨⟨cnt, d, hs, off⟩, hg, h⟩ := h
  dsimp only at h
  by_cases hl : 0 < hs.length ∧ hs.length < 65536
  case neg => rw [if_neg hl] at h; cases h
  rw [if_pos hl] at h
  obtain ⟨hl0, hl1⟩ := hl
  replace h := Option.bind_eq_some_iff.mp h
  obtain ⟨all, ha, h⟩ := h
  by_cases hl2 : all.length < 65536
  case neg => rw [if_neg hl2] at h; cases h
  rw [if_pos hl2] at h
  injection h with h
  subst h
  have HG := Aside0.mk hg
  have HA := Aside0.mk ha
  have HL0 := Aside0.mk hl0
  have HL1 := Aside0.mk hl1
  have HL2 := Aside0.mk hl2
  clear hg ha hl0 hl1 hl2
  go_enter Try.func48, Try.ntmps48
  go_upto_region 2 with (go_at_call 60; (with_reducible refine (gvd60.calls k _ _ l0 n cnt d hs off w HR0.out HC0.out HG.out).mono ?_); rintro e w1 ⟨A1, c1, A2, c2, rfl, z0, z1, z2, z3⟩; have HD := Aside0.mk z0; have HDC := Aside0.mk z1; have HH := Aside0.mk z2; have n0_ := Aside0.mk (below_step HB.out z3); clear HB z0 z1 z2 z3; have HB := n0_; clear n0_)
  have n0_ : Aside0 (Below w.heap.size w (w1.alloc (.cells #[.int .u16 cnt, .slice A1 d.length c1, .slice A2 hs.length c2] 159))) := ⟨below_alloc HB.out _⟩
  have n1_ := Aside0.mk (Kd.N_alloc HH.out (.cells #[.int .u16 cnt, .slice A1 d.length c1, .slice A2 hs.length c2] 159))
  have BX := Aside0.mk (blk_new w1 (.cells #[.int .u16 cnt, .slice A1 d.length c1, .slice A2 hs.length c2] 159))
  have GB := Aside0.mk (show w.heap.size ≤ w1.heap.size from HB.out.size)
  clear HB HH
  generalize (w1.alloc (.cells #[.int .u16 cnt, .slice A1 d.length c1, .slice A2 hs.length c2] 159)) = w2 at n0_ n1_ BX ⊢
  generalize w1.heap.size = gx at BX GB ⊢
  have HB := n0_
  have HH := n1_
  clear n0_ n1_
  have hx2 : w2.cell? ⟨gx, 2, none⟩ = some (.slice A2 hs.length c2) := (blk_cell BX.out 2).trans rfl
  have hll : (hs.length : Int) ≤ 65536 := by have := HL1.out; omega
  go_upto_region 5 with ((with_reducible refine gate_dst (N := 30) rfl ?_); refine Kd.N_make k169 (w0 := w) w.heap.size 169 rfl (N' := 30) rfl 162 (.tmp 29) (.tmp 29) rfl (hs.length : Int) rfl rfl Try.underlying162 (.agg #[.int .u16 0, .int .u16 0, .slice none 0 0, .slice none 0 0, .slice none 0 0, .slice none 0 0, .slice none 0 0]) 128 info169 rfl (by decide) (by omega) z169 (ok := fun k_ => w.heap.size ≤ k_) (okp := fun _ => False) ?aZ (fun _ hk => hk.elim) (below_size HB.out) (by omega) ?aL HB.out (below_size HB.out) ?_; (case aZ => exact k169_mkF _ _ z169 (Nat.le_refl _) (Kd.F_nil _ _ _) (Nat.le_refl _) (Kd.F_nil _ _ _) (Nat.le_refl _) (Kd.F_nil _ _ _) (Nat.le_refl _) (Kd.F_nil _ _ _) (Nat.le_refl _) (Kd.F_nil _ _ _)); (case aL => have := HL1.out; omega); intro v1_ w3 ho hb hg hat; obtain ⟨g, cap, rfl, hgb, hgl, -⟩ := Kd.N_form ho (by rw [List.length_replicate]; have := HL0.out; omega); rw [List.length_replicate, Int.toNat_natCast] at ho ⊢; have n0_ := Aside0.mk ho; have n1_ := Aside0.mk (Kd.N_grown HH.out hg (fun _ _ => by simp)); have n2_ := Aside0.mk (blk_grown BX.out hg (by simp)); have n3_ := Aside0.mk hb; have GG := Aside0.mk hgb; have NHG := Aside0.mk (show ∀ k_, w.heap.size ≤ k_ ∧ k_ < w2.heap.size → w.heap.size ≤ k_ ∧ k_ ≠ g from fun k_ hk => ⟨hk.1, fun e_ => by obtain ⟨b_, hb1_, hb2_⟩ := hat; simp [Value.ownBlock] at hb1_; omega⟩); have n4_ := Aside0.mk (Kd.N_mono (Kd.N_grown (Kd.N_bound HH.out) hg (fun _ _ => by simp)) NHG.out); have NXG := Aside0.mk (show gx ≠ g from fun e_ => by obtain ⟨b_, hb1_, hb2_⟩ := hat; simp [Value.ownBlock] at hb1_; have := blk_lt BX.out; omega); clear HB HH BX ho hb hg hat hgb hgl NHG n1_; have HN := n0_; have HH := n4_; have BX := n2_; have HB := n3_; clear n0_ n2_ n3_ n4_; have hy2 : w3.cell? ⟨gx, 2, none⟩ = some (.slice A2 hs.length c2) := (blk_cell BX.out 2).trans rfl)
  obtain ⟨gh, ch, eh, -, -, -⟩ := Kd.N_form HH.out HL0.out
  injection eh with eh1 eh2 eh3
  subst eh1 eh3
  clear eh2
  go_wp2
  go_loopg [34] hs.length (fun kq v34 w' => ∃ (i : Int), v34 = .int .i64 i ∧ Aside0 (0 ≤ i ∧ i ≤ hs.length) ∧ Aside0 (kq + i.toNat = hs.length) ∧ Aside0 (Kd.N k169 169 w' w.heap.size (fun k_ => w.heap.size ≤ k_) (.slice (some ⟨g, 0, none⟩) hs.length cap) (((hs.take i.toNat).map mk169) ++ List.replicate (hs.length - i.toNat) z169)) ∧ Aside0 (Kd.N k167 167 w' w.heap.size (fun k_ => w.heap.size ≤ k_ ∧ k_ ≠ g) (.slice (some ⟨gh, 0, none⟩) hs.length c2) hs) ∧ Aside0 (w'.heap[gx]? = some (.cells #[.int .u16 cnt, .slice A1 d.length c1, .slice (some ⟨gh, 0, none⟩) hs.length c2] 159 (0, 0))) ∧ Aside0 (Below w.heap.size w w'))
  case atStart => exact ⟨0, rfl, ⟨Int.le_refl _, by omega⟩, ⟨rfl⟩, HN, HH, BX, HB⟩
  case round =>
    clear HN HH BX HB hx2 hy2
    obtain ⟨i, rfl, HI, HK, HN, HH, BX, HB⟩ := hrel
    have hi0 := HI.out.1
    have hi1 := HI.out.2
    by_cases hlt : i < (hs.length : Int)
    · have hltb : decide (i < (hs.length : Int)) = true := decide_eq_true hlt
      have p1 := eq_true hi0
      have p2 := eq_true hlt
      obtain ⟨hd_, hhd_⟩ : ∃ x : S167, x = rd_T167 hs i := ⟨_, rfl⟩
      have HHD := Aside0.mk hhd_
      clear hhd_
      obtain ⟨cc_, hcl, hFK, hcc, hfr⟩ := Kd.N_elem HH.out z167 i hi0 hlt
      have hFK2 : Kd.FK k167 wr (fun k => (w.heap.size ≤ k ∧ k ≠ g) ∧ k ≠ gh) hd_ cc_ := by rw [HHD.out]; exact hFK
      obtain ⟨B2, b2, B3, b3, B4, b4, rfl, l2, f2, l3, f3, l4, f4⟩ := k167_openF hFK2
      have hx0 : wr.cell? ⟨gh, i.toNat * 5, none⟩ = some (.int .u16 hd_.f0) := hcc 0 _ rfl
      have hx1 : wr.cell? ⟨gh, i.toNat * 5 + 1, none⟩ = some (.int .u16 hd_.f1) := hcc 1 _ rfl
      have hx2 : wr.cell? ⟨gh, i.toNat * 5 + 2, none⟩ = some (.slice B2 hd_.f2.f0.length b2) := hcc 2 _ rfl
      have hx3 : wr.cell? ⟨gh, i.toNat * 5 + 3, none⟩ = some (.slice B3 hd_.f3.f0.f0.length b3) := hcc 3 _ rfl
      have hx4 : wr.cell? ⟨gh, i.toNat * 5 + 4, none⟩ = some (.slice B4 hd_.f3.f1.f0.length b4) := hcc 4 _ rfl
      have HF := Aside0.mk (Kd.FK_mono hFK2 (fun _ hk => hk.1))
      clear hcc hfr hFK hFK2 hcl l2 f2 l3 f3 l4 f4
      go_upto_region 8 with (fail)
      have n0_ : Aside0 (Below w.heap.size w (wr.alloc (.cells #[.int .u16 hd_.f0, .int .u16 hd_.f1, .slice B2 hd_.f2.f0.length b2, .slice B3 hd_.f3.f0.f0.length b3, .slice B4 hd_.f3.f1.f0.length b4] 167))) := ⟨below_alloc HB.out _⟩
      have n1_ := Aside0.mk (Kd.N_alloc HN.out (.cells #[.int .u16 hd_.f0, .int .u16 hd_.f1, .slice B2 hd_.f2.f0.length b2, .slice B3 hd_.f3.f0.f0.length b3, .slice B4 hd_.f3.f1.f0.length b4] 167))
      have n2_ := Aside0.mk (Kd.N_alloc HH.out (.cells #[.int .u16 hd_.f0, .int .u16 hd_.f1, .slice B2 hd_.f2.f0.length b2, .slice B3 hd_.f3.f0.f0.length b3, .slice B4 hd_.f3.f1.f0.length b4] 167))
      have n3_ := Aside0.mk (b3_ BX.out (.cells #[.int .u16 hd_.f0, .int .u16 hd_.f1, .slice B2 hd_.f2.f0.length b2, .slice B3 hd_.f3.f0.f0.length b3, .slice B4 hd_.f3.f1.f0.length b4] 167))
      have n4_ := Aside0.mk (Kd.FK_below HF.out (below_alloc (Below.refl _ _) (.cells #[.int .u16 hd_.f0, .int .u16 hd_.f1, .slice B2 hd_.f2.f0.length b2, .slice B3 hd_.f3.f0.f0.length b3, .slice B4 hd_.f3.f1.f0.length b4] 167)))
      clear HB HN HH BX HF hx0 hx1 hx2 hx3 hx4
      have BY := Aside0.mk (blk_new wr (.cells #[.int .u16 hd_.f0, .int .u16 hd_.f1, .slice B2 hd_.f2.f0.length b2, .slice B3 hd_.f3.f0.f0.length b3, .slice B4 hd_.f3.f1.f0.length b4] 167))
      generalize (wr.alloc (.cells #[.int .u16 hd_.f0, .int .u16 hd_.f1, .slice B2 hd_.f2.f0.length b2, .slice B3 hd_.f3.f0.f0.length b3, .slice B4 hd_.f3.f1.f0.length b4] 167)) = w4 at n0_ n1_ n2_ n3_ n4_ BY ⊢
      generalize wr.heap.size = gy at BY ⊢
      have HB := n0_
      have HN := n1_
      have HH := n2_
      have BX := n3_
      have HF := n4_
      clear n0_ n1_ n2_ n3_ n4_
      have hv0 : w4.cell? ⟨gy, 0, none⟩ = some (.int .u16 hd_.f0) := (blk_cell BY.out 0).trans rfl
      have hv1 : w4.cell? ⟨gy, 1, none⟩ = some (.int .u16 hd_.f1) := (blk_cell BY.out 1).trans rfl
      have hv2 : w4.cell? ⟨gy, 2, none⟩ = some (.slice B2 hd_.f2.f0.length b2) := (blk_cell BY.out 2).trans rfl
      have hv3 : w4.cell? ⟨gy, 3, none⟩ = some (.slice B3 hd_.f3.f0.f0.length b3) := (blk_cell BY.out 3).trans rfl
      have hv4 : w4.cell? ⟨gy, 4, none⟩ = some (.slice B4 hd_.f3.f1.f0.length b4) := (blk_cell BY.out 4).trans rfl
      obtain ⟨cc_, hcl, hFK, hcc, hfr⟩ := Kd.N_elem HN.out z169 i hi0 hlt
      rw [fill_get mk169 hs z169 i.toNat (by omega)] at hFK
      obtain ⟨D2, e2, D3, e3, D4, e4, D5, e5, D6, e6, rfl, -, -, -, -, -, -, l5, f5, l6, f6⟩ := k169_openF hFK
      have hy0 : w4.cell? ⟨g, i.toNat * 7, none⟩ = some (.int .u16 0) := hcc 0 _ rfl
      have hy1 : w4.cell? ⟨g, i.toNat * 7 + 1, none⟩ = some (.int .u16 0) := hcc 1 _ rfl
      have hy2 : w4.cell? ⟨g, i.toNat * 7 + 2, none⟩ = some (.slice D2 0 e2) := hcc 2 _ rfl
      have hy3 : w4.cell? ⟨g, i.toNat * 7 + 3, none⟩ = some (.slice D3 0 e3) := hcc 3 _ rfl
      have hy4 : w4.cell? ⟨g, i.toNat * 7 + 4, none⟩ = some (.slice D4 0 e4) := hcc 4 _ rfl
      have hfy0 : w4.frozen? ⟨g, i.toNat * 7, none⟩ = false := hfr 0
      have hfy1 : w4.frozen? ⟨g, i.toNat * 7 + 1, none⟩ = false := hfr 1
      have hfy2 : w4.frozen? ⟨g, i.toNat * 7 + 2, none⟩ = false := hfr 2
      have hfy3 : w4.frozen? ⟨g, i.toNat * 7 + 3, none⟩ = false := hfr 3
      have hfy4 : w4.frozen? ⟨g, i.toNat * 7 + 4, none⟩ = false := hfr 4
      obtain ⟨_, _, _, _, _, _, he_, l2, f2, l3, f3, l4, f4⟩ := k167_openF HF.out
      simp only [List.cons.injEq, Value.slice.injEq, true_and, and_true] at he_
      obtain ⟨⟨rfl, rfl⟩, ⟨rfl, rfl⟩, ⟨rfl, rfl⟩⟩ := he_
      have HP := Aside0.mk (Kd.N_seg HN.out i hi0 hlt (seg := [.int .u16 hd_.f0, .int .u16 hd_.f1, .slice B2 hd_.f2.f0.length b2, .slice B3 hd_.f3.f0.f0.length b3, .slice B4 hd_.f3.f1.f0.length b4]) (j := 0) hcl hcc (show 0 + 5 ≤ 7 from by decide) (x' := mk169 hd_) (okp := fun k_ => w.heap.size ≤ k_ ∧ k_ ≠ g) (k169_mkF w4 _ (mk169 hd_) l2 f2 l3 f3 l4 f4 l5 f5 l6 f6) (fun _ hk => hk)).1
      have hhi : hs[i.toNat]? = some hd_ := by rw [HHD.out]; unfold rd_T167; rw [List.getD_eq_getElem?_getD, List.getElem?_eq_getElem (by omega)]; rfl
      have HHI := Aside0.mk hhi
      clear hcc hfr hFK hcl l5 f5 l6 f6 l2 f2 l3 f3 l4 f4 hhi HF
      go_upto_region 9 with (fail)
      have n0_ : Aside0 (Below w.heap.size w (World.setCell (World.setCell (World.setCell (World.setCell (World.setCell w4 ⟨g, i.toNat * 7, none⟩ (.int .u16 hd_.f0)) ⟨g, i.toNat * 7 + 1, none⟩ (.int .u16 hd_.f1)) ⟨g, i.toNat * 7 + 2, none⟩ (.slice B2 hd_.f2.f0.length b2)) ⟨g, i.toNat * 7 + 3, none⟩ (.slice B3 hd_.f3.f0.f0.length b3)) ⟨g, i.toNat * 7 + 4, none⟩ (.slice B4 hd_.f3.f1.f0.length b4))) := ⟨(below_set (j := i.toNat * 7 + 4) (v := .slice B4 hd_.f3.f1.f0.length b4) (below_set (j := i.toNat * 7 + 3) (v := .slice B3 hd_.f3.f0.f0.length b3) (below_set (j := i.toNat * 7 + 2) (v := .slice B2 hd_.f2.f0.length b2) (below_set (j := i.toNat * 7 + 1) (v := .int .u16 hd_.f1) (below_set (j := i.toNat * 7) (v := .int .u16 hd_.f0) HB.out GG.out) GG.out) GG.out) GG.out) GG.out)⟩
      have n1_ : Aside0 (Kd.N k169 169 (World.setCell (World.setCell (World.setCell (World.setCell (World.setCell w4 ⟨g, i.toNat * 7, none⟩ (.int .u16 hd_.f0)) ⟨g, i.toNat * 7 + 1, none⟩ (.int .u16 hd_.f1)) ⟨g, i.toNat * 7 + 2, none⟩ (.slice B2 hd_.f2.f0.length b2)) ⟨g, i.toNat * 7 + 3, none⟩ (.slice B3 hd_.f3.f0.f0.length b3)) ⟨g, i.toNat * 7 + 4, none⟩ (.slice B4 hd_.f3.f1.f0.length b4)) w.heap.size (fun k_ => w.heap.size ≤ k_) (.slice (some ⟨g, 0, none⟩) hs.length cap) (((hs.take (i + 1).toNat).map mk169) ++ List.replicate (hs.length - (i + 1).toNat) z169)) := ⟨by have h_ := HP.out; rw [fill_step mk169 hs z169 i.toNat hd_ HHI.out] at h_; rw [show (i + 1).toNat = i.toNat + 1 by omega]; exact h_⟩
      have n2_ : Aside0 (Kd.N k167 167 (World.setCell (World.setCell (World.setCell (World.setCell (World.setCell w4 ⟨g, i.toNat * 7, none⟩ (.int .u16 hd_.f0)) ⟨g, i.toNat * 7 + 1, none⟩ (.int .u16 hd_.f1)) ⟨g, i.toNat * 7 + 2, none⟩ (.slice B2 hd_.f2.f0.length b2)) ⟨g, i.toNat * 7 + 3, none⟩ (.slice B3 hd_.f3.f0.f0.length b3)) ⟨g, i.toNat * 7 + 4, none⟩ (.slice B4 hd_.f3.f1.f0.length b4)) w.heap.size (fun k_ => w.heap.size ≤ k_ ∧ k_ ≠ g) (.slice (some ⟨gh, 0, none⟩) hs.length c2) hs) := ⟨(Kd.N_far (p := ⟨g, i.toNat * 7 + 4, none⟩) (Kd.N_far (p := ⟨g, i.toNat * 7 + 3, none⟩) (Kd.N_far (p := ⟨g, i.toNat * 7 + 2, none⟩) (Kd.N_far (p := ⟨g, i.toNat * 7 + 1, none⟩) (Kd.N_far (p := ⟨g, i.toNat * 7, none⟩) HH.out (fun _ hk => hk.2) (.int .u16 hd_.f0)) (fun _ hk => hk.2) (.int .u16 hd_.f1)) (fun _ hk => hk.2) (.slice B2 hd_.f2.f0.length b2)) (fun _ hk => hk.2) (.slice B3 hd_.f3.f0.f0.length b3)) (fun _ hk => hk.2) (.slice B4 hd_.f3.f1.f0.length b4))⟩
      have n3_ : Aside0 ((World.setCell (World.setCell (World.setCell (World.setCell (World.setCell w4 ⟨g, i.toNat * 7, none⟩ (.int .u16 hd_.f0)) ⟨g, i.toNat * 7 + 1, none⟩ (.int .u16 hd_.f1)) ⟨g, i.toNat * 7 + 2, none⟩ (.slice B2 hd_.f2.f0.length b2)) ⟨g, i.toNat * 7 + 3, none⟩ (.slice B3 hd_.f3.f0.f0.length b3)) ⟨g, i.toNat * 7 + 4, none⟩ (.slice B4 hd_.f3.f1.f0.length b4)).heap[gx]? = some (.cells #[.int .u16 cnt, .slice A1 d.length c1, .slice (some ⟨gh, 0, none⟩) hs.length c2] 159 (0, 0))) := ⟨(blk_far (blk_far (blk_far (blk_far (blk_far BX.out (p := ⟨g, i.toNat * 7, none⟩) NXG.out (.int .u16 hd_.f0)) (p := ⟨g, i.toNat * 7 + 1, none⟩) NXG.out (.int .u16 hd_.f1)) (p := ⟨g, i.toNat * 7 + 2, none⟩) NXG.out (.slice B2 hd_.f2.f0.length b2)) (p := ⟨g, i.toNat * 7 + 3, none⟩) NXG.out (.slice B3 hd_.f3.f0.f0.length b3)) (p := ⟨g, i.toNat * 7 + 4, none⟩) NXG.out (.slice B4 hd_.f3.f1.f0.length b4))⟩
      clear HB HN HH BX BY HP hv0 hv1 hv2 hv3 hv4 hy0 hy1 hy2 hy3 hy4 hfy0 hfy1 hfy2 hfy3 hfy4
      generalize (World.setCell (World.setCell (World.setCell (World.setCell (World.setCell w4 ⟨g, i.toNat * 7, none⟩ (.int .u16 hd_.f0)) ⟨g, i.toNat * 7 + 1, none⟩ (.int .u16 hd_.f1)) ⟨g, i.toNat * 7 + 2, none⟩ (.slice B2 hd_.f2.f0.length b2)) ⟨g, i.toNat * 7 + 3, none⟩ (.slice B3 hd_.f3.f0.f0.length b3)) ⟨g, i.toNat * 7 + 4, none⟩ (.slice B4 hd_.f3.f1.f0.length b4)) = w5 at n0_ n1_ n2_ n3_ ⊢
      have hmi : i + 1 ≤ 9223372036854775807 := by have := HL1.out; omega
      have HIK : Aside0 (gk - 1 + (i + 1).toNat = hs.length ∧ gk - 1 < gk) := ⟨by have := HK.out; omega⟩
      go_wp2
      go_roundg (gk - 1)
      case measure => exact HIK.out.2
      case rel => exact ⟨i + 1, rfl, ⟨by omega⟩, ⟨HIK.out.1⟩, n1_, n2_, n3_, n0_⟩
    · have hltb : decide (i < (hs.length : Int)) = false := decide_eq_false hlt
      have hie : i = (hs.length : Int) := by omega
      subst hie
      rw [Int.toNat_natCast, List.take_length, Nat.sub_self, List.replicate_zero, List.append_nil] at HN
      clear hlt hi0 hi1 HI HK
      go_upto_region 10 with (fail)
      have HD2 := Aside0.mk (V_came (e := 5) (base := 0) (Kd.heap_int .u8) HD.out HDC.out (below_drew1 HB.out))
      have HD3 : Aside0 (Kd.V (Kd.int .u8) 5 wr.drew 0 (fun k_ => k_ ≠ g) (.slice A1 d.length c1) d) := ⟨Kd.V_mono HD2.out (fun k_ hk => Nat.ne_of_lt (Nat.lt_of_lt_of_le hk GG.out))⟩
      have hq0 : wr.drew.cell? ⟨gx, 0, none⟩ = some (.int .u16 cnt) := (blk_cell (b2_ BX.out) 0).trans rfl
      have hq1 : wr.drew.cell? ⟨gx, 1, none⟩ = some (.slice A1 d.length c1) := (blk_cell (b2_ BX.out) 1).trans rfl
      have hr1 : wr.cell? ⟨gx, 1, none⟩ = some (.slice A1 d.length c1) := (blk_cell BX.out 1).trans rfl
      have hnn : hs.length = (hs.map mk169).length := (List.length_map _).symm
      have HNN := Aside0.mk hnn
      clear hnn
      go_cut [13] (fun v13 wc => v13 = .nilIface ∧ Aside0 (Kd.N k169 169 wc w.heap.size (fun k_ => w.heap.size ≤ k_) (.slice (some ⟨g, 0, none⟩) hs.length cap) all) ∧ Aside0 (Below w.heap.size w wc))
      case first =>
        go_region_with (first | (go_at_call 62; refine (shar62 gx cnt _ hq0).mono ?_; rintro e w' ⟨rfl, rfl⟩) | (go_at_call 61; (with_reducible refine (ser61.callsN k A1 c1 d _ pts g cap hs.length (hs.map mk169) all HNN.out w _ (below_drew1 HB.out) HD3.out (Kd.N_drew HN.out) HA.out).mono ?_); rintro e w' ⟨rfl, z0, z1⟩))
        all_goals
          go_wp2_with fail
          go_meet
          exact ⟨rfl, ⟨z0⟩, ⟨z1⟩⟩
      case rest =>
        clear HN HH BX HB HD2 HD3 hq0 hq1 hr1
        obtain ⟨rfl, HN, HB⟩ := hcut
        have hal : hs.length = all.length := (Kd.N_reads' HN.out).1
        have HAL := Aside0.mk hal
        clear hal
        have HGL := Aside0.mk (Kd.N_lt HN.out g rfl)
        have HM := Aside0.mk (Kd.N_bound HN.out)
        have HB0 := Aside0.mk (Below.refl wc.heap.size wc)
        have HBW := HB
        have HSW := Aside0.mk HB.out.size
        clear HN HB
        go_wp2
        go_loopg [6, 56] all.length (fun kq v6 v56 w' => ∃ (i : Int) (lst : List S143) (Al : Option Addr) (cl : Nat), v6 = .slice Al lst.length cl ∧ v56 = .int .i64 i ∧ Aside0 (lst = (all.take i.toNat).map fin143) ∧ Aside0 (0 ≤ i ∧ i ≤ all.length) ∧ Aside0 (kq + i.toNat = all.length) ∧ Aside0 (Kd.N k143 143 w' wc.heap.size (fun k_ => w.heap.size ≤ k_) (.slice Al lst.length cl) lst) ∧ Aside0 (Kd.N k169 169 w' w.heap.size (fun k_ => w.heap.size ≤ k_ ∧ k_ < wc.heap.size) (.slice (some ⟨g, 0, none⟩) hs.length cap) all) ∧ Aside0 (Below wc.heap.size wc w'))
        case atStart => exact ⟨0, [], none, 0, rfl, rfl, ⟨rfl⟩, ⟨Int.le_refl _, by omega⟩, ⟨rfl⟩, ⟨Kd.N_nil _ _ _ _ _⟩, HM, HB0⟩
        case round =>
          clear HM HB0
          obtain ⟨i, lst, Al, cl, rfl, rfl, HLS, HI, HK, HL, HN, HB⟩ := hrel
          have hi0 := HI.out.1
          have hi1 := HI.out.2
          by_cases hlt : i < (all.length : Int)
          · have hlt2 : i < (hs.length : Int) := by rw [HAL.out]; exact hlt
            have hltb : decide (i < (hs.length : Int)) = true := decide_eq_true hlt2
            have p1 := eq_true hi0
            have p2 := eq_true hlt2
            obtain ⟨x, hx⟩ : ∃ x : S169, x = rd_T169 all i := ⟨_, rfl⟩
            have HXX := Aside0.mk hx
            clear hx
            obtain ⟨cc_, hcl, hFK, hcc, hfr⟩ := Kd.N_elem HN.out z169 i hi0 hlt2
            have hFK2 : Kd.FK k169 wr (fun k => (w.heap.size ≤ k ∧ k < wc.heap.size) ∧ k ≠ g) x cc_ := by rw [HXX.out]; exact hFK
            obtain ⟨B2, b2, B3, b3, B4, b4, B5, b5, B6, b6, rfl, l2, f2, l3, f3, l4, f4, l5, f5, l6, f6⟩ := k169_openF hFK2
            have hx0 : wr.cell? ⟨g, i.toNat * 7, none⟩ = some (.int .u16 x.f0.f0) := hcc 0 _ rfl
            have hx1 : wr.cell? ⟨g, i.toNat * 7 + 1, none⟩ = some (.int .u16 x.f0.f1) := hcc 1 _ rfl
            have hx2 : wr.cell? ⟨g, i.toNat * 7 + 2, none⟩ = some (.slice B2 x.f0.f2.f0.length b2) := hcc 2 _ rfl
            have hx3 : wr.cell? ⟨g, i.toNat * 7 + 3, none⟩ = some (.slice B3 x.f0.f3.f0.f0.length b3) := hcc 3 _ rfl
            have hx4 : wr.cell? ⟨g, i.toNat * 7 + 4, none⟩ = some (.slice B4 x.f0.f3.f1.f0.length b4) := hcc 4 _ rfl
            have hx5 : wr.cell? ⟨g, i.toNat * 7 + 5, none⟩ = some (.slice B5 x.f1.length b5) := hcc 5 _ rfl
            have hx6 : wr.cell? ⟨g, i.toNat * 7 + 6, none⟩ = some (.slice B6 x.f2.length b6) := hcc 6 _ rfl
            have HF := Aside0.mk (And.intro l2 (And.intro f2 (And.intro l3 (And.intro f3 (And.intro l4 (And.intro f4 (And.intro l5 (And.intro f5 (And.intro l6 f6)))))))))
            clear hcc hfr hFK hFK2 hcl l2 f2 l3 f3 l4 f4 l5 f5 l6 f6 hlt
            go_upto_region 16 with (fail)
            have n0_ : Aside0 (Below wc.heap.size wc (wr.alloc (.cells #[.int .u16 x.f0.f0, .int .u16 x.f0.f1, .slice B2 x.f0.f2.f0.length b2, .slice B3 x.f0.f3.f0.f0.length b3, .slice B4 x.f0.f3.f1.f0.length b4, .slice B5 x.f1.length b5, .slice B6 x.f2.length b6] 169))) := ⟨below_alloc HB.out _⟩
            have n1_ := Aside0.mk (Kd.N_alloc HN.out (.cells #[.int .u16 x.f0.f0, .int .u16 x.f0.f1, .slice B2 x.f0.f2.f0.length b2, .slice B3 x.f0.f3.f0.f0.length b3, .slice B4 x.f0.f3.f1.f0.length b4, .slice B5 x.f1.length b5, .slice B6 x.f2.length b6] 169))
            have n2_ := Aside0.mk (Kd.N_alloc HL.out (.cells #[.int .u16 x.f0.f0, .int .u16 x.f0.f1, .slice B2 x.f0.f2.f0.length b2, .slice B3 x.f0.f3.f0.f0.length b3, .slice B4 x.f0.f3.f1.f0.length b4, .slice B5 x.f1.length b5, .slice B6 x.f2.length b6] 169))
            have n4_ := Aside0.mk (show _ ∧ _ ∧ _ ∧ _ ∧ _ ∧ _ ∧ _ ∧ _ ∧ _ ∧ _ from ⟨HF.out.1, Kd.F_alloc HF.out.2.1 (.cells #[.int .u16 x.f0.f0, .int .u16 x.f0.f1, .slice B2 x.f0.f2.f0.length b2, .slice B3 x.f0.f3.f0.f0.length b3, .slice B4 x.f0.f3.f1.f0.length b4, .slice B5 x.f1.length b5, .slice B6 x.f2.length b6] 169), HF.out.2.2.1, Kd.F_alloc HF.out.2.2.2.1 (.cells #[.int .u16 x.f0.f0, .int .u16 x.f0.f1, .slice B2 x.f0.f2.f0.length b2, .slice B3 x.f0.f3.f0.f0.length b3, .slice B4 x.f0.f3.f1.f0.length b4, .slice B5 x.f1.length b5, .slice B6 x.f2.length b6] 169), HF.out.2.2.2.2.1, Kd.F_alloc HF.out.2.2.2.2.2.1 (.cells #[.int .u16 x.f0.f0, .int .u16 x.f0.f1, .slice B2 x.f0.f2.f0.length b2, .slice B3 x.f0.f3.f0.f0.length b3, .slice B4 x.f0.f3.f1.f0.length b4, .slice B5 x.f1.length b5, .slice B6 x.f2.length b6] 169), HF.out.2.2.2.2.2.2.1, Kd.F_alloc HF.out.2.2.2.2.2.2.2.1 (.cells #[.int .u16 x.f0.f0, .int .u16 x.f0.f1, .slice B2 x.f0.f2.f0.length b2, .slice B3 x.f0.f3.f0.f0.length b3, .slice B4 x.f0.f3.f1.f0.length b4, .slice B5 x.f1.length b5, .slice B6 x.f2.length b6] 169), HF.out.2.2.2.2.2.2.2.2.1, Kd.F_alloc HF.out.2.2.2.2.2.2.2.2.2 (.cells #[.int .u16 x.f0.f0, .int .u16 x.f0.f1, .slice B2 x.f0.f2.f0.length b2, .slice B3 x.f0.f3.f0.f0.length b3, .slice B4 x.f0.f3.f1.f0.length b4, .slice B5 x.f1.length b5, .slice B6 x.f2.length b6] 169)⟩)
            clear HB HN HL HF hx0 hx1 hx2 hx3 hx4 hx5 hx6
            have BY := Aside0.mk (blk_new wr (.cells #[.int .u16 x.f0.f0, .int .u16 x.f0.f1, .slice B2 x.f0.f2.f0.length b2, .slice B3 x.f0.f3.f0.f0.length b3, .slice B4 x.f0.f3.f1.f0.length b4, .slice B5 x.f1.length b5, .slice B6 x.f2.length b6] 169))
            generalize (wr.alloc (.cells #[.int .u16 x.f0.f0, .int .u16 x.f0.f1, .slice B2 x.f0.f2.f0.length b2, .slice B3 x.f0.f3.f0.f0.length b3, .slice B4 x.f0.f3.f1.f0.length b4, .slice B5 x.f1.length b5, .slice B6 x.f2.length b6] 169)) = w4 at n0_ n1_ n2_ n4_ BY ⊢
            generalize wr.heap.size = gy at BY ⊢
            have HB := n0_
            have HN := n1_
            have HL := n2_
            have HF := n4_
            clear n0_ n1_ n2_ n4_
            have hv2 : w4.cell? ⟨gy, 2, none⟩ = some (.slice B2 x.f0.f2.f0.length b2) := (blk_cell BY.out 2).trans rfl
            have hv3 : w4.cell? ⟨gy, 3, none⟩ = some (.slice B3 x.f0.f3.f0.f0.length b3) := (blk_cell BY.out 3).trans rfl
            have hv4 : w4.cell? ⟨gy, 4, none⟩ = some (.slice B4 x.f0.f3.f1.f0.length b4) := (blk_cell BY.out 4).trans rfl
            have hv5 : w4.cell? ⟨gy, 5, none⟩ = some (.slice B5 x.f1.length b5) := (blk_cell BY.out 5).trans rfl
            have hv6 : w4.cell? ⟨gy, 6, none⟩ = some (.slice B6 x.f2.length b6) := (blk_cell BY.out 6).trans rfl
            go_upto_region 17 with (fail)
            have hmx : x.f2.length ≤ 9223372036854775807 := Kd.F_max HF.out.2.2.2.2.2.2.2.2.2
            obtain ⟨h, hh⟩ : ∃ h : Int, wrap64 ((x.f2.length : Int) / 2) = h := ⟨_, rfl⟩
            have hh2 : (x.f2.length : Int) / 2 = h := by rw [← hh]; unfold wrap64; omega
            rw [hh]
            clear hh
            have hh0 : 0 ≤ h := by omega
            have hh1 : h ≤ x.f2.length := by omega
            obtain ⟨i0_, hi0_, _, hsz_, _⟩ := info_parts info30
            obtain ⟨hcutT, hT1, hT2⟩ := print_take_of (P := Try.prog) (Value.int .i16) 0 23 30 .i64 Try.underlying23 hi0_ hsz_ B6 b6 x.f2 h hh0 hh1 HF.out.2.2.2.2.2.2.2.2.1
            obtain ⟨D6, hcutD, hD1, hD2⟩ := print_drop_of (P := Try.prog) (Value.int .i16) 0 23 30 .i64 Try.underlying23 hi0_ hsz_ B6 b6 x.f2 h hh0 hh1 HF.out.2.2.2.2.2.2.2.2.1
            have HT : Aside0 (Kd.F (Kd.int .i16) w4 (fun k_ => (w.heap.size ≤ k_ ∧ k_ < wc.heap.size) ∧ k_ ≠ g) B6 (x.f2.take h.toNat).length (x.f2.take h.toNat)) := ⟨Kd.F_imp HF.out.2.2.2.2.2.2.2.2.2 (fun W' hC => Kd.C_of_reads (h1 := fun _ => rfl) (hT1 _ (Kd.reads_of_C hC)))⟩
            have HD6 : Aside0 (Kd.F (Kd.int .i16) w4 (fun k_ => (w.heap.size ≤ k_ ∧ k_ < wc.heap.size) ∧ k_ ≠ g) D6 (x.f2.drop h.toNat).length (x.f2.drop h.toNat)) := ⟨Kd.F_imp HF.out.2.2.2.2.2.2.2.2.2 (fun W' hC => Kd.C_of_reads (h1 := fun _ => rfl) (hD1 _ (Kd.reads_of_C hC)))⟩
            have hfin : fin143 x = ⟨x.f0.f2.f0, x.f0.f3.f0.f0, x.f0.f3.f1.f0, x.f1, x.f2.take h.toNat, x.f2.drop h.toNat⟩ := by unfold fin143; rw [hh2]
            obtain ⟨xt, hxt⟩ : ∃ l : List Int, l = x.f2.take h.toNat := ⟨_, rfl⟩
            obtain ⟨xd, hxd⟩ : ∃ l : List Int, l = x.f2.drop h.toNat := ⟨_, rfl⟩
            rw [← hxt] at hcutT hT2 HT hfin
            rw [← hxd] at hcutD hD2 HD6 hfin
            have HT2 := Aside0.mk hT2
            obtain ⟨d6, hd6⟩ : ∃ n : Nat, n = b6 - h.toNat := ⟨_, rfl⟩
            rw [← hd6] at hcutD hD2
            have HD7 := Aside0.mk hD2
            have HFIN := Aside0.mk hfin
            clear hfin hT1 hD1 hT2 hD2 hxt hxd hd6 hmx hh2 hi0_ hsz_
            obtain ⟨y, hy⟩ : ∃ y : List S143, y = lst ++ [(⟨x.f0.f2.f0, x.f0.f3.f0.f0, x.f0.f3.f1.f0, x.f1, xt, xd⟩ : S143)] := ⟨_, rfl⟩
            have HY := Aside0.mk hy
            have HHH := Aside0.mk (And.intro hh0 hh1)
            have HLL : Aside0 (lst.length ≤ 65536) := ⟨by rw [HLS.out, List.length_map, List.length_take]; have := HL2.out; omega⟩
            clear hy hh0 hh1
            have hd2 : w4.drew.cell? ⟨gy, 2, none⟩ = some (.slice B2 x.f0.f2.f0.length b2) := hv2
            have hd3 : w4.drew.cell? ⟨gy, 3, none⟩ = some (.slice B3 x.f0.f3.f0.f0.length b3) := hv3
            have hd4 : w4.drew.cell? ⟨gy, 4, none⟩ = some (.slice B4 x.f0.f3.f1.f0.length b4) := hv4
            have hd5 : w4.drew.cell? ⟨gy, 5, none⟩ = some (.slice B5 x.f1.length b5) := hv5
            have hd6 : w4.drew.cell? ⟨gy, 6, none⟩ = some (.slice B6 x.f2.length b6) := hv6
            have HFK : Aside0 (Kd.FK k143 w4.drew (fun k_ => (w.heap.size ≤ k_ ∧ k_ < wc.heap.size) ∧ k_ ≠ g) (⟨x.f0.f2.f0, x.f0.f3.f0.f0, x.f0.f3.f1.f0, x.f1, xt, xd⟩ : S143) [.slice B2 x.f0.f2.f0.length b2, .slice B3 x.f0.f3.f0.f0.length b3, .slice B4 x.f0.f3.f1.f0.length b4, .slice B5 x.f1.length b5, .slice B6 xt.length b6, .slice D6 xd.length d6]) := ⟨k143_mkF _ _ ⟨x.f0.f2.f0, x.f0.f3.f0.f0, x.f0.f3.f1.f0, x.f1, xt, xd⟩ HF.out.1 (Kd.F_drew HF.out.2.1) HF.out.2.2.1 (Kd.F_drew HF.out.2.2.2.1) HF.out.2.2.2.2.1 (Kd.F_drew HF.out.2.2.2.2.2.1) HF.out.2.2.2.2.2.2.1 (Kd.F_drew HF.out.2.2.2.2.2.2.2.1) HT2.out (Kd.F_drew HT.out) HD7.out (Kd.F_drew HD6.out)⟩
            have HLB := Aside0.mk (Kd.N_base HL.out)
            have n0_ := Aside0.mk (below_drew1 HB.out)
            have n1_ := Aside0.mk (Kd.N_drew HN.out)
            have n2_ := Aside0.mk (Kd.N_drew HL.out)
            have n3_ := Aside0.mk (b2_ BY.out)
            clear HB HN HL BY HF HT HD6 hd2 hd3 hd4 hd5 hd6
            have HB := n0_
            have HN := n1_
            have HL := n2_
            have BY := n3_
            clear n0_ n1_ n2_ n3_
            refine start_ (n := 29) (S := fun w' => w'.cell? ⟨gy, 2, none⟩ = some (.slice B2 x.f0.f2.f0.length b2) ∧ w'.cell? ⟨gy, 3, none⟩ = some (.slice B3 x.f0.f3.f0.f0.length b3) ∧ w'.cell? ⟨gy, 4, none⟩ = some (.slice B4 x.f0.f3.f1.f0.length b4) ∧ w'.cell? ⟨gy, 5, none⟩ = some (.slice B5 x.f1.length b5) ∧ w'.cell? ⟨gy, 6, none⟩ = some (.slice B6 x.f2.length b6)) (ds := []) #[ff,ff,ff,ff,ff,ff,ff,ff,ff,ff,ff,ff,ff,ff,ff,ff,ff,ff,ff,ff,ff,ff,ff,ff,ff,ff,ff,ff,ff] z13_0 rfl rfl ⟨hv2, hv3, hv4, hv5, hv6⟩ (fun hHeld => ?_)
            refine with_tabW tup48.tab17 tup48.bits17 (fun HT_ HW_ => ?_)
            clear hv2 hv3 hv4 hv5 hv6
            generalize w4.drew = w5 at HB HN HL BY HFK hHeld ⊢
            refine prx13 0 64 #[tt,ff,ff,ff,ff,ff,ff,ff,ff,ff,ff,ff,ff,ff,ff,ff,ff,ff,ff,ff,ff,ff,ff,ff,ff,ff,ff,ff,ff] ?_
            refine prx13 1 65 #[tt,tt,ff,ff,ff,ff,ff,ff,ff,ff,ff,ff,ff,ff,ff,ff,ff,ff,ff,ff,ff,ff,ff,ff,ff,ff,ff,ff,ff] ?_
            refine prx13 2 66 #[tt,tt,tt,ff,ff,ff,ff,ff,ff,ff,ff,ff,ff,ff,ff,ff,ff,ff,ff,ff,ff,ff,ff,ff,ff,ff,ff,ff,ff] ?_
            refine prx13 3 67 #[tt,tt,tt,tt,ff,ff,ff,ff,ff,ff,ff,ff,ff,ff,ff,ff,ff,ff,ff,ff,ff,ff,ff,ff,ff,ff,ff,ff,ff] ?_
            refine prx13 5 69 #[tt,tt,tt,tt,ff,tt,ff,ff,ff,ff,ff,ff,ff,ff,ff,ff,ff,ff,ff,ff,ff,ff,ff,ff,ff,ff,ff,ff,ff] ?_
            refine prx13 6 70 #[tt,tt,tt,tt,ff,tt,tt,ff,ff,ff,ff,ff,ff,ff,ff,ff,ff,ff,ff,ff,ff,ff,ff,ff,ff,ff,ff,ff,ff] ?_
            refine prx13 7 71 #[tt,tt,tt,tt,ff,tt,tt,tt,ff,ff,ff,ff,ff,ff,ff,ff,ff,ff,ff,ff,ff,ff,ff,ff,ff,ff,ff,ff,ff] ?_
            refine prx13 8 72 #[tt,tt,tt,tt,ff,tt,tt,tt,tt,ff,ff,ff,ff,ff,ff,ff,ff,ff,ff,ff,ff,ff,ff,ff,ff,ff,ff,ff,ff] ?_
            refine prx13 10 74 #[tt,tt,tt,tt,ff,tt,tt,tt,tt,ff,tt,ff,ff,ff,ff,ff,ff,ff,ff,ff,ff,ff,ff,ff,ff,ff,ff,ff,ff] ?_
            refine prx13 11 75 #[tt,tt,tt,tt,ff,tt,tt,tt,tt,ff,tt,tt,ff,ff,ff,ff,ff,ff,ff,ff,ff,ff,ff,ff,ff,ff,ff,ff,ff] ?_
            refine prx13 12 76 #[tt,tt,tt,tt,ff,tt,tt,tt,tt,ff,tt,tt,tt,ff,ff,ff,ff,ff,ff,ff,ff,ff,ff,ff,ff,ff,ff,ff,ff] ?_
            refine prx13 13 77 #[tt,tt,tt,tt,ff,tt,tt,tt,tt,ff,tt,tt,tt,tt,ff,ff,ff,ff,ff,ff,ff,ff,ff,ff,ff,ff,ff,ff,ff] ?_
            refine prx13 15 79 #[tt,tt,tt,tt,ff,tt,tt,tt,tt,ff,tt,tt,tt,tt,ff,tt,ff,ff,ff,ff,ff,ff,ff,ff,ff,ff,ff,ff,ff] ?_
            refine prx13 17 81 #[tt,tt,tt,tt,ff,tt,tt,tt,tt,ff,tt,tt,tt,tt,ff,tt,ff,tt,ff,ff,ff,ff,ff,ff,ff,ff,ff,ff,ff] ?_
            refine prx13 19 83 #[tt,tt,tt,tt,ff,tt,tt,tt,tt,ff,tt,tt,tt,tt,ff,tt,ff,tt,ff,tt,ff,ff,ff,ff,ff,ff,ff,ff,ff] ?_
            refine prx13 21 85 #[tt,tt,tt,tt,ff,tt,tt,tt,tt,ff,tt,tt,tt,tt,ff,tt,ff,tt,ff,tt,ff,tt,ff,ff,ff,ff,ff,ff,ff] ?_
            refine prx13 23 87 #[tt,tt,tt,tt,ff,tt,tt,tt,tt,ff,tt,tt,tt,tt,ff,tt,ff,tt,ff,tt,ff,tt,ff,tt,ff,ff,ff,ff,ff] ?_
            refine take_ (i := 4) (N := some 68) (v := ?_) (a' := ?_) #[tt,tt,tt,tt,tt,tt,tt,tt,tt,ff,tt,tt,tt,tt,ff,tt,ff,tt,ff,tt,ff,tt,ff,tt,ff,ff,ff,ff,ff] rfl rfl (take_ofW HT_.out HW_.out z13_0) (fun _ _ _ h => h) (Or.inl ⟨by rfl, ?_⟩) hHeld ?_ ?_
            rotate_left
            ·rintro w' ⟨s0, s1, s2, s3, s4⟩
             go_simp
             with_reducible rfl
            rotate_left
            ·simp only [Act.put, L1_, L2_, L3_, i64_w, i32_w]
             rfl
            refine take_ (i := 9) (N := some 73) (v := ?_) (a' := ?_) #[tt,tt,tt,tt,tt,tt,tt,tt,tt,tt,tt,tt,tt,tt,ff,tt,ff,tt,ff,tt,ff,tt,ff,tt,ff,ff,ff,ff,ff] rfl rfl (take_ofW HT_.out HW_.out z13_0) (fun _ _ _ h => h) (Or.inl ⟨by rfl, ?_⟩) hHeld ?_ ?_
            rotate_left
            ·rintro w' ⟨s0, s1, s2, s3, s4⟩
             go_simp
             with_reducible rfl
            rotate_left
            ·simp only [Act.put, L1_, L2_, L3_, i64_w, i32_w]
             rfl
            refine take_ (i := 14) (N := some 78) (v := ?_) (a' := ?_) #[tt,tt,tt,tt,tt,tt,tt,tt,tt,tt,tt,tt,tt,tt,tt,tt,ff,tt,ff,tt,ff,tt,ff,tt,ff,ff,ff,ff,ff] rfl rfl (take_ofW HT_.out HW_.out z13_0) (fun _ _ _ h => h) (Or.inl ⟨by rfl, ?_⟩) hHeld ?_ ?_
            rotate_left
            ·rintro w' ⟨s0, s1, s2, s3, s4⟩
             go_simp
             with_reducible rfl
            rotate_left
            ·simp only [Act.put, L1_, L2_, L3_, i64_w, i32_w]
             rfl
            refine take_ (i := 16) (N := some 80) (v := ?_) (a' := ?_) #[tt,tt,tt,tt,tt,tt,tt,tt,tt,tt,tt,tt,tt,tt,tt,tt,tt,tt,ff,tt,ff,tt,ff,tt,ff,ff,ff,ff,ff] rfl rfl (take_ofW HT_.out HW_.out z13_0) (fun _ _ _ h => h) (Or.inl ⟨by rfl, ?_⟩) hHeld ?_ ?_
            rotate_left
            ·rintro w' ⟨s0, s1, s2, s3, s4⟩
             go_simp
             with_reducible rfl
            rotate_left
            ·simp only [Act.put, L1_, L2_, L3_, i64_w, i32_w]
             rfl
            refine take_ (i := 18) (N := some 82) (v := ?_) (a' := ?_) #[tt,tt,tt,tt,tt,tt,tt,tt,tt,tt,tt,tt,tt,tt,tt,tt,tt,tt,tt,tt,ff,tt,ff,tt,ff,ff,ff,ff,ff] rfl rfl (take_ofW HT_.out HW_.out z13_0) (fun _ _ _ h => h) (Or.inl ⟨by rfl, ?_⟩) hHeld ?_ ?_
            rotate_left
            ·rintro w' ⟨s0, s1, s2, s3, s4⟩
             go_simp
             with_reducible rfl
            rotate_left
            ·simp only [Act.put, L1_, L2_, L3_, i64_w, i32_w]
             rfl
            refine prx13 20 84 #[tt,tt,tt,tt,tt,tt,tt,tt,tt,tt,tt,tt,tt,tt,tt,tt,tt,tt,tt,tt,tt,tt,ff,tt,ff,ff,ff,ff,ff] ?_
            refine take_ (i := 22) (N := some 86) (v := ?_) (a' := ?_) #[tt,tt,tt,tt,tt,tt,tt,tt,tt,tt,tt,tt,tt,tt,tt,tt,tt,tt,tt,tt,tt,tt,tt,tt,ff,ff,ff,ff,ff] rfl rfl (take_ofW HT_.out HW_.out z13_0) (fun _ _ _ h => h) (Or.inl ⟨by rfl, ?_⟩) hHeld ?_ ?_
            rotate_left
            ·rintro w' ⟨s0, s1, s2, s3, s4⟩
             go_simp
             with_reducible rfl
            rotate_left
            ·simp only [Act.put, L1_, L2_, L3_, i64_w, i32_w]
             rfl
            refine prx13 24 88 #[tt,tt,tt,tt,tt,tt,tt,tt,tt,tt,tt,tt,tt,tt,tt,tt,tt,tt,tt,tt,tt,tt,tt,tt,tt,ff,ff,ff,ff] ?_
            refine prx13 25 89 #[tt,tt,tt,tt,tt,tt,tt,tt,tt,tt,tt,tt,tt,tt,tt,tt,tt,tt,tt,tt,tt,tt,tt,tt,tt,tt,ff,ff,ff] ?_
            refine one_ (i := 26) (N := some 90) #[tt,tt,tt,tt,tt,tt,tt,tt,tt,tt,tt,tt,tt,tt,tt,tt,tt,tt,tt,tt,tt,tt,tt,tt,tt,tt,tt,ff,ff] rfl rfl (one_of HT_.out z13_0) (by decide) (fun K hK => ?_)
            refine value_ (w1 := ?_) (v := ?_) (by rfl) rfl ?_ ?_
            rotate_left 2
            ·go_simp
             constructor
             ·rfl
             ·rfl
            refine hK.out _ _ ⟨(blk_cell (blk_alloc BY.out _) 2).trans rfl, (blk_cell (blk_alloc BY.out _) 3).trans rfl, (blk_cell (blk_alloc BY.out _) 4).trans rfl, (blk_cell (blk_alloc BY.out _) 5).trans rfl, (blk_cell (blk_alloc BY.out _) 6).trans rfl⟩ (fun hHeld => ?_)
            clear hK K
            refine norm_ (a' := ?_) ?_ ?_
            rotate_left
            ·show Act.put _ (some 90) _ = _
             simp only [Act.put, L1_, L2_, L3_, i64_w, i32_w]
             rfl
            refine one_ (i := 27) (N := some 91) #[tt,tt,tt,tt,tt,tt,tt,tt,tt,tt,tt,tt,tt,tt,tt,tt,tt,tt,tt,tt,tt,tt,tt,tt,tt,tt,tt,tt,ff] rfl rfl (one_of HT_.out z13_0) (by decide) (fun K hK => ?_)
            refine Kd.N_append_step k143 (w0 := wc) wc.heap.size (by rfl) (.tmp 64) (.tmp 90) 138 143 (.agg #[.slice none 0 0, .slice none 0 0, .slice none 0 0, .slice none 0 0, .slice none 0 0, .slice none 0 0]) 144 rfl Try.underlying138 info143 rfl (by decide) (by omega) (.slice Al lst.length cl) lst (⟨x.f0.f2.f0, x.f0.f3.f0.f0, x.f0.f3.f1.f0, x.f1, xt, xd⟩ : S143) [.slice B2 x.f0.f2.f0.length b2, .slice B3 x.f0.f3.f0.f0.length b3, .slice B4 x.f0.f3.f1.f0.length b4, .slice B5 x.f1.length b5, .slice B6 xt.length b6, .slice D6 xd.length d6] (fun k_ => w.heap.size ≤ k_) (fun k_ => (w.heap.size ≤ k_ ∧ k_ < wc.heap.size) ∧ k_ ≠ g) rfl rfl HFK.out ?aK ?aF HL.out HB.out ?aS ?aL ?_
            (case aK => exact (fun k_ hk => ⟨hk.1.1, fun e_ => Nat.not_le.2 hk.1.2 (HLB.out k_ e_.symm)⟩))
            (case aF => exact (fun k_ hk => Nat.le_trans HSW.out (Nat.le_trans HB.out.size hk)))
            (case aS => exact HB.out.size)
            (case aL => have := HLL.out; omega)
            intro v1_ w6 ho hb hg hat
            rw [← HY.out] at ho
            have n1_ := Aside0.mk (Kd.N_grown HN.out hg (fun k_ hk e_ => Nat.not_le.2 hk.2 (HLB.out k_ e_.symm)))
            have n3_ := Aside0.mk (blk_grown BY.out hg (Kd.N_ne HL.out BY.out (by decide)))
            have n2_ := Aside0.mk ho
            have n0_ := Aside0.mk hb
            clear HB HN HL BY HFK ho hb hg hat
            have HB := n0_
            have HN := n1_
            have HL := n2_
            have BY := n3_
            clear n0_ n1_ n2_ n3_
            obtain ⟨Al2, cl2, rfl⟩ := Kd.N_slice HL.out
            refine hK.out _ _ ⟨(blk_cell BY.out 2).trans rfl, (blk_cell BY.out 3).trans rfl, (blk_cell BY.out 4).trans rfl, (blk_cell BY.out 5).trans rfl, (blk_cell BY.out 6).trans rfl⟩ (fun hHeld => ?_)
            clear hK K
            refine norm_ (a' := ?_) ?_ ?_
            rotate_left
            ·show Act.put _ (some 91) _ = _
             simp only [Act.put, L1_, L2_, L3_, i64_w, i32_w]
             rfl
            refine prx13 28 6 #[tt,tt,tt,tt,tt,tt,tt,tt,tt,tt,tt,tt,tt,tt,tt,tt,tt,tt,tt,tt,tt,tt,tt,tt,tt,tt,tt,tt,tt] ?_
            refine done_ (done_of HT_.out z13_0) ?_
            have hhi : all[i.toNat]? = some x := by rw [HXX.out]; unfold rd_T169; rw [List.getD_eq_getElem?_getD, List.getElem?_eq_getElem (by have := HAL.out; omega)]; rfl
            have HYE : Aside0 (y = (all.take (i + 1).toNat).map fin143) := ⟨by rw [HY.out, HLS.out, show (i + 1).toNat = i.toNat + 1 by omega, take_step fin143 all i.toNat x hhi, HFIN.out]⟩
            have HIK : Aside0 (gk - 1 + (i + 1).toNat = all.length ∧ gk - 1 < gk ∧ 0 ≤ i + 1 ∧ i + 1 ≤ (all.length : Int)) := ⟨by have := HK.out; have := HAL.out; omega⟩
            have hmi : i + 1 ≤ 9223372036854775807 := by have := HL2.out; have := HAL.out; omega
            clear hhi hHeld
            try go_wp2
            go_roundg (gk - 1)
            case measure => exact HIK.out.2.1
            case rel => exact ⟨i + 1, y, Al2, cl2, rfl, rfl, HYE, ⟨HIK.out.2.2⟩, ⟨HIK.out.1⟩, HL, HN, HB⟩
          · have hltb : decide (i < (hs.length : Int)) = false := decide_eq_false (by rw [HAL.out]; exact hlt)
            have hie : i.toNat = all.length := by omega
            rw [hie, List.take_length] at HLS
            have HLE := HLS.out
            subst HLE
            clear hlt hi0 hi1 hie HLS
            go_wp2
            go_ret2
            exact ⟨_, rfl, Kd.N_V HL.out, HBW.out.trans (HB.out.mono HSW.out)⟩
def zT.f (k : Nat) (l0 : List Int) (a1 : Int) (a2 : Int) : Option (List (S143) × Option Int) := (tup48.f k l0 a1 a2).bind fun x => some (x, none)
theorem zT.mono : ∀ a0 a1 a2 k, LeO (zT.f k a0 a1 a2) (zT.f (k + 1) a0 a1 a2) := fun _ _ _ _ => LeO.bind (tup48.mono _ _ _ _) fun _ => LeO.refl _
theorem zT.calls (k : Nat) (A0 : Option Addr) (c0 : Nat) (l0 : List Int) (a1 : Int) (a2 : Int) (r1 : List (S143)) (r2 : Option Int) (w : World) (hr0 : Kd.C (Kd.int .u8) w A0 l0.length l0) (hc0 : l0.length ≤ c0) (h : zT.f k l0 a1 a2 = some (r1, r2)) :
    Calls Try.prog 48 #[.slice A0 l0.length c0, .int .i64 a1, .int .i64 a2] w fun e w' => ∃ v0_ : Value, ∃ e1_ : Value, e = .returned (.tuple #[v0_, e1_]) ∧ Kd.V k143 143 w' w.heap.size (fun k_ => (w.heap.size ≤ k_)) v0_ r1 ∧ EV e1_ r2 ∧ Below w.heap.size w w' := by
  obtain ⟨x, hx, h⟩ := Option.bind_eq_some_iff.mp h
  simp only [Option.some.injEq, Prod.mk.injEq] at h
  obtain ⟨rfl, rfl⟩ := h
  refine (tup48.calls k A0 c0 l0 a1 a2 x w hr0 hc0 hx).mono ?_
  rintro e w' ⟨v, rfl, z0, z1⟩
  exact ⟨v, _, rfl, z0, rfl, z1⟩

end Go.Proofs.Ytchkmmbedgolbaa.PFnTuplesOf

