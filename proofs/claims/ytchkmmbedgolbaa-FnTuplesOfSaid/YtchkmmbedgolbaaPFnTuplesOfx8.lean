-- Written by a program of this session (xprint) out of the translation; Lean checks it.
import Derived.Test.YtchkmmbedgolbaaPFnTuplesOfx0
import Derived.Test.YtchkmmbedgolbaaPFnTuplesOfx3
import Derived.Test.YtchkmmbedgolbaaPFnTuplesOfx4
import Derived.Test.YtchkmmbedgolbaaPFnTuplesOfx5
import Derived.Test.YtchkmmbedgolbaaPFnTuplesOfx6
import Derived.Test.YtchkmmbedgolbaaPFnTuplesOfx7
namespace Go.Proofs.Ytchkmmbedgolbaa.PFnTuplesOf
open Go.RowKit Go.Proofs.YtchkmmbedgolbaaW.PrintWords Go.Proofs.YtchkmmbedgolbaaW.PrintLast Go.Proofs.YtchkmmbedgolbaaW.PrintMore
attribute [local go_sem] max2_int min2_int max_two min_two max_three min_three max_four min_four   -- for this text's walks alone
set_option linter.unusedVariables false
set_option linter.unusedSimpArgs false
theorem prx8 {P : Program} {ops : Array Oper} {Q : Exit → Act → World → Prop} {md : Region.Mode} {S : World → Prop} {ds : List Nat} (i N : Nat) {oi : Oper} {v : Value} {fuel : Nat} {l : Array Bool} {a : Act} {w : World} (l' : Array Bool) {a' : Act} (h : wpAnyLast P md ops Q S ds fuel l' a' w) (hi : ops[i]? = some oi := by rfl) (hN : oi.dst = some N := by rfl) (hc : anyB md ops l l' i = true := by first | exact any_of HT_.out (by kernel_rfl) | kernel_rfl) (hQ : ∀ c a w, Q (.panic c) (a.put oi.dst v) w → Q (.panic c) a w := by exact fun _ _ _ h => h) (hy : Yields P ops oi v a := by refine Or.inl ⟨by rfl, ?_⟩; intro w'; go_simp; with_reducible rfl) (ha : a.put (some N) v = a' := by first | (simp only [Act.put, L1_, L2_, L3_, i64_w, i32_w]; rfl) | ((try go_ints); (try simp (disch := omega) only [n3_]); simp only [Act.put, L1_, L2_, L3_, i64_w, i32_w]; rfl)) : wpAnyLast P md ops Q S ds (fuel + 1) l a w := pure_ l' hi hN hc hQ hy ha h
theorem cz2x8 {w : World} {g : Nat} {t : TypeId} {v0 v1 : Value} (h : w.heap[g]? = some (.cells #[v0, v1] t (0, 0))) : w.cell? ⟨g, 0, none⟩ = some v0 ∧ w.cell? ⟨g, 1, none⟩ = some v1 := ⟨(blk_cell h 0).trans rfl, (blk_cell h 1).trans rfl⟩
theorem cz7x8 {w : World} {g : Nat} {t : TypeId} {v0 v1 v2 v3 v4 v5 v6 : Value} (h : w.heap[g]? = some (.cells #[v0, v1, v2, v3, v4, v5, v6] t (0, 0))) : w.cell? ⟨g, 0, none⟩ = some v0 ∧ w.cell? ⟨g, 1, none⟩ = some v1 ∧ w.cell? ⟨g, 2, none⟩ = some v2 ∧ w.cell? ⟨g, 3, none⟩ = some v3 ∧ w.cell? ⟨g, 4, none⟩ = some v4 ∧ w.cell? ⟨g, 5, none⟩ = some v5 ∧ w.cell? ⟨g, 6, none⟩ = some v6 := ⟨(blk_cell h 0).trans rfl, (blk_cell h 1).trans rfl, (blk_cell h 2).trans rfl, (blk_cell h 3).trans rfl, (blk_cell h 4).trans rfl, (blk_cell h 5).trans rfl, (blk_cell h 6).trans rfl⟩
theorem fz2x8 {w : World} {g : Nat} {t : TypeId} {cs : Array Value} (h : w.heap[g]? = some (.cells cs t (0, 0))) : w.frozen? ⟨g, 0, none⟩ = false ∧ w.frozen? ⟨g, 1, none⟩ = false := ⟨blk_frozen h 0, blk_frozen h 1⟩
theorem fz7x8 {w : World} {g : Nat} {t : TypeId} {cs : Array Value} (h : w.heap[g]? = some (.cells cs t (0, 0))) : w.frozen? ⟨g, 0, none⟩ = false ∧ w.frozen? ⟨g, 1, none⟩ = false ∧ w.frozen? ⟨g, 2, none⟩ = false ∧ w.frozen? ⟨g, 3, none⟩ = false ∧ w.frozen? ⟨g, 4, none⟩ = false ∧ w.frozen? ⟨g, 5, none⟩ = false ∧ w.frozen? ⟨g, 6, none⟩ = false := ⟨blk_frozen h 0, blk_frozen h 1, blk_frozen h 2, blk_frozen h 3, blk_frozen h 4, blk_frozen h 5, blk_frozen h 6⟩
theorem z8_17 {p : Prop} (h : p := by have := HJ5.out; have := HK2.out; have := HJ16.out; first | omega | exact Nat.le_refl _) : p := h
theorem z8_16 {p : Prop} (h : p := by first | (with_reducible assumption) | assumption) : p := h
theorem z8_15 {p : Prop} (h : p := by decide) : p := h
theorem z8_14 {p : Prop} (h : p := by rw [hg]; exact (below_size z8_0)) : p := h
theorem z8_13 {p : Prop} (h : p := by (with_reducible repeat (first | apply b1_ | apply b2_ | apply b3_)); exact BK220.out) : p := h
theorem z8_12 {p : Prop} (h : p := by (with_reducible repeat (first | apply Kd.R_alloc | apply Kd.R_drewN | apply Kd.R_drew)); exact HO247.out) : p := h
theorem z8_11 {p : Prop} (h : p := by repeat (first | (with_reducible first | exact HI209.out | apply IsS126.alloc | apply IsS126.drewN | apply IsS126.drew | apply IsS126.set_1 | apply IsS126.set_2) | exact HI209.out)) : p := h
theorem z8_10 {p : Prop} (h : p := by first | exact Kd.R_nil _ _ _ _ _ | exact Kd.N_nil _ _ _ _ _ | exact Kd.V_nil _ _ _ _ _ | exact Kd.Q_nil _ _ _ _ _ | exact Kd.S_nil _ _ _ _ _) : p := h
theorem z8_9 {p : Prop} (h : p := by first | rfl | (simp; done) | (simp [*]; done)) : p := h
theorem z8_8 {p : Prop} (h : p := by kernel_rfl) : p := h
theorem z8_7 {p : Prop} (h : p := by (with_reducible repeat (first | apply b1_ | apply b2_ | apply b3_)); refine blk_far ?_ NB219_234.out _; (with_reducible repeat (first | apply b1_ | apply b2_ | apply b3_)); refine blk_far ?_ NB219_234.out _; (with_reducible repeat (first | apply b1_ | apply b2_ | apply b3_)); refine blk_far ?_ NB219_234.out _; (with_reducible repeat (first | apply b1_ | apply b2_ | apply b3_)); refine blk_far ?_ NB219_234.out _; (with_reducible repeat (first | apply b1_ | apply b2_ | apply b3_)); refine blk_far ?_ NB219_234.out _; (with_reducible repeat (first | apply b1_ | apply b2_ | apply b3_)); refine blk_far ?_ NB219_234.out _; (with_reducible repeat (first | apply b1_ | apply b2_ | apply b3_)); refine blk_far ?_ NB219_234.out _; (with_reducible repeat (first | apply b1_ | apply b2_ | apply b3_)); exact BK219.out) : p := h
theorem z8_6 {p : Prop} (h : p := by (with_reducible repeat (first | apply Kd.R_alloc | apply Kd.R_drewN | apply Kd.R_drew)); exact HO_17.out) : p := h
theorem z8_5 {p : Prop} (h : p := by (with_reducible repeat (first | apply b1_ | apply b2_ | apply b3_)); exact BK234.out) : p := h
theorem z8_4 {p : Prop} (h : p := by (try simp only [List.map_toArray, List.map_cons, List.map_nil]); first | done | rfl | (simp only [List.length_drop, List.length_take]; rfl)) : p := h
theorem z8_3 {p : Prop} (h : p := by (with_reducible repeat (first | apply b1_ | apply b2_ | apply b3_)); exact BK219.out) : p := h
theorem z8_2 {p : Prop} (h : p := by (with_reducible repeat (first | apply Kd.R_alloc | apply Kd.R_drewN | apply Kd.R_drew)); exact HO_220000.out) : p := h
theorem z8_1 {p : Prop} (h : p := by (with_reducible repeat (first | apply Kd.R_alloc | apply Kd.R_drewN | apply Kd.R_drew)); exact HO_11.out) : p := h
theorem z8_0 {p : Prop} (h : p := by repeat (first | (with_reducible first | exact HB.out | apply below_alloc | apply pw_below_drewN | apply below_drew1 | refine below_set ?_ (IsS126.ge HI209.out) | refine below_set ?_ GE219.out | refine below_set ?_ GE220.out | refine below_set ?_ GE234.out) | exact HB.out)) : p := h

def tBy.T16 : Bool × List (List Nat × List Nat) := (true, [([], []), ([0], [0]), ([1], [1]), ([2], [2]), ([3, 2], [2, 3]), ([2], [2]), ([5, 2], [2, 5]), ([6, 2], [2, 6]), ([7, 2], [2, 7]), ([4, 8, 2, 2], [2, 4, 8]), ([9, 2], [2, 9]), ([2, 10], [2, 10]), ([11, 9], [11]), ([12], [12]), ([13, 12, 12], [12, 13]), ([14, 12], [12, 14]), ([12, 15], [12, 15])])
def tBy.B16 : List Nat := [0, 1, 3, 7, 15, 7, 39, 103, 231, 511, 1023, 2047, 4095, 8191, 16383, 32767, 65535]
theorem tBy.tab16 : rtab .any (opsOf Try.f26 16) = tBy.T16 := by kernel_rfl
theorem tBy.bits16 : waitsOk tBy.T16.2 tBy.B16 = true := by kernel_rfl
def tBy.T27 : Bool × List (List Nat × List Nat) := (true, [([], []), ([0], [0]), ([1], [1]), ([2], [2]), ([], []), ([4], [4]), ([5], [5]), ([6], [6]), ([3, 7], [3, 7]), ([], []), ([8, 9, 8], [8, 9]), ([], []), ([11], [11]), ([12], [12]), ([13], [13]), ([14], [14]), ([15], [15]), ([], []), ([17], [17]), ([16, 18], [16, 18]), ([19], [19]), ([10, 10, 0, 1, 2, 3, 4, 5, 6, 7, 8, 9, 10], [10]), ([20, 21, 0, 1, 2, 3, 4, 5, 6, 7, 8, 9, 10, 11, 12, 13, 14, 15, 16, 17, 18, 19, 20, 21], [20])])
def tBy.B27 : List Nat := [0, 1, 3, 7, 0, 16, 48, 112, 255, 0, 1023, 0, 2048, 6144, 14336, 30720, 63488, 0, 131072, 522240, 1046528, 2047, 4194303]
theorem tBy.tab27 : rtab .any (opsOf Try.f26 27) = tBy.T27 := by kernel_rfl
theorem tBy.bits27 : waitsOk tBy.T27.2 tBy.B27 = true := by kernel_rfl
/-- The three rows of TupleBytes (data, own, head.b), each in a block of its own; the head, the tuple and the writer in memory. -/
def TB (w W : World) (u1 u2 u3 : Value) (x1 x2 x3 : List Int) (g h gw : Nat) (cs : Array Value) (l3 : List Int) (a : Int) (b : Bool) : Prop :=
  Kd.R (Kd.int .u8) 5 W w.heap.size (fun k_ => some k_ ≠ u2.ownBlock ∧ some k_ ≠ u3.ownBlock) u1 x1 ∧ Kd.R (Kd.int .u8) 5 W w.heap.size (fun k_ => some k_ ≠ u1.ownBlock ∧ some k_ ≠ u3.ownBlock) u2 x2 ∧ Kd.R (Kd.int .u8) 5 W w.heap.size (fun k_ => some k_ ≠ u1.ownBlock ∧ some k_ ≠ u2.ownBlock) u3 x3 ∧ W.heap[g]? = some (.cells #[u3, .slice none 0 0] 130 (0, 0)) ∧ W.heap[h]? = some (.cells cs 62 (0, 0)) ∧ IsS126 w W gw l3 a b ∧ Below w.heap.size w W
theorem TB.alloc {w W : World} {u1 u2 u3 : Value} {x1 x2 x3 : List Int} {g h gw : Nat} {cs : Array Value} {l3 : List Int} {a : Int} {b : Bool} (T : TB w W u1 u2 u3 x1 x2 x3 g h gw cs l3 a b) (o : Obj) : TB w (W.alloc o) u1 u2 u3 x1 x2 x3 g h gw cs l3 a b :=
  ⟨Kd.R_alloc T.1 o, Kd.R_alloc T.2.1 o, Kd.R_alloc T.2.2.1 o, b3_ T.2.2.2.1 _, b3_ T.2.2.2.2.1 _, IsS126.alloc T.2.2.2.2.2.1 o, below_alloc T.2.2.2.2.2.2 o⟩
theorem TB.drew {w W : World} {u1 u2 u3 : Value} {x1 x2 x3 : List Int} {g h gw : Nat} {cs : Array Value} {l3 : List Int} {a : Int} {b : Bool} (T : TB w W u1 u2 u3 x1 x2 x3 g h gw cs l3 a b) : TB w W.drew u1 u2 u3 x1 x2 x3 g h gw cs l3 a b :=
  ⟨Kd.R_drew T.1, Kd.R_drew T.2.1, Kd.R_drew T.2.2.1, b2_ T.2.2.2.1, b2_ T.2.2.2.2.1, IsS126.drew T.2.2.2.2.2.1, below_drew1 T.2.2.2.2.2.2⟩
/-- What a call of short leaves. -/
def TBPost (w : World) (u1 u2 : Value) (x1 x2 t : List Int) (g h gw : Nat) (cs : Array Value) (l3 : List Int) (a : Int) (b : Bool) (e : Ending) (w' : World) : Prop := ∃ (A : Option Addr) (c : Nat), e = .returned (.pointer (some ⟨g, 0, none⟩)) ∧ TB w w' u1 u2 (.slice A t.length c) x1 x2 t g h gw cs l3 a b
theorem tb_short {k : Nat} {w W : World} {u1 u2 u3 : Value} {x1 x2 x3 : List Int} {g h gw : Nat} {cs : Array Value} {l3 : List Int} {a : Int} {b : Bool} (T : TB w W u1 u2 u3 x1 x2 x3 g h gw cs l3 a b) (hgw : w.heap.size ≤ g) (n1 : h ≠ g) (n2 : gw ≠ g) {A : Option Addr} {c : Nat} {l t : List Int} (hr : ∀ W_, Kept W W_ (fun k_ => some k_ = u3.ownBlock ∨ k_ = g) → Kd.C (Kd.int .i64) W_ A l.length l) (hc : l.length ≤ c) (hf : tSh.f k x3 l = some t) :
    Calls Try.prog 40 #[.pointer (some ⟨g, 0, none⟩), .slice A l.length c] W (TBPost w u1 u2 x1 x2 t g h gw cs l3 a b) := by
  obtain ⟨h1, h2, h3, h4, h5, h6, h7⟩ := T
  have e1 := Kd.R_lt h1
  have e2 := Kd.R_lt h2
  refine (tSh.calls k g (fun k_ => some k_ = u3.ownBlock) u3 x3 A c l t w W h7 (Kd.R_tight rfl h3) hr hc h4 hgw (fun e_ => Kd.R_ne h3 h4 z8_15 e_) hf).mono ?_
  rintro e w' ⟨v, w1, rfl, rfl, z1, z2, z3, z4⟩
  have q1 := Kd.R_types (Kd.R_mono (ok' := fun k_ => some k_ ≠ u2.ownBlock ∧ some k_ ≠ v.ownBlock) (Kd.R_keptB h1 z4 (fun k_ hk_ hs_ => hk_.2 hs_)) (fun k_ hk_ => ⟨hk_.1.1, fun e_ => Or.elim (z2.1 k_ e_.symm) (fun hs_ => hk_.2.1 hs_) (fun hn_ => Nat.not_le.2 hk_.2.2 hn_)⟩)) z1 z8_15
  have q2 := Kd.R_types (Kd.R_mono (ok' := fun k_ => some k_ ≠ u1.ownBlock ∧ some k_ ≠ v.ownBlock) (Kd.R_keptB h2 z4 (fun k_ hk_ hs_ => hk_.2 hs_)) (fun k_ hk_ => ⟨hk_.1.1, fun e_ => Or.elim (z2.1 k_ e_.symm) (fun hs_ => hk_.2.1 hs_) (fun hn_ => Nat.not_le.2 hk_.2.2 hn_)⟩)) z1 z8_15
  have q3 := Kd.R_types (Kd.R_mono (ok' := fun k_ => some k_ ≠ u1.ownBlock ∧ some k_ ≠ u2.ownBlock) z2 (fun k_ hk_ => ⟨Or.elim hk_ (fun hs_ e_ => (h1.1 k_ e_.symm).2 hs_) (fun hn_ => Kd.fresh' e1 k_ hn_), Or.elim hk_ (fun hs_ e_ => (h2.1 k_ e_.symm).2 hs_) (fun hn_ => Kd.fresh' e2 k_ hn_)⟩)) z1 z8_15
  have q5 := blk_kept h5 z4 (fun hs_ => Kd.R_ne h3 h5 z8_15 hs_)
  have q6 := IsS126.kept h6 z4 (fun hs_ => IsS126.own_ne h6 h3 z8_15 hs_)
  obtain ⟨A2, c2, rfl⟩ := Kd.R_slice z2
  exact ⟨A2, c2, rfl, Kd.R_mono (Kd.R_far (p := ⟨g, 0, none⟩) q1 (fun _ hk => hk.2) _) (fun _ hk => hk.1), Kd.R_mono (Kd.R_far (p := ⟨g, 0, none⟩) q2 (fun _ hk => hk.2) _) (fun _ hk => hk.1), Kd.R_mono (Kd.R_far (p := ⟨g, 0, none⟩) q3 (fun _ hk => hk.2) _) (fun _ hk => hk.1), blk_put z1 0 _ rfl, blk_far q5 n1 _, IsS126.far q6 n2 _, below_set z3 hgw⟩
/-- A row that came in, for short. -/
theorem tb_came {w W : World} {u1 u2 u3 : Value} {x1 x2 x3 : List Int} {g h gw : Nat} {cs : Array Value} {l3 : List Int} {a : Int} {b : Bool} (T : TB w W u1 u2 u3 x1 x2 x3 g h gw cs l3 a b) (hgw : w.heap.size ≤ g) {A : Option Addr} {l : List Int} (hr : Kd.C (Kd.int .i64) w A l.length l) : ∀ W_, Kept W W_ (fun k_ => some k_ = u3.ownBlock ∨ k_ = g) → Kd.C (Kd.int .i64) W_ A l.length l :=
  Kd.C_kept_came (Kd.heap_int .i64) hr T.2.2.2.2.2.2 (fun k_ hs_ => Or.elim hs_ (fun e_ => Kd.R_base T.2.2.1 k_ e_.symm) (fun e_ => e_ ▸ hgw))
/-- A literal row of two numbers, for short. -/
theorem tb_lit {w W : World} {u1 u2 u3 : Value} {x1 x2 x3 : List Int} {g h gw : Nat} {cs : Array Value} {l3 : List Int} {a : Int} {b : Bool} (T : TB w W u1 u2 u3 x1 x2 x3 g h gw cs l3 a b) {q : Nat} {y z : Int} (hq : W.heap[q]? = some (.cells #[.int .i64 y, .int .i64 z] 3 (0, 0))) : ∀ W_, Kept W W_ (fun k_ => some k_ = u3.ownBlock ∨ k_ = g) → Kd.C (Kd.int .i64) W_ (some ⟨q, 0, none⟩) 2 [y, z] := by
  intro W_ hk
  have hb2 := blk_kept hq hk (fun h_ => h_.elim (fun e_ => Kd.R_ne T.2.2.1 hq z8_15 e_) (fun e_ => blk_ne hq T.2.2.2.1 z8_15 e_))
  exact Kd.C_of_reads (h1 := fun _ => rfl) (d := (0 : Int)) ⟨rfl, by simp, fun _ => ⟨_, rfl, fun j hj => by
    have hj : j < 2 := hj
    refine (show W_.cell? (Addr.add ⟨q, 0, none⟩ j) = W_.cell? ⟨q, j, none⟩ from by rw [add_plain]).trans ((blk_cell hb2 j).trans ?_)
    match j, hj with
    | 0, _ => rfl
    | 1, _ => rfl⟩⟩
theorem tb_cs {k : Nat} {w W : World} {u1 u2 u3 : Value} {x1 x2 x3 : List Int} {g h gw : Nat} {cs : Array Value} {l3 : List Int} {a : Int} {b : Bool} (T : TB w W u1 u2 u3 x1 x2 x3 g h gw cs l3 a b) (hgw : w.heap.size ≤ g) (n1 : h ≠ g) (n2 : gw ≠ g) {A : Option Addr} {c : Nat} {l t : List Int} (hr : Kd.C (Kd.int .i64) w A l.length l) (hc : l.length ≤ c) (hf : tSh.f k x3 l = some t) :
    Calls Try.prog 40 #[.pointer (some ⟨g, 0, none⟩), .slice A l.length c] W (TBPost w u1 u2 x1 x2 t g h gw cs l3 a b) := tb_short T hgw n1 n2 (tb_came T hgw hr) hc hf
set_option maxHeartbeats 8000000 in
set_option maxRecDepth 100000 in
theorem tBy.calls (k : Nat) (A0 : Option Addr) (c0 : Nat) (l0 : List (S62)) (a1 : Int) (a2 : Int) (A3 : Option Addr) (c3 : Nat) (l3 : List Int) (r1 : List Int) (r2 : Bool) (w : World) (hr0 : Kd.C k62 w A0 l0.length l0) (hc0 : l0.length ≤ c0) (hr3 : Kd.C (Kd.int .u8) w A3 l3.length l3) (hc3 : l3.length ≤ c3) (h : tBy.f k l0 a1 a2 l3 = some (r1, r2)) :
  Calls Try.prog 26 #[.slice A0 l0.length c0, .int .i64 a1, .int .i64 a2, .slice A3 l3.length c3] w fun e w' => ∃ v0_ : Value, e = .returned (.tuple #[v0_, .bool r2]) ∧ Kd.R (Kd.int .u8) 5 w' w.heap.size (fun _ => True) v0_ r1 ∧ Below w.heap.size w w' := by
 have hu126 := Try.underlying126
 have hu130 := Try.underlying130
 have hu62 := Try.underlying62
 have HR0 := Aside0.mk hr0
 have HC0 := Aside0.mk hc0
 clear hr0 hc0
 have HR3 := Aside0.mk hr3
 have HC3 := Aside0.mk hc3
 clear hr3 hc3
 have HB := Aside0.mk (Below.refl w.heap.size w)
 have H : ((wWy.f l3 0 false 2).bind fun bt210 => (if bt210.1 = 1 then (if 0 < (l0.length : Int) then ((wPP.f k l3 bt210.2.1 bt210.2.2 ((rd_T62 l0 0).f4)).bind fun bt214 => (tBy.j0 k l0 bt214.1 (bt210.1 == 1) (Go.bits .or .i64 (l0.length : Int) 32768) l3 bt214.2.1 bt214.2.2)) else (none)) else (tBy.j0 k l0 ([] : List Int) (bt210.1 == 1) (l0.length : Int) l3 bt210.2.1 bt210.2.2))) = some (r1, r2) := h
 clear h
 replace H := Option.bind_eq_some_iff.mp H
 obtain ⟨⟨t210, t211, t212⟩, A50, H⟩ := H
 replace H : (if t210 = 1 then (if 0 < (l0.length : Int) then ((wPP.f k l3 t211 t212 ((rd_T62 l0 0).f4)).bind fun bt214 => (tBy.j0 k l0 bt214.1 (t210 == 1) (Go.bits .or .i64 (l0.length : Int) 32768) l3 bt214.2.1 bt214.2.2)) else (none)) else (tBy.j0 k l0 ([] : List Int) (t210 == 1) (l0.length : Int) l3 t211 t212)) = some (r1, r2) := H
 have A5 := Aside0.mk A50
 clear A50
 have HC6 := Aside0.mk H
 clear H
 go_enter Try.func26, Try.ntmps26
 go_upto_if 28 with (first | ((with_reducible refine gate_dst (N := 22) rfl ?_); refine box_event ?hg (N := 22) ?hd (cs := #[.slice A3 l3.length c3, .int .i64 0, .bool false]) (t := 126) ?hr ?_; (case hd => rfl); (case hg => rfl); (case hr => first | (go_simp; done) | (go_simp; rfl)); intro gb209 hg w7 hbox hb; have n0_ := Aside0.mk (below_step z8_0 hb); have n1_ := Aside0.mk ((z8_14 : w.heap.size ≤ gb209)); have n2_ := Aside0.mk ((z8_14 : w.heap.size ≤ gb209)); have n3_ := Aside0.mk ((IsS126.ofS hbox z8_14 ⟨HR3.out, HC3.out⟩ : IsS126 w w7 gb209 l3 0 false)); clear HB; have HB := n0_; have GW209 := n1_; have GE209 := n2_; have HI209 := n3_; clear n0_ n1_ n2_ n3_; clear hb hbox hg) | ((with_reducible refine gate_callee (f := 41) rfl ?_); refine goesL_ (some 24) rfl rfl Try.func41 z8_8 rfl #[.pointer (some ⟨gb209, 0, none⟩), .int .i64 2] rfl z8_4 ?_; (with_reducible refine (wWy.calls gb209 l3 0 false 2 t210 t211 t212 w _ ?side1 ?side2 A5.out).mono ?_); (case side1 => repeat (first | (with_reducible first | exact HI209.out | apply IsS126.alloc | apply IsS126.drewN | apply IsS126.drew | apply IsS126.set_1 | apply IsS126.set_2) | exact HI209.out)); (case side2 => repeat (first | (with_reducible first | exact HB.out | apply below_alloc | apply pw_below_drewN | apply below_drew1 | refine below_set ?_ (IsS126.ge HI209.out)) | exact HB.out)); rintro e w8 ⟨rfl, hi, hb, hk⟩; refine ⟨_, rfl, ?_⟩; have n0_ := Aside0.mk (hb); have n1_ := Aside0.mk (hi); clear HB; clear HI209; have HB := n0_; have HI209 := n1_; clear n0_ n1_ hb hk; (clear hi)))
 (try simp only [Act.put, L1_, L2_, L3_])
 go_cut [11, 12, 13] (fun v11 v12 v13 wc => ∃ (kq : Nat) (x11_5 : List Int) (x13_5 : Int) (x210001_5 : Int) (x210002_5 : Bool), v12 = .bool (t210 == 1) ∧ v13 = .int .i64 x13_5 ∧ Aside0 (tBy.j0 kq l0 x11_5 (t210 == 1) x13_5 l3 x210001_5 x210002_5 = some (r1, r2)) ∧ Aside0 (kq ≤ k) ∧ Aside0 (Kd.R (Kd.int .u8) 5 wc w.heap.size (fun _ => True) v11 x11_5) ∧ Aside0 (IsS126 w wc gb209 l3 x210001_5 x210002_5) ∧ Aside0 (Below w.heap.size w wc))
 case first =>
  have H := HC6.out
  clear HC6
  by_cases c9 : t210 = 1
  ·rw [if_pos c9] at H
   have c9b0 : (t210 == 1) = true := beq_iff_eq.mpr c9
   have c9b1 : (t210 != 1) = false := bne_eq_false_iff_eq.mpr c9
   clear c9
   (first | rw [c9b0] | (simp only [i64_w, i32_w]; rw [c9b0]) | skip)
   by_cases c10 : 0 < (l0.length : Int)
   rotate_left
   ·rw [if_neg c10] at H
    exact absurd H (by simp)
   rw [if_pos c10] at H
   have c10b0 : decide (0 < (l0.length : Int)) = true := decide_eq_true c10
   have c10b1 : decide (0 < l0.length) = true := decide_eq_true (by omega)
   clear c10
   replace H := Option.bind_eq_some_iff.mp H
   obtain ⟨⟨t214, t217, t218⟩, A110, H⟩ := H
   replace H : (tBy.j0 k l0 t214 (t210 == 1) (Go.bits .or .i64 (l0.length : Int) 32768) l3 t217 t218) = some (r1, r2) := H
   have A11 := Aside0.mk A110
   clear A110
   have H' := Aside0.mk H
   clear H
   have p213 : 0 ≤ (0 : Int) := (by omega)
   have q213 : 0 < (l0.length : Int) := of_decide_eq_true z8_16
   obtain ⟨ad213, A213_0, c213_0, A213_2, c213_2, A213_3, c213_3, A213_4, c213_4, A213_5, c213_5, A213_6, c213_6, e213, hx213_0, hx213_1, hx213_2, hx213_3, hx213_4, hx213_5, hx213_6, hl213_0, hi213_0, hl213_2, hi213_2, hl213_3, hi213_3, hl213_4, hi213_4, hl213_5, hi213_5, hl213_6, hi213_6⟩ := at_T62 HR0.out 0 p213 q213
   cases e213
   have qi213 : (0 < l0.length) = True := eq_true (by omega)
   (try rw [show ((0 : Int)).toNat = 0 from rfl] at hx213_0)
   (try rw [show 0 * 7 = 0 from rfl] at hx213_0)
   (try rw [Addr.add_zero'] at hx213_0)
   (try rw [show ((0 : Int)).toNat = 0 from rfl] at hx213_1)
   (try rw [show 0 * 7 = 0 from rfl] at hx213_1)
   (try rw [Addr.add_zero'] at hx213_1)
   (try rw [show ((0 : Int)).toNat = 0 from rfl] at hx213_2)
   (try rw [show 0 * 7 = 0 from rfl] at hx213_2)
   (try rw [Addr.add_zero'] at hx213_2)
   (try rw [show ((0 : Int)).toNat = 0 from rfl] at hx213_3)
   (try rw [show 0 * 7 = 0 from rfl] at hx213_3)
   (try rw [Addr.add_zero'] at hx213_3)
   (try rw [show ((0 : Int)).toNat = 0 from rfl] at hx213_4)
   (try rw [show 0 * 7 = 0 from rfl] at hx213_4)
   (try rw [Addr.add_zero'] at hx213_4)
   (try rw [show ((0 : Int)).toNat = 0 from rfl] at hx213_5)
   (try rw [show 0 * 7 = 0 from rfl] at hx213_5)
   (try rw [Addr.add_zero'] at hx213_5)
   (try rw [show ((0 : Int)).toNat = 0 from rfl] at hx213_6)
   (try rw [show 0 * 7 = 0 from rfl] at hx213_6)
   (try rw [Addr.add_zero'] at hx213_6)
   replace hx213_0 := (HB.out.cell (World.block_lt_of_cell? w _ hx213_0)).trans hx213_0
   replace hx213_1 := (HB.out.cell (World.block_lt_of_cell? w _ hx213_1)).trans hx213_1
   replace hx213_2 := (HB.out.cell (World.block_lt_of_cell? w _ hx213_2)).trans hx213_2
   replace hx213_3 := (HB.out.cell (World.block_lt_of_cell? w _ hx213_3)).trans hx213_3
   replace hx213_4 := (HB.out.cell (World.block_lt_of_cell? w _ hx213_4)).trans hx213_4
   replace hx213_5 := (HB.out.cell (World.block_lt_of_cell? w _ hx213_5)).trans hx213_5
   replace hx213_6 := (HB.out.cell (World.block_lt_of_cell? w _ hx213_6)).trans hx213_6
   have HR213_0 := Aside0.mk hi213_0
   have HC213_0 := Aside0.mk hl213_0
   clear hi213_0 hl213_0
   have HR213_2 := Aside0.mk hi213_2
   have HC213_2 := Aside0.mk hl213_2
   clear hi213_2 hl213_2
   have HR213_3 := Aside0.mk hi213_3
   have HC213_3 := Aside0.mk hl213_3
   clear hi213_3 hl213_3
   have HR213_4 := Aside0.mk hi213_4
   have HC213_4 := Aside0.mk hl213_4
   clear hi213_4 hl213_4
   have HR213_5 := Aside0.mk hi213_5
   have HC213_5 := Aside0.mk hl213_5
   clear hi213_5 hl213_5
   have HR213_6 := Aside0.mk hi213_6
   have HC213_6 := Aside0.mk hl213_6
   clear hi213_6 hl213_6
   replace p213 := eq_true p213
   replace q213 := eq_true q213
   go_wp2_with (first | ((with_reducible refine gate_callee (f := 45) rfl ?_); refine goesL_ (some 36) rfl rfl Try.func45 z8_8 rfl #[.pointer (some ⟨gb209, 0, none⟩), .slice A213_4 ((rd_T62 l0 0).f4).length c213_4] rfl z8_4 ?_; (with_reducible refine (wPP.calls k gb209 l3 t211 t212 _ _ ((rd_T62 l0 0).f4) t214 t217 t218 w _ ?side1 ?side2 ?side3 ?side4 ?side5 A11.out).mono ?_); (case side1 => repeat (first | (with_reducible first | exact HI209.out | apply IsS126.alloc | apply IsS126.drewN | apply IsS126.drew | apply IsS126.set_1 | apply IsS126.set_2) | exact HI209.out)); (case side2 => repeat (first | (with_reducible first | exact HB.out | apply below_alloc | apply pw_below_drewN | apply below_drew1 | refine below_set ?_ (IsS126.ge HI209.out)) | exact HB.out)); (case side3 => repeat (first | exact (Kd.C_below HR213_4.out HB.out) | (with_reducible refine Kd.C_alloc ?_ _) | (with_reducible refine Kd.C_drewN ?_ _) | (with_reducible refine Kd.C_drew ?_))); (case side4 => exact HC213_4.out); (case side5 => exact Kd.far_C 0 HR213_4.out (IsS126.ge HI209.out)); rintro e w12 ⟨v215, rfl, ho0, hi, hb, hk⟩; refine ⟨_, rfl, ?_⟩; have n0_ := Aside0.mk (Kd.R_lower ho0 (below_size z8_0)); have n1_ := Aside0.mk (hb); have n2_ := Aside0.mk (hi); clear HB; clear HI209; have HO216 := n0_; have HB := n1_; have HI209 := n2_; clear n0_ n1_ n2_ hb hk hi; (clear ho0)))
   go_meet
   case rel => exact ⟨_, (t214), (Go.bits .or .i64 (l0.length : Int) 32768), (t217), (t218), z8_9, z8_9, H', ⟨by first | omega | exact Nat.le_refl _⟩, ⟨by (with_reducible repeat (first | apply Kd.R_alloc | apply Kd.R_drewN | apply Kd.R_drew)); exact HO216.out⟩, ⟨z8_11⟩, ⟨z8_0⟩⟩
  ·rw [if_neg c9] at H
   have c9b0 : (t210 == 1) = false := beq_eq_false_iff_ne.mpr c9
   have c9b1 : (t210 != 1) = true := bne_iff_ne.mpr c9
   (first | rw [c9b0] | (simp only [i64_w, i32_w]; rw [c9b0]) | skip)
   have H' := Aside0.mk H
   clear H
   go_wp2
   go_meet
   case rel => exact ⟨_, (([] : List Int)), ((l0.length : Int)), (t211), (t212), z8_9, z8_9, H', ⟨by first | omega | exact Nat.le_refl _⟩, ⟨z8_10⟩, ⟨z8_11⟩, ⟨z8_0⟩⟩
 case rest =>
  clear HC6
  obtain ⟨kq, x11_5, x13_5, x210001_5, x210002_5, rfl, rfl, HA, HJ5, HO_11, HI209, HB⟩ := hcut
  cases kq with
  | zero => exact absurd HA.out (by simp [tBy.j0])
  | succ kj5 =>
   have H := HA.out
   clear HA
   simp only [tBy.j0] at H
   have H' := Aside0.mk H
   clear H
   go_wp2_with (first | ((with_reducible refine gate_dst (N := 38) rfl ?_); refine box_event ?hg (N := 38) ?hd (cs := #[.slice none 0 0, .slice none 0 0]) (t := 130) ?hr ?_; (case hd => rfl); (case hg => rfl); (case hr => first | (go_simp; done) | (go_simp; rfl)); intro gb219 hg w13 hbox hb; have n0_ := Aside0.mk (Kd.R_below z8_1 hb); have n1_ := Aside0.mk (IsS126.below z8_11 hb); have n2_ := Aside0.mk (below_step z8_0 hb); have n3_ := Aside0.mk (hbox); have n4_ := Aside0.mk ((z8_14 : w.heap.size ≤ gb219)); have n5_ := Aside0.mk ((z8_14 : w.heap.size ≤ gb219)); have n6_ := Aside0.mk ((by rw [hg]; exact Nat.ne_of_lt (IsS126.lt (show IsS126 w _ gb209 l3 x210001_5 x210002_5 from by repeat (first | (with_reducible first | exact HI209.out | apply IsS126.alloc | apply IsS126.drewN | apply IsS126.drew | apply IsS126.set_1 | apply IsS126.set_2) | exact HI209.out))) : gb209 ≠ gb219)); have n7_ := Aside0.mk ((by rw [hg]; exact Nat.ne_of_gt (IsS126.lt (show IsS126 w _ gb209 l3 x210001_5 x210002_5 from by repeat (first | (with_reducible first | exact HI209.out | apply IsS126.alloc | apply IsS126.drewN | apply IsS126.drew | apply IsS126.set_1 | apply IsS126.set_2) | exact HI209.out))) : gb219 ≠ gb209)); clear HO_11; clear HI209; clear HB; have HO_11 := n0_; have HI209 := n1_; have HB := n2_; have BK219 := n3_; have GW219 := n4_; have GE219 := n5_; have NB209_219 := n6_; have NB219_209 := n7_; clear n0_ n1_ n2_ n3_ n4_ n5_ n6_ n7_; clear hb hbox hg))
   go_loopg [11, 41] kj5 (fun kq v11 v41 w' => ∃ (x11_2 : List Int) (x41_2 : Int) (x210001_2 : Int) (x210002_2 : Bool) (x220000_2 : List Int) (u220000 : Value), v41 = .int .i64 x41_2 ∧ Aside0 (tBy.l0 kq l0 x11_2 (t210 == 1) x13_5 l0 (l0.length : Int) x41_2 l3 x210001_2 x210002_2 x220000_2 () = some (r1, r2)) ∧ Aside0 (kq ≤ kj5) ∧ Aside0 (Kd.R (Kd.int .u8) 5 w' w.heap.size (fun k_ => some k_ ≠ (u220000 : Value).ownBlock) v11 x11_2) ∧ Aside0 (Kd.R (Kd.int .u8) 5 w' w.heap.size (fun k_ => some k_ ≠ (v11 : Value).ownBlock) u220000 x220000_2) ∧ Aside0 (w'.heap[gb219]? = some (.cells #[u220000, .slice none 0 0] 130 (0, 0))) ∧ Aside0 (IsS126 w w' gb209 l3 x210001_2 x210002_2) ∧ Aside0 (Below w.heap.size w w'))
   case atStart => exact ⟨(x11_5), (0), (x210001_5), (x210002_5), (([] : List Int)), (.slice none 0 0), z8_9, H', ⟨Nat.le_refl _⟩, ⟨by (with_reducible repeat (first | apply Kd.R_alloc | apply Kd.R_drewN | apply Kd.R_drew)); exact Kd.R_mono HO_11.out (fun _ hk => (by simp [Value.ownBlock]))⟩, ⟨z8_10⟩, ⟨z8_3⟩, ⟨(show IsS126 w _ gb209 l3 x210001_5 x210002_5 from by repeat (first | (with_reducible first | exact HI209.out | apply IsS126.alloc | apply IsS126.drewN | apply IsS126.drew | apply IsS126.set_1 | apply IsS126.set_2 | refine IsS126.far ?_ NB209_219.out _) | exact HI209.out))⟩, ⟨z8_0⟩⟩
   case round =>
    clear H'
    obtain ⟨x11_2, x41_2, x210001_2, x210002_2, x220000_2, u220000, rfl, HA, HK2, HO_11, HO_220000, BK219, HI209, HB⟩ := hrel
    cases gk with
    | zero => exact absurd HA.out (by simp [tBy.l0])
    | succ k2 =>
     have H := HA.out
     clear HA
     simp only [tBy.l0] at H
     by_cases c14 : x41_2 < (l0.length : Int)
     ·rw [if_pos c14] at H
      have c14b0 : decide (x41_2 < (l0.length : Int)) = true := decide_eq_true c14
      clear c14
      by_cases c15 : 0 ≤ x41_2
      rotate_left
      ·rw [if_neg c15] at H
       exact absurd H (by simp)
      rw [if_pos c15] at H
      have c15b0 : decide (0 ≤ x41_2) = true := decide_eq_true c15
      clear c15
      by_cases c16 : x41_2 < (l0.length : Int)
      rotate_left
      ·rw [if_neg c16] at H
       exact absurd H (by simp)
      rw [if_pos c16] at H
      have c16b0 : decide (x41_2 < (l0.length : Int)) = true := decide_eq_true c16
      clear c16
      have HC17 := Aside0.mk H
      clear H
      have p233 : 0 ≤ (x41_2 : Int) := of_decide_eq_true z8_16
      have q233 : x41_2 < (l0.length : Int) := of_decide_eq_true z8_16
      obtain ⟨ad233, A233_0, c233_0, A233_2, c233_2, A233_3, c233_3, A233_4, c233_4, A233_5, c233_5, A233_6, c233_6, e233, hx233_0, hx233_1, hx233_2, hx233_3, hx233_4, hx233_5, hx233_6, hl233_0, hi233_0, hl233_2, hi233_2, hl233_3, hi233_3, hl233_4, hi233_4, hl233_5, hi233_5, hl233_6, hi233_6⟩ := at_T62 HR0.out x41_2 p233 q233
      cases e233
      replace hx233_0 := (HB.out.cell (World.block_lt_of_cell? w _ hx233_0)).trans hx233_0
      replace hx233_1 := (HB.out.cell (World.block_lt_of_cell? w _ hx233_1)).trans hx233_1
      replace hx233_2 := (HB.out.cell (World.block_lt_of_cell? w _ hx233_2)).trans hx233_2
      replace hx233_3 := (HB.out.cell (World.block_lt_of_cell? w _ hx233_3)).trans hx233_3
      replace hx233_4 := (HB.out.cell (World.block_lt_of_cell? w _ hx233_4)).trans hx233_4
      replace hx233_5 := (HB.out.cell (World.block_lt_of_cell? w _ hx233_5)).trans hx233_5
      replace hx233_6 := (HB.out.cell (World.block_lt_of_cell? w _ hx233_6)).trans hx233_6
      have HR233_0 := Aside0.mk hi233_0
      have HC233_0 := Aside0.mk hl233_0
      clear hi233_0 hl233_0
      have HR233_2 := Aside0.mk hi233_2
      have HC233_2 := Aside0.mk hl233_2
      clear hi233_2 hl233_2
      have HR233_3 := Aside0.mk hi233_3
      have HC233_3 := Aside0.mk hl233_3
      clear hi233_3 hl233_3
      have HR233_4 := Aside0.mk hi233_4
      have HC233_4 := Aside0.mk hl233_4
      clear hi233_4 hl233_4
      have HR233_5 := Aside0.mk hi233_5
      have HC233_5 := Aside0.mk hl233_5
      clear hi233_5 hl233_5
      have HR233_6 := Aside0.mk hi233_6
      have HC233_6 := Aside0.mk hl233_6
      clear hi233_6 hl233_6
      replace p233 := eq_true p233
      replace q233 := eq_true q233
      go_upto_if 46 with (first | ((with_reducible refine gate_dst (N := 16) rfl ?_); refine box_event ?hg (N := 16) ?hd (cs := #[.slice none 0 0, .bool false, .slice none 0 0, .slice none 0 0, .slice none 0 0, .slice none 0 0, .slice none 0 0]) (t := 62) ?hr ?_; (case hd => rfl); (case hg => rfl); (case hr => first | (go_simp; done) | (go_simp; rfl)); intro gb234 hg w18 hbox hb; have n0_ := Aside0.mk (Kd.R_below z8_1 hb); have n1_ := Aside0.mk (Kd.R_below z8_2 hb); have n2_ := Aside0.mk (blk_below (g := gb219) (o := .cells #[u220000, .slice none 0 0] 130 (0, 0)) z8_3 hb); have n3_ := Aside0.mk (IsS126.below ((show IsS126 w _ gb209 l3 x210001_2 x210002_2 from by repeat (first | (with_reducible first | exact HI209.out | apply IsS126.alloc | apply IsS126.drewN | apply IsS126.drew | apply IsS126.set_1 | apply IsS126.set_2 | refine IsS126.far ?_ NB209_219.out _) | exact HI209.out))) hb); have n4_ := Aside0.mk (below_step z8_0 hb); have n5_ := Aside0.mk (hbox); have n6_ := Aside0.mk ((z8_14 : w.heap.size ≤ gb234)); have n7_ := Aside0.mk ((z8_14 : w.heap.size ≤ gb234)); have n8_ := Aside0.mk ((by rw [hg]; exact Nat.ne_of_lt (blk_lt (g := gb219) (o := .cells #[u220000, .slice none 0 0] 130 (0, 0)) z8_3) : gb219 ≠ gb234)); have n9_ := Aside0.mk ((by rw [hg]; exact Nat.ne_of_gt (blk_lt (g := gb219) (o := .cells #[u220000, .slice none 0 0] 130 (0, 0)) z8_3) : gb234 ≠ gb219)); have n10_ := Aside0.mk ((by rw [hg]; exact Nat.ne_of_lt (IsS126.lt (show IsS126 w _ gb209 l3 x210001_2 x210002_2 from (show IsS126 w _ gb209 l3 x210001_2 x210002_2 from by repeat (first | (with_reducible first | exact HI209.out | apply IsS126.alloc | apply IsS126.drewN | apply IsS126.drew | apply IsS126.set_1 | apply IsS126.set_2 | refine IsS126.far ?_ NB209_219.out _) | exact HI209.out)))) : gb209 ≠ gb234)); have n11_ := Aside0.mk ((by rw [hg]; exact Nat.ne_of_gt (IsS126.lt (show IsS126 w _ gb209 l3 x210001_2 x210002_2 from (show IsS126 w _ gb209 l3 x210001_2 x210002_2 from by repeat (first | (with_reducible first | exact HI209.out | apply IsS126.alloc | apply IsS126.drewN | apply IsS126.drew | apply IsS126.set_1 | apply IsS126.set_2 | refine IsS126.far ?_ NB209_219.out _) | exact HI209.out)))) : gb234 ≠ gb209)); clear HO_11; clear HO_220000; clear BK219; clear HI209; clear HB; have HO_11 := n0_; have HO_220000 := n1_; have BK219 := n2_; have HI209 := n3_; have HB := n4_; have BK234 := n5_; have GW234 := n6_; have GE234 := n7_; have NB219_234 := n8_; have NB234_219 := n9_; have NB209_234 := n10_; have NB234_209 := n11_; clear n0_ n1_ n2_ n3_ n4_ n5_ n6_ n7_ n8_ n9_ n10_ n11_; clear hb hbox hg; have hnb19 := NB234_219.out; have hnc19 := NB219_234.out; have hnb20 := NB234_209.out; have hnc20 := NB209_234.out; obtain ⟨hcz21_0, hcz21_1, hcz21_2, hcz21_3, hcz21_4, hcz21_5, hcz21_6⟩ := cz7x8 BK234.out; obtain ⟨hfz21_0, hfz21_1, hfz21_2, hfz21_3, hfz21_4, hfz21_5, hfz21_6⟩ := fz7x8 BK234.out))
      (try simp only [Act.put, L1_, L2_, L3_])
      go_cut [18] (fun v18 wc => ∃ (kq : Nat) (x18_16 : Int), v18 = .int .i64 x18_16 ∧ Aside0 (tBy.j2 kq l0 x11_2 (t210 == 1) x13_5 ([] : List Int) x18_16 l0 (l0.length : Int) x41_2 l3 x210001_2 x210002_2 x220000_2 () ((rd_T62 l0 x41_2).f0) ((rd_T62 l0 x41_2).f1) ((rd_T62 l0 x41_2).f2) ((rd_T62 l0 x41_2).f3) ((rd_T62 l0 x41_2).f4) ((rd_T62 l0 x41_2).f5) ((rd_T62 l0 x41_2).f6) = some (r1, r2)) ∧ Aside0 (kq ≤ k2) ∧ Aside0 (Kd.R (Kd.int .u8) 5 wc w.heap.size (fun k_ => some k_ ≠ ((.slice none 0 0) : Value).ownBlock ∧ some k_ ≠ (u220000 : Value).ownBlock) u11 x11_2) ∧ Aside0 (Kd.R (Kd.int .u8) 5 wc w.heap.size (fun k_ => some k_ ≠ (u11 : Value).ownBlock ∧ some k_ ≠ (u220000 : Value).ownBlock) (.slice none 0 0) ([] : List Int)) ∧ Aside0 (Kd.R (Kd.int .u8) 5 wc w.heap.size (fun k_ => some k_ ≠ (u11 : Value).ownBlock ∧ some k_ ≠ ((.slice none 0 0) : Value).ownBlock) u220000 x220000_2) ∧ Aside0 (wc.heap[gb219]? = some (.cells #[u220000, .slice none 0 0] 130 (0, 0))) ∧ Aside0 (wc.heap[gb234]? = some (.cells #[(.slice A233_0 ((rd_T62 l0 x41_2).f0).length c233_0), .bool ((rd_T62 l0 x41_2).f1), (.slice A233_2 ((rd_T62 l0 x41_2).f2).length c233_2), (.slice A233_3 ((rd_T62 l0 x41_2).f3).length c233_3), (.slice A233_4 ((rd_T62 l0 x41_2).f4).length c233_4), (.slice A233_5 ((rd_T62 l0 x41_2).f5).length c233_5), (.slice A233_6 ((rd_T62 l0 x41_2).f6).length c233_6)] 62 (0, 0))) ∧ Aside0 (IsS126 w wc gb209 l3 x210001_2 x210002_2) ∧ Aside0 (Below w.heap.size w wc))
      case first =>
       have H := HC17.out
       clear HC17
       obtain ⟨bq22, hbq22⟩ : ∃ b_ : Bool, b_ = ((rd_T62 l0 x41_2).f1) := ⟨_, rfl⟩
       replace H : (if bq22 = true then (tBy.j2 k2 l0 x11_2 (t210 == 1) x13_5 ([] : List Int) (Go.bits .or .i64 32768 16384) l0 (l0.length : Int) x41_2 l3 x210001_2 x210002_2 x220000_2 () ((rd_T62 l0 x41_2).f0) bq22 ((rd_T62 l0 x41_2).f2) ((rd_T62 l0 x41_2).f3) ((rd_T62 l0 x41_2).f4) ((rd_T62 l0 x41_2).f5) ((rd_T62 l0 x41_2).f6)) else (tBy.j2 k2 l0 x11_2 (t210 == 1) x13_5 ([] : List Int) 32768 l0 (l0.length : Int) x41_2 l3 x210001_2 x210002_2 x220000_2 () ((rd_T62 l0 x41_2).f0) bq22 ((rd_T62 l0 x41_2).f2) ((rd_T62 l0 x41_2).f3) ((rd_T62 l0 x41_2).f4) ((rd_T62 l0 x41_2).f5) ((rd_T62 l0 x41_2).f6))) = some (r1, r2) := by rw [← hbq22] at H; exact H
       have Nbq22 := Aside0.mk hbq22
       try (have B0_ := BK234.out; rw [← Nbq22.out] at B0_; replace BK234 := Aside0.mk B0_; clear B0_)
       clear hbq22
       (try rw [← Nbq22.out])
       by_cases c23 : bq22 = true
       ·subst c23
        have H1 : (tBy.j2 k2 l0 x11_2 (t210 == 1) x13_5 ([] : List Int) (Go.bits .or .i64 32768 16384) l0 (l0.length : Int) x41_2 l3 x210001_2 x210002_2 x220000_2 () ((rd_T62 l0 x41_2).f0) true ((rd_T62 l0 x41_2).f2) ((rd_T62 l0 x41_2).f3) ((rd_T62 l0 x41_2).f4) ((rd_T62 l0 x41_2).f5) ((rd_T62 l0 x41_2).f6)) = some (r1, r2) := by rw [if_pos rfl] at H; exact H
        clear H
        have H := H1
        clear H1
        have H' := Aside0.mk H
        clear H
        go_wp2
        go_meet
        case rel => exact ⟨_, (Go.bits .or .i64 32768 16384), z8_9, (by (try rw [← Nbq22.out]); exact H'), ⟨by have := HJ5.out; have := HK2.out; first | omega | exact Nat.le_refl _⟩, ⟨by (with_reducible repeat (first | apply Kd.R_alloc | apply Kd.R_drewN | apply Kd.R_drew)); exact Kd.R_mono (Kd.R_far (p := ⟨gb234, 6, none⟩) (Kd.R_far (p := ⟨gb234, 5, none⟩) (Kd.R_far (p := ⟨gb234, 4, none⟩) (Kd.R_far (p := ⟨gb234, 3, none⟩) (Kd.R_far (p := ⟨gb234, 2, none⟩) (Kd.R_far (p := ⟨gb234, 1, none⟩) (Kd.R_far (p := ⟨gb234, 0, none⟩) (Kd.R_types HO_11.out BK234.out z8_15) (fun _ hk => hk.2) (.slice A233_0 ((rd_T62 l0 x41_2).f0).length c233_0)) (fun _ hk => hk.2) (.bool (true))) (fun _ hk => hk.2) (.slice A233_2 ((rd_T62 l0 x41_2).f2).length c233_2)) (fun _ hk => hk.2) (.slice A233_3 ((rd_T62 l0 x41_2).f3).length c233_3)) (fun _ hk => hk.2) (.slice A233_4 ((rd_T62 l0 x41_2).f4).length c233_4)) (fun _ hk => hk.2) (.slice A233_5 ((rd_T62 l0 x41_2).f5).length c233_5)) (fun _ hk => hk.2) (.slice A233_6 ((rd_T62 l0 x41_2).f6).length c233_6)) (fun _ hk => ⟨(by simp [Value.ownBlock]), hk.1⟩)⟩, ⟨z8_10⟩, ⟨by (with_reducible repeat (first | apply Kd.R_alloc | apply Kd.R_drewN | apply Kd.R_drew)); exact Kd.R_mono (Kd.R_far (p := ⟨gb234, 6, none⟩) (Kd.R_far (p := ⟨gb234, 5, none⟩) (Kd.R_far (p := ⟨gb234, 4, none⟩) (Kd.R_far (p := ⟨gb234, 3, none⟩) (Kd.R_far (p := ⟨gb234, 2, none⟩) (Kd.R_far (p := ⟨gb234, 1, none⟩) (Kd.R_far (p := ⟨gb234, 0, none⟩) (Kd.R_types HO_220000.out BK234.out z8_15) (fun _ hk => hk.2) (.slice A233_0 ((rd_T62 l0 x41_2).f0).length c233_0)) (fun _ hk => hk.2) (.bool (true))) (fun _ hk => hk.2) (.slice A233_2 ((rd_T62 l0 x41_2).f2).length c233_2)) (fun _ hk => hk.2) (.slice A233_3 ((rd_T62 l0 x41_2).f3).length c233_3)) (fun _ hk => hk.2) (.slice A233_4 ((rd_T62 l0 x41_2).f4).length c233_4)) (fun _ hk => hk.2) (.slice A233_5 ((rd_T62 l0 x41_2).f5).length c233_5)) (fun _ hk => hk.2) (.slice A233_6 ((rd_T62 l0 x41_2).f6).length c233_6)) (fun _ hk => ⟨hk.1, (by simp [Value.ownBlock])⟩)⟩, ⟨z8_7⟩, ⟨by (try rw [← Nbq22.out]); (with_reducible repeat (first | apply b1_ | apply b2_ | apply b3_)); refine blk_put (cs := #[.slice A233_0 ((rd_T62 l0 x41_2).f0).length c233_0, .bool (true), .slice A233_2 ((rd_T62 l0 x41_2).f2).length c233_2, .slice A233_3 ((rd_T62 l0 x41_2).f3).length c233_3, .slice A233_4 ((rd_T62 l0 x41_2).f4).length c233_4, .slice A233_5 ((rd_T62 l0 x41_2).f5).length c233_5, .slice none 0 0]) ?_ 6 _ rfl; (with_reducible repeat (first | apply b1_ | apply b2_ | apply b3_)); refine blk_put (cs := #[.slice A233_0 ((rd_T62 l0 x41_2).f0).length c233_0, .bool (true), .slice A233_2 ((rd_T62 l0 x41_2).f2).length c233_2, .slice A233_3 ((rd_T62 l0 x41_2).f3).length c233_3, .slice A233_4 ((rd_T62 l0 x41_2).f4).length c233_4, .slice none 0 0, .slice none 0 0]) ?_ 5 _ rfl; (with_reducible repeat (first | apply b1_ | apply b2_ | apply b3_)); refine blk_put (cs := #[.slice A233_0 ((rd_T62 l0 x41_2).f0).length c233_0, .bool (true), .slice A233_2 ((rd_T62 l0 x41_2).f2).length c233_2, .slice A233_3 ((rd_T62 l0 x41_2).f3).length c233_3, .slice none 0 0, .slice none 0 0, .slice none 0 0]) ?_ 4 _ rfl; (with_reducible repeat (first | apply b1_ | apply b2_ | apply b3_)); refine blk_put (cs := #[.slice A233_0 ((rd_T62 l0 x41_2).f0).length c233_0, .bool (true), .slice A233_2 ((rd_T62 l0 x41_2).f2).length c233_2, .slice none 0 0, .slice none 0 0, .slice none 0 0, .slice none 0 0]) ?_ 3 _ rfl; (with_reducible repeat (first | apply b1_ | apply b2_ | apply b3_)); refine blk_put (cs := #[.slice A233_0 ((rd_T62 l0 x41_2).f0).length c233_0, .bool (true), .slice none 0 0, .slice none 0 0, .slice none 0 0, .slice none 0 0, .slice none 0 0]) ?_ 2 _ rfl; (with_reducible repeat (first | apply b1_ | apply b2_ | apply b3_)); refine blk_put (cs := #[.slice A233_0 ((rd_T62 l0 x41_2).f0).length c233_0, .bool false, .slice none 0 0, .slice none 0 0, .slice none 0 0, .slice none 0 0, .slice none 0 0]) ?_ 1 _ rfl; (with_reducible repeat (first | apply b1_ | apply b2_ | apply b3_)); refine blk_put (cs := #[.slice none 0 0, .bool false, .slice none 0 0, .slice none 0 0, .slice none 0 0, .slice none 0 0, .slice none 0 0]) ?_ 0 _ rfl; (with_reducible repeat (first | apply b1_ | apply b2_ | apply b3_)); exact BK234.out⟩, ⟨(show IsS126 w _ gb209 l3 x210001_2 x210002_2 from by repeat (first | (with_reducible first | exact HI209.out | apply IsS126.alloc | apply IsS126.drewN | apply IsS126.drew | apply IsS126.set_1 | apply IsS126.set_2 | refine IsS126.far ?_ NB209_219.out _ | refine IsS126.far ?_ NB209_234.out _) | exact HI209.out))⟩, ⟨z8_0⟩⟩
       ·replace c23 := Bool.eq_false_iff.mpr c23
        subst c23
        have H1 : (tBy.j2 k2 l0 x11_2 (t210 == 1) x13_5 ([] : List Int) 32768 l0 (l0.length : Int) x41_2 l3 x210001_2 x210002_2 x220000_2 () ((rd_T62 l0 x41_2).f0) false ((rd_T62 l0 x41_2).f2) ((rd_T62 l0 x41_2).f3) ((rd_T62 l0 x41_2).f4) ((rd_T62 l0 x41_2).f5) ((rd_T62 l0 x41_2).f6)) = some (r1, r2) := by rw [if_neg (show ¬ (false = true) by decide)] at H; exact H
        clear H
        have H := H1
        clear H1
        have H' := Aside0.mk H
        clear H
        go_wp2
        go_meet
        case rel => exact ⟨_, (32768), z8_9, (by (try rw [← Nbq22.out]); exact H'), ⟨by have := HJ5.out; have := HK2.out; first | omega | exact Nat.le_refl _⟩, ⟨by (with_reducible repeat (first | apply Kd.R_alloc | apply Kd.R_drewN | apply Kd.R_drew)); exact Kd.R_mono (Kd.R_far (p := ⟨gb234, 6, none⟩) (Kd.R_far (p := ⟨gb234, 5, none⟩) (Kd.R_far (p := ⟨gb234, 4, none⟩) (Kd.R_far (p := ⟨gb234, 3, none⟩) (Kd.R_far (p := ⟨gb234, 2, none⟩) (Kd.R_far (p := ⟨gb234, 1, none⟩) (Kd.R_far (p := ⟨gb234, 0, none⟩) (Kd.R_types HO_11.out BK234.out z8_15) (fun _ hk => hk.2) (.slice A233_0 ((rd_T62 l0 x41_2).f0).length c233_0)) (fun _ hk => hk.2) (.bool (false))) (fun _ hk => hk.2) (.slice A233_2 ((rd_T62 l0 x41_2).f2).length c233_2)) (fun _ hk => hk.2) (.slice A233_3 ((rd_T62 l0 x41_2).f3).length c233_3)) (fun _ hk => hk.2) (.slice A233_4 ((rd_T62 l0 x41_2).f4).length c233_4)) (fun _ hk => hk.2) (.slice A233_5 ((rd_T62 l0 x41_2).f5).length c233_5)) (fun _ hk => hk.2) (.slice A233_6 ((rd_T62 l0 x41_2).f6).length c233_6)) (fun _ hk => ⟨(by simp [Value.ownBlock]), hk.1⟩)⟩, ⟨z8_10⟩, ⟨by (with_reducible repeat (first | apply Kd.R_alloc | apply Kd.R_drewN | apply Kd.R_drew)); exact Kd.R_mono (Kd.R_far (p := ⟨gb234, 6, none⟩) (Kd.R_far (p := ⟨gb234, 5, none⟩) (Kd.R_far (p := ⟨gb234, 4, none⟩) (Kd.R_far (p := ⟨gb234, 3, none⟩) (Kd.R_far (p := ⟨gb234, 2, none⟩) (Kd.R_far (p := ⟨gb234, 1, none⟩) (Kd.R_far (p := ⟨gb234, 0, none⟩) (Kd.R_types HO_220000.out BK234.out z8_15) (fun _ hk => hk.2) (.slice A233_0 ((rd_T62 l0 x41_2).f0).length c233_0)) (fun _ hk => hk.2) (.bool (false))) (fun _ hk => hk.2) (.slice A233_2 ((rd_T62 l0 x41_2).f2).length c233_2)) (fun _ hk => hk.2) (.slice A233_3 ((rd_T62 l0 x41_2).f3).length c233_3)) (fun _ hk => hk.2) (.slice A233_4 ((rd_T62 l0 x41_2).f4).length c233_4)) (fun _ hk => hk.2) (.slice A233_5 ((rd_T62 l0 x41_2).f5).length c233_5)) (fun _ hk => hk.2) (.slice A233_6 ((rd_T62 l0 x41_2).f6).length c233_6)) (fun _ hk => ⟨hk.1, (by simp [Value.ownBlock])⟩)⟩, ⟨z8_7⟩, ⟨by (try rw [← Nbq22.out]); (with_reducible repeat (first | apply b1_ | apply b2_ | apply b3_)); refine blk_put (cs := #[.slice A233_0 ((rd_T62 l0 x41_2).f0).length c233_0, .bool (false), .slice A233_2 ((rd_T62 l0 x41_2).f2).length c233_2, .slice A233_3 ((rd_T62 l0 x41_2).f3).length c233_3, .slice A233_4 ((rd_T62 l0 x41_2).f4).length c233_4, .slice A233_5 ((rd_T62 l0 x41_2).f5).length c233_5, .slice none 0 0]) ?_ 6 _ rfl; (with_reducible repeat (first | apply b1_ | apply b2_ | apply b3_)); refine blk_put (cs := #[.slice A233_0 ((rd_T62 l0 x41_2).f0).length c233_0, .bool (false), .slice A233_2 ((rd_T62 l0 x41_2).f2).length c233_2, .slice A233_3 ((rd_T62 l0 x41_2).f3).length c233_3, .slice A233_4 ((rd_T62 l0 x41_2).f4).length c233_4, .slice none 0 0, .slice none 0 0]) ?_ 5 _ rfl; (with_reducible repeat (first | apply b1_ | apply b2_ | apply b3_)); refine blk_put (cs := #[.slice A233_0 ((rd_T62 l0 x41_2).f0).length c233_0, .bool (false), .slice A233_2 ((rd_T62 l0 x41_2).f2).length c233_2, .slice A233_3 ((rd_T62 l0 x41_2).f3).length c233_3, .slice none 0 0, .slice none 0 0, .slice none 0 0]) ?_ 4 _ rfl; (with_reducible repeat (first | apply b1_ | apply b2_ | apply b3_)); refine blk_put (cs := #[.slice A233_0 ((rd_T62 l0 x41_2).f0).length c233_0, .bool (false), .slice A233_2 ((rd_T62 l0 x41_2).f2).length c233_2, .slice none 0 0, .slice none 0 0, .slice none 0 0, .slice none 0 0]) ?_ 3 _ rfl; (with_reducible repeat (first | apply b1_ | apply b2_ | apply b3_)); refine blk_put (cs := #[.slice A233_0 ((rd_T62 l0 x41_2).f0).length c233_0, .bool (false), .slice none 0 0, .slice none 0 0, .slice none 0 0, .slice none 0 0, .slice none 0 0]) ?_ 2 _ rfl; (with_reducible repeat (first | apply b1_ | apply b2_ | apply b3_)); refine blk_put (cs := #[.slice A233_0 ((rd_T62 l0 x41_2).f0).length c233_0, .bool false, .slice none 0 0, .slice none 0 0, .slice none 0 0, .slice none 0 0, .slice none 0 0]) ?_ 1 _ rfl; (with_reducible repeat (first | apply b1_ | apply b2_ | apply b3_)); refine blk_put (cs := #[.slice none 0 0, .bool false, .slice none 0 0, .slice none 0 0, .slice none 0 0, .slice none 0 0, .slice none 0 0]) ?_ 0 _ rfl; (with_reducible repeat (first | apply b1_ | apply b2_ | apply b3_)); exact BK234.out⟩, ⟨(show IsS126 w _ gb209 l3 x210001_2 x210002_2 from by repeat (first | (with_reducible first | exact HI209.out | apply IsS126.alloc | apply IsS126.drewN | apply IsS126.drew | apply IsS126.set_1 | apply IsS126.set_2 | refine IsS126.far ?_ NB209_219.out _ | refine IsS126.far ?_ NB209_234.out _) | exact HI209.out))⟩, ⟨z8_0⟩⟩
      case rest =>
       clear HC17
       clear c14b0 c15b0 c16b0 hcz21_0 hcz21_1 hcz21_2 hcz21_3 hcz21_4 hcz21_5 hcz21_6 hfz21_0 hfz21_1 hfz21_2 hfz21_3 hfz21_4 hfz21_5 hfz21_6 hx233_0 hx233_1 hx233_2 hx233_3 hx233_4 hx233_5 hx233_6 p233 q233
       obtain ⟨kq, x18_16, rfl, HA, HJ16, HO_11, HO_17, HO_220000, BK219, BK234, HI209, HB⟩ := hcut
       cases kq with
       | zero => exact absurd HA.out (by simp [tBy.j2])
       | succ kj16 =>
        have H := HA.out
        clear HA
        simp only [tBy.j2] at H
        have HC24 := Aside0.mk H
        clear H
        go_upto_region 16 with (fail)
        go_cut [12, 65] (fun v12 v65 wc => ∃ (kq : Nat) (x65_23 : Bool) (x210001_23 : Int) (x210002_23 : Bool), v12 = .bool (t210 == 1) ∧ v65 = .bool x65_23 ∧ Aside0 (tBy.j3 kq l0 x11_2 (t210 == 1) x13_5 ([] : List Int) x18_16 l0 (l0.length : Int) x41_2 x65_23 l3 x210001_23 x210002_23 x220000_2 () ((rd_T62 l0 x41_2).f0) ((rd_T62 l0 x41_2).f1) ((rd_T62 l0 x41_2).f2) ((rd_T62 l0 x41_2).f3) ((rd_T62 l0 x41_2).f4) ((rd_T62 l0 x41_2).f5) ((rd_T62 l0 x41_2).f6) = some (r1, r2)) ∧ Aside0 (kq ≤ kj16) ∧ Aside0 (Kd.R (Kd.int .u8) 5 wc w.heap.size (fun k_ => some k_ ≠ ((.slice none 0 0) : Value).ownBlock ∧ some k_ ≠ (u220000 : Value).ownBlock) u11 x11_2) ∧ Aside0 (Kd.R (Kd.int .u8) 5 wc w.heap.size (fun k_ => some k_ ≠ (u11 : Value).ownBlock ∧ some k_ ≠ (u220000 : Value).ownBlock) (.slice none 0 0) ([] : List Int)) ∧ Aside0 (Kd.R (Kd.int .u8) 5 wc w.heap.size (fun k_ => some k_ ≠ (u11 : Value).ownBlock ∧ some k_ ≠ ((.slice none 0 0) : Value).ownBlock) u220000 x220000_2) ∧ Aside0 (wc.heap[gb219]? = some (.cells #[u220000, .slice none 0 0] 130 (0, 0))) ∧ Aside0 (wc.heap[gb234]? = some (.cells #[(.slice A233_0 ((rd_T62 l0 x41_2).f0).length c233_0), .bool ((rd_T62 l0 x41_2).f1), (.slice A233_2 ((rd_T62 l0 x41_2).f2).length c233_2), (.slice A233_3 ((rd_T62 l0 x41_2).f3).length c233_3), (.slice A233_4 ((rd_T62 l0 x41_2).f4).length c233_4), (.slice A233_5 ((rd_T62 l0 x41_2).f5).length c233_5), (.slice A233_6 ((rd_T62 l0 x41_2).f6).length c233_6)] 62 (0, 0))) ∧ Aside0 (IsS126 w wc gb209 l3 x210001_23 x210002_23) ∧ Aside0 (Below w.heap.size w wc))
        case first =>
         have H := HC24.out
         clear HC24
         by_cases c25 : (t210 == 1) = true
         ·rw [if_pos c25] at H
          have c25b0 : (t210 == 1) = true := c25
          (try (have c25b1 : decide (t210 = 1) = true := by simpa using c25))
          (try (have c25b2 : (t210 == 1) = true := by simpa using c25))
          clear c25
          (first | rw [c25b0] | (simp only [i64_w, i32_w]; rw [c25b0]) | skip)
          by_cases c26 : 0 < (l0.length : Int)
          rotate_left
          ·rw [if_neg c26] at H
           exact absurd H (by simp)
          rw [if_pos c26] at H
          have c26b0 : decide (0 < (l0.length : Int)) = true := decide_eq_true c26
          have c26b1 : decide (0 < l0.length) = true := decide_eq_true (by omega)
          clear c26
          replace H := Option.bind_eq_some_iff.mp H
          obtain ⟨t236, A270, H⟩ := H
          replace H : (if t236 = true then ((wWy.f l3 x210001_2 x210002_2 4).bind fun bt237 => (tBy.j3 kj16 l0 x11_2 (t210 == 1) x13_5 ([] : List Int) x18_16 l0 (l0.length : Int) x41_2 (bt237.1 == 3) l3 bt237.2.1 bt237.2.2 x220000_2 () ((rd_T62 l0 x41_2).f0) ((rd_T62 l0 x41_2).f1) ((rd_T62 l0 x41_2).f2) ((rd_T62 l0 x41_2).f3) ((rd_T62 l0 x41_2).f4) ((rd_T62 l0 x41_2).f5) ((rd_T62 l0 x41_2).f6))) else (tBy.j3 kj16 l0 x11_2 (t210 == 1) x13_5 ([] : List Int) x18_16 l0 (l0.length : Int) x41_2 true l3 x210001_2 x210002_2 x220000_2 () ((rd_T62 l0 x41_2).f0) ((rd_T62 l0 x41_2).f1) ((rd_T62 l0 x41_2).f2) ((rd_T62 l0 x41_2).f3) ((rd_T62 l0 x41_2).f4) ((rd_T62 l0 x41_2).f5) ((rd_T62 l0 x41_2).f6))) = some (r1, r2) := H
          have A27 := Aside0.mk A270
          clear A270
          by_cases c28 : t236 = true
          ·subst c28
           have H1 : ((wWy.f l3 x210001_2 x210002_2 4).bind fun bt237 => (tBy.j3 kj16 l0 x11_2 (t210 == 1) x13_5 ([] : List Int) x18_16 l0 (l0.length : Int) x41_2 (bt237.1 == 3) l3 bt237.2.1 bt237.2.2 x220000_2 () ((rd_T62 l0 x41_2).f0) ((rd_T62 l0 x41_2).f1) ((rd_T62 l0 x41_2).f2) ((rd_T62 l0 x41_2).f3) ((rd_T62 l0 x41_2).f4) ((rd_T62 l0 x41_2).f5) ((rd_T62 l0 x41_2).f6))) = some (r1, r2) := by rw [if_pos rfl] at H; exact H
           clear H
           have H := H1
           clear H1
           replace H := Option.bind_eq_some_iff.mp H
           obtain ⟨⟨t237, t238, t239⟩, A290, H⟩ := H
           replace H : (tBy.j3 kj16 l0 x11_2 (t210 == 1) x13_5 ([] : List Int) x18_16 l0 (l0.length : Int) x41_2 (t237 == 3) l3 t238 t239 x220000_2 () ((rd_T62 l0 x41_2).f0) ((rd_T62 l0 x41_2).f1) ((rd_T62 l0 x41_2).f2) ((rd_T62 l0 x41_2).f3) ((rd_T62 l0 x41_2).f4) ((rd_T62 l0 x41_2).f5) ((rd_T62 l0 x41_2).f6)) = some (r1, r2) := H
           have A29 := Aside0.mk A290
           clear A290
           have H' := Aside0.mk H
           clear H
           try go_wp2
           have n0_ := Aside0.mk (Kd.R_drew HO_11.out)
           have n1_ := Aside0.mk (Kd.R_drew HO_17.out)
           have n2_ := Aside0.mk (Kd.R_drew HO_220000.out)
           have n3_ := Aside0.mk (blk_drew BK219.out)
           have n4_ := Aside0.mk (blk_drew BK234.out)
           have n5_ := Aside0.mk (IsS126.drew HI209.out)
           have n6_ := Aside0.mk (below_drew1 HB.out)
           clear HO_11
           clear HO_17
           clear HO_220000
           clear BK219
           clear BK234
           clear HI209
           clear HB
           have HO_11 := n0_
           have HO_17 := n1_
           have HO_220000 := n2_
           have BK219 := n3_
           have BK234 := n4_
           have HI209 := n5_
           have HB := n6_
           clear n0_ n1_ n2_ n3_ n4_ n5_ n6_
           have p235 : 0 ≤ (0 : Int) := (by omega)
           have q235 : 0 < (l0.length : Int) := of_decide_eq_true z8_16
           obtain ⟨ad235, A235_0, c235_0, A235_2, c235_2, A235_3, c235_3, A235_4, c235_4, A235_5, c235_5, A235_6, c235_6, e235, hx235_0, hx235_1, hx235_2, hx235_3, hx235_4, hx235_5, hx235_6, hl235_0, hi235_0, hl235_2, hi235_2, hl235_3, hi235_3, hl235_4, hi235_4, hl235_5, hi235_5, hl235_6, hi235_6⟩ := at_T62 HR0.out 0 p235 q235
           have hw235_6 := hx235_6
           (try rw [show ((0 : Int)).toNat = 0 from rfl] at hw235_6)
           (try rw [show 0 * 7 = 0 from rfl] at hw235_6)
           (try rw [Addr.add_zero'] at hw235_6)
           have hw235_5 := hx235_5
           (try rw [show ((0 : Int)).toNat = 0 from rfl] at hw235_5)
           (try rw [show 0 * 7 = 0 from rfl] at hw235_5)
           (try rw [Addr.add_zero'] at hw235_5)
           have hw235_4 := hx235_4
           (try rw [show ((0 : Int)).toNat = 0 from rfl] at hw235_4)
           (try rw [show 0 * 7 = 0 from rfl] at hw235_4)
           (try rw [Addr.add_zero'] at hw235_4)
           have hw235_3 := hx235_3
           (try rw [show ((0 : Int)).toNat = 0 from rfl] at hw235_3)
           (try rw [show 0 * 7 = 0 from rfl] at hw235_3)
           (try rw [Addr.add_zero'] at hw235_3)
           have hw235_2 := hx235_2
           (try rw [show ((0 : Int)).toNat = 0 from rfl] at hw235_2)
           (try rw [show 0 * 7 = 0 from rfl] at hw235_2)
           (try rw [Addr.add_zero'] at hw235_2)
           have hw235_1 := hx235_1
           (try rw [show ((0 : Int)).toNat = 0 from rfl] at hw235_1)
           (try rw [show 0 * 7 = 0 from rfl] at hw235_1)
           (try rw [Addr.add_zero'] at hw235_1)
           have hw235_0 := hx235_0
           (try rw [show ((0 : Int)).toNat = 0 from rfl] at hw235_0)
           (try rw [show 0 * 7 = 0 from rfl] at hw235_0)
           (try rw [Addr.add_zero'] at hw235_0)
           obtain rfl : ad233 = ad235 := (by injection e235)
           have qi235 : (0 < l0.length) = True := eq_true (by omega)
           (try rw [show ((0 : Int)).toNat = 0 from rfl] at hx235_0)
           (try rw [show 0 * 7 = 0 from rfl] at hx235_0)
           (try rw [Addr.add_zero'] at hx235_0)
           (try rw [show ((0 : Int)).toNat = 0 from rfl] at hx235_1)
           (try rw [show 0 * 7 = 0 from rfl] at hx235_1)
           (try rw [Addr.add_zero'] at hx235_1)
           (try rw [show ((0 : Int)).toNat = 0 from rfl] at hx235_2)
           (try rw [show 0 * 7 = 0 from rfl] at hx235_2)
           (try rw [Addr.add_zero'] at hx235_2)
           (try rw [show ((0 : Int)).toNat = 0 from rfl] at hx235_3)
           (try rw [show 0 * 7 = 0 from rfl] at hx235_3)
           (try rw [Addr.add_zero'] at hx235_3)
           (try rw [show ((0 : Int)).toNat = 0 from rfl] at hx235_4)
           (try rw [show 0 * 7 = 0 from rfl] at hx235_4)
           (try rw [Addr.add_zero'] at hx235_4)
           (try rw [show ((0 : Int)).toNat = 0 from rfl] at hx235_5)
           (try rw [show 0 * 7 = 0 from rfl] at hx235_5)
           (try rw [Addr.add_zero'] at hx235_5)
           (try rw [show ((0 : Int)).toNat = 0 from rfl] at hx235_6)
           (try rw [show 0 * 7 = 0 from rfl] at hx235_6)
           (try rw [Addr.add_zero'] at hx235_6)
           replace hx235_0 := (HB.out.cell (World.block_lt_of_cell? w _ hx235_0)).trans hx235_0
           replace hx235_1 := (HB.out.cell (World.block_lt_of_cell? w _ hx235_1)).trans hx235_1
           replace hx235_2 := (HB.out.cell (World.block_lt_of_cell? w _ hx235_2)).trans hx235_2
           replace hx235_3 := (HB.out.cell (World.block_lt_of_cell? w _ hx235_3)).trans hx235_3
           replace hx235_4 := (HB.out.cell (World.block_lt_of_cell? w _ hx235_4)).trans hx235_4
           replace hx235_5 := (HB.out.cell (World.block_lt_of_cell? w _ hx235_5)).trans hx235_5
           replace hx235_6 := (HB.out.cell (World.block_lt_of_cell? w _ hx235_6)).trans hx235_6
           have HR235_0 := Aside0.mk hi235_0
           have HC235_0 := Aside0.mk hl235_0
           clear hi235_0 hl235_0
           have HR235_2 := Aside0.mk hi235_2
           have HC235_2 := Aside0.mk hl235_2
           clear hi235_2 hl235_2
           have HR235_3 := Aside0.mk hi235_3
           have HC235_3 := Aside0.mk hl235_3
           clear hi235_3 hl235_3
           have HR235_4 := Aside0.mk hi235_4
           have HC235_4 := Aside0.mk hl235_4
           clear hi235_4 hl235_4
           have HR235_5 := Aside0.mk hi235_5
           have HC235_5 := Aside0.mk hl235_5
           clear hi235_5 hl235_5
           have HR235_6 := Aside0.mk hi235_6
           have HC235_6 := Aside0.mk hl235_6
           clear hi235_6 hl235_6
           replace p235 := eq_true p235
           replace q235 := eq_true q235
           refine start_ (n := 17) (S := fun w' => w'.cell? ⟨gb234, 0, none⟩ = some (.slice A233_0 ((rd_T62 l0 x41_2).f0).length c233_0) ∧ w'.cell? ⟨gb234, 1, none⟩ = some (.bool ((rd_T62 l0 x41_2).f1)) ∧ w'.cell? ⟨gb234, 2, none⟩ = some (.slice A233_2 ((rd_T62 l0 x41_2).f2).length c233_2) ∧ w'.cell? ⟨gb234, 3, none⟩ = some (.slice A233_3 ((rd_T62 l0 x41_2).f3).length c233_3) ∧ w'.cell? ⟨gb234, 4, none⟩ = some (.slice A233_4 ((rd_T62 l0 x41_2).f4).length c233_4) ∧ w'.cell? ⟨gb234, 5, none⟩ = some (.slice A233_5 ((rd_T62 l0 x41_2).f5).length c233_5) ∧ w'.cell? ⟨gb234, 6, none⟩ = some (.slice A233_6 ((rd_T62 l0 x41_2).f6).length c233_6) ∧ w'.cell? ad233 = some (.slice A235_0 ((rd_T62 l0 0).f0).length c235_0) ∧ w'.cell? ⟨ad233.block, ad233.off + 1, none⟩ = some (.bool ((rd_T62 l0 0).f1)) ∧ w'.cell? ⟨ad233.block, ad233.off + 2, none⟩ = some (.slice A235_2 ((rd_T62 l0 0).f2).length c235_2) ∧ w'.cell? ⟨ad233.block, ad233.off + 3, none⟩ = some (.slice A235_3 ((rd_T62 l0 0).f3).length c235_3) ∧ w'.cell? ⟨ad233.block, ad233.off + 4, none⟩ = some (.slice A235_4 ((rd_T62 l0 0).f4).length c235_4) ∧ w'.cell? ⟨ad233.block, ad233.off + 5, none⟩ = some (.slice A235_5 ((rd_T62 l0 0).f5).length c235_5) ∧ w'.cell? ⟨ad233.block, ad233.off + 6, none⟩ = some (.slice A235_6 ((rd_T62 l0 0).f6).length c235_6)) (ds := []) #[ff,ff,ff,ff,ff,ff,ff,ff,ff,ff,ff,ff,ff,ff,ff,ff,ff] z8_8 rfl rfl ⟨(blk_cell BK234.out 0).trans rfl, (blk_cell BK234.out 1).trans rfl, (blk_cell BK234.out 2).trans rfl, (blk_cell BK234.out 3).trans rfl, (blk_cell BK234.out 4).trans rfl, (blk_cell BK234.out 5).trans rfl, (blk_cell BK234.out 6).trans rfl, ((HB.out.cell (World.block_lt_of_cell? w _ hw235_0)).trans hw235_0), ((HB.out.cell (World.block_lt_of_cell? w _ hw235_1)).trans hw235_1), ((HB.out.cell (World.block_lt_of_cell? w _ hw235_2)).trans hw235_2), ((HB.out.cell (World.block_lt_of_cell? w _ hw235_3)).trans hw235_3), ((HB.out.cell (World.block_lt_of_cell? w _ hw235_4)).trans hw235_4), ((HB.out.cell (World.block_lt_of_cell? w _ hw235_5)).trans hw235_5), ((HB.out.cell (World.block_lt_of_cell? w _ hw235_6)).trans hw235_6)⟩ (fun hHeld => ?_); refine with_tabW tBy.tab16 tBy.bits16 (fun HT_ HW_ => ?_)
           generalize wc.drew = w30 at HO_11 HO_17 HO_220000 BK219 BK234 HI209 HB HR235_0 HR235_2 HR235_3 HR235_4 HR235_5 HR235_6 hx235_0 hx235_1 hx235_2 hx235_3 hx235_4 hx235_5 hx235_6 hHeld ⊢
           refine prx8 0 49 #[tt,ff,ff,ff,ff,ff,ff,ff,ff,ff,ff,ff,ff,ff,ff,ff,ff] ?_
           refine prx8 1 50 #[tt,tt,ff,ff,ff,ff,ff,ff,ff,ff,ff,ff,ff,ff,ff,ff,ff] ?_
           refine prx8 2 51 #[tt,tt,tt,ff,ff,ff,ff,ff,ff,ff,ff,ff,ff,ff,ff,ff,ff] ?_
           refine prx8 3 52 #[tt,tt,tt,tt,ff,ff,ff,ff,ff,ff,ff,ff,ff,ff,ff,ff,ff] ?_
           refine prx8 5 54 #[tt,tt,tt,tt,ff,tt,ff,ff,ff,ff,ff,ff,ff,ff,ff,ff,ff] ?_
           refine prx8 6 55 #[tt,tt,tt,tt,ff,tt,tt,ff,ff,ff,ff,ff,ff,ff,ff,ff,ff] ?_
           refine prx8 7 56 #[tt,tt,tt,tt,ff,tt,tt,tt,ff,ff,ff,ff,ff,ff,ff,ff,ff] ?_
           refine take_ (i := 4) (N := some 53) (v := ?_) (a' := ?_) #[tt,tt,tt,tt,tt,tt,tt,tt,ff,ff,ff,ff,ff,ff,ff,ff,ff] rfl rfl (take_ofW HT_.out HW_.out z8_8) (fun _ _ _ h => h) (Or.inl ⟨by rfl, ?_⟩) hHeld ?_ ?_
           rotate_left
           ·rintro w' ⟨s0, s1, s2, s3, s4, s5, s6, s7, s8, s9, s10, s11, s12, s13⟩
            go_simp
            with_reducible rfl
           rotate_left
           ·simp only [Act.put, L1_, L2_, L3_, i64_w, i32_w]
            rfl
           refine take_ (i := 8) (N := some 57) (v := ?_) (a' := ?_) #[tt,tt,tt,tt,tt,tt,tt,tt,tt,ff,ff,ff,ff,ff,ff,ff,ff] rfl rfl (take_ofW HT_.out HW_.out z8_8) (fun _ _ _ h => h) (Or.inl ⟨by rfl, ?_⟩) hHeld ?_ ?_
           rotate_left
           ·rintro w' ⟨s0, s1, s2, s3, s4, s5, s6, s7, s8, s9, s10, s11, s12, s13⟩
            go_simp
            with_reducible rfl
           rotate_left
           ·simp only [Act.put, L1_, L2_, L3_, i64_w, i32_w]
            rfl
           refine one_ (i := 9) (N := some 58) #[tt,tt,tt,tt,tt,tt,tt,tt,tt,tt,ff,ff,ff,ff,ff,ff,ff] rfl rfl (one_of HT_.out z8_8) z8_15 (fun K hK => ?_)
           refine goes_ Try.func46 z8_8 rfl #[.slice A233_4 ((rd_T62 l0 x41_2).f4).length c233_4, .slice A235_4 ((rd_T62 l0 0).f4).length c235_4] (by rfl) rfl rfl z8_4 ?_
           with_reducible refine (sEq.calls kj16 _ _ ((rd_T62 l0 x41_2).f4) _ _ ((rd_T62 l0 0).f4) true _ ?side1 ?side2 ?side3 ?side4 A27.out).mono ?_
           (case side1 => repeat (first | exact (Kd.C_below HR233_4.out HB.out) | (with_reducible refine Kd.C_alloc ?_ _) | (with_reducible refine Kd.C_drewN ?_ _) | (with_reducible refine Kd.C_drew ?_)))
           (case side2 => exact HC233_4.out)
           (case side3 => repeat (first | exact (Kd.C_below HR235_4.out HB.out) | (with_reducible refine Kd.C_alloc ?_ _) | (with_reducible refine Kd.C_drewN ?_ _) | (with_reducible refine Kd.C_drew ?_)))
           (case side4 => exact HC235_4.out)
           rintro e w' ⟨rfl, ⟨nd, rfl⟩⟩
           refine ⟨_, rfl, ?_⟩
           refine hK.out _ _ ⟨(blk_cell BK234.out 0).trans rfl, (blk_cell BK234.out 1).trans rfl, (blk_cell BK234.out 2).trans rfl, (blk_cell BK234.out 3).trans rfl, (blk_cell BK234.out 4).trans rfl, (blk_cell BK234.out 5).trans rfl, (blk_cell BK234.out 6).trans rfl, ((HB.out.cell (World.block_lt_of_cell? w _ hw235_0)).trans hw235_0), ((HB.out.cell (World.block_lt_of_cell? w _ hw235_1)).trans hw235_1), ((HB.out.cell (World.block_lt_of_cell? w _ hw235_2)).trans hw235_2), ((HB.out.cell (World.block_lt_of_cell? w _ hw235_3)).trans hw235_3), ((HB.out.cell (World.block_lt_of_cell? w _ hw235_4)).trans hw235_4), ((HB.out.cell (World.block_lt_of_cell? w _ hw235_5)).trans hw235_5), ((HB.out.cell (World.block_lt_of_cell? w _ hw235_6)).trans hw235_6)⟩ (fun hHeld => ?_)
           clear hK K
           refine norm_ (a' := ?_) ?_ ?_
           rotate_left
           ·show Act.put _ (some 58) _ = _
            simp only [Act.put, L1_, L2_, L3_, i64_w, i32_w]
            rfl
           refine prx8 10 59 #[tt,tt,tt,tt,tt,tt,tt,tt,tt,tt,tt,ff,ff,ff,ff,ff,ff] ?_
           refine prx8 11 60 #[tt,tt,tt,tt,tt,tt,tt,tt,tt,tt,tt,tt,ff,ff,ff,ff,ff] ?_
           refine prx8 12 61 #[tt,tt,tt,tt,tt,tt,tt,tt,tt,tt,tt,tt,tt,ff,ff,ff,ff] ?_
           refine prx8 13 62 #[tt,tt,tt,tt,tt,tt,tt,tt,tt,tt,tt,tt,tt,tt,ff,ff,ff] ?_
           refine one_ (i := 14) (N := some 63) #[tt,tt,tt,tt,tt,tt,tt,tt,tt,tt,tt,tt,tt,tt,tt,ff,ff] rfl rfl (one_of HT_.out z8_8) z8_15 (fun K hK => ?_)
           refine goes_ Try.func41 z8_8 rfl #[.pointer (some ⟨gb209, 0, none⟩), .int .i64 4] (by rfl) rfl rfl z8_4 ?_
           with_reducible refine (wWy.calls gb209 l3 x210001_2 x210002_2 4 t237 t238 t239 w _ ?side1 ?side2 A29.out).mono ?_
           (case side1 => repeat (first | (with_reducible first | exact HI209.out | apply IsS126.alloc | apply IsS126.drewN | apply IsS126.drew | apply IsS126.set_1 | apply IsS126.set_2 | refine IsS126.far ?_ NB209_219.out _ | refine IsS126.far ?_ NB209_234.out _) | exact HI209.out))
           (case side2 => repeat (first | (with_reducible first | exact HB.out | apply below_alloc | apply pw_below_drewN | apply below_drew1 | refine below_set ?_ (IsS126.ge HI209.out) | refine below_set ?_ GE219.out | refine below_set ?_ GE234.out) | exact HB.out))
           rintro e w31 ⟨rfl, hi, hb, hk⟩
           refine ⟨_, rfl, ?_⟩
           have n0_ := Aside0.mk (Kd.R_mono (Kd.R_keep (IsS126.apart (show IsS126 w _ gb209 l3 x210001_2 x210002_2 from (show IsS126 w _ gb209 l3 x210001_2 x210002_2 from by repeat (first | (with_reducible first | exact HI209.out | apply IsS126.alloc | apply IsS126.drewN | apply IsS126.drew | apply IsS126.set_1 | apply IsS126.set_2 | refine IsS126.far ?_ NB209_219.out _ | refine IsS126.far ?_ NB209_234.out _) | exact HI209.out))) z8_1 z8_15) hk (fun _ h => h.2)) (fun _ h => h.1))
           have n1_ := Aside0.mk (Kd.R_mono (Kd.R_keep (IsS126.apart (show IsS126 w _ gb209 l3 x210001_2 x210002_2 from (show IsS126 w _ gb209 l3 x210001_2 x210002_2 from by repeat (first | (with_reducible first | exact HI209.out | apply IsS126.alloc | apply IsS126.drewN | apply IsS126.drew | apply IsS126.set_1 | apply IsS126.set_2 | refine IsS126.far ?_ NB209_219.out _ | refine IsS126.far ?_ NB209_234.out _) | exact HI209.out))) z8_6 z8_15) hk (fun _ h => h.2)) (fun _ h => h.1))
           have n2_ := Aside0.mk (Kd.R_mono (Kd.R_keep (IsS126.apart (show IsS126 w _ gb209 l3 x210001_2 x210002_2 from (show IsS126 w _ gb209 l3 x210001_2 x210002_2 from by repeat (first | (with_reducible first | exact HI209.out | apply IsS126.alloc | apply IsS126.drewN | apply IsS126.drew | apply IsS126.set_1 | apply IsS126.set_2 | refine IsS126.far ?_ NB209_219.out _ | refine IsS126.far ?_ NB209_234.out _) | exact HI209.out))) z8_2 z8_15) hk (fun _ h => h.2)) (fun _ h => h.1))
           have n3_ := Aside0.mk (KeepBut.blk hk (g' := gb219) (o := .cells #[u220000, .slice none 0 0] 130 (0, 0)) z8_3 NB219_209.out (by simp))
           have n4_ := Aside0.mk (KeepBut.blk hk (g' := gb234) (o := .cells #[.slice A233_0 ((rd_T62 l0 x41_2).f0).length c233_0, .bool ((rd_T62 l0 x41_2).f1), .slice A233_2 ((rd_T62 l0 x41_2).f2).length c233_2, .slice A233_3 ((rd_T62 l0 x41_2).f3).length c233_3, .slice A233_4 ((rd_T62 l0 x41_2).f4).length c233_4, .slice A233_5 ((rd_T62 l0 x41_2).f5).length c233_5, .slice A233_6 ((rd_T62 l0 x41_2).f6).length c233_6] 62 (0, 0)) z8_5 NB234_209.out (by simp))
           have n5_ := Aside0.mk (hb)
           have n6_ := Aside0.mk (hi)
           clear HO_11
           clear HO_17
           clear HO_220000
           clear BK219
           clear BK234
           clear HB
           clear HI209
           have HO_11 := n0_
           have HO_17 := n1_
           have HO_220000 := n2_
           have BK219 := n3_
           have BK234 := n4_
           have HB := n5_
           have HI209 := n6_
           clear n0_ n1_ n2_ n3_ n4_ n5_ n6_
           clear hb
           clear hk
           clear hi
           refine hK.out _ _ ⟨(blk_cell BK234.out 0).trans rfl, (blk_cell BK234.out 1).trans rfl, (blk_cell BK234.out 2).trans rfl, (blk_cell BK234.out 3).trans rfl, (blk_cell BK234.out 4).trans rfl, (blk_cell BK234.out 5).trans rfl, (blk_cell BK234.out 6).trans rfl, ((HB.out.cell (World.block_lt_of_cell? w _ hw235_0)).trans hw235_0), ((HB.out.cell (World.block_lt_of_cell? w _ hw235_1)).trans hw235_1), ((HB.out.cell (World.block_lt_of_cell? w _ hw235_2)).trans hw235_2), ((HB.out.cell (World.block_lt_of_cell? w _ hw235_3)).trans hw235_3), ((HB.out.cell (World.block_lt_of_cell? w _ hw235_4)).trans hw235_4), ((HB.out.cell (World.block_lt_of_cell? w _ hw235_5)).trans hw235_5), ((HB.out.cell (World.block_lt_of_cell? w _ hw235_6)).trans hw235_6)⟩ (fun hHeld => ?_)
           clear hK K
           refine norm_ (a' := ?_) ?_ ?_
           rotate_left
           ·show Act.put _ (some 63) _ = _
            simp only [Act.put, L1_, L2_, L3_, i64_w, i32_w]
            rfl
           refine prx8 15 64 #[tt,tt,tt,tt,tt,tt,tt,tt,tt,tt,tt,tt,tt,tt,tt,tt,ff] ?_
           refine prx8 16 65 #[tt,tt,tt,tt,tt,tt,tt,tt,tt,tt,tt,tt,tt,tt,tt,tt,tt] ?_
           refine done_ (done_of HT_.out z8_8) ?_
           try go_wp2
           go_meet
           case rel => exact ⟨_, ((t237 == 3)), (t238), (t239), z8_9, z8_9, H', ⟨z8_17⟩, ⟨z8_1⟩, ⟨z8_6⟩, ⟨z8_2⟩, ⟨z8_3⟩, ⟨z8_5⟩, ⟨(show IsS126 w _ gb209 l3 t238 t239 from by repeat (first | (with_reducible first | exact HI209.out | apply IsS126.alloc | apply IsS126.drewN | apply IsS126.drew | apply IsS126.set_1 | apply IsS126.set_2 | refine IsS126.far ?_ NB209_219.out _ | refine IsS126.far ?_ NB209_234.out _) | exact HI209.out))⟩, ⟨z8_0⟩⟩
          ·replace c28 := Bool.eq_false_iff.mpr c28
           subst c28
           have H1 : (tBy.j3 kj16 l0 x11_2 (t210 == 1) x13_5 ([] : List Int) x18_16 l0 (l0.length : Int) x41_2 true l3 x210001_2 x210002_2 x220000_2 () ((rd_T62 l0 x41_2).f0) ((rd_T62 l0 x41_2).f1) ((rd_T62 l0 x41_2).f2) ((rd_T62 l0 x41_2).f3) ((rd_T62 l0 x41_2).f4) ((rd_T62 l0 x41_2).f5) ((rd_T62 l0 x41_2).f6)) = some (r1, r2) := by rw [if_neg (show ¬ (false = true) by decide)] at H; exact H
           clear H
           have H := H1
           clear H1
           have H' := Aside0.mk H
           clear H
           try go_wp2
           have n0_ := Aside0.mk (Kd.R_drew HO_11.out)
           have n1_ := Aside0.mk (Kd.R_drew HO_17.out)
           have n2_ := Aside0.mk (Kd.R_drew HO_220000.out)
           have n3_ := Aside0.mk (blk_drew BK219.out)
           have n4_ := Aside0.mk (blk_drew BK234.out)
           have n5_ := Aside0.mk (IsS126.drew HI209.out)
           have n6_ := Aside0.mk (below_drew1 HB.out)
           clear HO_11
           clear HO_17
           clear HO_220000
           clear BK219
           clear BK234
           clear HI209
           clear HB
           have HO_11 := n0_
           have HO_17 := n1_
           have HO_220000 := n2_
           have BK219 := n3_
           have BK234 := n4_
           have HI209 := n5_
           have HB := n6_
           clear n0_ n1_ n2_ n3_ n4_ n5_ n6_
           have p235 : 0 ≤ (0 : Int) := (by omega)
           have q235 : 0 < (l0.length : Int) := of_decide_eq_true z8_16
           obtain ⟨ad235, A235_0, c235_0, A235_2, c235_2, A235_3, c235_3, A235_4, c235_4, A235_5, c235_5, A235_6, c235_6, e235, hx235_0, hx235_1, hx235_2, hx235_3, hx235_4, hx235_5, hx235_6, hl235_0, hi235_0, hl235_2, hi235_2, hl235_3, hi235_3, hl235_4, hi235_4, hl235_5, hi235_5, hl235_6, hi235_6⟩ := at_T62 HR0.out 0 p235 q235
           have hw235_6 := hx235_6
           (try rw [show ((0 : Int)).toNat = 0 from rfl] at hw235_6)
           (try rw [show 0 * 7 = 0 from rfl] at hw235_6)
           (try rw [Addr.add_zero'] at hw235_6)
           have hw235_5 := hx235_5
           (try rw [show ((0 : Int)).toNat = 0 from rfl] at hw235_5)
           (try rw [show 0 * 7 = 0 from rfl] at hw235_5)
           (try rw [Addr.add_zero'] at hw235_5)
           have hw235_4 := hx235_4
           (try rw [show ((0 : Int)).toNat = 0 from rfl] at hw235_4)
           (try rw [show 0 * 7 = 0 from rfl] at hw235_4)
           (try rw [Addr.add_zero'] at hw235_4)
           have hw235_3 := hx235_3
           (try rw [show ((0 : Int)).toNat = 0 from rfl] at hw235_3)
           (try rw [show 0 * 7 = 0 from rfl] at hw235_3)
           (try rw [Addr.add_zero'] at hw235_3)
           have hw235_2 := hx235_2
           (try rw [show ((0 : Int)).toNat = 0 from rfl] at hw235_2)
           (try rw [show 0 * 7 = 0 from rfl] at hw235_2)
           (try rw [Addr.add_zero'] at hw235_2)
           have hw235_1 := hx235_1
           (try rw [show ((0 : Int)).toNat = 0 from rfl] at hw235_1)
           (try rw [show 0 * 7 = 0 from rfl] at hw235_1)
           (try rw [Addr.add_zero'] at hw235_1)
           have hw235_0 := hx235_0
           (try rw [show ((0 : Int)).toNat = 0 from rfl] at hw235_0)
           (try rw [show 0 * 7 = 0 from rfl] at hw235_0)
           (try rw [Addr.add_zero'] at hw235_0)
           obtain rfl : ad233 = ad235 := (by injection e235)
           have qi235 : (0 < l0.length) = True := eq_true (by omega)
           (try rw [show ((0 : Int)).toNat = 0 from rfl] at hx235_0)
           (try rw [show 0 * 7 = 0 from rfl] at hx235_0)
           (try rw [Addr.add_zero'] at hx235_0)
           (try rw [show ((0 : Int)).toNat = 0 from rfl] at hx235_1)
           (try rw [show 0 * 7 = 0 from rfl] at hx235_1)
           (try rw [Addr.add_zero'] at hx235_1)
           (try rw [show ((0 : Int)).toNat = 0 from rfl] at hx235_2)
           (try rw [show 0 * 7 = 0 from rfl] at hx235_2)
           (try rw [Addr.add_zero'] at hx235_2)
           (try rw [show ((0 : Int)).toNat = 0 from rfl] at hx235_3)
           (try rw [show 0 * 7 = 0 from rfl] at hx235_3)
           (try rw [Addr.add_zero'] at hx235_3)
           (try rw [show ((0 : Int)).toNat = 0 from rfl] at hx235_4)
           (try rw [show 0 * 7 = 0 from rfl] at hx235_4)
           (try rw [Addr.add_zero'] at hx235_4)
           (try rw [show ((0 : Int)).toNat = 0 from rfl] at hx235_5)
           (try rw [show 0 * 7 = 0 from rfl] at hx235_5)
           (try rw [Addr.add_zero'] at hx235_5)
           (try rw [show ((0 : Int)).toNat = 0 from rfl] at hx235_6)
           (try rw [show 0 * 7 = 0 from rfl] at hx235_6)
           (try rw [Addr.add_zero'] at hx235_6)
           replace hx235_0 := (HB.out.cell (World.block_lt_of_cell? w _ hx235_0)).trans hx235_0
           replace hx235_1 := (HB.out.cell (World.block_lt_of_cell? w _ hx235_1)).trans hx235_1
           replace hx235_2 := (HB.out.cell (World.block_lt_of_cell? w _ hx235_2)).trans hx235_2
           replace hx235_3 := (HB.out.cell (World.block_lt_of_cell? w _ hx235_3)).trans hx235_3
           replace hx235_4 := (HB.out.cell (World.block_lt_of_cell? w _ hx235_4)).trans hx235_4
           replace hx235_5 := (HB.out.cell (World.block_lt_of_cell? w _ hx235_5)).trans hx235_5
           replace hx235_6 := (HB.out.cell (World.block_lt_of_cell? w _ hx235_6)).trans hx235_6
           have HR235_0 := Aside0.mk hi235_0
           have HC235_0 := Aside0.mk hl235_0
           clear hi235_0 hl235_0
           have HR235_2 := Aside0.mk hi235_2
           have HC235_2 := Aside0.mk hl235_2
           clear hi235_2 hl235_2
           have HR235_3 := Aside0.mk hi235_3
           have HC235_3 := Aside0.mk hl235_3
           clear hi235_3 hl235_3
           have HR235_4 := Aside0.mk hi235_4
           have HC235_4 := Aside0.mk hl235_4
           clear hi235_4 hl235_4
           have HR235_5 := Aside0.mk hi235_5
           have HC235_5 := Aside0.mk hl235_5
           clear hi235_5 hl235_5
           have HR235_6 := Aside0.mk hi235_6
           have HC235_6 := Aside0.mk hl235_6
           clear hi235_6 hl235_6
           replace p235 := eq_true p235
           replace q235 := eq_true q235
           refine start_ (n := 17) (S := fun w' => w'.cell? ⟨gb234, 0, none⟩ = some (.slice A233_0 ((rd_T62 l0 x41_2).f0).length c233_0) ∧ w'.cell? ⟨gb234, 1, none⟩ = some (.bool ((rd_T62 l0 x41_2).f1)) ∧ w'.cell? ⟨gb234, 2, none⟩ = some (.slice A233_2 ((rd_T62 l0 x41_2).f2).length c233_2) ∧ w'.cell? ⟨gb234, 3, none⟩ = some (.slice A233_3 ((rd_T62 l0 x41_2).f3).length c233_3) ∧ w'.cell? ⟨gb234, 4, none⟩ = some (.slice A233_4 ((rd_T62 l0 x41_2).f4).length c233_4) ∧ w'.cell? ⟨gb234, 5, none⟩ = some (.slice A233_5 ((rd_T62 l0 x41_2).f5).length c233_5) ∧ w'.cell? ⟨gb234, 6, none⟩ = some (.slice A233_6 ((rd_T62 l0 x41_2).f6).length c233_6) ∧ w'.cell? ad233 = some (.slice A235_0 ((rd_T62 l0 0).f0).length c235_0) ∧ w'.cell? ⟨ad233.block, ad233.off + 1, none⟩ = some (.bool ((rd_T62 l0 0).f1)) ∧ w'.cell? ⟨ad233.block, ad233.off + 2, none⟩ = some (.slice A235_2 ((rd_T62 l0 0).f2).length c235_2) ∧ w'.cell? ⟨ad233.block, ad233.off + 3, none⟩ = some (.slice A235_3 ((rd_T62 l0 0).f3).length c235_3) ∧ w'.cell? ⟨ad233.block, ad233.off + 4, none⟩ = some (.slice A235_4 ((rd_T62 l0 0).f4).length c235_4) ∧ w'.cell? ⟨ad233.block, ad233.off + 5, none⟩ = some (.slice A235_5 ((rd_T62 l0 0).f5).length c235_5) ∧ w'.cell? ⟨ad233.block, ad233.off + 6, none⟩ = some (.slice A235_6 ((rd_T62 l0 0).f6).length c235_6)) (ds := []) #[ff,ff,ff,ff,ff,ff,ff,ff,ff,ff,ff,ff,ff,ff,ff,ff,ff] z8_8 rfl rfl ⟨(blk_cell BK234.out 0).trans rfl, (blk_cell BK234.out 1).trans rfl, (blk_cell BK234.out 2).trans rfl, (blk_cell BK234.out 3).trans rfl, (blk_cell BK234.out 4).trans rfl, (blk_cell BK234.out 5).trans rfl, (blk_cell BK234.out 6).trans rfl, ((HB.out.cell (World.block_lt_of_cell? w _ hw235_0)).trans hw235_0), ((HB.out.cell (World.block_lt_of_cell? w _ hw235_1)).trans hw235_1), ((HB.out.cell (World.block_lt_of_cell? w _ hw235_2)).trans hw235_2), ((HB.out.cell (World.block_lt_of_cell? w _ hw235_3)).trans hw235_3), ((HB.out.cell (World.block_lt_of_cell? w _ hw235_4)).trans hw235_4), ((HB.out.cell (World.block_lt_of_cell? w _ hw235_5)).trans hw235_5), ((HB.out.cell (World.block_lt_of_cell? w _ hw235_6)).trans hw235_6)⟩ (fun hHeld => ?_); refine with_tabW tBy.tab16 tBy.bits16 (fun HT_ HW_ => ?_)
           generalize wc.drew = w32 at HO_11 HO_17 HO_220000 BK219 BK234 HI209 HB HR235_0 HR235_2 HR235_3 HR235_4 HR235_5 HR235_6 hx235_0 hx235_1 hx235_2 hx235_3 hx235_4 hx235_5 hx235_6 hHeld ⊢
           refine prx8 0 49 #[tt,ff,ff,ff,ff,ff,ff,ff,ff,ff,ff,ff,ff,ff,ff,ff,ff] ?_
           refine prx8 1 50 #[tt,tt,ff,ff,ff,ff,ff,ff,ff,ff,ff,ff,ff,ff,ff,ff,ff] ?_
           refine prx8 2 51 #[tt,tt,tt,ff,ff,ff,ff,ff,ff,ff,ff,ff,ff,ff,ff,ff,ff] ?_
           refine prx8 3 52 #[tt,tt,tt,tt,ff,ff,ff,ff,ff,ff,ff,ff,ff,ff,ff,ff,ff] ?_
           refine prx8 5 54 #[tt,tt,tt,tt,ff,tt,ff,ff,ff,ff,ff,ff,ff,ff,ff,ff,ff] ?_
           refine prx8 6 55 #[tt,tt,tt,tt,ff,tt,tt,ff,ff,ff,ff,ff,ff,ff,ff,ff,ff] ?_
           refine prx8 7 56 #[tt,tt,tt,tt,ff,tt,tt,tt,ff,ff,ff,ff,ff,ff,ff,ff,ff] ?_
           refine take_ (i := 4) (N := some 53) (v := ?_) (a' := ?_) #[tt,tt,tt,tt,tt,tt,tt,tt,ff,ff,ff,ff,ff,ff,ff,ff,ff] rfl rfl (take_ofW HT_.out HW_.out z8_8) (fun _ _ _ h => h) (Or.inl ⟨by rfl, ?_⟩) hHeld ?_ ?_
           rotate_left
           ·rintro w' ⟨s0, s1, s2, s3, s4, s5, s6, s7, s8, s9, s10, s11, s12, s13⟩
            go_simp
            with_reducible rfl
           rotate_left
           ·simp only [Act.put, L1_, L2_, L3_, i64_w, i32_w]
            rfl
           refine take_ (i := 8) (N := some 57) (v := ?_) (a' := ?_) #[tt,tt,tt,tt,tt,tt,tt,tt,tt,ff,ff,ff,ff,ff,ff,ff,ff] rfl rfl (take_ofW HT_.out HW_.out z8_8) (fun _ _ _ h => h) (Or.inl ⟨by rfl, ?_⟩) hHeld ?_ ?_
           rotate_left
           ·rintro w' ⟨s0, s1, s2, s3, s4, s5, s6, s7, s8, s9, s10, s11, s12, s13⟩
            go_simp
            with_reducible rfl
           rotate_left
           ·simp only [Act.put, L1_, L2_, L3_, i64_w, i32_w]
            rfl
           refine one_ (i := 9) (N := some 58) #[tt,tt,tt,tt,tt,tt,tt,tt,tt,tt,ff,ff,ff,ff,ff,ff,ff] rfl rfl (one_of HT_.out z8_8) z8_15 (fun K hK => ?_)
           refine goes_ Try.func46 z8_8 rfl #[.slice A233_4 ((rd_T62 l0 x41_2).f4).length c233_4, .slice A235_4 ((rd_T62 l0 0).f4).length c235_4] (by rfl) rfl rfl z8_4 ?_
           with_reducible refine (sEq.calls kj16 _ _ ((rd_T62 l0 x41_2).f4) _ _ ((rd_T62 l0 0).f4) false _ ?side1 ?side2 ?side3 ?side4 A27.out).mono ?_
           (case side1 => repeat (first | exact (Kd.C_below HR233_4.out HB.out) | (with_reducible refine Kd.C_alloc ?_ _) | (with_reducible refine Kd.C_drewN ?_ _) | (with_reducible refine Kd.C_drew ?_)))
           (case side2 => exact HC233_4.out)
           (case side3 => repeat (first | exact (Kd.C_below HR235_4.out HB.out) | (with_reducible refine Kd.C_alloc ?_ _) | (with_reducible refine Kd.C_drewN ?_ _) | (with_reducible refine Kd.C_drew ?_)))
           (case side4 => exact HC235_4.out)
           rintro e w' ⟨rfl, ⟨nd, rfl⟩⟩
           refine ⟨_, rfl, ?_⟩
           refine hK.out _ _ ⟨(blk_cell BK234.out 0).trans rfl, (blk_cell BK234.out 1).trans rfl, (blk_cell BK234.out 2).trans rfl, (blk_cell BK234.out 3).trans rfl, (blk_cell BK234.out 4).trans rfl, (blk_cell BK234.out 5).trans rfl, (blk_cell BK234.out 6).trans rfl, ((HB.out.cell (World.block_lt_of_cell? w _ hw235_0)).trans hw235_0), ((HB.out.cell (World.block_lt_of_cell? w _ hw235_1)).trans hw235_1), ((HB.out.cell (World.block_lt_of_cell? w _ hw235_2)).trans hw235_2), ((HB.out.cell (World.block_lt_of_cell? w _ hw235_3)).trans hw235_3), ((HB.out.cell (World.block_lt_of_cell? w _ hw235_4)).trans hw235_4), ((HB.out.cell (World.block_lt_of_cell? w _ hw235_5)).trans hw235_5), ((HB.out.cell (World.block_lt_of_cell? w _ hw235_6)).trans hw235_6)⟩ (fun hHeld => ?_)
           clear hK K
           refine norm_ (a' := ?_) ?_ ?_
           rotate_left
           ·show Act.put _ (some 58) _ = _
            simp only [Act.put, L1_, L2_, L3_, i64_w, i32_w]
            rfl
           refine prx8 10 59 #[tt,tt,tt,tt,tt,tt,tt,tt,tt,tt,tt,ff,ff,ff,ff,ff,ff] ?_
           refine prx8 11 60 #[tt,tt,tt,tt,tt,tt,tt,tt,tt,tt,tt,tt,ff,ff,ff,ff,ff] ?_
           refine prx8 12 61 #[tt,tt,tt,tt,tt,tt,tt,tt,tt,tt,tt,tt,tt,ff,ff,ff,ff] ?_
           refine pure_ (i := 13) (N := some 62) (v := undef) (a' := ?_) #[tt,tt,tt,tt,tt,tt,tt,tt,tt,tt,tt,tt,tt,tt,ff,ff,ff] rfl rfl (any_of HT_.out z8_8) (fun _ _ _ h => h) (Or.inr ⟨by rfl, rfl⟩) ?_ ?_
           rotate_left
           ·simp only [Act.put, L1_, L2_, L3_, i64_w, i32_w]
            rfl
           refine pure_ (i := 14) (N := some 63) (v := undef) (a' := ?_) #[tt,tt,tt,tt,tt,tt,tt,tt,tt,tt,tt,tt,tt,tt,tt,ff,ff] rfl rfl (any_of HT_.out z8_8) (fun _ _ _ h => h) (Or.inr ⟨by rfl, rfl⟩) ?_ ?_
           rotate_left
           ·simp only [Act.put, L1_, L2_, L3_, i64_w, i32_w]
            rfl
           refine pure_ (i := 15) (N := some 64) (v := undef) (a' := ?_) #[tt,tt,tt,tt,tt,tt,tt,tt,tt,tt,tt,tt,tt,tt,tt,tt,ff] rfl rfl (any_of HT_.out z8_8) (fun _ _ _ h => h) (Or.inr ⟨by rfl, rfl⟩) ?_ ?_
           rotate_left
           ·(try go_ints); (try simp (disch := omega) only [n3_]); simp only [Act.put, L1_, L2_, L3_, i64_w, i32_w]
            rfl
           refine prx8 16 65 #[tt,tt,tt,tt,tt,tt,tt,tt,tt,tt,tt,tt,tt,tt,tt,tt,tt] ?_
           refine done_ (done_of HT_.out z8_8) ?_
           try go_wp2
           go_meet
           case rel => exact ⟨_, (true), (x210001_2), (x210002_2), z8_9, z8_9, H', ⟨z8_17⟩, ⟨z8_1⟩, ⟨z8_6⟩, ⟨z8_2⟩, ⟨z8_3⟩, ⟨z8_5⟩, ⟨(show IsS126 w _ gb209 l3 x210001_2 x210002_2 from by repeat (first | (with_reducible first | exact HI209.out | apply IsS126.alloc | apply IsS126.drewN | apply IsS126.drew | apply IsS126.set_1 | apply IsS126.set_2 | refine IsS126.far ?_ NB209_219.out _ | refine IsS126.far ?_ NB209_234.out _) | exact HI209.out))⟩, ⟨z8_0⟩⟩
         ·rw [if_neg c25] at H
          have c25b0 : (t210 == 1) = false := by simpa using c25
          (try (have c25b1 : decide (t210 = 1) = false := by simpa using c25))
          (try (have c25b2 : (t210 == 1) = false := by simpa using c25))
          (try (have c25b3 : ¬ (t210 = 1) := by simpa using c25))
          clear c25
          (first | rw [c25b0] | (simp only [i64_w, i32_w]; rw [c25b0]) | skip)
          have H' := Aside0.mk H
          clear H
          try go_wp2
          have n0_ := Aside0.mk (Kd.R_drew HO_11.out)
          have n1_ := Aside0.mk (Kd.R_drew HO_17.out)
          have n2_ := Aside0.mk (Kd.R_drew HO_220000.out)
          have n3_ := Aside0.mk (blk_drew BK219.out)
          have n4_ := Aside0.mk (blk_drew BK234.out)
          have n5_ := Aside0.mk (IsS126.drew HI209.out)
          have n6_ := Aside0.mk (below_drew1 HB.out)
          clear HO_11
          clear HO_17
          clear HO_220000
          clear BK219
          clear BK234
          clear HI209
          clear HB
          have HO_11 := n0_
          have HO_17 := n1_
          have HO_220000 := n2_
          have BK219 := n3_
          have BK234 := n4_
          have HI209 := n5_
          have HB := n6_
          clear n0_ n1_ n2_ n3_ n4_ n5_ n6_
          refine start_ (n := 17) (S := fun w' => True) (ds := []) #[ff,ff,ff,ff,ff,ff,ff,ff,ff,ff,ff,ff,ff,ff,ff,ff,ff] z8_8 rfl rfl trivial (fun hHeld => ?_); refine with_tabW tBy.tab16 tBy.bits16 (fun HT_ HW_ => ?_)
          generalize wc.drew = w33 at HO_11 HO_17 HO_220000 BK219 BK234 HI209 HB hHeld ⊢
          refine prx8 0 49 #[tt,ff,ff,ff,ff,ff,ff,ff,ff,ff,ff,ff,ff,ff,ff,ff,ff] ?_
          refine prx8 1 50 #[tt,tt,ff,ff,ff,ff,ff,ff,ff,ff,ff,ff,ff,ff,ff,ff,ff] ?_
          refine prx8 2 51 #[tt,tt,tt,ff,ff,ff,ff,ff,ff,ff,ff,ff,ff,ff,ff,ff,ff] ?_
          refine pure_ (i := 3) (N := some 52) (v := undef) (a' := ?_) #[tt,tt,tt,tt,ff,ff,ff,ff,ff,ff,ff,ff,ff,ff,ff,ff,ff] rfl rfl (any_of HT_.out z8_8) (fun _ _ _ h => h) (Or.inr ⟨by rfl, rfl⟩) ?_ ?_
          rotate_left
          ·simp only [Act.put, L1_, L2_, L3_, i64_w, i32_w]
           rfl
          refine pure_ (i := 4) (N := some 53) (v := undef) (a' := ?_) #[tt,tt,tt,tt,tt,ff,ff,ff,ff,ff,ff,ff,ff,ff,ff,ff,ff] rfl rfl (any_of HT_.out z8_8) (fun _ _ _ h => h) (Or.inr ⟨by rfl, rfl⟩) ?_ ?_
          rotate_left
          ·simp only [Act.put, L1_, L2_, L3_, i64_w, i32_w]
           rfl
          refine pure_ (i := 5) (N := some 54) (v := undef) (a' := ?_) #[tt,tt,tt,tt,tt,tt,ff,ff,ff,ff,ff,ff,ff,ff,ff,ff,ff] rfl rfl (any_of HT_.out z8_8) (fun _ _ _ h => h) (Or.inr ⟨by rfl, rfl⟩) ?_ ?_
          rotate_left
          ·simp only [Act.put, L1_, L2_, L3_, i64_w, i32_w]
           rfl
          refine pure_ (i := 6) (N := some 55) (v := undef) (a' := ?_) #[tt,tt,tt,tt,tt,tt,tt,ff,ff,ff,ff,ff,ff,ff,ff,ff,ff] rfl rfl (any_of HT_.out z8_8) (fun _ _ _ h => h) (Or.inr ⟨by rfl, rfl⟩) ?_ ?_
          rotate_left
          ·simp only [Act.put, L1_, L2_, L3_, i64_w, i32_w]
           rfl
          refine pure_ (i := 7) (N := some 56) (v := undef) (a' := ?_) #[tt,tt,tt,tt,tt,tt,tt,tt,ff,ff,ff,ff,ff,ff,ff,ff,ff] rfl rfl (any_of HT_.out z8_8) (fun _ _ _ h => h) (Or.inr ⟨by rfl, rfl⟩) ?_ ?_
          rotate_left
          ·simp only [Act.put, L1_, L2_, L3_, i64_w, i32_w]
           rfl
          refine pure_ (i := 8) (N := some 57) (v := undef) (a' := ?_) #[tt,tt,tt,tt,tt,tt,tt,tt,tt,ff,ff,ff,ff,ff,ff,ff,ff] rfl rfl (any_of HT_.out z8_8) (fun _ _ _ h => h) (Or.inr ⟨by rfl, rfl⟩) ?_ ?_
          rotate_left
          ·simp only [Act.put, L1_, L2_, L3_, i64_w, i32_w]
           rfl
          refine pure_ (i := 9) (N := some 58) (v := undef) (a' := ?_) #[tt,tt,tt,tt,tt,tt,tt,tt,tt,tt,ff,ff,ff,ff,ff,ff,ff] rfl rfl (any_of HT_.out z8_8) (fun _ _ _ h => h) (Or.inr ⟨by rfl, rfl⟩) ?_ ?_
          rotate_left
          ·simp only [Act.put, L1_, L2_, L3_, i64_w, i32_w]
           rfl
          refine pure_ (i := 10) (N := some 59) (v := undef) (a' := ?_) #[tt,tt,tt,tt,tt,tt,tt,tt,tt,tt,tt,ff,ff,ff,ff,ff,ff] rfl rfl (any_of HT_.out z8_8) (fun _ _ _ h => h) (Or.inr ⟨by rfl, rfl⟩) ?_ ?_
          rotate_left
          ·simp only [Act.put, L1_, L2_, L3_, i64_w, i32_w]
           rfl
          refine prx8 11 60 #[tt,tt,tt,tt,tt,tt,tt,tt,tt,tt,tt,tt,ff,ff,ff,ff,ff] ?_
          refine prx8 12 61 #[tt,tt,tt,tt,tt,tt,tt,tt,tt,tt,tt,tt,tt,ff,ff,ff,ff] ?_
          refine pure_ (i := 13) (N := some 62) (v := undef) (a' := ?_) #[tt,tt,tt,tt,tt,tt,tt,tt,tt,tt,tt,tt,tt,tt,ff,ff,ff] rfl rfl (any_of HT_.out z8_8) (fun _ _ _ h => h) (Or.inr ⟨by rfl, rfl⟩) ?_ ?_
          rotate_left
          ·simp only [Act.put, L1_, L2_, L3_, i64_w, i32_w]
           rfl
          refine pure_ (i := 14) (N := some 63) (v := undef) (a' := ?_) #[tt,tt,tt,tt,tt,tt,tt,tt,tt,tt,tt,tt,tt,tt,tt,ff,ff] rfl rfl (any_of HT_.out z8_8) (fun _ _ _ h => h) (Or.inr ⟨by rfl, rfl⟩) ?_ ?_
          rotate_left
          ·simp only [Act.put, L1_, L2_, L3_, i64_w, i32_w]
           rfl
          refine pure_ (i := 15) (N := some 64) (v := undef) (a' := ?_) #[tt,tt,tt,tt,tt,tt,tt,tt,tt,tt,tt,tt,tt,tt,tt,tt,ff] rfl rfl (any_of HT_.out z8_8) (fun _ _ _ h => h) (Or.inr ⟨by rfl, rfl⟩) ?_ ?_
          rotate_left
          ·(try go_ints); (try simp (disch := omega) only [n3_]); simp only [Act.put, L1_, L2_, L3_, i64_w, i32_w]
           rfl
          refine prx8 16 65 #[tt,tt,tt,tt,tt,tt,tt,tt,tt,tt,tt,tt,tt,tt,tt,tt,tt] ?_
          refine done_ (done_of HT_.out z8_8) ?_
          try go_wp2
          go_meet
          case rel => exact ⟨_, (true), (x210001_2), (x210002_2), z8_9, z8_9, H', ⟨z8_17⟩, ⟨z8_1⟩, ⟨z8_6⟩, ⟨z8_2⟩, ⟨z8_3⟩, ⟨z8_5⟩, ⟨(show IsS126 w _ gb209 l3 x210001_2 x210002_2 from by repeat (first | (with_reducible first | exact HI209.out | apply IsS126.alloc | apply IsS126.drewN | apply IsS126.drew | apply IsS126.set_1 | apply IsS126.set_2 | refine IsS126.far ?_ NB209_219.out _ | refine IsS126.far ?_ NB209_234.out _) | exact HI209.out))⟩, ⟨z8_0⟩⟩
        case rest =>
         clear HC24
         obtain ⟨kq, x65_23, x210001_23, x210002_23, rfl, rfl, HA, HJ23, HO_11, HO_17, HO_220000, BK219, BK234, HI209, HB⟩ := hcut
         cases kq with
         | zero => exact absurd HA.out (by simp [tBy.j3])
         | succ kj23 =>
          have H := HA.out
          clear HA
          simp only [tBy.j3] at H
          have HC34 := Aside0.mk H
          clear H
          go_upto_if 65 with (fail)
          go_cut [17, 18] (fun v17 v18 wc => ∃ (kq : Nat) (x17_33 : List Int) (x18_33 : Int) (x210001_33 : Int) (x210002_33 : Bool), v18 = .int .i64 x18_33 ∧ Aside0 (tBy.j4 kq l0 x11_2 (t210 == 1) x13_5 x17_33 x18_33 l0 (l0.length : Int) x41_2 l3 x210001_33 x210002_33 x220000_2 () ((rd_T62 l0 x41_2).f0) ((rd_T62 l0 x41_2).f1) ((rd_T62 l0 x41_2).f2) ((rd_T62 l0 x41_2).f3) ((rd_T62 l0 x41_2).f4) ((rd_T62 l0 x41_2).f5) ((rd_T62 l0 x41_2).f6) = some (r1, r2)) ∧ Aside0 (kq ≤ kj23) ∧ Aside0 (Kd.R (Kd.int .u8) 5 wc w.heap.size (fun k_ => some k_ ≠ (v17 : Value).ownBlock ∧ some k_ ≠ (u220000 : Value).ownBlock) u11 x11_2) ∧ Aside0 (Kd.R (Kd.int .u8) 5 wc w.heap.size (fun k_ => some k_ ≠ (u11 : Value).ownBlock ∧ some k_ ≠ (u220000 : Value).ownBlock) v17 x17_33) ∧ Aside0 (Kd.R (Kd.int .u8) 5 wc w.heap.size (fun k_ => some k_ ≠ (u11 : Value).ownBlock ∧ some k_ ≠ (v17 : Value).ownBlock) u220000 x220000_2) ∧ Aside0 (wc.heap[gb219]? = some (.cells #[u220000, .slice none 0 0] 130 (0, 0))) ∧ Aside0 (wc.heap[gb234]? = some (.cells #[(.slice A233_0 ((rd_T62 l0 x41_2).f0).length c233_0), .bool ((rd_T62 l0 x41_2).f1), (.slice A233_2 ((rd_T62 l0 x41_2).f2).length c233_2), (.slice A233_3 ((rd_T62 l0 x41_2).f3).length c233_3), (.slice A233_4 ((rd_T62 l0 x41_2).f4).length c233_4), (.slice A233_5 ((rd_T62 l0 x41_2).f5).length c233_5), (.slice A233_6 ((rd_T62 l0 x41_2).f6).length c233_6)] 62 (0, 0))) ∧ Aside0 (IsS126 w wc gb209 l3 x210001_33 x210002_33) ∧ Aside0 (Below w.heap.size w wc))
          case first =>
           have H := HC34.out
           clear HC34
           by_cases c35 : x65_23 = true
           ·subst c35
            have H1 : ((wPP.f kj23 l3 x210001_23 x210002_23 ((rd_T62 l0 x41_2).f4)).bind fun bt240 => (tBy.j4 kj23 l0 x11_2 (t210 == 1) x13_5 bt240.1 (Go.bits .or .i64 x18_16 8192) l0 (l0.length : Int) x41_2 l3 bt240.2.1 bt240.2.2 x220000_2 () ((rd_T62 l0 x41_2).f0) ((rd_T62 l0 x41_2).f1) ((rd_T62 l0 x41_2).f2) ((rd_T62 l0 x41_2).f3) ((rd_T62 l0 x41_2).f4) ((rd_T62 l0 x41_2).f5) ((rd_T62 l0 x41_2).f6))) = some (r1, r2) := by rw [if_pos rfl] at H; exact H
            clear H
            have H := H1
            clear H1
            replace H := Option.bind_eq_some_iff.mp H
            obtain ⟨⟨t240, t243, t244⟩, A360, H⟩ := H
            replace H : (tBy.j4 kj23 l0 x11_2 (t210 == 1) x13_5 t240 (Go.bits .or .i64 x18_16 8192) l0 (l0.length : Int) x41_2 l3 t243 t244 x220000_2 () ((rd_T62 l0 x41_2).f0) ((rd_T62 l0 x41_2).f1) ((rd_T62 l0 x41_2).f2) ((rd_T62 l0 x41_2).f3) ((rd_T62 l0 x41_2).f4) ((rd_T62 l0 x41_2).f5) ((rd_T62 l0 x41_2).f6)) = some (r1, r2) := H
            have A36 := Aside0.mk A360
            clear A360
            have H' := Aside0.mk H
            clear H
            have hnb37 := NB234_219.out
            have hnc37 := NB219_234.out
            have hnb38 := NB234_209.out
            have hnc38 := NB209_234.out
            obtain ⟨hcz39_0, hcz39_1, hcz39_2, hcz39_3, hcz39_4, hcz39_5, hcz39_6⟩ := cz7x8 BK234.out
            obtain ⟨hfz39_0, hfz39_1, hfz39_2, hfz39_3, hfz39_4, hfz39_5, hfz39_6⟩ := fz7x8 BK234.out
            go_wp2_with (first | ((with_reducible refine gate_callee (f := 45) rfl ?_); refine goesL_ (some 71) rfl rfl Try.func45 z8_8 rfl #[.pointer (some ⟨gb209, 0, none⟩), .slice A233_4 ((rd_T62 l0 x41_2).f4).length c233_4] rfl z8_4 ?_; (with_reducible refine (wPP.calls kj23 gb209 l3 x210001_23 x210002_23 _ _ ((rd_T62 l0 x41_2).f4) t240 t243 t244 w _ ?side1 ?side2 ?side3 ?side4 ?side5 A36.out).mono ?_); (case side1 => repeat (first | (with_reducible first | exact HI209.out | apply IsS126.alloc | apply IsS126.drewN | apply IsS126.drew | apply IsS126.set_1 | apply IsS126.set_2 | refine IsS126.far ?_ NB209_219.out _ | refine IsS126.far ?_ NB209_234.out _) | exact HI209.out)); (case side2 => repeat (first | (with_reducible first | exact HB.out | apply below_alloc | apply pw_below_drewN | apply below_drew1 | refine below_set ?_ (IsS126.ge HI209.out) | refine below_set ?_ GE219.out | refine below_set ?_ GE234.out) | exact HB.out)); (case side3 => repeat (first | exact (Kd.C_below HR233_4.out HB.out) | (with_reducible refine Kd.C_alloc ?_ _) | (with_reducible refine Kd.C_drewN ?_ _) | (with_reducible refine Kd.C_drew ?_))); (case side4 => exact HC233_4.out); (case side5 => exact Kd.far_C 0 HR233_4.out (IsS126.ge HI209.out)); rintro e w40 ⟨v241, rfl, ho0, hi, hb, hk⟩; refine ⟨_, rfl, ?_⟩; have n0_ := Aside0.mk (Kd.R_mono (Kd.R_told (Kd.R_oldK (IsS126.apart (show IsS126 w _ gb209 l3 x210001_23 x210002_23 from (show IsS126 w _ gb209 l3 x210001_23 x210002_23 from by repeat (first | (with_reducible first | exact HI209.out | apply IsS126.alloc | apply IsS126.drewN | apply IsS126.drew | apply IsS126.set_1 | apply IsS126.set_2 | refine IsS126.far ?_ NB209_219.out _ | refine IsS126.far ?_ NB209_234.out _) | exact HI209.out))) z8_1 z8_15) hk) (Kd.R_base ho0)) (fun _ h_ => h_.1)); have n1_ := Aside0.mk (Kd.R_mono (Kd.R_told (Kd.R_oldK (IsS126.apart (show IsS126 w _ gb209 l3 x210001_23 x210002_23 from (show IsS126 w _ gb209 l3 x210001_23 x210002_23 from by repeat (first | (with_reducible first | exact HI209.out | apply IsS126.alloc | apply IsS126.drewN | apply IsS126.drew | apply IsS126.set_1 | apply IsS126.set_2 | refine IsS126.far ?_ NB209_219.out _ | refine IsS126.far ?_ NB209_234.out _) | exact HI209.out))) z8_6 z8_15) hk) (Kd.R_base ho0)) (fun _ h_ => h_.1)); have n2_ := Aside0.mk (Kd.R_mono (Kd.R_told (Kd.R_oldK (IsS126.apart (show IsS126 w _ gb209 l3 x210001_23 x210002_23 from (show IsS126 w _ gb209 l3 x210001_23 x210002_23 from by repeat (first | (with_reducible first | exact HI209.out | apply IsS126.alloc | apply IsS126.drewN | apply IsS126.drew | apply IsS126.set_1 | apply IsS126.set_2 | refine IsS126.far ?_ NB209_219.out _ | refine IsS126.far ?_ NB209_234.out _) | exact HI209.out))) z8_2 z8_15) hk) (Kd.R_base ho0)) (fun _ h_ => h_.1)); have n3_ := Aside0.mk (KeepBut.blk hk (g' := gb219) (o := .cells #[u220000, .slice none 0 0] 130 (0, 0)) z8_3 NB219_209.out (by simp)); have n4_ := Aside0.mk (KeepBut.blk hk (g' := gb234) (o := .cells #[.slice A233_0 ((rd_T62 l0 x41_2).f0).length c233_0, .bool ((rd_T62 l0 x41_2).f1), .slice A233_2 ((rd_T62 l0 x41_2).f2).length c233_2, .slice A233_3 ((rd_T62 l0 x41_2).f3).length c233_3, .slice A233_4 ((rd_T62 l0 x41_2).f4).length c233_4, .slice A233_5 ((rd_T62 l0 x41_2).f5).length c233_5, .slice A233_6 ((rd_T62 l0 x41_2).f6).length c233_6] 62 (0, 0)) z8_5 NB234_209.out (by simp)); have n5_ := Aside0.mk (Kd.R_lower (Kd.R_new' (Kd.R_new' (Kd.R_new' ho0 (Kd.R_lt z8_1)) (Kd.R_lt z8_6)) (Kd.R_lt z8_2)) (below_size z8_0)); have n6_ := Aside0.mk (hb); have n7_ := Aside0.mk (hi); clear HO_11; clear HO_17; clear HO_220000; clear BK219; clear BK234; clear HB; clear HI209; have HO_11 := n0_; have HO_17 := n1_; have HO_220000 := n2_; have BK219 := n3_; have BK234 := n4_; have HO242 := n5_; have HB := n6_; have HI209 := n7_; clear n0_ n1_ n2_ n3_ n4_ n5_ n6_ n7_ hb hk hi; (clear ho0)))
            go_meet
            case rel => exact ⟨_, (t240), (Go.bits .or .i64 x18_16 8192), (t243), (t244), z8_9, H', ⟨by have := HJ5.out; have := HK2.out; have := HJ16.out; have := HJ23.out; first | omega | exact Nat.le_refl _⟩, ⟨by (with_reducible repeat (first | apply Kd.R_alloc | apply Kd.R_drewN | apply Kd.R_drew)); exact Kd.R_mono HO_11.out (fun _ hk => ⟨hk.2, hk.1.2⟩)⟩, ⟨by (with_reducible repeat (first | apply Kd.R_alloc | apply Kd.R_drewN | apply Kd.R_drew)); exact Kd.R_mono HO242.out (fun _ hk => ⟨hk.1.1.2, hk.2⟩)⟩, ⟨by (with_reducible repeat (first | apply Kd.R_alloc | apply Kd.R_drewN | apply Kd.R_drew)); exact Kd.R_mono HO_220000.out (fun _ hk => ⟨hk.1.1, hk.2⟩)⟩, ⟨z8_3⟩, ⟨z8_5⟩, ⟨(show IsS126 w _ gb209 l3 t243 t244 from by repeat (first | (with_reducible first | exact HI209.out | apply IsS126.alloc | apply IsS126.drewN | apply IsS126.drew | apply IsS126.set_1 | apply IsS126.set_2 | refine IsS126.far ?_ NB209_219.out _ | refine IsS126.far ?_ NB209_234.out _) | exact HI209.out))⟩, ⟨z8_0⟩⟩
           ·replace c35 := Bool.eq_false_iff.mpr c35
            subst c35
            have H1 : (tBy.j4 kj23 l0 x11_2 (t210 == 1) x13_5 ([] : List Int) x18_16 l0 (l0.length : Int) x41_2 l3 x210001_23 x210002_23 x220000_2 () ((rd_T62 l0 x41_2).f0) ((rd_T62 l0 x41_2).f1) ((rd_T62 l0 x41_2).f2) ((rd_T62 l0 x41_2).f3) ((rd_T62 l0 x41_2).f4) ((rd_T62 l0 x41_2).f5) ((rd_T62 l0 x41_2).f6)) = some (r1, r2) := by rw [if_neg (show ¬ (false = true) by decide)] at H; exact H
            clear H
            have H := H1
            clear H1
            have H' := Aside0.mk H
            clear H
            go_wp2
            go_meet
            case rel => exact ⟨_, (([] : List Int)), (x18_16), (x210001_23), (x210002_23), z8_9, H', ⟨by have := HJ5.out; have := HK2.out; have := HJ16.out; have := HJ23.out; first | omega | exact Nat.le_refl _⟩, ⟨z8_1⟩, ⟨z8_6⟩, ⟨z8_2⟩, ⟨z8_3⟩, ⟨z8_5⟩, ⟨(show IsS126 w _ gb209 l3 x210001_23 x210002_23 from by repeat (first | (with_reducible first | exact HI209.out | apply IsS126.alloc | apply IsS126.drewN | apply IsS126.drew | apply IsS126.set_1 | apply IsS126.set_2 | refine IsS126.far ?_ NB209_219.out _ | refine IsS126.far ?_ NB209_234.out _) | exact HI209.out))⟩, ⟨z8_0⟩⟩
          case rest =>
           clear HC34
           obtain ⟨kq, x17_33, x18_33, x210001_33, x210002_33, rfl, HA, HJ33, HO_11, HO_17, HO_220000, BK219, BK234, HI209, HB⟩ := hcut
           cases kq with
           | zero => exact absurd HA.out (by simp [tBy.j4])
           | succ kj33 =>
            have H := HA.out
            clear HA
            simp only [tBy.j4] at H
            replace H := Option.bind_eq_some_iff.mp H
            obtain ⟨⟨t245, t248, t249⟩, A410, H⟩ := H
            replace H : (if x17_33.length + t245.length < 140737488355328 then ((some (x17_33 ++ t245 : List Int)).bind fun y250 => ((wPD.f kj33 l3 t248 t249 ((rd_T62 l0 x41_2).f6)).bind fun bt253 => (if y250.length + bt253.1.length < 140737488355328 then ((some (y250 ++ bt253.1 : List Int)).bind fun y258 => ((tSh.f kj33 x220000_2 (([(y258.length : Int), x18_33] : List Int))).bind fun t264 => ((tSh.f kj33 t264 ((rd_T62 l0 x41_2).f0)).bind fun t267 => (if ((rd_T62 l0 x41_2).f1) = true then ((tSh.f kj33 t267 ((rd_T62 l0 x41_2).f2)).bind fun t270 => ((tSh.f kj33 t270 ((rd_T62 l0 x41_2).f3)).bind fun t273 => (if x11_2.length + y258.length < 140737488355328 then (tBy.l0 kj33 l0 (x11_2 ++ y258) (t210 == 1) x13_5 l0 (l0.length : Int) (wrap64 (x41_2 + 1)) l3 bt253.2.1 bt253.2.2 t273 ()) else (none)))) else (if x11_2.length + y258.length < 140737488355328 then (tBy.l0 kj33 l0 (x11_2 ++ y258) (t210 == 1) x13_5 l0 (l0.length : Int) (wrap64 (x41_2 + 1)) l3 bt253.2.1 bt253.2.2 t267 ()) else (none)))))) else (none)))) else (none)) = some (r1, r2) := H
            have A41 := Aside0.mk A410
            clear A410
            by_cases c42 : x17_33.length + t245.length < 140737488355328
            rotate_left
            ·rw [if_neg c42] at H
             exact absurd H (by simp)
            rw [if_pos c42] at H
            have LMc42 := Aside0.mk c42
            clear c42
            obtain ⟨y250, hy250⟩ : ∃ y_ : List Int, y_ = (x17_33 ++ t245) := ⟨_, rfl⟩
            replace H : ((wPD.f kj33 l3 t248 t249 ((rd_T62 l0 x41_2).f6)).bind fun bt253 => (if y250.length + bt253.1.length < 140737488355328 then ((some (y250 ++ bt253.1 : List Int)).bind fun y258 => ((tSh.f kj33 x220000_2 (([(y258.length : Int), x18_33] : List Int))).bind fun t264 => ((tSh.f kj33 t264 ((rd_T62 l0 x41_2).f0)).bind fun t267 => (if ((rd_T62 l0 x41_2).f1) = true then ((tSh.f kj33 t267 ((rd_T62 l0 x41_2).f2)).bind fun t270 => ((tSh.f kj33 t270 ((rd_T62 l0 x41_2).f3)).bind fun t273 => (if x11_2.length + y258.length < 140737488355328 then (tBy.l0 kj33 l0 (x11_2 ++ y258) (t210 == 1) x13_5 l0 (l0.length : Int) (wrap64 (x41_2 + 1)) l3 bt253.2.1 bt253.2.2 t273 ()) else (none)))) else (if x11_2.length + y258.length < 140737488355328 then (tBy.l0 kj33 l0 (x11_2 ++ y258) (t210 == 1) x13_5 l0 (l0.length : Int) (wrap64 (x41_2 + 1)) l3 bt253.2.1 bt253.2.2 t267 ()) else (none)))))) else (none))) = some (r1, r2) := by first | (rw [hy250]; with_reducible exact H) | (have H2_ := (Option.bind_some _ _).symm.trans H; rw [hy250]; with_reducible exact H2_) | (have H2_ := (Option.bind_some _ _).symm.trans H; with_reducible exact H2_) | with_reducible exact H | (rw [hy250]; exact H) | exact H
            have Ny250 := Aside0.mk hy250
            clear hy250
            replace H := Option.bind_eq_some_iff.mp H
            obtain ⟨⟨t253, t256, t257⟩, A430, H⟩ := H
            replace H : (if y250.length + t253.length < 140737488355328 then ((some (y250 ++ t253 : List Int)).bind fun y258 => ((tSh.f kj33 x220000_2 (([(y258.length : Int), x18_33] : List Int))).bind fun t264 => ((tSh.f kj33 t264 ((rd_T62 l0 x41_2).f0)).bind fun t267 => (if ((rd_T62 l0 x41_2).f1) = true then ((tSh.f kj33 t267 ((rd_T62 l0 x41_2).f2)).bind fun t270 => ((tSh.f kj33 t270 ((rd_T62 l0 x41_2).f3)).bind fun t273 => (if x11_2.length + y258.length < 140737488355328 then (tBy.l0 kj33 l0 (x11_2 ++ y258) (t210 == 1) x13_5 l0 (l0.length : Int) (wrap64 (x41_2 + 1)) l3 t256 t257 t273 ()) else (none)))) else (if x11_2.length + y258.length < 140737488355328 then (tBy.l0 kj33 l0 (x11_2 ++ y258) (t210 == 1) x13_5 l0 (l0.length : Int) (wrap64 (x41_2 + 1)) l3 t256 t257 t267 ()) else (none)))))) else (none)) = some (r1, r2) := H
            have A43 := Aside0.mk A430
            clear A430
            by_cases c44 : y250.length + t253.length < 140737488355328
            rotate_left
            ·rw [if_neg c44] at H
             exact absurd H (by simp)
            rw [if_pos c44] at H
            have LMc44 := Aside0.mk c44
            clear c44
            obtain ⟨y258, hy258⟩ : ∃ y_ : List Int, y_ = (y250 ++ t253) := ⟨_, rfl⟩
            replace H : ((tSh.f kj33 x220000_2 (([(y258.length : Int), x18_33] : List Int))).bind fun t264 => ((tSh.f kj33 t264 ((rd_T62 l0 x41_2).f0)).bind fun t267 => (if ((rd_T62 l0 x41_2).f1) = true then ((tSh.f kj33 t267 ((rd_T62 l0 x41_2).f2)).bind fun t270 => ((tSh.f kj33 t270 ((rd_T62 l0 x41_2).f3)).bind fun t273 => (if x11_2.length + y258.length < 140737488355328 then (tBy.l0 kj33 l0 (x11_2 ++ y258) (t210 == 1) x13_5 l0 (l0.length : Int) (wrap64 (x41_2 + 1)) l3 t256 t257 t273 ()) else (none)))) else (if x11_2.length + y258.length < 140737488355328 then (tBy.l0 kj33 l0 (x11_2 ++ y258) (t210 == 1) x13_5 l0 (l0.length : Int) (wrap64 (x41_2 + 1)) l3 t256 t257 t267 ()) else (none))))) = some (r1, r2) := by first | (rw [hy258]; with_reducible exact H) | (have H2_ := (Option.bind_some _ _).symm.trans H; rw [hy258]; with_reducible exact H2_) | (have H2_ := (Option.bind_some _ _).symm.trans H; with_reducible exact H2_) | with_reducible exact H | (rw [hy258]; exact H) | exact H
            have Ny258 := Aside0.mk hy258
            clear hy258
            obtain ⟨y261, hy261⟩ : ∃ y_ : List Int, y_ = (([(y258.length : Int), x18_33] : List Int)) := ⟨_, rfl⟩
            replace H : ((tSh.f kj33 x220000_2 y261).bind fun t264 => ((tSh.f kj33 t264 ((rd_T62 l0 x41_2).f0)).bind fun t267 => (if ((rd_T62 l0 x41_2).f1) = true then ((tSh.f kj33 t267 ((rd_T62 l0 x41_2).f2)).bind fun t270 => ((tSh.f kj33 t270 ((rd_T62 l0 x41_2).f3)).bind fun t273 => (if x11_2.length + y258.length < 140737488355328 then (tBy.l0 kj33 l0 (x11_2 ++ y258) (t210 == 1) x13_5 l0 (l0.length : Int) (wrap64 (x41_2 + 1)) l3 t256 t257 t273 ()) else (none)))) else (if x11_2.length + y258.length < 140737488355328 then (tBy.l0 kj33 l0 (x11_2 ++ y258) (t210 == 1) x13_5 l0 (l0.length : Int) (wrap64 (x41_2 + 1)) l3 t256 t257 t267 ()) else (none))))) = some (r1, r2) := by first | (rw [hy261]; with_reducible exact H) | (have H2_ := (Option.bind_some _ _).symm.trans H; rw [hy261]; with_reducible exact H2_) | (have H2_ := (Option.bind_some _ _).symm.trans H; with_reducible exact H2_) | with_reducible exact H | (rw [hy261]; exact H) | exact H
            have Ny261 := Aside0.mk hy261
            clear hy261
            replace H := Option.bind_eq_some_iff.mp H
            obtain ⟨t264, A450, H⟩ := H
            replace H : ((tSh.f kj33 t264 ((rd_T62 l0 x41_2).f0)).bind fun t267 => (if ((rd_T62 l0 x41_2).f1) = true then ((tSh.f kj33 t267 ((rd_T62 l0 x41_2).f2)).bind fun t270 => ((tSh.f kj33 t270 ((rd_T62 l0 x41_2).f3)).bind fun t273 => (if x11_2.length + y258.length < 140737488355328 then (tBy.l0 kj33 l0 (x11_2 ++ y258) (t210 == 1) x13_5 l0 (l0.length : Int) (wrap64 (x41_2 + 1)) l3 t256 t257 t273 ()) else (none)))) else (if x11_2.length + y258.length < 140737488355328 then (tBy.l0 kj33 l0 (x11_2 ++ y258) (t210 == 1) x13_5 l0 (l0.length : Int) (wrap64 (x41_2 + 1)) l3 t256 t257 t267 ()) else (none)))) = some (r1, r2) := H
            have A45 := Aside0.mk A450
            clear A450
            replace H := Option.bind_eq_some_iff.mp H
            obtain ⟨t267, A460, H⟩ := H
            replace H : (if ((rd_T62 l0 x41_2).f1) = true then ((tSh.f kj33 t267 ((rd_T62 l0 x41_2).f2)).bind fun t270 => ((tSh.f kj33 t270 ((rd_T62 l0 x41_2).f3)).bind fun t273 => (if x11_2.length + y258.length < 140737488355328 then (tBy.l0 kj33 l0 (x11_2 ++ y258) (t210 == 1) x13_5 l0 (l0.length : Int) (wrap64 (x41_2 + 1)) l3 t256 t257 t273 ()) else (none)))) else (if x11_2.length + y258.length < 140737488355328 then (tBy.l0 kj33 l0 (x11_2 ++ y258) (t210 == 1) x13_5 l0 (l0.length : Int) (wrap64 (x41_2 + 1)) l3 t256 t257 t267 ()) else (none))) = some (r1, r2) := H
            have A46 := Aside0.mk A460
            clear A460
            have HC47 := Aside0.mk H
            clear H
            have hnb51 := NB234_219.out
            have hnc51 := NB219_234.out
            have hnb52 := NB234_209.out
            have hnc52 := NB209_234.out
            obtain ⟨hcz53_0, hcz53_1, hcz53_2, hcz53_3, hcz53_4, hcz53_5, hcz53_6⟩ := cz7x8 BK234.out
            obtain ⟨hfz53_0, hfz53_1, hfz53_2, hfz53_3, hfz53_4, hfz53_5, hfz53_6⟩ := fz7x8 BK234.out
            go_upto_region 21 with (first | ((with_reducible refine gate_callee (f := 47) rfl ?_); refine goesL_ (some 76) rfl rfl Try.func47 z8_8 rfl #[.pointer (some ⟨gb209, 0, none⟩), .slice A233_5 ((rd_T62 l0 x41_2).f5).length c233_5] rfl z8_4 ?_; (with_reducible refine (wPD.calls kj33 gb209 l3 x210001_33 x210002_33 _ _ ((rd_T62 l0 x41_2).f5) t245 t248 t249 w _ ?side1 ?side2 ?side3 ?side4 ?side5 A41.out).mono ?_); (case side1 => repeat (first | (with_reducible first | exact HI209.out | apply IsS126.alloc | apply IsS126.drewN | apply IsS126.drew | apply IsS126.set_1 | apply IsS126.set_2 | refine IsS126.far ?_ NB209_219.out _ | refine IsS126.far ?_ NB209_234.out _) | exact HI209.out)); (case side2 => repeat (first | (with_reducible first | exact HB.out | apply below_alloc | apply pw_below_drewN | apply below_drew1 | refine below_set ?_ (IsS126.ge HI209.out) | refine below_set ?_ GE219.out | refine below_set ?_ GE234.out) | exact HB.out)); (case side3 => repeat (first | exact (Kd.C_below HR233_5.out HB.out) | (with_reducible refine Kd.C_alloc ?_ _) | (with_reducible refine Kd.C_drewN ?_ _) | (with_reducible refine Kd.C_drew ?_))); (case side4 => exact HC233_5.out); (case side5 => exact Kd.far_C 0 HR233_5.out (IsS126.ge HI209.out)); rintro e w54 ⟨v246, rfl, ho0, hi, hb, hk⟩; refine ⟨_, rfl, ?_⟩; have n0_ := Aside0.mk (Kd.R_mono (Kd.R_told (Kd.R_oldK (IsS126.apart (show IsS126 w _ gb209 l3 x210001_33 x210002_33 from (show IsS126 w _ gb209 l3 x210001_33 x210002_33 from by repeat (first | (with_reducible first | exact HI209.out | apply IsS126.alloc | apply IsS126.drewN | apply IsS126.drew | apply IsS126.set_1 | apply IsS126.set_2 | refine IsS126.far ?_ NB209_219.out _ | refine IsS126.far ?_ NB209_234.out _) | exact HI209.out))) z8_1 z8_15) hk) (Kd.R_base ho0)) (fun _ h_ => h_.1)); have n1_ := Aside0.mk (Kd.R_mono (Kd.R_told (Kd.R_oldK (IsS126.apart (show IsS126 w _ gb209 l3 x210001_33 x210002_33 from (show IsS126 w _ gb209 l3 x210001_33 x210002_33 from by repeat (first | (with_reducible first | exact HI209.out | apply IsS126.alloc | apply IsS126.drewN | apply IsS126.drew | apply IsS126.set_1 | apply IsS126.set_2 | refine IsS126.far ?_ NB209_219.out _ | refine IsS126.far ?_ NB209_234.out _) | exact HI209.out))) z8_6 z8_15) hk) (Kd.R_base ho0)) (fun _ h_ => h_.1)); have n2_ := Aside0.mk (Kd.R_mono (Kd.R_told (Kd.R_oldK (IsS126.apart (show IsS126 w _ gb209 l3 x210001_33 x210002_33 from (show IsS126 w _ gb209 l3 x210001_33 x210002_33 from by repeat (first | (with_reducible first | exact HI209.out | apply IsS126.alloc | apply IsS126.drewN | apply IsS126.drew | apply IsS126.set_1 | apply IsS126.set_2 | refine IsS126.far ?_ NB209_219.out _ | refine IsS126.far ?_ NB209_234.out _) | exact HI209.out))) z8_2 z8_15) hk) (Kd.R_base ho0)) (fun _ h_ => h_.1)); have n3_ := Aside0.mk (KeepBut.blk hk (g' := gb219) (o := .cells #[u220000, .slice none 0 0] 130 (0, 0)) z8_3 NB219_209.out (by simp)); have n4_ := Aside0.mk (KeepBut.blk hk (g' := gb234) (o := .cells #[.slice A233_0 ((rd_T62 l0 x41_2).f0).length c233_0, .bool ((rd_T62 l0 x41_2).f1), .slice A233_2 ((rd_T62 l0 x41_2).f2).length c233_2, .slice A233_3 ((rd_T62 l0 x41_2).f3).length c233_3, .slice A233_4 ((rd_T62 l0 x41_2).f4).length c233_4, .slice A233_5 ((rd_T62 l0 x41_2).f5).length c233_5, .slice A233_6 ((rd_T62 l0 x41_2).f6).length c233_6] 62 (0, 0)) z8_5 NB234_209.out (by simp)); have n5_ := Aside0.mk (Kd.R_lower (Kd.R_new' (Kd.R_new' (Kd.R_new' ho0 (Kd.R_lt z8_1)) (Kd.R_lt z8_6)) (Kd.R_lt z8_2)) (below_size z8_0)); have n6_ := Aside0.mk (hb); have n7_ := Aside0.mk (hi); clear HO_11; clear HO_17; clear HO_220000; clear BK219; clear BK234; clear HB; clear HI209; have HO_11 := n0_; have HO_17 := n1_; have HO_220000 := n2_; have BK219 := n3_; have BK234 := n4_; have HO247 := n5_; have HB := n6_; have HI209 := n7_; clear n0_ n1_ n2_ n3_ n4_ n5_ n6_ n7_ hb hk hi ho0; obtain ⟨Ao56, co56, eo56⟩ := Kd.R_slice HO247.out; subst eo56) | ((with_reducible refine gate_builtin (b := .append) (xs := #[.tmp 72, .tmp 76]) rfl ?_); at_builtin; refine Kd.R_append_rows (Kd.int .u8) (w0 := w) w.heap.size rfl (.tmp 72) (.tmp 76) 22 5 (.int .u8 0) 1 rfl Try.underlying22 info5 rfl z8_15 (by omega) u17 x17_33 t245 _ _ _ (fun k_ => some k_ ≠ (u11 : Value).ownBlock ∧ some k_ ≠ (u220000 : Value).ownBlock ∧ some k_ ≠ (.slice Ao56 t245.length co56 : Value).ownBlock) (fun _ => False) rfl rfl ?aO ?aR (fun _ _ h => h) (fun _ h => h.elim) ?aF ?aB ?aS ?aL ?_; (case aR => repeat (first | exact (Kd.R_reads' HO247.out).2.2 | (with_reducible refine Kd.C_alloc ?_ _) | (with_reducible refine Kd.C_drewN ?_ _) | (with_reducible refine Kd.C_drew ?_))); (case aB => exact z8_0); (case aF => exact (fun k_ hk => ⟨Kd.fresh' (Kd.R_lt z8_1) k_ hk, Kd.fresh' (Kd.R_lt z8_2) k_ hk, Kd.fresh' (Kd.R_lt z8_12) k_ hk⟩)); (case aO => exact (by (with_reducible repeat (first | apply Kd.R_alloc | apply Kd.R_drewN | apply Kd.R_drew)); exact Kd.R_mono HO_17.out (fun _ hk => ⟨hk.1.1, ⟨hk.1.2, hk.2⟩⟩))); (case aS => exact (below_size z8_0)); (case aL => have := LMc42.out; omega); intro v251 w55 ho hb hg hat; rw [← Ny250.out] at ho; have n0_ := Aside0.mk (Kd.R_after (ok := (fun k_ => some k_ ≠ (u220000 : Value).ownBlock ∧ some k_ ≠ (.slice Ao56 t245.length co56 : Value).ownBlock)) (by (with_reducible repeat (first | apply Kd.R_alloc | apply Kd.R_drewN | apply Kd.R_drew)); exact Kd.R_mono HO_11.out (fun _ hk => ⟨⟨hk.1.2, hk.2⟩, hk.1.1⟩)) hg hat); have n1_ := Aside0.mk (Kd.R_after (ok := (fun k_ => some k_ ≠ (u11 : Value).ownBlock ∧ some k_ ≠ (.slice Ao56 t245.length co56 : Value).ownBlock)) (by (with_reducible repeat (first | apply Kd.R_alloc | apply Kd.R_drewN | apply Kd.R_drew)); exact Kd.R_mono HO_220000.out (fun _ hk => ⟨⟨hk.1.1, hk.2⟩, hk.1.2⟩)) hg hat); have n2_ := Aside0.mk (blk_grown (g := gb219) (o := .cells #[u220000, .slice none 0 0] 130 (0, 0)) z8_3 hg (Kd.R_ne HO_17.out BK219.out z8_15)); have n3_ := Aside0.mk (blk_grown (g := gb234) (o := .cells #[.slice A233_0 ((rd_T62 l0 x41_2).f0).length c233_0, .bool ((rd_T62 l0 x41_2).f1), .slice A233_2 ((rd_T62 l0 x41_2).f2).length c233_2, .slice A233_3 ((rd_T62 l0 x41_2).f3).length c233_3, .slice A233_4 ((rd_T62 l0 x41_2).f4).length c233_4, .slice A233_5 ((rd_T62 l0 x41_2).f5).length c233_5, .slice A233_6 ((rd_T62 l0 x41_2).f6).length c233_6] 62 (0, 0)) z8_5 hg (Kd.R_ne HO_17.out BK234.out z8_15)); have n4_ := Aside0.mk (IsS126.grown ((show IsS126 w _ gb209 l3 t248 t249 from by repeat (first | (with_reducible first | exact HI209.out | apply IsS126.alloc | apply IsS126.drewN | apply IsS126.drew | apply IsS126.set_1 | apply IsS126.set_2 | refine IsS126.far ?_ NB209_219.out _ | refine IsS126.far ?_ NB209_234.out _) | exact HI209.out))) hg (IsS126.own_ne HI209.out HO_17.out z8_15)); have n5_ := Aside0.mk (Kd.R_after (ok := (fun k_ => some k_ ≠ (u11 : Value).ownBlock ∧ some k_ ≠ (u220000 : Value).ownBlock)) (by (with_reducible repeat (first | apply Kd.R_alloc | apply Kd.R_drewN | apply Kd.R_drew)); exact Kd.R_mono HO247.out (fun _ hk => ⟨⟨hk.1.1.2, hk.2⟩, hk.1.2⟩)) hg hat); have n6_ := Aside0.mk (hb); have n7_ := Aside0.mk (ho); clear HO_11; clear HO_220000; clear BK219; clear BK234; clear HI209; clear HO247; clear HB; clear HO_17; have HO_11 := n0_; have HO_220000 := n1_; have BK219 := n2_; have BK234 := n3_; have HI209 := n4_; have HO247 := n5_; have HB := n6_; have HO252 := n7_; clear n0_ n1_ n2_ n3_ n4_ n5_ n6_ n7_; clear ho hb hg hat; obtain ⟨hcz57_0, hcz57_1, hcz57_2, hcz57_3, hcz57_4, hcz57_5, hcz57_6⟩ := cz7x8 BK234.out; obtain ⟨hfz57_0, hfz57_1, hfz57_2, hfz57_3, hfz57_4, hfz57_5, hfz57_6⟩ := fz7x8 BK234.out) | ((with_reducible refine gate_callee (f := 47) rfl ?_); refine goesL_ (some 82) rfl rfl Try.func47 z8_8 rfl #[.pointer (some ⟨gb209, 0, none⟩), .slice A233_6 ((rd_T62 l0 x41_2).f6).length c233_6] rfl z8_4 ?_; (with_reducible refine (wPD.calls kj33 gb209 l3 t248 t249 _ _ ((rd_T62 l0 x41_2).f6) t253 t256 t257 w _ ?side1 ?side2 ?side3 ?side4 ?side5 A43.out).mono ?_); (case side1 => repeat (first | (with_reducible first | exact HI209.out | apply IsS126.alloc | apply IsS126.drewN | apply IsS126.drew | apply IsS126.set_1 | apply IsS126.set_2 | refine IsS126.far ?_ NB209_219.out _ | refine IsS126.far ?_ NB209_234.out _) | exact HI209.out)); (case side2 => repeat (first | (with_reducible first | exact HB.out | apply below_alloc | apply pw_below_drewN | apply below_drew1 | refine below_set ?_ (IsS126.ge HI209.out) | refine below_set ?_ GE219.out | refine below_set ?_ GE234.out) | exact HB.out)); (case side3 => repeat (first | exact (Kd.C_below HR233_6.out HB.out) | (with_reducible refine Kd.C_alloc ?_ _) | (with_reducible refine Kd.C_drewN ?_ _) | (with_reducible refine Kd.C_drew ?_))); (case side4 => exact HC233_6.out); (case side5 => exact Kd.far_C 0 HR233_6.out (IsS126.ge HI209.out)); rintro e w58 ⟨v254, rfl, ho0, hi, hb, hk⟩; refine ⟨_, rfl, ?_⟩; have n0_ := Aside0.mk (Kd.R_mono (Kd.R_told (Kd.R_oldK (IsS126.apart (show IsS126 w _ gb209 l3 t248 t249 from (show IsS126 w _ gb209 l3 t248 t249 from by repeat (first | (with_reducible first | exact HI209.out | apply IsS126.alloc | apply IsS126.drewN | apply IsS126.drew | apply IsS126.set_1 | apply IsS126.set_2 | refine IsS126.far ?_ NB209_219.out _ | refine IsS126.far ?_ NB209_234.out _) | exact HI209.out))) z8_1 z8_15) hk) (Kd.R_base ho0)) (fun _ h_ => h_.1)); have n1_ := Aside0.mk (Kd.R_mono (Kd.R_told (Kd.R_oldK (IsS126.apart (show IsS126 w _ gb209 l3 t248 t249 from (show IsS126 w _ gb209 l3 t248 t249 from by repeat (first | (with_reducible first | exact HI209.out | apply IsS126.alloc | apply IsS126.drewN | apply IsS126.drew | apply IsS126.set_1 | apply IsS126.set_2 | refine IsS126.far ?_ NB209_219.out _ | refine IsS126.far ?_ NB209_234.out _) | exact HI209.out))) z8_2 z8_15) hk) (Kd.R_base ho0)) (fun _ h_ => h_.1)); have n2_ := Aside0.mk (KeepBut.blk hk (g' := gb219) (o := .cells #[u220000, .slice none 0 0] 130 (0, 0)) z8_3 NB219_209.out (by simp)); have n3_ := Aside0.mk (KeepBut.blk hk (g' := gb234) (o := .cells #[.slice A233_0 ((rd_T62 l0 x41_2).f0).length c233_0, .bool ((rd_T62 l0 x41_2).f1), .slice A233_2 ((rd_T62 l0 x41_2).f2).length c233_2, .slice A233_3 ((rd_T62 l0 x41_2).f3).length c233_3, .slice A233_4 ((rd_T62 l0 x41_2).f4).length c233_4, .slice A233_5 ((rd_T62 l0 x41_2).f5).length c233_5, .slice A233_6 ((rd_T62 l0 x41_2).f6).length c233_6] 62 (0, 0)) z8_5 NB234_209.out (by simp)); have n4_ := Aside0.mk (Kd.R_mono (Kd.R_told (Kd.R_oldK (IsS126.apart (show IsS126 w _ gb209 l3 t248 t249 from (show IsS126 w _ gb209 l3 t248 t249 from by repeat (first | (with_reducible first | exact HI209.out | apply IsS126.alloc | apply IsS126.drewN | apply IsS126.drew | apply IsS126.set_1 | apply IsS126.set_2 | refine IsS126.far ?_ NB209_219.out _ | refine IsS126.far ?_ NB209_234.out _) | exact HI209.out))) z8_12 z8_15) hk) (Kd.R_base ho0)) (fun _ h_ => h_.1)); have n5_ := Aside0.mk (Kd.R_mono (Kd.R_told (Kd.R_oldK (IsS126.apart (show IsS126 w _ gb209 l3 t248 t249 from (show IsS126 w _ gb209 l3 t248 t249 from by repeat (first | (with_reducible first | exact HI209.out | apply IsS126.alloc | apply IsS126.drewN | apply IsS126.drew | apply IsS126.set_1 | apply IsS126.set_2 | refine IsS126.far ?_ NB209_219.out _ | refine IsS126.far ?_ NB209_234.out _) | exact HI209.out))) (by (with_reducible repeat (first | apply Kd.R_alloc | apply Kd.R_drewN | apply Kd.R_drew)); exact HO252.out) z8_15) hk) (Kd.R_base ho0)) (fun _ h_ => h_.1)); have n6_ := Aside0.mk (Kd.R_lower (Kd.R_new' (Kd.R_new' (Kd.R_new' (Kd.R_new' ho0 (Kd.R_lt z8_1)) (Kd.R_lt z8_2)) (Kd.R_lt z8_12)) (Kd.R_lt (by (with_reducible repeat (first | apply Kd.R_alloc | apply Kd.R_drewN | apply Kd.R_drew)); exact HO252.out))) (below_size z8_0)); have n7_ := Aside0.mk (hb); have n8_ := Aside0.mk (hi); clear HO_11; clear HO_220000; clear BK219; clear BK234; clear HO247; clear HO252; clear HB; clear HI209; have HO_11 := n0_; have HO_220000 := n1_; have BK219 := n2_; have BK234 := n3_; have HO247 := n4_; have HO252 := n5_; have HO255 := n6_; have HB := n7_; have HI209 := n8_; clear n0_ n1_ n2_ n3_ n4_ n5_ n6_ n7_ n8_ hb hk hi ho0; obtain ⟨Ao60, co60, eo60⟩ := Kd.R_slice HO255.out; subst eo60) | ((with_reducible refine gate_builtin (b := .append) (xs := #[.tmp 78, .tmp 82]) rfl ?_); at_builtin; refine Kd.R_append_rows (Kd.int .u8) (w0 := w) w.heap.size rfl (.tmp 78) (.tmp 82) 22 5 (.int .u8 0) 1 rfl Try.underlying22 info5 rfl z8_15 (by omega) v251 y250 t253 _ _ _ (fun k_ => some k_ ≠ (u11 : Value).ownBlock ∧ some k_ ≠ (u220000 : Value).ownBlock ∧ some k_ ≠ (.slice Ao56 t245.length co56 : Value).ownBlock ∧ some k_ ≠ (.slice Ao60 t253.length co60 : Value).ownBlock) (fun _ => False) rfl rfl ?aO ?aR (fun _ _ h => h) (fun _ h => h.elim) ?aF ?aB ?aS ?aL ?_; (case aR => repeat (first | exact (Kd.R_reads' HO255.out).2.2 | (with_reducible refine Kd.C_alloc ?_ _) | (with_reducible refine Kd.C_drewN ?_ _) | (with_reducible refine Kd.C_drew ?_))); (case aB => exact z8_0); (case aF => exact (fun k_ hk => ⟨Kd.fresh' (Kd.R_lt z8_1) k_ hk, Kd.fresh' (Kd.R_lt z8_2) k_ hk, Kd.fresh' (Kd.R_lt z8_12) k_ hk, Kd.fresh' (Kd.R_lt (by (with_reducible repeat (first | apply Kd.R_alloc | apply Kd.R_drewN | apply Kd.R_drew)); exact HO255.out)) k_ hk⟩)); (case aO => exact (by (with_reducible repeat (first | apply Kd.R_alloc | apply Kd.R_drewN | apply Kd.R_drew)); exact Kd.R_mono HO252.out (fun _ hk => ⟨hk.1.1, ⟨hk.1.2.1, ⟨hk.1.2.2, hk.2⟩⟩⟩))); (case aS => exact (below_size z8_0)); (case aL => have := LMc44.out; omega); intro v259 w59 ho hb hg hat; rw [← Ny258.out] at ho; have n0_ := Aside0.mk (Kd.R_after (ok := (fun k_ => some k_ ≠ (u220000 : Value).ownBlock ∧ some k_ ≠ (.slice Ao56 t245.length co56 : Value).ownBlock ∧ some k_ ≠ (.slice Ao60 t253.length co60 : Value).ownBlock)) (by (with_reducible repeat (first | apply Kd.R_alloc | apply Kd.R_drewN | apply Kd.R_drew)); exact Kd.R_mono HO_11.out (fun _ hk => ⟨⟨hk.1.1.1, ⟨hk.1.1.2, hk.2⟩⟩, hk.1.2⟩)) hg hat); have n1_ := Aside0.mk (Kd.R_after (ok := (fun k_ => some k_ ≠ (u11 : Value).ownBlock ∧ some k_ ≠ (.slice Ao56 t245.length co56 : Value).ownBlock ∧ some k_ ≠ (.slice Ao60 t253.length co60 : Value).ownBlock)) (by (with_reducible repeat (first | apply Kd.R_alloc | apply Kd.R_drewN | apply Kd.R_drew)); exact Kd.R_mono HO_220000.out (fun _ hk => ⟨⟨hk.1.1.1, ⟨hk.1.1.2, hk.2⟩⟩, hk.1.2⟩)) hg hat); have n2_ := Aside0.mk (blk_grown (g := gb219) (o := .cells #[u220000, .slice none 0 0] 130 (0, 0)) z8_3 hg (Kd.R_ne HO252.out BK219.out z8_15)); have n3_ := Aside0.mk (blk_grown (g := gb234) (o := .cells #[.slice A233_0 ((rd_T62 l0 x41_2).f0).length c233_0, .bool ((rd_T62 l0 x41_2).f1), .slice A233_2 ((rd_T62 l0 x41_2).f2).length c233_2, .slice A233_3 ((rd_T62 l0 x41_2).f3).length c233_3, .slice A233_4 ((rd_T62 l0 x41_2).f4).length c233_4, .slice A233_5 ((rd_T62 l0 x41_2).f5).length c233_5, .slice A233_6 ((rd_T62 l0 x41_2).f6).length c233_6] 62 (0, 0)) z8_5 hg (Kd.R_ne HO252.out BK234.out z8_15)); have n4_ := Aside0.mk (IsS126.grown ((show IsS126 w _ gb209 l3 t256 t257 from by repeat (first | (with_reducible first | exact HI209.out | apply IsS126.alloc | apply IsS126.drewN | apply IsS126.drew | apply IsS126.set_1 | apply IsS126.set_2 | refine IsS126.far ?_ NB209_219.out _ | refine IsS126.far ?_ NB209_234.out _) | exact HI209.out))) hg (IsS126.own_ne HI209.out HO252.out z8_15)); have n5_ := Aside0.mk (Kd.R_after (ok := (fun k_ => some k_ ≠ (u11 : Value).ownBlock ∧ some k_ ≠ (u220000 : Value).ownBlock ∧ some k_ ≠ (.slice Ao60 t253.length co60 : Value).ownBlock)) (by (with_reducible repeat (first | apply Kd.R_alloc | apply Kd.R_drewN | apply Kd.R_drew)); exact Kd.R_mono HO247.out (fun _ hk => ⟨⟨hk.1.1.1, ⟨hk.1.1.2, hk.2⟩⟩, hk.1.2⟩)) hg hat); have n6_ := Aside0.mk (Kd.R_after (ok := (fun k_ => some k_ ≠ (u11 : Value).ownBlock ∧ some k_ ≠ (u220000 : Value).ownBlock ∧ some k_ ≠ (.slice Ao56 t245.length co56 : Value).ownBlock)) (by (with_reducible repeat (first | apply Kd.R_alloc | apply Kd.R_drewN | apply Kd.R_drew)); exact Kd.R_mono HO255.out (fun _ hk => ⟨⟨hk.1.1.1.2, ⟨hk.1.1.2, hk.1.2⟩⟩, hk.2⟩)) hg hat); have n7_ := Aside0.mk (hb); have n8_ := Aside0.mk (ho); clear HO_11; clear HO_220000; clear BK219; clear BK234; clear HI209; clear HO247; clear HO255; clear HB; clear HO252; have HO_11 := n0_; have HO_220000 := n1_; have BK219 := n2_; have BK234 := n3_; have HI209 := n4_; have HO247 := n5_; have HO255 := n6_; have HB := n7_; have HO260 := n8_; clear n0_ n1_ n2_ n3_ n4_ n5_ n6_ n7_ n8_; clear ho hb hg hat; obtain ⟨Ao61, co61, eo61⟩ := Kd.R_slice HO260.out; subst eo61))
            have T := Aside0.mk (show TB w _ u11 (.slice Ao61 y258.length co61) (u220000) x11_2 y258 x220000_2 gb219 gb234 gb209 #[.slice A233_0 ((rd_T62 l0 x41_2).f0).length c233_0, .bool ((rd_T62 l0 x41_2).f1), .slice A233_2 ((rd_T62 l0 x41_2).f2).length c233_2, .slice A233_3 ((rd_T62 l0 x41_2).f3).length c233_3, .slice A233_4 ((rd_T62 l0 x41_2).f4).length c233_4, .slice A233_5 ((rd_T62 l0 x41_2).f5).length c233_5, .slice A233_6 ((rd_T62 l0 x41_2).f6).length c233_6] l3 t256 t257 from ⟨Kd.R_mono HO_11.out (fun _ hk => ⟨hk.2, hk.1.1⟩), Kd.R_mono HO260.out (fun _ hk => ⟨hk.1, hk.2.1⟩), Kd.R_mono HO_220000.out (fun _ hk => ⟨hk.1.1, hk.2⟩), BK219.out, BK234.out, HI209.out, HB.out⟩)
            clear HO_11 HO_220000 HO247 HO255 HO260 BK219 BK234 HI209 HB
            have hz_0 : (w59).cell? ⟨gb234, 0, none⟩ = some (.slice A233_0 ((rd_T62 l0 x41_2).f0).length c233_0) := (blk_cell T.out.2.2.2.2.1 0).trans rfl
            have hz_1 : (w59).cell? ⟨gb234, 1, none⟩ = some (.bool ((rd_T62 l0 x41_2).f1)) := (blk_cell T.out.2.2.2.2.1 1).trans rfl
            have hz_2 : (w59).cell? ⟨gb234, 2, none⟩ = some (.slice A233_2 ((rd_T62 l0 x41_2).f2).length c233_2) := (blk_cell T.out.2.2.2.2.1 2).trans rfl
            have hz_3 : (w59).cell? ⟨gb234, 3, none⟩ = some (.slice A233_3 ((rd_T62 l0 x41_2).f3).length c233_3) := (blk_cell T.out.2.2.2.2.1 3).trans rfl
            have hd_0 : (w59.drew).cell? ⟨gb234, 0, none⟩ = some (.slice A233_0 ((rd_T62 l0 x41_2).f0).length c233_0) := hz_0
            have hd_1 : (w59.drew).cell? ⟨gb234, 1, none⟩ = some (.bool ((rd_T62 l0 x41_2).f1)) := hz_1
            have hd_2 : (w59.drew).cell? ⟨gb234, 2, none⟩ = some (.slice A233_2 ((rd_T62 l0 x41_2).f2).length c233_2) := hz_2
            have hd_3 : (w59.drew).cell? ⟨gb234, 3, none⟩ = some (.slice A233_3 ((rd_T62 l0 x41_2).f3).length c233_3) := hz_3
            have ha_0 : (w59.alloc (.cells #[.int .i64 (y258.length : Int), .int .i64 x18_33] 3 (0, 0))).cell? ⟨gb234, 0, none⟩ = some (.slice A233_0 ((rd_T62 l0 x41_2).f0).length c233_0) := cell?_alloc_old _ hz_0
            have hb_0 : ((w59.drew).alloc (.cells #[.int .i64 (y258.length : Int), .int .i64 x18_33] 3 (0, 0))).cell? ⟨gb234, 0, none⟩ = some (.slice A233_0 ((rd_T62 l0 x41_2).f0).length c233_0) := cell?_alloc_old _ hz_0
            have hc_0 : ((w59.alloc (.cells #[.int .i64 (y258.length : Int), .int .i64 x18_33] 3 (0, 0))).drew).cell? ⟨gb234, 0, none⟩ = some (.slice A233_0 ((rd_T62 l0 x41_2).f0).length c233_0) := cell?_alloc_old _ hz_0
            go_cut [92] (fun v92 wx => ∃ (A_ : Option Addr) (c_ : Nat), Aside0 (TB w wx u11 (.slice Ao61 y258.length co61) (.slice A_ t267.length c_) x11_2 y258 t267 gb219 gb234 gb209 #[.slice A233_0 ((rd_T62 l0 x41_2).f0).length c233_0, .bool ((rd_T62 l0 x41_2).f1), .slice A233_2 ((rd_T62 l0 x41_2).f2).length c233_2, .slice A233_3 ((rd_T62 l0 x41_2).f3).length c233_3, .slice A233_4 ((rd_T62 l0 x41_2).f4).length c233_4, .slice A233_5 ((rd_T62 l0 x41_2).f5).length c233_5, .slice A233_6 ((rd_T62 l0 x41_2).f6).length c233_6] l3 t256 t257))
            case first =>
             have A45_ : tSh.f kj33 x220000_2 [(y258.length : Int), x18_33] = some t264 := by rw [← Ny261.out]; exact A45.out
             have A45' := Aside0.mk A45_
             clear A45_
             go_region_with (first | (go_at_call_of 40 (Value.slice A233_0 ((rd_T62 l0 x41_2).f0).length c233_0); (with_reducible refine (tb_cs T1.out GE219.out NB234_219.out NB209_219.out HR233_0.out HC233_0.out A46.out).mono ?_); rintro e w2_ ⟨A2_, c2_, rfl, T2⟩) | (go_at_call 40; refine (tb_short (W := _) (show TB w _ u11 (.slice Ao61 y258.length co61) (u220000) x11_2 y258 x220000_2 gb219 gb234 gb209 #[.slice A233_0 ((rd_T62 l0 x41_2).f0).length c233_0, .bool ((rd_T62 l0 x41_2).f1), .slice A233_2 ((rd_T62 l0 x41_2).f2).length c233_2, .slice A233_3 ((rd_T62 l0 x41_2).f3).length c233_3, .slice A233_4 ((rd_T62 l0 x41_2).f4).length c233_4, .slice A233_5 ((rd_T62 l0 x41_2).f5).length c233_5, .slice A233_6 ((rd_T62 l0 x41_2).f6).length c233_6] l3 t256 t257 from by (with_reducible repeat (first | exact T.out | apply TB.drew | apply TB.alloc))) GE219.out NB234_219.out NB209_219.out (tb_lit (by (with_reducible repeat (first | exact T.out | apply TB.drew | apply TB.alloc))) (by first | exact blk_new _ _ | exact b2_ (blk_new _ _))) (Nat.le_refl _) A45'.out).mono ?_; rintro e w1_ ⟨A1_, c1_, rfl, T10⟩; have T1 := Aside0.mk T10; clear T10; have hy_0 : w1_.cell? ⟨gb234, 0, none⟩ = some (.slice A233_0 ((rd_T62 l0 x41_2).f0).length c233_0) := (blk_cell T1.out.2.2.2.2.1 0).trans rfl))
             all_goals
              go_wp2_with fail
              go_meet
              exact ⟨_, _, ⟨T2⟩⟩
            case rest =>
             clear T hz_0 hz_1 hz_2 hz_3 hd_0 hd_1 hd_2 hd_3 ha_0 hb_0 hc_0
             obtain ⟨A7_, c7_, T⟩ := hcut
             have hz_0 : (wc).cell? ⟨gb234, 0, none⟩ = some (.slice A233_0 ((rd_T62 l0 x41_2).f0).length c233_0) := (blk_cell T.out.2.2.2.2.1 0).trans rfl
             have hz_1 : (wc).cell? ⟨gb234, 1, none⟩ = some (.bool ((rd_T62 l0 x41_2).f1)) := (blk_cell T.out.2.2.2.2.1 1).trans rfl
             have hz_2 : (wc).cell? ⟨gb234, 2, none⟩ = some (.slice A233_2 ((rd_T62 l0 x41_2).f2).length c233_2) := (blk_cell T.out.2.2.2.2.1 2).trans rfl
             have hz_3 : (wc).cell? ⟨gb234, 3, none⟩ = some (.slice A233_3 ((rd_T62 l0 x41_2).f3).length c233_3) := (blk_cell T.out.2.2.2.2.1 3).trans rfl
             have H := HC47.out
             clear HC47
             by_cases c47 : ((rd_T62 l0 x41_2).f1) = true
             ·rw [if_pos c47] at H
              have c47b0 : ((rd_T62 l0 x41_2).f1) = true := c47
              clear c47
              replace H := Option.bind_eq_some_iff.mp H
              obtain ⟨t270, A480, H⟩ := H
              replace H : ((tSh.f kj33 t270 ((rd_T62 l0 x41_2).f3)).bind fun t273 => (if x11_2.length + y258.length < 140737488355328 then (tBy.l0 kj33 l0 (x11_2 ++ y258) (t210 == 1) x13_5 l0 (l0.length : Int) (wrap64 (x41_2 + 1)) l3 t256 t257 t273 ()) else (none))) = some (r1, r2) := H
              have A48 := Aside0.mk A480
              clear A480
              replace H := Option.bind_eq_some_iff.mp H
              obtain ⟨t273, A490, H⟩ := H
              replace H : (if x11_2.length + y258.length < 140737488355328 then (tBy.l0 kj33 l0 (x11_2 ++ y258) (t210 == 1) x13_5 l0 (l0.length : Int) (wrap64 (x41_2 + 1)) l3 t256 t257 t273 ()) else (none)) = some (r1, r2) := H
              have A49 := Aside0.mk A490
              clear A490
              by_cases c50 : x11_2.length + y258.length < 140737488355328
              rotate_left
              ·rw [if_neg c50] at H
               exact absurd H (by simp)
              rw [if_pos c50] at H
              have LMc50 := Aside0.mk c50
              clear c50
              obtain ⟨y276, hy276⟩ : ∃ y_ : List Int, y_ = (x11_2 ++ y258) := ⟨_, rfl⟩
              replace H : (tBy.l0 kj33 l0 y276 (t210 == 1) x13_5 l0 (l0.length : Int) (wrap64 (x41_2 + 1)) l3 t256 t257 t273 ()) = some (r1, r2) := by first | (rw [hy276]; with_reducible exact H) | (have H2_ := (Option.bind_some _ _).symm.trans H; rw [hy276]; with_reducible exact H2_) | (have H2_ := (Option.bind_some _ _).symm.trans H; with_reducible exact H2_) | with_reducible exact H | (rw [hy276]; exact H) | exact H
              have Ny276 := Aside0.mk hy276
              clear hy276
              have H' := Aside0.mk H
              clear H
              go_upto_region 23 with (fail)
              go_cut [101] (fun v101 wy => ∃ (A_ : Option Addr) (c_ : Nat), Aside0 (TB w wy u11 (.slice Ao61 y258.length co61) (.slice A_ t273.length c_) x11_2 y258 t273 gb219 gb234 gb209 #[.slice A233_0 ((rd_T62 l0 x41_2).f0).length c233_0, .bool ((rd_T62 l0 x41_2).f1), .slice A233_2 ((rd_T62 l0 x41_2).f2).length c233_2, .slice A233_3 ((rd_T62 l0 x41_2).f3).length c233_3, .slice A233_4 ((rd_T62 l0 x41_2).f4).length c233_4, .slice A233_5 ((rd_T62 l0 x41_2).f5).length c233_5, .slice A233_6 ((rd_T62 l0 x41_2).f6).length c233_6] l3 t256 t257))
              case first =>
               have hd_2 : (wc.drew).cell? ⟨gb234, 2, none⟩ = some (.slice A233_2 ((rd_T62 l0 x41_2).f2).length c233_2) := hz_2
               have hd_3 : (wc.drew).cell? ⟨gb234, 3, none⟩ = some (.slice A233_3 ((rd_T62 l0 x41_2).f3).length c233_3) := hz_3
               go_region_with (first | (go_at_call_of 40 (Value.slice A233_3 ((rd_T62 l0 x41_2).f3).length c233_3); (with_reducible refine (tb_cs T1.out GE219.out NB234_219.out NB209_219.out HR233_3.out HC233_3.out A49.out).mono ?_); rintro e w2_ ⟨A2_, c2_, rfl, T2⟩) | (go_at_call 40; have T0_ : TB w wc.drew u11 (.slice Ao61 y258.length co61) (.slice A7_ t267.length c7_) x11_2 y258 t267 gb219 gb234 gb209 #[.slice A233_0 ((rd_T62 l0 x41_2).f0).length c233_0, .bool ((rd_T62 l0 x41_2).f1), .slice A233_2 ((rd_T62 l0 x41_2).f2).length c233_2, .slice A233_3 ((rd_T62 l0 x41_2).f3).length c233_3, .slice A233_4 ((rd_T62 l0 x41_2).f4).length c233_4, .slice A233_5 ((rd_T62 l0 x41_2).f5).length c233_5, .slice A233_6 ((rd_T62 l0 x41_2).f6).length c233_6] l3 t256 t257 := TB.drew T.out; (with_reducible refine (tb_cs T0_ GE219.out NB234_219.out NB209_219.out HR233_2.out HC233_2.out A48.out).mono ?_); clear T0_; rintro e w1_ ⟨A1_, c1_, rfl, T10⟩; have T1 := Aside0.mk T10; clear T10; have hy_3 : w1_.cell? ⟨gb234, 3, none⟩ = some (.slice A233_3 ((rd_T62 l0 x41_2).f3).length c233_3) := (blk_cell T1.out.2.2.2.2.1 3).trans rfl))
               all_goals
                go_wp2_with fail
                go_meet
                exact ⟨_, _, ⟨T2⟩⟩
              case rest =>
               clear T hz_0 hz_1 hz_2 hz_3
               obtain ⟨A8_, c8_, T⟩ := hcut
               go_wp2_with (first | ((with_reducible refine gate_builtin (b := .append) (xs := #[.tmp 102, .tmp 103]) rfl ?_); at_builtin; refine Kd.R_append_rows (Kd.int .u8) (w0 := w) w.heap.size rfl (.tmp 102) (.tmp 103) 22 5 (.int .u8 0) 1 rfl Try.underlying22 info5 rfl z8_15 (by omega) u11 x11_2 y258 _ _ _ (fun k_ => some k_ ≠ (.slice Ao61 y258.length co61 : Value).ownBlock ∧ some k_ ≠ (.slice A8_ t273.length c8_ : Value).ownBlock) (fun _ => False) rfl rfl ?aO ?aR (fun _ _ h => h) (fun _ h => h.elim) ?aF ?aB ?aS ?aL ?_; (case aR => exact (Kd.R_reads' T.out.2.1).2.2); (case aB => exact T.out.2.2.2.2.2.2); (case aF => exact (fun k_ hk => ⟨Kd.fresh' (Kd.R_lt T.out.2.1) k_ hk, Kd.fresh' (Kd.R_lt T.out.2.2.1) k_ hk⟩)); (case aO => exact T.out.1); (case aS => exact below_size T.out.2.2.2.2.2.2); (case aL => have := LMc50.out; omega); intro v277 w89 ho hb hg hat; rw [← Ny276.out] at ho; have n1_ := Aside0.mk (Kd.R_mono ho (fun _ hk => hk.2)); have n2_ := Aside0.mk (Kd.R_after (ok := fun k_ => some k_ ≠ (.slice Ao61 y258.length co61 : Value).ownBlock) (Kd.R_mono T.out.2.2.1 (fun _ hk => ⟨hk.2, hk.1⟩)) hg hat); have n3_ := Aside0.mk (blk_grown T.out.2.2.2.1 hg (Kd.R_ne T.out.1 T.out.2.2.2.1 z8_15)); have n4_ := Aside0.mk (IsS126.grown T.out.2.2.2.2.2.1 hg (IsS126.own_ne T.out.2.2.2.2.2.1 T.out.1 z8_15)); have n5_ := Aside0.mk hb; clear T ho hb hg hat))
               go_roundg kj33
               case measure => have := HJ5.out; have := HK2.out; have := HJ16.out; have := HJ23.out; have := HJ33.out; omega
               case rel => exact ⟨(y276), (wrap64 (x41_2 + 1)), (t256), (t257), (t273), (.slice A8_ t273.length c8_), z8_9, H', ⟨by have := HJ5.out; have := HK2.out; have := HJ16.out; have := HJ23.out; have := HJ33.out; omega⟩, ⟨Kd.R_mono n1_.out (fun _ hk => hk)⟩, ⟨Kd.R_mono n2_.out (fun _ hk => hk.2)⟩, ⟨n3_.out⟩, ⟨n4_.out⟩, ⟨n5_.out⟩⟩
             ·rw [if_neg c47] at H
              have c47b0 : ((rd_T62 l0 x41_2).f1) = false := by simpa using c47
              clear c47
              by_cases c90 : x11_2.length + y258.length < 140737488355328
              rotate_left
              ·rw [if_neg c90] at H
               exact absurd H (by simp)
              rw [if_pos c90] at H
              have LMc90 := Aside0.mk c90
              clear c90
              obtain ⟨y279, hy279⟩ : ∃ y_ : List Int, y_ = (x11_2 ++ y258) := ⟨_, rfl⟩
              replace H : (tBy.l0 kj33 l0 y279 (t210 == 1) x13_5 l0 (l0.length : Int) (wrap64 (x41_2 + 1)) l3 t256 t257 t267 ()) = some (r1, r2) := by first | (rw [hy279]; with_reducible exact H) | (have H2_ := (Option.bind_some _ _).symm.trans H; rw [hy279]; with_reducible exact H2_) | (have H2_ := (Option.bind_some _ _).symm.trans H; with_reducible exact H2_) | with_reducible exact H | (rw [hy279]; exact H) | exact H
              have Ny279 := Aside0.mk hy279
              clear hy279
              have H' := Aside0.mk H
              clear H
              go_wp2_with (first | ((with_reducible refine gate_builtin (b := .append) (xs := #[.tmp 102, .tmp 103]) rfl ?_); at_builtin; refine Kd.R_append_rows (Kd.int .u8) (w0 := w) w.heap.size rfl (.tmp 102) (.tmp 103) 22 5 (.int .u8 0) 1 rfl Try.underlying22 info5 rfl z8_15 (by omega) u11 x11_2 y258 _ _ _ (fun k_ => some k_ ≠ (.slice Ao61 y258.length co61 : Value).ownBlock ∧ some k_ ≠ (.slice A7_ t267.length c7_ : Value).ownBlock) (fun _ => False) rfl rfl ?aO ?aR (fun _ _ h => h) (fun _ h => h.elim) ?aF ?aB ?aS ?aL ?_; (case aR => exact (Kd.R_reads' T.out.2.1).2.2); (case aB => exact T.out.2.2.2.2.2.2); (case aF => exact (fun k_ hk => ⟨Kd.fresh' (Kd.R_lt T.out.2.1) k_ hk, Kd.fresh' (Kd.R_lt T.out.2.2.1) k_ hk⟩)); (case aO => exact T.out.1); (case aS => exact below_size T.out.2.2.2.2.2.2); (case aL => have := LMc90.out; omega); intro v280 w118 ho hb hg hat; rw [← Ny279.out] at ho; have n1_ := Aside0.mk (Kd.R_mono ho (fun _ hk => hk.2)); have n2_ := Aside0.mk (Kd.R_after (ok := fun k_ => some k_ ≠ (.slice Ao61 y258.length co61 : Value).ownBlock) (Kd.R_mono T.out.2.2.1 (fun _ hk => ⟨hk.2, hk.1⟩)) hg hat); have n3_ := Aside0.mk (blk_grown T.out.2.2.2.1 hg (Kd.R_ne T.out.1 T.out.2.2.2.1 z8_15)); have n4_ := Aside0.mk (IsS126.grown T.out.2.2.2.2.2.1 hg (IsS126.own_ne T.out.2.2.2.2.2.1 T.out.1 z8_15)); have n5_ := Aside0.mk hb; clear T ho hb hg hat))
              go_roundg kj33
              case measure => have := HJ5.out; have := HK2.out; have := HJ16.out; have := HJ23.out; have := HJ33.out; omega
              case rel => exact ⟨(y279), (wrap64 (x41_2 + 1)), (t256), (t257), (t267), (.slice A7_ t267.length c7_), z8_9, H', ⟨by have := HJ5.out; have := HK2.out; have := HJ16.out; have := HJ23.out; have := HJ33.out; omega⟩, ⟨Kd.R_mono n1_.out (fun _ hk => hk)⟩, ⟨Kd.R_mono n2_.out (fun _ hk => hk.2)⟩, ⟨n3_.out⟩, ⟨n4_.out⟩, ⟨n5_.out⟩⟩
     ·rw [if_neg c14] at H
      have c14b0 : decide (x41_2 < (l0.length : Int)) = false := decide_eq_false c14
      clear c14
      obtain ⟨y221, hy221⟩ : ∃ y_ : List Int, y_ = (([x13_5, wrap64 (4 + (x220000_2.length : Int))] : List Int)) := ⟨_, rfl⟩
      replace H : ((tSh.f k2 ([] : List Int) y221).bind fun t224 => (if t224.length + x220000_2.length < 140737488355328 then ((some (t224 ++ x220000_2 : List Int)).bind fun y227 => (if y227.length + x11_2.length < 140737488355328 then (some ((y227 ++ x11_2), decide ((wrap64 ((wrap64 (4 + (x220000_2.length : Int))) + (x11_2.length : Int))) < 60000))) else (none))) else (none))) = some (r1, r2) := by first | (rw [hy221]; with_reducible exact H) | (have H2_ := (Option.bind_some _ _).symm.trans H; rw [hy221]; with_reducible exact H2_) | (have H2_ := (Option.bind_some _ _).symm.trans H; with_reducible exact H2_) | with_reducible exact H | (rw [hy221]; exact H) | exact H
      have Ny221 := Aside0.mk hy221
      clear hy221
      replace H := Option.bind_eq_some_iff.mp H
      obtain ⟨t224, A1190, H⟩ := H
      replace H : (if t224.length + x220000_2.length < 140737488355328 then ((some (t224 ++ x220000_2 : List Int)).bind fun y227 => (if y227.length + x11_2.length < 140737488355328 then (some ((y227 ++ x11_2), decide ((wrap64 ((wrap64 (4 + (x220000_2.length : Int))) + (x11_2.length : Int))) < 60000))) else (none))) else (none)) = some (r1, r2) := H
      have A119 := Aside0.mk A1190
      clear A1190
      by_cases c120 : t224.length + x220000_2.length < 140737488355328
      rotate_left
      ·rw [if_neg c120] at H
       exact absurd H (by simp)
      rw [if_pos c120] at H
      have LMc120 := Aside0.mk c120
      clear c120
      obtain ⟨y227, hy227⟩ : ∃ y_ : List Int, y_ = (t224 ++ x220000_2) := ⟨_, rfl⟩
      replace H : (if y227.length + x11_2.length < 140737488355328 then (some ((y227 ++ x11_2), decide ((wrap64 ((wrap64 (4 + (x220000_2.length : Int))) + (x11_2.length : Int))) < 60000))) else (none)) = some (r1, r2) := by first | (rw [hy227]; with_reducible exact H) | (have H2_ := (Option.bind_some _ _).symm.trans H; rw [hy227]; with_reducible exact H2_) | (have H2_ := (Option.bind_some _ _).symm.trans H; with_reducible exact H2_) | with_reducible exact H | (rw [hy227]; exact H) | exact H
      have Ny227 := Aside0.mk hy227
      clear hy227
      by_cases c121 : y227.length + x11_2.length < 140737488355328
      rotate_left
      ·rw [if_neg c121] at H
       exact absurd H (by simp)
      rw [if_pos c121] at H
      have LMc121 := Aside0.mk c121
      clear c121
      obtain ⟨y230, hy230⟩ : ∃ y_ : List Int, y_ = (y227 ++ x11_2) := ⟨_, rfl⟩
      replace H : (some (y230, decide ((wrap64 ((wrap64 (4 + (x220000_2.length : Int))) + (x11_2.length : Int))) < 60000))) = some (r1, r2) := by first | (rw [hy230]; with_reducible exact H) | (have H2_ := (Option.bind_some _ _).symm.trans H; rw [hy230]; with_reducible exact H2_) | (have H2_ := (Option.bind_some _ _).symm.trans H; with_reducible exact H2_) | with_reducible exact H | (rw [hy230]; exact H) | exact H
      have Ny230 := Aside0.mk hy230
      clear hy230
      simp only [Option.some.injEq, Prod.mk.injEq] at H
      obtain ⟨rfl, rfl⟩ := H
      try go_wp2_with (first | ((with_reducible refine gate_dst (N := 107) rfl ?_); refine box_event ?hg (N := 107) ?hd (cs := #[.slice none 0 0, .slice none 0 0]) (t := 130) ?hr ?_; (case hd => rfl); (case hg => rfl); (case hr => first | (go_simp; done) | (go_simp; rfl)); intro gb220 hg w122 hbox hb; have n0_ := Aside0.mk (Kd.R_below z8_1 hb); have n1_ := Aside0.mk (Kd.R_below z8_2 hb); have n2_ := Aside0.mk (blk_below (g := gb219) (o := .cells #[u220000, .slice none 0 0] 130 (0, 0)) z8_3 hb); have n3_ := Aside0.mk (IsS126.below ((show IsS126 w _ gb209 l3 x210001_2 x210002_2 from by repeat (first | (with_reducible first | exact HI209.out | apply IsS126.alloc | apply IsS126.drewN | apply IsS126.drew | apply IsS126.set_1 | apply IsS126.set_2 | refine IsS126.far ?_ NB209_219.out _) | exact HI209.out))) hb); have n4_ := Aside0.mk (below_step z8_0 hb); have n5_ := Aside0.mk (hbox); have n6_ := Aside0.mk ((z8_14 : w.heap.size ≤ gb220)); have n7_ := Aside0.mk ((z8_14 : w.heap.size ≤ gb220)); have n8_ := Aside0.mk ((by rw [hg]; exact Nat.ne_of_lt (blk_lt (g := gb219) (o := .cells #[u220000, .slice none 0 0] 130 (0, 0)) z8_3) : gb219 ≠ gb220)); have n9_ := Aside0.mk ((by rw [hg]; exact Nat.ne_of_gt (blk_lt (g := gb219) (o := .cells #[u220000, .slice none 0 0] 130 (0, 0)) z8_3) : gb220 ≠ gb219)); have n10_ := Aside0.mk ((by rw [hg]; exact Nat.ne_of_lt (IsS126.lt (show IsS126 w _ gb209 l3 x210001_2 x210002_2 from (show IsS126 w _ gb209 l3 x210001_2 x210002_2 from by repeat (first | (with_reducible first | exact HI209.out | apply IsS126.alloc | apply IsS126.drewN | apply IsS126.drew | apply IsS126.set_1 | apply IsS126.set_2 | refine IsS126.far ?_ NB209_219.out _) | exact HI209.out)))) : gb209 ≠ gb220)); have n11_ := Aside0.mk ((by rw [hg]; exact Nat.ne_of_gt (IsS126.lt (show IsS126 w _ gb209 l3 x210001_2 x210002_2 from (show IsS126 w _ gb209 l3 x210001_2 x210002_2 from by repeat (first | (with_reducible first | exact HI209.out | apply IsS126.alloc | apply IsS126.drewN | apply IsS126.drew | apply IsS126.set_1 | apply IsS126.set_2 | refine IsS126.far ?_ NB209_219.out _) | exact HI209.out)))) : gb220 ≠ gb209)); clear HO_11; clear HO_220000; clear BK219; clear HI209; clear HB; have HO_11 := n0_; have HO_220000 := n1_; have BK219 := n2_; have HI209 := n3_; have HB := n4_; have BK220 := n5_; have GW220 := n6_; have GE220 := n7_; have NB219_220 := n8_; have NB220_219 := n9_; have NB209_220 := n10_; have NB220_209 := n11_; clear n0_ n1_ n2_ n3_ n4_ n5_ n6_ n7_ n8_ n9_ n10_ n11_; clear hb hbox hg; have hnb123 := NB219_220.out; have hnc123 := NB220_219.out; have hnb124 := NB219_209.out; have hnc124 := NB209_219.out; obtain ⟨hcz125_0, hcz125_1⟩ := cz2x8 BK219.out; obtain ⟨hfz125_0, hfz125_1⟩ := fz2x8 BK219.out; obtain ⟨Ao126, co126, eo126⟩ := Kd.R_slice HO_220000.out; subst eo126) | ((with_reducible refine gate_dst (N := 115) rfl ?_); refine Kd.R_lit (Kd.int .i64) _ 3 ?hg (N := 115) ?hd (xs := ([x13_5, wrap64 (4 + (x220000_2.length : Int))] : List Int)) (inner := [.int .i64 x13_5, .int .i64 (wrap64 (4 + (x220000_2.length : Int)))]) (ok := fun _ => True) (okp := fun _ => True) ?hr ?hp (fun _ hk => hk) trivial (Below.refl _ _) (Nat.le_refl _) (by simp) ?_; (case hd => rfl); (case hg => rfl); (case hr => first | (go_simp; done) | (go_simp; rfl)); (case hp => exact (Reps.one (show Kd.M (Kd.int .i64) _ _ _ x13_5 [.int .i64 x13_5] from rfl) (Reps.one (show Kd.M (Kd.int .i64) _ _ _ (wrap64 (4 + (x220000_2.length : Int))) [.int .i64 (wrap64 (4 + (x220000_2.length : Int)))] from rfl) (Reps.none _ _)))); intro v222 w127 ho128 hb hg_ hnew_; clear hg_ hnew_; (first | rw [← Ny221.out] at ho128 | (simp only [Int.reduceToNat] at ho128; rw [← Ny221.out] at ho128)); have n0_ := Aside0.mk (Kd.R_below z8_1 hb); have n1_ := Aside0.mk (Kd.R_below z8_2 hb); have n2_ := Aside0.mk (Kd.R_lower ho128 (below_size z8_0)); have n3_ := Aside0.mk (blk_below (g := gb219) (o := .cells #[.slice Ao126 x220000_2.length co126, .slice none 0 0] 130 (0, 0)) z8_3 hb); have n4_ := Aside0.mk (IsS126.below ((show IsS126 w _ gb209 l3 x210001_2 x210002_2 from by repeat (first | (with_reducible first | exact HI209.out | apply IsS126.alloc | apply IsS126.drewN | apply IsS126.drew | apply IsS126.set_1 | apply IsS126.set_2 | refine IsS126.far ?_ NB209_219.out _ | refine IsS126.far ?_ NB209_220.out _) | exact HI209.out))) hb); have n5_ := Aside0.mk (blk_below (g := gb220) (o := .cells #[.slice none 0 0, .slice none 0 0] 130 (0, 0)) z8_13 hb); have n6_ := Aside0.mk (below_step z8_0 hb); clear HO_11; clear HO_220000; clear BK219; clear HI209; clear BK220; clear HB; have HO_11 := n0_; have HO_220000 := n1_; have HO223 := n2_; have BK219 := n3_; have HI209 := n4_; have BK220 := n5_; have HB := n6_; clear n0_ n1_ n2_ n3_ n4_ n5_ n6_; clear hb ho128; have hnb129 := NB220_209.out; have hnc129 := NB209_220.out; obtain ⟨hcz130_0, hcz130_1⟩ := cz2x8 BK220.out; obtain ⟨hfz130_0, hfz130_1⟩ := fz2x8 BK220.out; obtain ⟨Ao131, co131, eo131⟩ := Kd.R_slice HO223.out; subst eo131) | ((with_reducible refine gate_callee (f := 40) rfl ?_); refine goesL_ (some 116) rfl rfl Try.func40 z8_8 rfl #[.pointer (some ⟨gb220, 0, none⟩), .slice Ao131 y221.length co131] rfl z8_4 ?_; (refine (tSh.calls k2 gb220 (fun k_ => some k_ = (.slice none 0 0 : Value).ownBlock) (.slice none 0 0) ([] : List Int) _ _ y221 t224 w _ ?side1 ?side2 ?side3 ?side4 BK220.out GE220.out (fun e_ => by simp [Value.ownBlock] at e_) A119.out).mono ?_); (case side1 => repeat (first | (with_reducible first | exact HB.out | apply below_alloc | apply pw_below_drewN | apply below_drew1 | refine below_set ?_ (IsS126.ge HI209.out) | refine below_set ?_ GE219.out | refine below_set ?_ GE220.out) | exact HB.out)); (case side2 => exact Kd.R_nil _ _ _ _ _); (case side3 => exact Kd.C_kept_own (Kd.R_types HO223.out BK220.out z8_15) (fun k_ hk_ hs_ => hs_.elim (fun e_ => by simp [Value.ownBlock] at e_) (fun e_ => hk_.2 e_))); (case side4 => exact (Kd.R_reads' HO223.out).2.1); rintro e w_ ⟨v225, w132, rfl, rfl, hbk_, ho0, hb, hkp⟩; clear hbk_; refine ⟨_, rfl, ?_⟩; have n0_ := Aside0.mk (Kd.R_mono (ok' := fun k_ => some k_ ≠ (.slice Ao126 x220000_2.length co126 : Value).ownBlock ∧ some k_ ≠ (v225 : Value).ownBlock) (Kd.R_keptB (HO_11.out) hkp (fun k_ hk_ hs_ => (fun e_ => by simp [Value.ownBlock] at e_) hs_)) (fun k_ hk_ => ⟨hk_.1, fun e_ => Or.elim (ho0.1 k_ e_.symm) (fun hs_ => hk_.2.1 hs_) (fun hn_ => Nat.not_le.2 hk_.2.2 hn_)⟩)); have n1_ := Aside0.mk (Kd.R_mono (ok' := fun k_ => some k_ ≠ (u11 : Value).ownBlock ∧ some k_ ≠ (v225 : Value).ownBlock) (Kd.R_keptB (HO_220000.out) hkp (fun k_ hk_ hs_ => (fun e_ => by simp [Value.ownBlock] at e_) hs_)) (fun k_ hk_ => ⟨hk_.1, fun e_ => Or.elim (ho0.1 k_ e_.symm) (fun hs_ => hk_.2.1 hs_) (fun hn_ => Nat.not_le.2 hk_.2.2 hn_)⟩)); have n2_ := Aside0.mk (blk_kept z8_3 hkp (fun hs_ => (fun e_ => by simp [Value.ownBlock] at e_) hs_)); have n3_ := Aside0.mk (IsS126.kept ((show IsS126 w _ gb209 l3 x210001_2 x210002_2 from by repeat (first | (with_reducible first | exact HI209.out | apply IsS126.alloc | apply IsS126.drewN | apply IsS126.drew | apply IsS126.set_1 | apply IsS126.set_2 | refine IsS126.far ?_ NB209_219.out _ | refine IsS126.far ?_ NB209_220.out _) | exact HI209.out))) hkp (fun hs_ => (fun e_ => by simp [Value.ownBlock] at e_) hs_)); have n4_ := Aside0.mk (blk_kept z8_13 hkp (fun hs_ => (fun e_ => by simp [Value.ownBlock] at e_) hs_)); have n5_ := Aside0.mk (Kd.R_mono (ok' := fun k_ => True) (Kd.R_keptB (HO223.out) hkp (fun k_ hk_ hs_ => (fun e_ => by simp [Value.ownBlock] at e_) hs_)) (fun k_ hk_ => trivial)); have n6_ := Aside0.mk (Kd.R_mono (ok' := fun k_ => some k_ ≠ (u11 : Value).ownBlock ∧ some k_ ≠ (.slice Ao126 x220000_2.length co126 : Value).ownBlock) ho0 (fun k_ hk_ => ⟨Or.elim hk_ (fun hs_ => absurd hs_ (by simp [Value.ownBlock])) (fun hn_ => (Kd.fresh' (Kd.R_lt z8_1) k_ hn_)), Or.elim hk_ (fun hs_ => absurd hs_ (by simp [Value.ownBlock])) (fun hn_ => (Kd.fresh' (Kd.R_lt z8_2) k_ hn_))⟩)); have n7_ := Aside0.mk (hb); clear HO_11; clear HO_220000; clear BK219; clear HI209; clear BK220; clear HO223; clear HB; have HO_11 := n0_; have HO_220000 := n1_; have BK219 := n2_; have HI209 := n3_; have BK220 := n4_; have HO223 := n5_; have HO226 := n6_; have HB := n7_; clear n0_ n1_ n2_ n3_ n4_ n5_ n6_ n7_ hb hkp ho0; obtain ⟨Ao133, co133, eo133⟩ := Kd.R_slice HO226.out; subst eo133; obtain ⟨hcz134_0, hcz134_1⟩ := cz2x8 BK220.out; obtain ⟨hfz134_0, hfz134_1⟩ := fz2x8 BK220.out))
      have n0_ : Aside0 (Kd.R (Kd.int .u8) 5 (w132.setCell ⟨gb220, 0, none⟩ (.slice Ao133 t224.length co133)) w.heap.size (fun k_ => some k_ ≠ (.slice Ao126 x220000_2.length co126 : Value).ownBlock ∧ some k_ ≠ (.slice Ao133 t224.length co133 : Value).ownBlock) u11 x11_2) := ⟨by (with_reducible repeat (first | apply Kd.R_alloc | apply Kd.R_drewN | apply Kd.R_drew)); exact Kd.R_mono (Kd.R_far (p := ⟨gb220, 0, none⟩) (Kd.R_types HO_11.out BK220.out z8_15) (fun _ hk => hk.2) (.slice Ao133 t224.length co133)) (fun _ hk => ⟨hk.1.1, hk.1.2⟩)⟩
      have n1_ : Aside0 (Kd.R (Kd.int .u8) 5 (w132.setCell ⟨gb220, 0, none⟩ (.slice Ao133 t224.length co133)) w.heap.size (fun k_ => some k_ ≠ (u11 : Value).ownBlock ∧ some k_ ≠ (.slice Ao133 t224.length co133 : Value).ownBlock) (.slice Ao126 x220000_2.length co126) x220000_2) := ⟨by (with_reducible repeat (first | apply Kd.R_alloc | apply Kd.R_drewN | apply Kd.R_drew)); exact Kd.R_mono (Kd.R_far (p := ⟨gb220, 0, none⟩) (Kd.R_types HO_220000.out BK220.out z8_15) (fun _ hk => hk.2) (.slice Ao133 t224.length co133)) (fun _ hk => ⟨hk.1.1, hk.1.2⟩)⟩
      have n2_ : Aside0 (Kd.R (Kd.int .i64) 3 (w132.setCell ⟨gb220, 0, none⟩ (.slice Ao133 t224.length co133)) w.heap.size (fun _ => True) (.slice Ao131 y221.length co131) y221) := ⟨by (with_reducible repeat (first | apply Kd.R_alloc | apply Kd.R_drewN | apply Kd.R_drew)); exact Kd.R_mono (Kd.R_far (p := ⟨gb220, 0, none⟩) (Kd.R_types HO223.out BK220.out z8_15) (fun _ hk => hk.2) (.slice Ao133 t224.length co133)) (fun _ hk => trivial)⟩
      have n3_ : Aside0 (Kd.R (Kd.int .u8) 5 (w132.setCell ⟨gb220, 0, none⟩ (.slice Ao133 t224.length co133)) w.heap.size (fun k_ => some k_ ≠ (u11 : Value).ownBlock ∧ some k_ ≠ (.slice Ao126 x220000_2.length co126 : Value).ownBlock) (.slice Ao133 t224.length co133) t224) := ⟨by (with_reducible repeat (first | apply Kd.R_alloc | apply Kd.R_drewN | apply Kd.R_drew)); exact Kd.R_mono (Kd.R_far (p := ⟨gb220, 0, none⟩) (Kd.R_types HO226.out BK220.out z8_15) (fun _ hk => hk.2) (.slice Ao133 t224.length co133)) (fun _ hk => ⟨hk.1.1, hk.1.2⟩)⟩
      have n4_ : Aside0 ((w132.setCell ⟨gb220, 0, none⟩ (.slice Ao133 t224.length co133)).heap[gb219]? = some (.cells #[.slice Ao126 x220000_2.length co126, .slice none 0 0] 130 (0, 0))) := ⟨by (with_reducible repeat (first | apply b1_ | apply b2_ | apply b3_)); refine blk_far ?_ NB219_220.out _; (with_reducible repeat (first | apply b1_ | apply b2_ | apply b3_)); exact BK219.out⟩
      have n5_ : Aside0 ((w132.setCell ⟨gb220, 0, none⟩ (.slice Ao133 t224.length co133)).heap[gb220]? = some (.cells #[.slice Ao133 t224.length co133, .slice none 0 0] 130 (0, 0))) := ⟨by (with_reducible repeat (first | apply b1_ | apply b2_ | apply b3_)); refine blk_put (cs := #[.slice none 0 0, .slice none 0 0]) ?_ 0 _ rfl; (with_reducible repeat (first | apply b1_ | apply b2_ | apply b3_)); exact BK220.out⟩
      have n6_ : Aside0 (IsS126 w (w132.setCell ⟨gb220, 0, none⟩ (.slice Ao133 t224.length co133)) gb209 l3 x210001_2 x210002_2) := ⟨(show IsS126 w _ gb209 l3 x210001_2 x210002_2 from by repeat (first | (with_reducible first | exact HI209.out | apply IsS126.alloc | apply IsS126.drewN | apply IsS126.drew | apply IsS126.set_1 | apply IsS126.set_2 | refine IsS126.far ?_ NB209_219.out _ | refine IsS126.far ?_ NB209_220.out _) | exact HI209.out))⟩
      have n7_ : Aside0 (Below w.heap.size w (w132.setCell ⟨gb220, 0, none⟩ (.slice Ao133 t224.length co133))) := ⟨z8_0⟩
      clear HO_11
      clear HO_220000
      clear HO223
      clear HO226
      clear BK219
      clear BK220
      clear HI209
      clear HB
      generalize (w132.setCell ⟨gb220, 0, none⟩ (.slice Ao133 t224.length co133)) = w135 at n0_ n1_ n2_ n3_ n4_ n5_ n6_ n7_ ⊢
      have HO_11 := n0_
      have HO_220000 := n1_
      have HO223 := n2_
      have HO226 := n3_
      have BK219 := n4_
      have BK220 := n5_
      have HI209 := n6_
      have HB := n7_
      clear n0_ n1_ n2_ n3_ n4_ n5_ n6_ n7_
      have n0_ := Aside0.mk (Kd.R_drew HO_11.out)
      have n1_ := Aside0.mk (Kd.R_drew HO_220000.out)
      have n2_ := Aside0.mk (Kd.R_drew HO223.out)
      have n3_ := Aside0.mk (Kd.R_drew HO226.out)
      have n4_ := Aside0.mk (blk_drew BK219.out)
      have n5_ := Aside0.mk (blk_drew BK220.out)
      have n6_ := Aside0.mk (IsS126.drew HI209.out)
      have n7_ := Aside0.mk (below_drew1 HB.out)
      clear HO_11
      clear HO_220000
      clear HO223
      clear HO226
      clear BK219
      clear BK220
      clear HI209
      clear HB
      have HO_11 := n0_
      have HO_220000 := n1_
      have HO223 := n2_
      have HO226 := n3_
      have BK219 := n4_
      have BK220 := n5_
      have HI209 := n6_
      have HB := n7_
      clear n0_ n1_ n2_ n3_ n4_ n5_ n6_ n7_
      obtain ⟨Ao137, co137, eo137⟩ := Kd.R_slice HO_11.out
      (first | subst eo137 | (injection eo137 with f1_ f2_ f3_; have f4_ := f1_.symm; have f5_ := f3_.symm; clear f1_ f2_ f3_; subst f4_; subst f5_))
      refine start_ (n := 23) (S := fun w' => w'.cell? ⟨gb220, 0, none⟩ = some (.slice Ao133 t224.length co133) ∧ w'.cell? ⟨gb220, 1, none⟩ = some (.slice none 0 0) ∧ w'.cell? ⟨gb219, 0, none⟩ = some (.slice Ao126 x220000_2.length co126) ∧ w'.cell? ⟨gb219, 1, none⟩ = some (.slice none 0 0)) (ds := []) #[ff,ff,ff,ff,ff,ff,ff,ff,ff,ff,ff,ff,ff,ff,ff,ff,ff,ff,ff,ff,ff,ff,ff] z8_8 rfl rfl ⟨(blk_cell BK220.out 0).trans rfl, (blk_cell BK220.out 1).trans rfl, (blk_cell BK219.out 0).trans rfl, (blk_cell BK219.out 1).trans rfl⟩ (fun hHeld => ?_); refine with_tabW tBy.tab27 tBy.bits27 (fun HT_ HW_ => ?_)
      generalize w135.drew = w136 at HO_11 HO_220000 HO223 HO226 BK219 BK220 HI209 HB hHeld ⊢
      refine prx8 0 117 #[tt,ff,ff,ff,ff,ff,ff,ff,ff,ff,ff,ff,ff,ff,ff,ff,ff,ff,ff,ff,ff,ff,ff] ?_
      refine prx8 1 118 #[tt,tt,ff,ff,ff,ff,ff,ff,ff,ff,ff,ff,ff,ff,ff,ff,ff,ff,ff,ff,ff,ff,ff] ?_
      refine prx8 2 119 #[tt,tt,tt,ff,ff,ff,ff,ff,ff,ff,ff,ff,ff,ff,ff,ff,ff,ff,ff,ff,ff,ff,ff] ?_
      refine prx8 4 121 #[tt,tt,tt,ff,tt,ff,ff,ff,ff,ff,ff,ff,ff,ff,ff,ff,ff,ff,ff,ff,ff,ff,ff] ?_
      refine prx8 5 122 #[tt,tt,tt,ff,tt,tt,ff,ff,ff,ff,ff,ff,ff,ff,ff,ff,ff,ff,ff,ff,ff,ff,ff] ?_
      refine prx8 6 123 #[tt,tt,tt,ff,tt,tt,tt,ff,ff,ff,ff,ff,ff,ff,ff,ff,ff,ff,ff,ff,ff,ff,ff] ?_
      refine prx8 9 126 #[tt,tt,tt,ff,tt,tt,tt,ff,ff,tt,ff,ff,ff,ff,ff,ff,ff,ff,ff,ff,ff,ff,ff] ?_
      refine prx8 11 128 #[tt,tt,tt,ff,tt,tt,tt,ff,ff,tt,ff,tt,ff,ff,ff,ff,ff,ff,ff,ff,ff,ff,ff] ?_
      refine prx8 12 129 #[tt,tt,tt,ff,tt,tt,tt,ff,ff,tt,ff,tt,tt,ff,ff,ff,ff,ff,ff,ff,ff,ff,ff] ?_
      refine prx8 13 130 #[tt,tt,tt,ff,tt,tt,tt,ff,ff,tt,ff,tt,tt,tt,ff,ff,ff,ff,ff,ff,ff,ff,ff] ?_
      refine prx8 17 134 #[tt,tt,tt,ff,tt,tt,tt,ff,ff,tt,ff,tt,tt,tt,ff,ff,ff,tt,ff,ff,ff,ff,ff] ?_
      refine prx8 18 135 #[tt,tt,tt,ff,tt,tt,tt,ff,ff,tt,ff,tt,tt,tt,ff,ff,ff,tt,tt,ff,ff,ff,ff] ?_
      refine take_ (i := 3) (N := some 120) (v := ?_) (a' := ?_) #[tt,tt,tt,tt,tt,tt,tt,ff,ff,tt,ff,tt,tt,tt,ff,ff,ff,tt,tt,ff,ff,ff,ff] rfl rfl (take_ofW HT_.out HW_.out z8_8) (fun _ _ _ h => h) (Or.inl ⟨by rfl, ?_⟩) hHeld ?_ ?_
      rotate_left
      ·rintro w' ⟨s0, s1, s2, s3⟩
       go_simp
       with_reducible rfl
      rotate_left
      ·simp only [Act.put, L1_, L2_, L3_, i64_w, i32_w]
       rfl
      refine take_ (i := 7) (N := some 124) (v := ?_) (a' := ?_) #[tt,tt,tt,tt,tt,tt,tt,tt,ff,tt,ff,tt,tt,tt,ff,ff,ff,tt,tt,ff,ff,ff,ff] rfl rfl (take_ofW HT_.out HW_.out z8_8) (fun _ _ _ h => h) (Or.inl ⟨by rfl, ?_⟩) hHeld ?_ ?_
      rotate_left
      ·rintro w' ⟨s0, s1, s2, s3⟩
       go_simp
       with_reducible rfl
      rotate_left
      ·simp only [Act.put, L1_, L2_, L3_, i64_w, i32_w]
       rfl
      refine take_ (i := 14) (N := some 131) (v := ?_) (a' := ?_) #[tt,tt,tt,tt,tt,tt,tt,tt,ff,tt,ff,tt,tt,tt,tt,ff,ff,tt,tt,ff,ff,ff,ff] rfl rfl (take_ofW HT_.out HW_.out z8_8) (fun _ _ _ h => h) (Or.inl ⟨by rfl, ?_⟩) hHeld ?_ ?_
      rotate_left
      ·rintro w' ⟨s0, s1, s2, s3⟩
       go_simp
       with_reducible rfl
      rotate_left
      ·simp only [Act.put, L1_, L2_, L3_, i64_w, i32_w]
       rfl
      refine prx8 15 132 #[tt,tt,tt,tt,tt,tt,tt,tt,ff,tt,ff,tt,tt,tt,tt,tt,ff,tt,tt,ff,ff,ff,ff] ?_
      refine prx8 16 133 #[tt,tt,tt,tt,tt,tt,tt,tt,ff,tt,ff,tt,tt,tt,tt,tt,tt,tt,tt,ff,ff,ff,ff] ?_
      refine prx8 19 136 #[tt,tt,tt,tt,tt,tt,tt,tt,ff,tt,ff,tt,tt,tt,tt,tt,tt,tt,tt,tt,ff,ff,ff] ?_
      refine prx8 20 137 #[tt,tt,tt,tt,tt,tt,tt,tt,ff,tt,ff,tt,tt,tt,tt,tt,tt,tt,tt,tt,tt,ff,ff] ?_
      refine one_ (i := 8) (N := some 125) #[tt,tt,tt,tt,tt,tt,tt,tt,tt,tt,ff,tt,tt,tt,tt,tt,tt,tt,tt,tt,tt,ff,ff] rfl rfl (one_of HT_.out z8_8) z8_15 (fun K hK => ?_)
      refine Kd.R_append_rows_step (Kd.int .u8) (w0 := w) w.heap.size (by rfl) (.tmp 120) (.tmp 124) 22 5 (.int .u8 0) 1 rfl Try.underlying22 info5 rfl z8_15 (by omega) (.slice Ao133 t224.length co133) t224 x220000_2 _ _ _ (fun k_ => some k_ ≠ (.slice Ao137 x11_2.length co137 : Value).ownBlock ∧ some k_ ≠ (.slice Ao126 x220000_2.length co126 : Value).ownBlock) (fun _ => False) rfl rfl ?aO ?aR (fun _ _ h => h) (fun _ h => h.elim) ?aF ?aB ?aS ?aL ?_
      (case aR => repeat (first | exact (Kd.R_reads' HO_220000.out).2.2 | (with_reducible refine Kd.C_alloc ?_ _) | (with_reducible refine Kd.C_drewN ?_ _) | (with_reducible refine Kd.C_drew ?_)))
      (case aB => exact z8_0)
      (case aF => exact (fun k_ hk => ⟨Kd.fresh' (Kd.R_lt z8_1) k_ hk, Kd.fresh' (Kd.R_lt z8_2) k_ hk⟩))
      (case aO => exact (by (with_reducible repeat (first | apply Kd.R_alloc | apply Kd.R_drewN | apply Kd.R_drew)); exact HO226.out))
      (case aS => exact (below_size z8_0))
      (case aL => have := LMc120.out; omega)
      intro v228 w138 ho hb hg hat
      rw [← Ny227.out] at ho
      have n0_ := Aside0.mk (Kd.R_after (ok := (fun k_ => some k_ ≠ (.slice Ao126 x220000_2.length co126 : Value).ownBlock)) z8_1 hg hat)
      have n1_ := Aside0.mk (Kd.R_after (ok := (fun k_ => some k_ ≠ (.slice Ao137 x11_2.length co137 : Value).ownBlock)) z8_2 hg hat)
      have n2_ := Aside0.mk (blk_grown (g := gb219) (o := .cells #[.slice Ao126 x220000_2.length co126, .slice none 0 0] 130 (0, 0)) z8_3 hg (Kd.R_ne HO226.out BK219.out z8_15))
      have n3_ := Aside0.mk (IsS126.grown ((show IsS126 w _ gb209 l3 x210001_2 x210002_2 from by repeat (first | (with_reducible first | exact HI209.out | apply IsS126.alloc | apply IsS126.drewN | apply IsS126.drew | apply IsS126.set_1 | apply IsS126.set_2 | refine IsS126.far ?_ NB209_219.out _ | refine IsS126.far ?_ NB209_220.out _) | exact HI209.out))) hg (IsS126.own_ne HI209.out HO226.out z8_15))
      have n4_ := Aside0.mk (blk_grown (g := gb220) (o := .cells #[.slice Ao133 t224.length co133, .slice none 0 0] 130 (0, 0)) z8_13 hg (Kd.R_ne HO226.out BK220.out z8_15))
      have n5_ := Aside0.mk (Kd.R_over' (by (with_reducible repeat (first | apply Kd.R_alloc | apply Kd.R_drewN | apply Kd.R_drew)); exact HO223.out) (Kd.R_typed (by (with_reducible repeat (first | apply Kd.R_alloc | apply Kd.R_drewN | apply Kd.R_drew)); exact HO226.out)) z8_15 hg)
      have n6_ := Aside0.mk (hb)
      have n7_ := Aside0.mk (ho)
      clear HO_11
      clear HO_220000
      clear BK219
      clear HI209
      clear BK220
      clear HO223
      clear HB
      clear HO226
      have HO_11 := n0_
      have HO_220000 := n1_
      have BK219 := n2_
      have HI209 := n3_
      have BK220 := n4_
      have HO223 := n5_
      have HB := n6_
      have HO229 := n7_
      clear n0_ n1_ n2_ n3_ n4_ n5_ n6_ n7_
      clear ho hb hg hat
      refine hK.out _ _ ⟨(blk_cell BK220.out 0).trans rfl, (blk_cell BK220.out 1).trans rfl, (blk_cell BK219.out 0).trans rfl, (blk_cell BK219.out 1).trans rfl⟩ (fun hHeld => ?_)
      clear hK K
      refine norm_ (a' := ?_) ?_ ?_
      rotate_left
      ·show Act.put _ (some 125) _ = _
       simp only [Act.put, L1_, L2_, L3_, i64_w, i32_w]
       rfl
      refine one_ (i := 10) (N := some 127) #[tt,tt,tt,tt,tt,tt,tt,tt,tt,tt,tt,tt,tt,tt,tt,tt,tt,tt,tt,tt,tt,ff,ff] rfl rfl (one_of HT_.out z8_8) z8_15 (fun K hK => ?_)
      refine Kd.R_append_rows_step (Kd.int .u8) (w0 := w) w.heap.size (by rfl) (.tmp 125) (.tmp 126) 22 5 (.int .u8 0) 1 rfl Try.underlying22 info5 rfl z8_15 (by omega) v228 y227 x11_2 _ _ _ (fun k_ => some k_ ≠ (.slice Ao137 x11_2.length co137 : Value).ownBlock ∧ some k_ ≠ (.slice Ao126 x220000_2.length co126 : Value).ownBlock) (fun _ => False) rfl rfl ?aO ?aR (fun _ _ h => h) (fun _ h => h.elim) ?aF ?aB ?aS ?aL ?_
      (case aR => repeat (first | exact (Kd.R_reads' HO_11.out).2.2 | (with_reducible refine Kd.C_alloc ?_ _) | (with_reducible refine Kd.C_drewN ?_ _) | (with_reducible refine Kd.C_drew ?_)))
      (case aB => exact z8_0)
      (case aF => exact (fun k_ hk => ⟨Kd.fresh' (Kd.R_lt z8_1) k_ hk, Kd.fresh' (Kd.R_lt z8_2) k_ hk⟩))
      (case aO => exact (by (with_reducible repeat (first | apply Kd.R_alloc | apply Kd.R_drewN | apply Kd.R_drew)); exact HO229.out))
      (case aS => exact (below_size z8_0))
      (case aL => have := LMc121.out; omega)
      intro v231 w139 ho hb hg hat
      rw [← Ny230.out] at ho
      have n0_ := Aside0.mk (Kd.R_after (ok := (fun k_ => some k_ ≠ (.slice Ao126 x220000_2.length co126 : Value).ownBlock)) z8_1 hg hat)
      have n1_ := Aside0.mk (Kd.R_after (ok := (fun k_ => some k_ ≠ (.slice Ao137 x11_2.length co137 : Value).ownBlock)) z8_2 hg hat)
      have n2_ := Aside0.mk (blk_grown (g := gb219) (o := .cells #[.slice Ao126 x220000_2.length co126, .slice none 0 0] 130 (0, 0)) z8_3 hg (Kd.R_ne HO229.out BK219.out z8_15))
      have n3_ := Aside0.mk (IsS126.grown ((show IsS126 w _ gb209 l3 x210001_2 x210002_2 from by repeat (first | (with_reducible first | exact HI209.out | apply IsS126.alloc | apply IsS126.drewN | apply IsS126.drew | apply IsS126.set_1 | apply IsS126.set_2 | refine IsS126.far ?_ NB209_219.out _ | refine IsS126.far ?_ NB209_220.out _) | exact HI209.out))) hg (IsS126.own_ne HI209.out HO229.out z8_15))
      have n4_ := Aside0.mk (blk_grown (g := gb220) (o := .cells #[.slice Ao133 t224.length co133, .slice none 0 0] 130 (0, 0)) z8_13 hg (Kd.R_ne HO229.out BK220.out z8_15))
      have n5_ := Aside0.mk (Kd.R_over' (by (with_reducible repeat (first | apply Kd.R_alloc | apply Kd.R_drewN | apply Kd.R_drew)); exact HO223.out) (Kd.R_typed (by (with_reducible repeat (first | apply Kd.R_alloc | apply Kd.R_drewN | apply Kd.R_drew)); exact HO229.out)) z8_15 hg)
      have n6_ := Aside0.mk (hb)
      have n7_ := Aside0.mk (ho)
      clear HO_11
      clear HO_220000
      clear BK219
      clear HI209
      clear BK220
      clear HO223
      clear HB
      clear HO229
      have HO_11 := n0_
      have HO_220000 := n1_
      have BK219 := n2_
      have HI209 := n3_
      have BK220 := n4_
      have HO223 := n5_
      have HB := n6_
      have HO232 := n7_
      clear n0_ n1_ n2_ n3_ n4_ n5_ n6_ n7_
      clear ho hb hg hat
      refine hK.out _ _ ⟨(blk_cell BK220.out 0).trans rfl, (blk_cell BK220.out 1).trans rfl, (blk_cell BK219.out 0).trans rfl, (blk_cell BK219.out 1).trans rfl⟩ (fun hHeld => ?_)
      clear hK K
      refine norm_ (a' := ?_) ?_ ?_
      rotate_left
      ·show Act.put _ (some 127) _ = _
       simp only [Act.put, L1_, L2_, L3_, i64_w, i32_w]
       rfl
      refine prx8 21 8 #[tt,tt,tt,tt,tt,tt,tt,tt,tt,tt,tt,tt,tt,tt,tt,tt,tt,tt,tt,tt,tt,tt,ff] ?_
      refine prx8 22 9 #[tt,tt,tt,tt,tt,tt,tt,tt,tt,tt,tt,tt,tt,tt,tt,tt,tt,tt,tt,tt,tt,tt,tt] ?_
      refine done_ (done_of HT_.out z8_8) ?_
      try go_wp2
      go_ret2
      exact ⟨_, by first | rfl | (simp [errW_none, errW_some] <;> rfl) | (simp [*, errW_none, errW_some] <;> rfl), by (with_reducible repeat (first | apply Kd.R_alloc | apply Kd.R_drewN | apply Kd.R_drew)); exact Kd.R_mono HO232.out (fun _ hk => trivial), by repeat (first | (with_reducible first | exact HB.out | apply below_alloc | apply pw_below_drewN | apply below_drew1 | refine below_set ?_ (IsS126.ge HI209.out) | refine below_set ?_ GE219.out | refine below_set ?_ GE220.out | refine below_set ?_ GE234.out) | exact HB.out)⟩

end Go.Proofs.Ytchkmmbedgolbaa.PFnTuplesOf

