-- Written by a program of this session (xprint) out of the translation; Lean checks it.
import Derived.Test.YtchkmmbedgolbaaPFnTuplesOfx0
import Derived.Test.YtchkmmbedgolbaaPFnTuplesOfx5
namespace Go.Proofs.Ytchkmmbedgolbaa.PFnTuplesOf
open Go.RowKit Go.Proofs.YtchkmmbedgolbaaW.PrintWords Go.Proofs.YtchkmmbedgolbaaW.PrintLast Go.Proofs.YtchkmmbedgolbaaW.PrintMore
attribute [local go_sem] max2_int min2_int max_two min_two max_three min_three max_four min_four   -- for this text's walks alone
set_option linter.unusedVariables false
set_option linter.unusedSimpArgs false
theorem cz7x16 {w : World} {g : Nat} {t : TypeId} {v0 v1 v2 v3 v4 v5 v6 : Value} (h : w.heap[g]? = some (.cells #[v0, v1, v2, v3, v4, v5, v6] t (0, 0))) : w.cell? ⟨g, 0, none⟩ = some v0 ∧ w.cell? ⟨g, 1, none⟩ = some v1 ∧ w.cell? ⟨g, 2, none⟩ = some v2 ∧ w.cell? ⟨g, 3, none⟩ = some v3 ∧ w.cell? ⟨g, 4, none⟩ = some v4 ∧ w.cell? ⟨g, 5, none⟩ = some v5 ∧ w.cell? ⟨g, 6, none⟩ = some v6 := ⟨(blk_cell h 0).trans rfl, (blk_cell h 1).trans rfl, (blk_cell h 2).trans rfl, (blk_cell h 3).trans rfl, (blk_cell h 4).trans rfl, (blk_cell h 5).trans rfl, (blk_cell h 6).trans rfl⟩
theorem fz7x16 {w : World} {g : Nat} {t : TypeId} {cs : Array Value} (h : w.heap[g]? = some (.cells cs t (0, 0))) : w.frozen? ⟨g, 0, none⟩ = false ∧ w.frozen? ⟨g, 1, none⟩ = false ∧ w.frozen? ⟨g, 2, none⟩ = false ∧ w.frozen? ⟨g, 3, none⟩ = false ∧ w.frozen? ⟨g, 4, none⟩ = false ∧ w.frozen? ⟨g, 5, none⟩ = false ∧ w.frozen? ⟨g, 6, none⟩ = false := ⟨blk_frozen h 0, blk_frozen h 1, blk_frozen h 2, blk_frozen h 3, blk_frozen h 4, blk_frozen h 5, blk_frozen h 6⟩
theorem z16_18 {p : Prop} (h : p := by first | (with_reducible assumption) | assumption) : p := h
theorem z16_17 {p : Prop} (h : p := by rw [hg]; exact Nat.ne_of_gt (blk_lt (g := gb447) (o := .cells #[.slice A446_0 ((rd_T62 l0 x17_1).f0).length c446_0, .bool ((rd_T62 l0 x17_1).f1), .slice A446_2 ((rd_T62 l0 x17_1).f2).length c446_2, .slice A446_3 ((rd_T62 l0 x17_1).f3).length c446_3, .slice A446_4 ((rd_T62 l0 x17_1).f4).length c446_4, .slice A446_5 ((rd_T62 l0 x17_1).f5).length c446_5, .slice A446_6 ((rd_T62 l0 x17_1).f6).length c446_6] 62 (0, 0)) z16_1)) : p := h
theorem z16_16 {p : Prop} (h : p := by rw [hg]; exact Nat.ne_of_lt (blk_lt (g := gb447) (o := .cells #[.slice A446_0 ((rd_T62 l0 x17_1).f0).length c446_0, .bool ((rd_T62 l0 x17_1).f1), .slice A446_2 ((rd_T62 l0 x17_1).f2).length c446_2, .slice A446_3 ((rd_T62 l0 x17_1).f3).length c446_3, .slice A446_4 ((rd_T62 l0 x17_1).f4).length c446_4, .slice A446_5 ((rd_T62 l0 x17_1).f5).length c446_5, .slice A446_6 ((rd_T62 l0 x17_1).f6).length c446_6] 62 (0, 0)) z16_1)) : p := h
theorem z16_15 {p : Prop} (h : p := by (with_reducible repeat (first | apply b1_ | apply b2_ | apply b3_)); exact BK438.out) : p := h
theorem z16_14 {p : Prop} (h : p := by (with_reducible repeat (first | apply b1_ | apply b2_ | apply b3_)); refine blk_far ?_ NB447_449.out _; (with_reducible repeat (first | apply b1_ | apply b2_ | apply b3_)); refine blk_far ?_ NB447_449.out _; (with_reducible repeat (first | apply b1_ | apply b2_ | apply b3_)); refine blk_far ?_ NB447_449.out _; (with_reducible repeat (first | apply b1_ | apply b2_ | apply b3_)); refine blk_far ?_ NB447_449.out _; (with_reducible repeat (first | apply b1_ | apply b2_ | apply b3_)); refine blk_far ?_ NB447_449.out _; (with_reducible repeat (first | apply b1_ | apply b2_ | apply b3_)); refine blk_far ?_ NB447_449.out _; (with_reducible repeat (first | apply b1_ | apply b2_ | apply b3_)); refine blk_far ?_ NB447_449.out _; (with_reducible repeat (first | apply b1_ | apply b2_ | apply b3_)); exact BK447.out) : p := h
theorem z16_13 {p : Prop} (h : p := by rw [hg]; exact (below_size z16_0)) : p := h
theorem z16_12 {p : Prop} (h : p := by have := World.block_lt_of_cell? _ _ hx448_0; first | rwa [add_block] at this | exact this) : p := h
theorem z16_11 {p : Prop} (h : p := by first | (rw [add_block]; exact hn448_6) | (show (Addr.add _ _).block ≠ _; rw [add_block]; exact hn448_6) | exact hn448_6) : p := h
theorem z16_10 {p : Prop} (h : p := by first | (rw [add_block]; exact hn448_5) | (show (Addr.add _ _).block ≠ _; rw [add_block]; exact hn448_5) | exact hn448_5) : p := h
theorem z16_9 {p : Prop} (h : p := by first | (rw [add_block]; exact hn448_4) | (show (Addr.add _ _).block ≠ _; rw [add_block]; exact hn448_4) | exact hn448_4) : p := h
theorem z16_8 {p : Prop} (h : p := by first | (rw [add_block]; exact hn448_3) | (show (Addr.add _ _).block ≠ _; rw [add_block]; exact hn448_3) | exact hn448_3) : p := h
theorem z16_7 {p : Prop} (h : p := by first | (rw [add_block]; exact hn448_2) | (show (Addr.add _ _).block ≠ _; rw [add_block]; exact hn448_2) | exact hn448_2) : p := h
theorem z16_6 {p : Prop} (h : p := by first | (rw [add_block]; exact hn448_1) | (show (Addr.add _ _).block ≠ _; rw [add_block]; exact hn448_1) | exact hn448_1) : p := h
theorem z16_5 {p : Prop} (h : p := by first | (rw [add_block]; exact hn448_0) | (show (Addr.add _ _).block ≠ _; rw [add_block]; exact hn448_0) | exact hn448_0) : p := h
theorem z16_4 {p : Prop} (h : p := by rw [hg]; exact Nat.ne_of_gt (blk_lt (g := gb438) (o := .cells #[.slice A0_0 l0_0.length c0_0, .bool a0_1, .slice A0_2 l0_2.length c0_2, .slice A0_3 l0_3.length c0_3, .slice A0_4 l0_4.length c0_4, .slice A0_5 l0_5.length c0_5, .slice A0_6 l0_6.length c0_6] 62 (0, 0)) z16_15)) : p := h
theorem z16_3 {p : Prop} (h : p := by rw [hg]; exact Nat.ne_of_lt (blk_lt (g := gb438) (o := .cells #[.slice A0_0 l0_0.length c0_0, .bool a0_1, .slice A0_2 l0_2.length c0_2, .slice A0_3 l0_3.length c0_3, .slice A0_4 l0_4.length c0_4, .slice A0_5 l0_5.length c0_5, .slice A0_6 l0_6.length c0_6] 62 (0, 0)) z16_15)) : p := h
theorem z16_2 {p : Prop} (h : p := by (with_reducible repeat (first | apply b1_ | apply b2_ | apply b3_)); refine blk_put (cs := #[.slice A448_0 ((rd_T62 l1 x17_1).f0).length c448_0, .bool ((rd_T62 l1 x17_1).f1), .slice A448_2 ((rd_T62 l1 x17_1).f2).length c448_2, .slice A448_3 ((rd_T62 l1 x17_1).f3).length c448_3, .slice A448_4 ((rd_T62 l1 x17_1).f4).length c448_4, .slice A448_5 ((rd_T62 l1 x17_1).f5).length c448_5, .slice none 0 0]) ?_ 6 _ rfl; (with_reducible repeat (first | apply b1_ | apply b2_ | apply b3_)); refine blk_put (cs := #[.slice A448_0 ((rd_T62 l1 x17_1).f0).length c448_0, .bool ((rd_T62 l1 x17_1).f1), .slice A448_2 ((rd_T62 l1 x17_1).f2).length c448_2, .slice A448_3 ((rd_T62 l1 x17_1).f3).length c448_3, .slice A448_4 ((rd_T62 l1 x17_1).f4).length c448_4, .slice none 0 0, .slice none 0 0]) ?_ 5 _ rfl; (with_reducible repeat (first | apply b1_ | apply b2_ | apply b3_)); refine blk_put (cs := #[.slice A448_0 ((rd_T62 l1 x17_1).f0).length c448_0, .bool ((rd_T62 l1 x17_1).f1), .slice A448_2 ((rd_T62 l1 x17_1).f2).length c448_2, .slice A448_3 ((rd_T62 l1 x17_1).f3).length c448_3, .slice none 0 0, .slice none 0 0, .slice none 0 0]) ?_ 4 _ rfl; (with_reducible repeat (first | apply b1_ | apply b2_ | apply b3_)); refine blk_put (cs := #[.slice A448_0 ((rd_T62 l1 x17_1).f0).length c448_0, .bool ((rd_T62 l1 x17_1).f1), .slice A448_2 ((rd_T62 l1 x17_1).f2).length c448_2, .slice none 0 0, .slice none 0 0, .slice none 0 0, .slice none 0 0]) ?_ 3 _ rfl; (with_reducible repeat (first | apply b1_ | apply b2_ | apply b3_)); refine blk_put (cs := #[.slice A448_0 ((rd_T62 l1 x17_1).f0).length c448_0, .bool ((rd_T62 l1 x17_1).f1), .slice none 0 0, .slice none 0 0, .slice none 0 0, .slice none 0 0, .slice none 0 0]) ?_ 2 _ rfl; (with_reducible repeat (first | apply b1_ | apply b2_ | apply b3_)); refine blk_put (cs := #[.slice A448_0 ((rd_T62 l1 x17_1).f0).length c448_0, .bool false, .slice none 0 0, .slice none 0 0, .slice none 0 0, .slice none 0 0, .slice none 0 0]) ?_ 1 _ rfl; (with_reducible repeat (first | apply b1_ | apply b2_ | apply b3_)); refine blk_put (cs := #[.slice none 0 0, .bool false, .slice none 0 0, .slice none 0 0, .slice none 0 0, .slice none 0 0, .slice none 0 0]) ?_ 0 _ rfl; (with_reducible repeat (first | apply b1_ | apply b2_ | apply b3_)); exact BK449.out) : p := h
theorem z16_1 {p : Prop} (h : p := by (with_reducible repeat (first | apply b1_ | apply b2_ | apply b3_)); refine blk_put (cs := #[.slice A446_0 ((rd_T62 l0 x17_1).f0).length c446_0, .bool ((rd_T62 l0 x17_1).f1), .slice A446_2 ((rd_T62 l0 x17_1).f2).length c446_2, .slice A446_3 ((rd_T62 l0 x17_1).f3).length c446_3, .slice A446_4 ((rd_T62 l0 x17_1).f4).length c446_4, .slice A446_5 ((rd_T62 l0 x17_1).f5).length c446_5, .slice none 0 0]) ?_ 6 _ rfl; (with_reducible repeat (first | apply b1_ | apply b2_ | apply b3_)); refine blk_put (cs := #[.slice A446_0 ((rd_T62 l0 x17_1).f0).length c446_0, .bool ((rd_T62 l0 x17_1).f1), .slice A446_2 ((rd_T62 l0 x17_1).f2).length c446_2, .slice A446_3 ((rd_T62 l0 x17_1).f3).length c446_3, .slice A446_4 ((rd_T62 l0 x17_1).f4).length c446_4, .slice none 0 0, .slice none 0 0]) ?_ 5 _ rfl; (with_reducible repeat (first | apply b1_ | apply b2_ | apply b3_)); refine blk_put (cs := #[.slice A446_0 ((rd_T62 l0 x17_1).f0).length c446_0, .bool ((rd_T62 l0 x17_1).f1), .slice A446_2 ((rd_T62 l0 x17_1).f2).length c446_2, .slice A446_3 ((rd_T62 l0 x17_1).f3).length c446_3, .slice none 0 0, .slice none 0 0, .slice none 0 0]) ?_ 4 _ rfl; (with_reducible repeat (first | apply b1_ | apply b2_ | apply b3_)); refine blk_put (cs := #[.slice A446_0 ((rd_T62 l0 x17_1).f0).length c446_0, .bool ((rd_T62 l0 x17_1).f1), .slice A446_2 ((rd_T62 l0 x17_1).f2).length c446_2, .slice none 0 0, .slice none 0 0, .slice none 0 0, .slice none 0 0]) ?_ 3 _ rfl; (with_reducible repeat (first | apply b1_ | apply b2_ | apply b3_)); refine blk_put (cs := #[.slice A446_0 ((rd_T62 l0 x17_1).f0).length c446_0, .bool ((rd_T62 l0 x17_1).f1), .slice none 0 0, .slice none 0 0, .slice none 0 0, .slice none 0 0, .slice none 0 0]) ?_ 2 _ rfl; (with_reducible repeat (first | apply b1_ | apply b2_ | apply b3_)); refine blk_put (cs := #[.slice A446_0 ((rd_T62 l0 x17_1).f0).length c446_0, .bool false, .slice none 0 0, .slice none 0 0, .slice none 0 0, .slice none 0 0, .slice none 0 0]) ?_ 1 _ rfl; (with_reducible repeat (first | apply b1_ | apply b2_ | apply b3_)); refine blk_put (cs := #[.slice none 0 0, .bool false, .slice none 0 0, .slice none 0 0, .slice none 0 0, .slice none 0 0, .slice none 0 0]) ?_ 0 _ rfl; (with_reducible repeat (first | apply b1_ | apply b2_ | apply b3_)); exact BK447.out) : p := h
theorem z16_0 {p : Prop} (h : p := by repeat (first | (with_reducible first | exact HB.out | apply below_alloc | apply pw_below_drewN | apply below_drew1 | refine below_set ?_ GE438.out | refine below_set ?_ GE439.out | refine below_set ?_ GE447.out | refine below_set ?_ GE449.out) | exact HB.out)) : p := h

def sT.f (k : Nat) (l0_0 : List Int) (a0_1 : Bool) (l0_2 : List Int) (l0_3 : List Int) (l0_4 : List Int) (l0_5 : List Int) (l0_6 : List Int) (l1_0 : List Int) (a1_1 : Bool) (l1_2 : List Int) (l1_3 : List Int) (l1_4 : List Int) (l1_5 : List Int) (l1_6 : List Int) : Option (Bool) := if (a0_1 == a1_1) = true then ((sEq.f k l0_0 l1_0).bind fun t440 => (if t440 = true then ((sEq.f k l0_2 l1_2).bind fun t441 => (if t441 = true then ((sEq.f k l0_3 l1_3).bind fun t442 => (if t442 = true then ((sEq.f k l0_4 l1_4).bind fun t443 => (if t443 = true then ((sEq.f k l0_5 l1_5).bind fun t444 => (if t444 = true then ((sEq.f k l0_6 l1_6).bind fun t445 => (some t445)) else (some false))) else (some false))) else (some false))) else (some false))) else (some false))) else (some false)
theorem sT.mono : ∀ a0 a1 a2 a3 a4 a5 a6 a7 a8 a9 a10 a11 a12 a13 k, LeO (sT.f k a0 a1 a2 a3 a4 a5 a6 a7 a8 a9 a10 a11 a12 a13) (sT.f (k + 1) a0 a1 a2 a3 a4 a5 a6 a7 a8 a9 a10 a11 a12 a13) := by
 intro a0 a1 a2 a3 a4 a5 a6 a7 a8 a9 a10 a11 a12 a13 k
 unfold sT.f
 repeat' first
   | (with_reducible exact sEq.mono _ _ _)
   | (with_reducible exact LeO.refl _)
   | (with_reducible exact LeO.none _)
   | (with_reducible refine LeO.ite ?_ ?_)
   | (with_reducible refine LeO.bind ?_ (fun _ => ?_))
set_option maxHeartbeats 8000000 in
set_option maxRecDepth 100000 in
theorem sT.calls (k : Nat) (A0_0 : Option Addr) (c0_0 : Nat) (l0_0 : List Int) (a0_1 : Bool) (A0_2 : Option Addr) (c0_2 : Nat) (l0_2 : List Int) (A0_3 : Option Addr) (c0_3 : Nat) (l0_3 : List Int) (A0_4 : Option Addr) (c0_4 : Nat) (l0_4 : List Int) (A0_5 : Option Addr) (c0_5 : Nat) (l0_5 : List Int) (A0_6 : Option Addr) (c0_6 : Nat) (l0_6 : List Int) (A1_0 : Option Addr) (c1_0 : Nat) (l1_0 : List Int) (a1_1 : Bool) (A1_2 : Option Addr) (c1_2 : Nat) (l1_2 : List Int) (A1_3 : Option Addr) (c1_3 : Nat) (l1_3 : List Int) (A1_4 : Option Addr) (c1_4 : Nat) (l1_4 : List Int) (A1_5 : Option Addr) (c1_5 : Nat) (l1_5 : List Int) (A1_6 : Option Addr) (c1_6 : Nat) (l1_6 : List Int) (r : Bool) (w : World) (hr0_0 : Kd.C (Kd.int .i64) w A0_0 l0_0.length l0_0) (hc0_0 : l0_0.length ≤ c0_0) (hr0_2 : Kd.C (Kd.int .i64) w A0_2 l0_2.length l0_2) (hc0_2 : l0_2.length ≤ c0_2) (hr0_3 : Kd.C (Kd.int .i64) w A0_3 l0_3.length l0_3) (hc0_3 : l0_3.length ≤ c0_3) (hr0_4 : Kd.C (Kd.int .i64) w A0_4 l0_4.length l0_4) (hc0_4 : l0_4.length ≤ c0_4) (hr0_5 : Kd.C (Kd.int .i64) w A0_5 l0_5.length l0_5) (hc0_5 : l0_5.length ≤ c0_5) (hr0_6 : Kd.C (Kd.int .i64) w A0_6 l0_6.length l0_6) (hc0_6 : l0_6.length ≤ c0_6) (hr1_0 : Kd.C (Kd.int .i64) w A1_0 l1_0.length l1_0) (hc1_0 : l1_0.length ≤ c1_0) (hr1_2 : Kd.C (Kd.int .i64) w A1_2 l1_2.length l1_2) (hc1_2 : l1_2.length ≤ c1_2) (hr1_3 : Kd.C (Kd.int .i64) w A1_3 l1_3.length l1_3) (hc1_3 : l1_3.length ≤ c1_3) (hr1_4 : Kd.C (Kd.int .i64) w A1_4 l1_4.length l1_4) (hc1_4 : l1_4.length ≤ c1_4) (hr1_5 : Kd.C (Kd.int .i64) w A1_5 l1_5.length l1_5) (hc1_5 : l1_5.length ≤ c1_5) (hr1_6 : Kd.C (Kd.int .i64) w A1_6 l1_6.length l1_6) (hc1_6 : l1_6.length ≤ c1_6) (h : sT.f k l0_0 a0_1 l0_2 l0_3 l0_4 l0_5 l0_6 l1_0 a1_1 l1_2 l1_3 l1_4 l1_5 l1_6 = some r) :
  Calls Try.prog 29 #[.agg #[.slice A0_0 l0_0.length c0_0, .bool a0_1, .slice A0_2 l0_2.length c0_2, .slice A0_3 l0_3.length c0_3, .slice A0_4 l0_4.length c0_4, .slice A0_5 l0_5.length c0_5, .slice A0_6 l0_6.length c0_6], .agg #[.slice A1_0 l1_0.length c1_0, .bool a1_1, .slice A1_2 l1_2.length c1_2, .slice A1_3 l1_3.length c1_3, .slice A1_4 l1_4.length c1_4, .slice A1_5 l1_5.length c1_5, .slice A1_6 l1_6.length c1_6]] w fun e w' => e = .returned (.bool r) ∧ Below w.heap.size w w' := by
 have hu62 := Try.underlying62
 have HR0_0 := Aside0.mk hr0_0
 have HC0_0 := Aside0.mk hc0_0
 clear hr0_0 hc0_0
 have HR0_2 := Aside0.mk hr0_2
 have HC0_2 := Aside0.mk hc0_2
 clear hr0_2 hc0_2
 have HR0_3 := Aside0.mk hr0_3
 have HC0_3 := Aside0.mk hc0_3
 clear hr0_3 hc0_3
 have HR0_4 := Aside0.mk hr0_4
 have HC0_4 := Aside0.mk hc0_4
 clear hr0_4 hc0_4
 have HR0_5 := Aside0.mk hr0_5
 have HC0_5 := Aside0.mk hc0_5
 clear hr0_5 hc0_5
 have HR0_6 := Aside0.mk hr0_6
 have HC0_6 := Aside0.mk hc0_6
 clear hr0_6 hc0_6
 have HR1_0 := Aside0.mk hr1_0
 have HC1_0 := Aside0.mk hc1_0
 clear hr1_0 hc1_0
 have HR1_2 := Aside0.mk hr1_2
 have HC1_2 := Aside0.mk hc1_2
 clear hr1_2 hc1_2
 have HR1_3 := Aside0.mk hr1_3
 have HC1_3 := Aside0.mk hc1_3
 clear hr1_3 hc1_3
 have HR1_4 := Aside0.mk hr1_4
 have HC1_4 := Aside0.mk hc1_4
 clear hr1_4 hc1_4
 have HR1_5 := Aside0.mk hr1_5
 have HC1_5 := Aside0.mk hc1_5
 clear hr1_5 hc1_5
 have HR1_6 := Aside0.mk hr1_6
 have HC1_6 := Aside0.mk hc1_6
 clear hr1_6 hc1_6
 have HB := Aside0.mk (Below.refl w.heap.size w)
 have H : (if (a0_1 == a1_1) = true then ((sEq.f k l0_0 l1_0).bind fun t440 => (if t440 = true then ((sEq.f k l0_2 l1_2).bind fun t441 => (if t441 = true then ((sEq.f k l0_3 l1_3).bind fun t442 => (if t442 = true then ((sEq.f k l0_4 l1_4).bind fun t443 => (if t443 = true then ((sEq.f k l0_5 l1_5).bind fun t444 => (if t444 = true then ((sEq.f k l0_6 l1_6).bind fun t445 => (some t445)) else (some false))) else (some false))) else (some false))) else (some false))) else (some false))) else (some false)) = some r := h
 clear h
 by_cases c3 : (a0_1 == a1_1) = true
 ·rw [if_pos c3] at H
  have c3b0 : (a0_1 == a1_1) = true := c3
  (try (have c3b1 : decide (a0_1 = a1_1) = true := by simpa using c3))
  (try (have c3b2 : (a0_1 == a1_1) = true := by simpa using c3))
  clear c3
  replace H := Option.bind_eq_some_iff.mp H
  obtain ⟨t440, A40, H⟩ := H
  replace H : (if t440 = true then ((sEq.f k l0_2 l1_2).bind fun t441 => (if t441 = true then ((sEq.f k l0_3 l1_3).bind fun t442 => (if t442 = true then ((sEq.f k l0_4 l1_4).bind fun t443 => (if t443 = true then ((sEq.f k l0_5 l1_5).bind fun t444 => (if t444 = true then ((sEq.f k l0_6 l1_6).bind fun t445 => (some t445)) else (some false))) else (some false))) else (some false))) else (some false))) else (some false)) = some r := H
  have A4 := Aside0.mk A40
  clear A40
  by_cases c5 : t440 = true
  ·subst c5
   have H1 : ((sEq.f k l0_2 l1_2).bind fun t441 => (if t441 = true then ((sEq.f k l0_3 l1_3).bind fun t442 => (if t442 = true then ((sEq.f k l0_4 l1_4).bind fun t443 => (if t443 = true then ((sEq.f k l0_5 l1_5).bind fun t444 => (if t444 = true then ((sEq.f k l0_6 l1_6).bind fun t445 => (some t445)) else (some false))) else (some false))) else (some false))) else (some false))) = some r := by rw [if_pos rfl] at H; exact H
   clear H
   have H := H1
   clear H1
   replace H := Option.bind_eq_some_iff.mp H
   obtain ⟨t441, A60, H⟩ := H
   replace H : (if t441 = true then ((sEq.f k l0_3 l1_3).bind fun t442 => (if t442 = true then ((sEq.f k l0_4 l1_4).bind fun t443 => (if t443 = true then ((sEq.f k l0_5 l1_5).bind fun t444 => (if t444 = true then ((sEq.f k l0_6 l1_6).bind fun t445 => (some t445)) else (some false))) else (some false))) else (some false))) else (some false)) = some r := H
   have A6 := Aside0.mk A60
   clear A60
   by_cases c7 : t441 = true
   ·subst c7
    have H1 : ((sEq.f k l0_3 l1_3).bind fun t442 => (if t442 = true then ((sEq.f k l0_4 l1_4).bind fun t443 => (if t443 = true then ((sEq.f k l0_5 l1_5).bind fun t444 => (if t444 = true then ((sEq.f k l0_6 l1_6).bind fun t445 => (some t445)) else (some false))) else (some false))) else (some false))) = some r := by rw [if_pos rfl] at H; exact H
    clear H
    have H := H1
    clear H1
    replace H := Option.bind_eq_some_iff.mp H
    obtain ⟨t442, A80, H⟩ := H
    replace H : (if t442 = true then ((sEq.f k l0_4 l1_4).bind fun t443 => (if t443 = true then ((sEq.f k l0_5 l1_5).bind fun t444 => (if t444 = true then ((sEq.f k l0_6 l1_6).bind fun t445 => (some t445)) else (some false))) else (some false))) else (some false)) = some r := H
    have A8 := Aside0.mk A80
    clear A80
    by_cases c9 : t442 = true
    ·subst c9
     have H1 : ((sEq.f k l0_4 l1_4).bind fun t443 => (if t443 = true then ((sEq.f k l0_5 l1_5).bind fun t444 => (if t444 = true then ((sEq.f k l0_6 l1_6).bind fun t445 => (some t445)) else (some false))) else (some false))) = some r := by rw [if_pos rfl] at H; exact H
     clear H
     have H := H1
     clear H1
     replace H := Option.bind_eq_some_iff.mp H
     obtain ⟨t443, A100, H⟩ := H
     replace H : (if t443 = true then ((sEq.f k l0_5 l1_5).bind fun t444 => (if t444 = true then ((sEq.f k l0_6 l1_6).bind fun t445 => (some t445)) else (some false))) else (some false)) = some r := H
     have A10 := Aside0.mk A100
     clear A100
     by_cases c11 : t443 = true
     ·subst c11
      have H1 : ((sEq.f k l0_5 l1_5).bind fun t444 => (if t444 = true then ((sEq.f k l0_6 l1_6).bind fun t445 => (some t445)) else (some false))) = some r := by rw [if_pos rfl] at H; exact H
      clear H
      have H := H1
      clear H1
      replace H := Option.bind_eq_some_iff.mp H
      obtain ⟨t444, A120, H⟩ := H
      replace H : (if t444 = true then ((sEq.f k l0_6 l1_6).bind fun t445 => (some t445)) else (some false)) = some r := H
      have A12 := Aside0.mk A120
      clear A120
      by_cases c13 : t444 = true
      ·subst c13
       have H1 : ((sEq.f k l0_6 l1_6).bind fun t445 => (some t445)) = some r := by rw [if_pos rfl] at H; exact H
       clear H
       have H := H1
       clear H1
       replace H := Option.bind_eq_some_iff.mp H
       obtain ⟨t445, A140, H⟩ := H
       replace H : (some t445) = some r := H
       have A14 := Aside0.mk A140
       clear A140
       obtain rfl := Option.some.inj H
       go_enter Try.func29, Try.ntmps29
       go_wp2_with (first | ((with_reducible refine gate_dst (N := 2) rfl ?_); refine box_event ?hg (N := 2) ?hd (cs := #[.slice A0_0 l0_0.length c0_0, .bool a0_1, .slice A0_2 l0_2.length c0_2, .slice A0_3 l0_3.length c0_3, .slice A0_4 l0_4.length c0_4, .slice A0_5 l0_5.length c0_5, .slice A0_6 l0_6.length c0_6]) (t := 62) ?hr ?_; (case hd => rfl); (case hg => rfl); (case hr => first | (go_simp; done) | (go_simp; rfl)); intro gb438 hg w15 hbox hb; have n0_ := Aside0.mk (below_step z16_0 hb); have n1_ := Aside0.mk (hbox); have n2_ := Aside0.mk ((z16_13 : w.heap.size ≤ gb438)); have n3_ := Aside0.mk ((z16_13 : w.heap.size ≤ gb438)); clear HB; have HB := n0_; have BK438 := n1_; have GW438 := n2_; have GE438 := n3_; clear n0_ n1_ n2_ n3_; clear hb hbox hg) | ((with_reducible refine gate_dst (N := 3) rfl ?_); refine box_event ?hg (N := 3) ?hd (cs := #[.slice A1_0 l1_0.length c1_0, .bool a1_1, .slice A1_2 l1_2.length c1_2, .slice A1_3 l1_3.length c1_3, .slice A1_4 l1_4.length c1_4, .slice A1_5 l1_5.length c1_5, .slice A1_6 l1_6.length c1_6]) (t := 62) ?hr ?_; (case hd => rfl); (case hg => rfl); (case hr => first | (go_simp; done) | (go_simp; rfl)); intro gb439 hg w16 hbox hb; have n0_ := Aside0.mk (blk_below (g := gb438) (o := .cells #[.slice A0_0 l0_0.length c0_0, .bool a0_1, .slice A0_2 l0_2.length c0_2, .slice A0_3 l0_3.length c0_3, .slice A0_4 l0_4.length c0_4, .slice A0_5 l0_5.length c0_5, .slice A0_6 l0_6.length c0_6] 62 (0, 0)) z16_15 hb); have n1_ := Aside0.mk (below_step z16_0 hb); have n2_ := Aside0.mk (hbox); have n3_ := Aside0.mk ((z16_13 : w.heap.size ≤ gb439)); have n4_ := Aside0.mk ((z16_13 : w.heap.size ≤ gb439)); have n5_ := Aside0.mk ((z16_3 : gb438 ≠ gb439)); have n6_ := Aside0.mk ((z16_4 : gb439 ≠ gb438)); clear BK438; clear HB; have BK438 := n0_; have HB := n1_; have BK439 := n2_; have GW439 := n3_; have GE439 := n4_; have NB438_439 := n5_; have NB439_438 := n6_; clear n0_ n1_ n2_ n3_ n4_ n5_ n6_; clear hb hbox hg; have hnb17 := NB438_439.out; have hnc17 := NB439_438.out; obtain ⟨hcz18_0, hcz18_1, hcz18_2, hcz18_3, hcz18_4, hcz18_5, hcz18_6⟩ := cz7x16 BK438.out; obtain ⟨hfz18_0, hfz18_1, hfz18_2, hfz18_3, hfz18_4, hfz18_5, hfz18_6⟩ := fz7x16 BK438.out; obtain ⟨hcz19_0, hcz19_1, hcz19_2, hcz19_3, hcz19_4, hcz19_5, hcz19_6⟩ := cz7x16 BK439.out; obtain ⟨hfz19_0, hfz19_1, hfz19_2, hfz19_3, hfz19_4, hfz19_5, hfz19_6⟩ := fz7x16 BK439.out) | (go_at_call 46; (with_reducible refine (sEq.calls k _ _ l0_0 _ _ l1_0 true _ ?side1 ?side2 ?side3 ?side4 A4.out).mono ?_); (case side1 => repeat (first | exact (Kd.C_below HR0_0.out HB.out) | (with_reducible refine Kd.C_alloc ?_ _) | (with_reducible refine Kd.C_drewN ?_ _) | (with_reducible refine Kd.C_drew ?_))); (case side2 => exact HC0_0.out); (case side3 => repeat (first | exact (Kd.C_below HR1_0.out HB.out) | (with_reducible refine Kd.C_alloc ?_ _) | (with_reducible refine Kd.C_drewN ?_ _) | (with_reducible refine Kd.C_drew ?_))); (case side4 => exact HC1_0.out); rintro e w' ⟨rfl, ⟨nd, rfl⟩⟩) | (go_at_call 46; (with_reducible refine (sEq.calls k _ _ l0_2 _ _ l1_2 true _ ?side1 ?side2 ?side3 ?side4 A6.out).mono ?_); (case side1 => repeat (first | exact (Kd.C_below HR0_2.out z16_0) | (with_reducible refine Kd.C_alloc ?_ _) | (with_reducible refine Kd.C_drewN ?_ _) | (with_reducible refine Kd.C_drew ?_))); (case side2 => exact HC0_2.out); (case side3 => repeat (first | exact (Kd.C_below HR1_2.out z16_0) | (with_reducible refine Kd.C_alloc ?_ _) | (with_reducible refine Kd.C_drewN ?_ _) | (with_reducible refine Kd.C_drew ?_))); (case side4 => exact HC1_2.out); rintro e w' ⟨rfl, ⟨nd, rfl⟩⟩) | (go_at_call 46; (with_reducible refine (sEq.calls k _ _ l0_3 _ _ l1_3 true _ ?side1 ?side2 ?side3 ?side4 A8.out).mono ?_); (case side1 => repeat (first | exact (Kd.C_below HR0_3.out z16_0) | (with_reducible refine Kd.C_alloc ?_ _) | (with_reducible refine Kd.C_drewN ?_ _) | (with_reducible refine Kd.C_drew ?_))); (case side2 => exact HC0_3.out); (case side3 => repeat (first | exact (Kd.C_below HR1_3.out z16_0) | (with_reducible refine Kd.C_alloc ?_ _) | (with_reducible refine Kd.C_drewN ?_ _) | (with_reducible refine Kd.C_drew ?_))); (case side4 => exact HC1_3.out); rintro e w' ⟨rfl, ⟨nd, rfl⟩⟩) | (go_at_call 46; (with_reducible refine (sEq.calls k _ _ l0_4 _ _ l1_4 true _ ?side1 ?side2 ?side3 ?side4 A10.out).mono ?_); (case side1 => repeat (first | exact (Kd.C_below HR0_4.out z16_0) | (with_reducible refine Kd.C_alloc ?_ _) | (with_reducible refine Kd.C_drewN ?_ _) | (with_reducible refine Kd.C_drew ?_))); (case side2 => exact HC0_4.out); (case side3 => repeat (first | exact (Kd.C_below HR1_4.out z16_0) | (with_reducible refine Kd.C_alloc ?_ _) | (with_reducible refine Kd.C_drewN ?_ _) | (with_reducible refine Kd.C_drew ?_))); (case side4 => exact HC1_4.out); rintro e w' ⟨rfl, ⟨nd, rfl⟩⟩) | (go_at_call 46; (with_reducible refine (sEq.calls k _ _ l0_5 _ _ l1_5 true _ ?side1 ?side2 ?side3 ?side4 A12.out).mono ?_); (case side1 => repeat (first | exact (Kd.C_below HR0_5.out z16_0) | (with_reducible refine Kd.C_alloc ?_ _) | (with_reducible refine Kd.C_drewN ?_ _) | (with_reducible refine Kd.C_drew ?_))); (case side2 => exact HC0_5.out); (case side3 => repeat (first | exact (Kd.C_below HR1_5.out z16_0) | (with_reducible refine Kd.C_alloc ?_ _) | (with_reducible refine Kd.C_drewN ?_ _) | (with_reducible refine Kd.C_drew ?_))); (case side4 => exact HC1_5.out); rintro e w' ⟨rfl, ⟨nd, rfl⟩⟩) | (go_at_call 46; (with_reducible refine (sEq.calls k _ _ l0_6 _ _ l1_6 t445 _ ?side1 ?side2 ?side3 ?side4 A14.out).mono ?_); (case side1 => repeat (first | exact (Kd.C_below HR0_6.out z16_0) | (with_reducible refine Kd.C_alloc ?_ _) | (with_reducible refine Kd.C_drewN ?_ _) | (with_reducible refine Kd.C_drew ?_))); (case side2 => exact HC0_6.out); (case side3 => repeat (first | exact (Kd.C_below HR1_6.out z16_0) | (with_reducible refine Kd.C_alloc ?_ _) | (with_reducible refine Kd.C_drewN ?_ _) | (with_reducible refine Kd.C_drew ?_))); (case side4 => exact HC1_6.out); rintro e w' ⟨rfl, ⟨nd, rfl⟩⟩))
       go_ret
       exact ⟨by first | rfl | (simp [errW_none, errW_some] <;> rfl) | (simp [*, errW_none, errW_some] <;> rfl), by repeat (first | (with_reducible first | exact HB.out | apply below_alloc | apply pw_below_drewN | apply below_drew1 | refine below_set ?_ GE438.out | refine below_set ?_ GE439.out | refine below_set ?_ GE447.out | refine below_set ?_ GE449.out) | exact HB.out)⟩
      ·replace c13 := Bool.eq_false_iff.mpr c13
       subst c13
       have H1 : (some false) = some r := by rw [if_neg (show ¬ (false = true) by decide)] at H; exact H
       clear H
       have H := H1
       clear H1
       obtain rfl := Option.some.inj H
       go_enter Try.func29, Try.ntmps29
       go_wp2_with (first | ((with_reducible refine gate_dst (N := 2) rfl ?_); refine box_event ?hg (N := 2) ?hd (cs := #[.slice A0_0 l0_0.length c0_0, .bool a0_1, .slice A0_2 l0_2.length c0_2, .slice A0_3 l0_3.length c0_3, .slice A0_4 l0_4.length c0_4, .slice A0_5 l0_5.length c0_5, .slice A0_6 l0_6.length c0_6]) (t := 62) ?hr ?_; (case hd => rfl); (case hg => rfl); (case hr => first | (go_simp; done) | (go_simp; rfl)); intro gb438 hg w20 hbox hb; have n0_ := Aside0.mk (below_step z16_0 hb); have n1_ := Aside0.mk (hbox); have n2_ := Aside0.mk ((z16_13 : w.heap.size ≤ gb438)); have n3_ := Aside0.mk ((z16_13 : w.heap.size ≤ gb438)); clear HB; have HB := n0_; have BK438 := n1_; have GW438 := n2_; have GE438 := n3_; clear n0_ n1_ n2_ n3_; clear hb hbox hg) | ((with_reducible refine gate_dst (N := 3) rfl ?_); refine box_event ?hg (N := 3) ?hd (cs := #[.slice A1_0 l1_0.length c1_0, .bool a1_1, .slice A1_2 l1_2.length c1_2, .slice A1_3 l1_3.length c1_3, .slice A1_4 l1_4.length c1_4, .slice A1_5 l1_5.length c1_5, .slice A1_6 l1_6.length c1_6]) (t := 62) ?hr ?_; (case hd => rfl); (case hg => rfl); (case hr => first | (go_simp; done) | (go_simp; rfl)); intro gb439 hg w21 hbox hb; have n0_ := Aside0.mk (blk_below (g := gb438) (o := .cells #[.slice A0_0 l0_0.length c0_0, .bool a0_1, .slice A0_2 l0_2.length c0_2, .slice A0_3 l0_3.length c0_3, .slice A0_4 l0_4.length c0_4, .slice A0_5 l0_5.length c0_5, .slice A0_6 l0_6.length c0_6] 62 (0, 0)) z16_15 hb); have n1_ := Aside0.mk (below_step z16_0 hb); have n2_ := Aside0.mk (hbox); have n3_ := Aside0.mk ((z16_13 : w.heap.size ≤ gb439)); have n4_ := Aside0.mk ((z16_13 : w.heap.size ≤ gb439)); have n5_ := Aside0.mk ((z16_3 : gb438 ≠ gb439)); have n6_ := Aside0.mk ((z16_4 : gb439 ≠ gb438)); clear BK438; clear HB; have BK438 := n0_; have HB := n1_; have BK439 := n2_; have GW439 := n3_; have GE439 := n4_; have NB438_439 := n5_; have NB439_438 := n6_; clear n0_ n1_ n2_ n3_ n4_ n5_ n6_; clear hb hbox hg; have hnb22 := NB438_439.out; have hnc22 := NB439_438.out; obtain ⟨hcz23_0, hcz23_1, hcz23_2, hcz23_3, hcz23_4, hcz23_5, hcz23_6⟩ := cz7x16 BK438.out; obtain ⟨hfz23_0, hfz23_1, hfz23_2, hfz23_3, hfz23_4, hfz23_5, hfz23_6⟩ := fz7x16 BK438.out; obtain ⟨hcz24_0, hcz24_1, hcz24_2, hcz24_3, hcz24_4, hcz24_5, hcz24_6⟩ := cz7x16 BK439.out; obtain ⟨hfz24_0, hfz24_1, hfz24_2, hfz24_3, hfz24_4, hfz24_5, hfz24_6⟩ := fz7x16 BK439.out) | (go_at_call 46; (with_reducible refine (sEq.calls k _ _ l0_0 _ _ l1_0 true _ ?side1 ?side2 ?side3 ?side4 A4.out).mono ?_); (case side1 => repeat (first | exact (Kd.C_below HR0_0.out HB.out) | (with_reducible refine Kd.C_alloc ?_ _) | (with_reducible refine Kd.C_drewN ?_ _) | (with_reducible refine Kd.C_drew ?_))); (case side2 => exact HC0_0.out); (case side3 => repeat (first | exact (Kd.C_below HR1_0.out HB.out) | (with_reducible refine Kd.C_alloc ?_ _) | (with_reducible refine Kd.C_drewN ?_ _) | (with_reducible refine Kd.C_drew ?_))); (case side4 => exact HC1_0.out); rintro e w' ⟨rfl, ⟨nd, rfl⟩⟩) | (go_at_call 46; (with_reducible refine (sEq.calls k _ _ l0_2 _ _ l1_2 true _ ?side1 ?side2 ?side3 ?side4 A6.out).mono ?_); (case side1 => repeat (first | exact (Kd.C_below HR0_2.out z16_0) | (with_reducible refine Kd.C_alloc ?_ _) | (with_reducible refine Kd.C_drewN ?_ _) | (with_reducible refine Kd.C_drew ?_))); (case side2 => exact HC0_2.out); (case side3 => repeat (first | exact (Kd.C_below HR1_2.out z16_0) | (with_reducible refine Kd.C_alloc ?_ _) | (with_reducible refine Kd.C_drewN ?_ _) | (with_reducible refine Kd.C_drew ?_))); (case side4 => exact HC1_2.out); rintro e w' ⟨rfl, ⟨nd, rfl⟩⟩) | (go_at_call 46; (with_reducible refine (sEq.calls k _ _ l0_3 _ _ l1_3 true _ ?side1 ?side2 ?side3 ?side4 A8.out).mono ?_); (case side1 => repeat (first | exact (Kd.C_below HR0_3.out z16_0) | (with_reducible refine Kd.C_alloc ?_ _) | (with_reducible refine Kd.C_drewN ?_ _) | (with_reducible refine Kd.C_drew ?_))); (case side2 => exact HC0_3.out); (case side3 => repeat (first | exact (Kd.C_below HR1_3.out z16_0) | (with_reducible refine Kd.C_alloc ?_ _) | (with_reducible refine Kd.C_drewN ?_ _) | (with_reducible refine Kd.C_drew ?_))); (case side4 => exact HC1_3.out); rintro e w' ⟨rfl, ⟨nd, rfl⟩⟩) | (go_at_call 46; (with_reducible refine (sEq.calls k _ _ l0_4 _ _ l1_4 true _ ?side1 ?side2 ?side3 ?side4 A10.out).mono ?_); (case side1 => repeat (first | exact (Kd.C_below HR0_4.out z16_0) | (with_reducible refine Kd.C_alloc ?_ _) | (with_reducible refine Kd.C_drewN ?_ _) | (with_reducible refine Kd.C_drew ?_))); (case side2 => exact HC0_4.out); (case side3 => repeat (first | exact (Kd.C_below HR1_4.out z16_0) | (with_reducible refine Kd.C_alloc ?_ _) | (with_reducible refine Kd.C_drewN ?_ _) | (with_reducible refine Kd.C_drew ?_))); (case side4 => exact HC1_4.out); rintro e w' ⟨rfl, ⟨nd, rfl⟩⟩) | (go_at_call 46; (with_reducible refine (sEq.calls k _ _ l0_5 _ _ l1_5 false _ ?side1 ?side2 ?side3 ?side4 A12.out).mono ?_); (case side1 => repeat (first | exact (Kd.C_below HR0_5.out z16_0) | (with_reducible refine Kd.C_alloc ?_ _) | (with_reducible refine Kd.C_drewN ?_ _) | (with_reducible refine Kd.C_drew ?_))); (case side2 => exact HC0_5.out); (case side3 => repeat (first | exact (Kd.C_below HR1_5.out z16_0) | (with_reducible refine Kd.C_alloc ?_ _) | (with_reducible refine Kd.C_drewN ?_ _) | (with_reducible refine Kd.C_drew ?_))); (case side4 => exact HC1_5.out); rintro e w' ⟨rfl, ⟨nd, rfl⟩⟩))
       go_ret
       exact ⟨by first | rfl | (simp [errW_none, errW_some] <;> rfl) | (simp [*, errW_none, errW_some] <;> rfl), by repeat (first | (with_reducible first | exact HB.out | apply below_alloc | apply pw_below_drewN | apply below_drew1 | refine below_set ?_ GE438.out | refine below_set ?_ GE439.out | refine below_set ?_ GE447.out | refine below_set ?_ GE449.out) | exact HB.out)⟩
     ·replace c11 := Bool.eq_false_iff.mpr c11
      subst c11
      have H1 : (some false) = some r := by rw [if_neg (show ¬ (false = true) by decide)] at H; exact H
      clear H
      have H := H1
      clear H1
      obtain rfl := Option.some.inj H
      go_enter Try.func29, Try.ntmps29
      go_wp2_with (first | ((with_reducible refine gate_dst (N := 2) rfl ?_); refine box_event ?hg (N := 2) ?hd (cs := #[.slice A0_0 l0_0.length c0_0, .bool a0_1, .slice A0_2 l0_2.length c0_2, .slice A0_3 l0_3.length c0_3, .slice A0_4 l0_4.length c0_4, .slice A0_5 l0_5.length c0_5, .slice A0_6 l0_6.length c0_6]) (t := 62) ?hr ?_; (case hd => rfl); (case hg => rfl); (case hr => first | (go_simp; done) | (go_simp; rfl)); intro gb438 hg w25 hbox hb; have n0_ := Aside0.mk (below_step z16_0 hb); have n1_ := Aside0.mk (hbox); have n2_ := Aside0.mk ((z16_13 : w.heap.size ≤ gb438)); have n3_ := Aside0.mk ((z16_13 : w.heap.size ≤ gb438)); clear HB; have HB := n0_; have BK438 := n1_; have GW438 := n2_; have GE438 := n3_; clear n0_ n1_ n2_ n3_; clear hb hbox hg) | ((with_reducible refine gate_dst (N := 3) rfl ?_); refine box_event ?hg (N := 3) ?hd (cs := #[.slice A1_0 l1_0.length c1_0, .bool a1_1, .slice A1_2 l1_2.length c1_2, .slice A1_3 l1_3.length c1_3, .slice A1_4 l1_4.length c1_4, .slice A1_5 l1_5.length c1_5, .slice A1_6 l1_6.length c1_6]) (t := 62) ?hr ?_; (case hd => rfl); (case hg => rfl); (case hr => first | (go_simp; done) | (go_simp; rfl)); intro gb439 hg w26 hbox hb; have n0_ := Aside0.mk (blk_below (g := gb438) (o := .cells #[.slice A0_0 l0_0.length c0_0, .bool a0_1, .slice A0_2 l0_2.length c0_2, .slice A0_3 l0_3.length c0_3, .slice A0_4 l0_4.length c0_4, .slice A0_5 l0_5.length c0_5, .slice A0_6 l0_6.length c0_6] 62 (0, 0)) z16_15 hb); have n1_ := Aside0.mk (below_step z16_0 hb); have n2_ := Aside0.mk (hbox); have n3_ := Aside0.mk ((z16_13 : w.heap.size ≤ gb439)); have n4_ := Aside0.mk ((z16_13 : w.heap.size ≤ gb439)); have n5_ := Aside0.mk ((z16_3 : gb438 ≠ gb439)); have n6_ := Aside0.mk ((z16_4 : gb439 ≠ gb438)); clear BK438; clear HB; have BK438 := n0_; have HB := n1_; have BK439 := n2_; have GW439 := n3_; have GE439 := n4_; have NB438_439 := n5_; have NB439_438 := n6_; clear n0_ n1_ n2_ n3_ n4_ n5_ n6_; clear hb hbox hg; have hnb27 := NB438_439.out; have hnc27 := NB439_438.out; obtain ⟨hcz28_0, hcz28_1, hcz28_2, hcz28_3, hcz28_4, hcz28_5, hcz28_6⟩ := cz7x16 BK438.out; obtain ⟨hfz28_0, hfz28_1, hfz28_2, hfz28_3, hfz28_4, hfz28_5, hfz28_6⟩ := fz7x16 BK438.out; obtain ⟨hcz29_0, hcz29_1, hcz29_2, hcz29_3, hcz29_4, hcz29_5, hcz29_6⟩ := cz7x16 BK439.out; obtain ⟨hfz29_0, hfz29_1, hfz29_2, hfz29_3, hfz29_4, hfz29_5, hfz29_6⟩ := fz7x16 BK439.out) | (go_at_call 46; (with_reducible refine (sEq.calls k _ _ l0_0 _ _ l1_0 true _ ?side1 ?side2 ?side3 ?side4 A4.out).mono ?_); (case side1 => repeat (first | exact (Kd.C_below HR0_0.out HB.out) | (with_reducible refine Kd.C_alloc ?_ _) | (with_reducible refine Kd.C_drewN ?_ _) | (with_reducible refine Kd.C_drew ?_))); (case side2 => exact HC0_0.out); (case side3 => repeat (first | exact (Kd.C_below HR1_0.out HB.out) | (with_reducible refine Kd.C_alloc ?_ _) | (with_reducible refine Kd.C_drewN ?_ _) | (with_reducible refine Kd.C_drew ?_))); (case side4 => exact HC1_0.out); rintro e w' ⟨rfl, ⟨nd, rfl⟩⟩) | (go_at_call 46; (with_reducible refine (sEq.calls k _ _ l0_2 _ _ l1_2 true _ ?side1 ?side2 ?side3 ?side4 A6.out).mono ?_); (case side1 => repeat (first | exact (Kd.C_below HR0_2.out z16_0) | (with_reducible refine Kd.C_alloc ?_ _) | (with_reducible refine Kd.C_drewN ?_ _) | (with_reducible refine Kd.C_drew ?_))); (case side2 => exact HC0_2.out); (case side3 => repeat (first | exact (Kd.C_below HR1_2.out z16_0) | (with_reducible refine Kd.C_alloc ?_ _) | (with_reducible refine Kd.C_drewN ?_ _) | (with_reducible refine Kd.C_drew ?_))); (case side4 => exact HC1_2.out); rintro e w' ⟨rfl, ⟨nd, rfl⟩⟩) | (go_at_call 46; (with_reducible refine (sEq.calls k _ _ l0_3 _ _ l1_3 true _ ?side1 ?side2 ?side3 ?side4 A8.out).mono ?_); (case side1 => repeat (first | exact (Kd.C_below HR0_3.out z16_0) | (with_reducible refine Kd.C_alloc ?_ _) | (with_reducible refine Kd.C_drewN ?_ _) | (with_reducible refine Kd.C_drew ?_))); (case side2 => exact HC0_3.out); (case side3 => repeat (first | exact (Kd.C_below HR1_3.out z16_0) | (with_reducible refine Kd.C_alloc ?_ _) | (with_reducible refine Kd.C_drewN ?_ _) | (with_reducible refine Kd.C_drew ?_))); (case side4 => exact HC1_3.out); rintro e w' ⟨rfl, ⟨nd, rfl⟩⟩) | (go_at_call 46; (with_reducible refine (sEq.calls k _ _ l0_4 _ _ l1_4 false _ ?side1 ?side2 ?side3 ?side4 A10.out).mono ?_); (case side1 => repeat (first | exact (Kd.C_below HR0_4.out z16_0) | (with_reducible refine Kd.C_alloc ?_ _) | (with_reducible refine Kd.C_drewN ?_ _) | (with_reducible refine Kd.C_drew ?_))); (case side2 => exact HC0_4.out); (case side3 => repeat (first | exact (Kd.C_below HR1_4.out z16_0) | (with_reducible refine Kd.C_alloc ?_ _) | (with_reducible refine Kd.C_drewN ?_ _) | (with_reducible refine Kd.C_drew ?_))); (case side4 => exact HC1_4.out); rintro e w' ⟨rfl, ⟨nd, rfl⟩⟩))
      go_ret
      exact ⟨by first | rfl | (simp [errW_none, errW_some] <;> rfl) | (simp [*, errW_none, errW_some] <;> rfl), by repeat (first | (with_reducible first | exact HB.out | apply below_alloc | apply pw_below_drewN | apply below_drew1 | refine below_set ?_ GE438.out | refine below_set ?_ GE439.out | refine below_set ?_ GE447.out | refine below_set ?_ GE449.out) | exact HB.out)⟩
    ·replace c9 := Bool.eq_false_iff.mpr c9
     subst c9
     have H1 : (some false) = some r := by rw [if_neg (show ¬ (false = true) by decide)] at H; exact H
     clear H
     have H := H1
     clear H1
     obtain rfl := Option.some.inj H
     go_enter Try.func29, Try.ntmps29
     go_wp2_with (first | ((with_reducible refine gate_dst (N := 2) rfl ?_); refine box_event ?hg (N := 2) ?hd (cs := #[.slice A0_0 l0_0.length c0_0, .bool a0_1, .slice A0_2 l0_2.length c0_2, .slice A0_3 l0_3.length c0_3, .slice A0_4 l0_4.length c0_4, .slice A0_5 l0_5.length c0_5, .slice A0_6 l0_6.length c0_6]) (t := 62) ?hr ?_; (case hd => rfl); (case hg => rfl); (case hr => first | (go_simp; done) | (go_simp; rfl)); intro gb438 hg w30 hbox hb; have n0_ := Aside0.mk (below_step z16_0 hb); have n1_ := Aside0.mk (hbox); have n2_ := Aside0.mk ((z16_13 : w.heap.size ≤ gb438)); have n3_ := Aside0.mk ((z16_13 : w.heap.size ≤ gb438)); clear HB; have HB := n0_; have BK438 := n1_; have GW438 := n2_; have GE438 := n3_; clear n0_ n1_ n2_ n3_; clear hb hbox hg) | ((with_reducible refine gate_dst (N := 3) rfl ?_); refine box_event ?hg (N := 3) ?hd (cs := #[.slice A1_0 l1_0.length c1_0, .bool a1_1, .slice A1_2 l1_2.length c1_2, .slice A1_3 l1_3.length c1_3, .slice A1_4 l1_4.length c1_4, .slice A1_5 l1_5.length c1_5, .slice A1_6 l1_6.length c1_6]) (t := 62) ?hr ?_; (case hd => rfl); (case hg => rfl); (case hr => first | (go_simp; done) | (go_simp; rfl)); intro gb439 hg w31 hbox hb; have n0_ := Aside0.mk (blk_below (g := gb438) (o := .cells #[.slice A0_0 l0_0.length c0_0, .bool a0_1, .slice A0_2 l0_2.length c0_2, .slice A0_3 l0_3.length c0_3, .slice A0_4 l0_4.length c0_4, .slice A0_5 l0_5.length c0_5, .slice A0_6 l0_6.length c0_6] 62 (0, 0)) z16_15 hb); have n1_ := Aside0.mk (below_step z16_0 hb); have n2_ := Aside0.mk (hbox); have n3_ := Aside0.mk ((z16_13 : w.heap.size ≤ gb439)); have n4_ := Aside0.mk ((z16_13 : w.heap.size ≤ gb439)); have n5_ := Aside0.mk ((z16_3 : gb438 ≠ gb439)); have n6_ := Aside0.mk ((z16_4 : gb439 ≠ gb438)); clear BK438; clear HB; have BK438 := n0_; have HB := n1_; have BK439 := n2_; have GW439 := n3_; have GE439 := n4_; have NB438_439 := n5_; have NB439_438 := n6_; clear n0_ n1_ n2_ n3_ n4_ n5_ n6_; clear hb hbox hg; have hnb32 := NB438_439.out; have hnc32 := NB439_438.out; obtain ⟨hcz33_0, hcz33_1, hcz33_2, hcz33_3, hcz33_4, hcz33_5, hcz33_6⟩ := cz7x16 BK438.out; obtain ⟨hfz33_0, hfz33_1, hfz33_2, hfz33_3, hfz33_4, hfz33_5, hfz33_6⟩ := fz7x16 BK438.out; obtain ⟨hcz34_0, hcz34_1, hcz34_2, hcz34_3, hcz34_4, hcz34_5, hcz34_6⟩ := cz7x16 BK439.out; obtain ⟨hfz34_0, hfz34_1, hfz34_2, hfz34_3, hfz34_4, hfz34_5, hfz34_6⟩ := fz7x16 BK439.out) | (go_at_call 46; (with_reducible refine (sEq.calls k _ _ l0_0 _ _ l1_0 true _ ?side1 ?side2 ?side3 ?side4 A4.out).mono ?_); (case side1 => repeat (first | exact (Kd.C_below HR0_0.out HB.out) | (with_reducible refine Kd.C_alloc ?_ _) | (with_reducible refine Kd.C_drewN ?_ _) | (with_reducible refine Kd.C_drew ?_))); (case side2 => exact HC0_0.out); (case side3 => repeat (first | exact (Kd.C_below HR1_0.out HB.out) | (with_reducible refine Kd.C_alloc ?_ _) | (with_reducible refine Kd.C_drewN ?_ _) | (with_reducible refine Kd.C_drew ?_))); (case side4 => exact HC1_0.out); rintro e w' ⟨rfl, ⟨nd, rfl⟩⟩) | (go_at_call 46; (with_reducible refine (sEq.calls k _ _ l0_2 _ _ l1_2 true _ ?side1 ?side2 ?side3 ?side4 A6.out).mono ?_); (case side1 => repeat (first | exact (Kd.C_below HR0_2.out z16_0) | (with_reducible refine Kd.C_alloc ?_ _) | (with_reducible refine Kd.C_drewN ?_ _) | (with_reducible refine Kd.C_drew ?_))); (case side2 => exact HC0_2.out); (case side3 => repeat (first | exact (Kd.C_below HR1_2.out z16_0) | (with_reducible refine Kd.C_alloc ?_ _) | (with_reducible refine Kd.C_drewN ?_ _) | (with_reducible refine Kd.C_drew ?_))); (case side4 => exact HC1_2.out); rintro e w' ⟨rfl, ⟨nd, rfl⟩⟩) | (go_at_call 46; (with_reducible refine (sEq.calls k _ _ l0_3 _ _ l1_3 false _ ?side1 ?side2 ?side3 ?side4 A8.out).mono ?_); (case side1 => repeat (first | exact (Kd.C_below HR0_3.out z16_0) | (with_reducible refine Kd.C_alloc ?_ _) | (with_reducible refine Kd.C_drewN ?_ _) | (with_reducible refine Kd.C_drew ?_))); (case side2 => exact HC0_3.out); (case side3 => repeat (first | exact (Kd.C_below HR1_3.out z16_0) | (with_reducible refine Kd.C_alloc ?_ _) | (with_reducible refine Kd.C_drewN ?_ _) | (with_reducible refine Kd.C_drew ?_))); (case side4 => exact HC1_3.out); rintro e w' ⟨rfl, ⟨nd, rfl⟩⟩))
     go_ret
     exact ⟨by first | rfl | (simp [errW_none, errW_some] <;> rfl) | (simp [*, errW_none, errW_some] <;> rfl), by repeat (first | (with_reducible first | exact HB.out | apply below_alloc | apply pw_below_drewN | apply below_drew1 | refine below_set ?_ GE438.out | refine below_set ?_ GE439.out | refine below_set ?_ GE447.out | refine below_set ?_ GE449.out) | exact HB.out)⟩
   ·replace c7 := Bool.eq_false_iff.mpr c7
    subst c7
    have H1 : (some false) = some r := by rw [if_neg (show ¬ (false = true) by decide)] at H; exact H
    clear H
    have H := H1
    clear H1
    obtain rfl := Option.some.inj H
    go_enter Try.func29, Try.ntmps29
    go_wp2_with (first | ((with_reducible refine gate_dst (N := 2) rfl ?_); refine box_event ?hg (N := 2) ?hd (cs := #[.slice A0_0 l0_0.length c0_0, .bool a0_1, .slice A0_2 l0_2.length c0_2, .slice A0_3 l0_3.length c0_3, .slice A0_4 l0_4.length c0_4, .slice A0_5 l0_5.length c0_5, .slice A0_6 l0_6.length c0_6]) (t := 62) ?hr ?_; (case hd => rfl); (case hg => rfl); (case hr => first | (go_simp; done) | (go_simp; rfl)); intro gb438 hg w35 hbox hb; have n0_ := Aside0.mk (below_step z16_0 hb); have n1_ := Aside0.mk (hbox); have n2_ := Aside0.mk ((z16_13 : w.heap.size ≤ gb438)); have n3_ := Aside0.mk ((z16_13 : w.heap.size ≤ gb438)); clear HB; have HB := n0_; have BK438 := n1_; have GW438 := n2_; have GE438 := n3_; clear n0_ n1_ n2_ n3_; clear hb hbox hg) | ((with_reducible refine gate_dst (N := 3) rfl ?_); refine box_event ?hg (N := 3) ?hd (cs := #[.slice A1_0 l1_0.length c1_0, .bool a1_1, .slice A1_2 l1_2.length c1_2, .slice A1_3 l1_3.length c1_3, .slice A1_4 l1_4.length c1_4, .slice A1_5 l1_5.length c1_5, .slice A1_6 l1_6.length c1_6]) (t := 62) ?hr ?_; (case hd => rfl); (case hg => rfl); (case hr => first | (go_simp; done) | (go_simp; rfl)); intro gb439 hg w36 hbox hb; have n0_ := Aside0.mk (blk_below (g := gb438) (o := .cells #[.slice A0_0 l0_0.length c0_0, .bool a0_1, .slice A0_2 l0_2.length c0_2, .slice A0_3 l0_3.length c0_3, .slice A0_4 l0_4.length c0_4, .slice A0_5 l0_5.length c0_5, .slice A0_6 l0_6.length c0_6] 62 (0, 0)) z16_15 hb); have n1_ := Aside0.mk (below_step z16_0 hb); have n2_ := Aside0.mk (hbox); have n3_ := Aside0.mk ((z16_13 : w.heap.size ≤ gb439)); have n4_ := Aside0.mk ((z16_13 : w.heap.size ≤ gb439)); have n5_ := Aside0.mk ((z16_3 : gb438 ≠ gb439)); have n6_ := Aside0.mk ((z16_4 : gb439 ≠ gb438)); clear BK438; clear HB; have BK438 := n0_; have HB := n1_; have BK439 := n2_; have GW439 := n3_; have GE439 := n4_; have NB438_439 := n5_; have NB439_438 := n6_; clear n0_ n1_ n2_ n3_ n4_ n5_ n6_; clear hb hbox hg; have hnb37 := NB438_439.out; have hnc37 := NB439_438.out; obtain ⟨hcz38_0, hcz38_1, hcz38_2, hcz38_3, hcz38_4, hcz38_5, hcz38_6⟩ := cz7x16 BK438.out; obtain ⟨hfz38_0, hfz38_1, hfz38_2, hfz38_3, hfz38_4, hfz38_5, hfz38_6⟩ := fz7x16 BK438.out; obtain ⟨hcz39_0, hcz39_1, hcz39_2, hcz39_3, hcz39_4, hcz39_5, hcz39_6⟩ := cz7x16 BK439.out; obtain ⟨hfz39_0, hfz39_1, hfz39_2, hfz39_3, hfz39_4, hfz39_5, hfz39_6⟩ := fz7x16 BK439.out) | (go_at_call 46; (with_reducible refine (sEq.calls k _ _ l0_0 _ _ l1_0 true _ ?side1 ?side2 ?side3 ?side4 A4.out).mono ?_); (case side1 => repeat (first | exact (Kd.C_below HR0_0.out HB.out) | (with_reducible refine Kd.C_alloc ?_ _) | (with_reducible refine Kd.C_drewN ?_ _) | (with_reducible refine Kd.C_drew ?_))); (case side2 => exact HC0_0.out); (case side3 => repeat (first | exact (Kd.C_below HR1_0.out HB.out) | (with_reducible refine Kd.C_alloc ?_ _) | (with_reducible refine Kd.C_drewN ?_ _) | (with_reducible refine Kd.C_drew ?_))); (case side4 => exact HC1_0.out); rintro e w' ⟨rfl, ⟨nd, rfl⟩⟩) | (go_at_call 46; (with_reducible refine (sEq.calls k _ _ l0_2 _ _ l1_2 false _ ?side1 ?side2 ?side3 ?side4 A6.out).mono ?_); (case side1 => repeat (first | exact (Kd.C_below HR0_2.out z16_0) | (with_reducible refine Kd.C_alloc ?_ _) | (with_reducible refine Kd.C_drewN ?_ _) | (with_reducible refine Kd.C_drew ?_))); (case side2 => exact HC0_2.out); (case side3 => repeat (first | exact (Kd.C_below HR1_2.out z16_0) | (with_reducible refine Kd.C_alloc ?_ _) | (with_reducible refine Kd.C_drewN ?_ _) | (with_reducible refine Kd.C_drew ?_))); (case side4 => exact HC1_2.out); rintro e w' ⟨rfl, ⟨nd, rfl⟩⟩))
    go_ret
    exact ⟨by first | rfl | (simp [errW_none, errW_some] <;> rfl) | (simp [*, errW_none, errW_some] <;> rfl), by repeat (first | (with_reducible first | exact HB.out | apply below_alloc | apply pw_below_drewN | apply below_drew1 | refine below_set ?_ GE438.out | refine below_set ?_ GE439.out | refine below_set ?_ GE447.out | refine below_set ?_ GE449.out) | exact HB.out)⟩
  ·replace c5 := Bool.eq_false_iff.mpr c5
   subst c5
   have H1 : (some false) = some r := by rw [if_neg (show ¬ (false = true) by decide)] at H; exact H
   clear H
   have H := H1
   clear H1
   obtain rfl := Option.some.inj H
   go_enter Try.func29, Try.ntmps29
   go_wp2_with (first | ((with_reducible refine gate_dst (N := 2) rfl ?_); refine box_event ?hg (N := 2) ?hd (cs := #[.slice A0_0 l0_0.length c0_0, .bool a0_1, .slice A0_2 l0_2.length c0_2, .slice A0_3 l0_3.length c0_3, .slice A0_4 l0_4.length c0_4, .slice A0_5 l0_5.length c0_5, .slice A0_6 l0_6.length c0_6]) (t := 62) ?hr ?_; (case hd => rfl); (case hg => rfl); (case hr => first | (go_simp; done) | (go_simp; rfl)); intro gb438 hg w40 hbox hb; have n0_ := Aside0.mk (below_step z16_0 hb); have n1_ := Aside0.mk (hbox); have n2_ := Aside0.mk ((z16_13 : w.heap.size ≤ gb438)); have n3_ := Aside0.mk ((z16_13 : w.heap.size ≤ gb438)); clear HB; have HB := n0_; have BK438 := n1_; have GW438 := n2_; have GE438 := n3_; clear n0_ n1_ n2_ n3_; clear hb hbox hg) | ((with_reducible refine gate_dst (N := 3) rfl ?_); refine box_event ?hg (N := 3) ?hd (cs := #[.slice A1_0 l1_0.length c1_0, .bool a1_1, .slice A1_2 l1_2.length c1_2, .slice A1_3 l1_3.length c1_3, .slice A1_4 l1_4.length c1_4, .slice A1_5 l1_5.length c1_5, .slice A1_6 l1_6.length c1_6]) (t := 62) ?hr ?_; (case hd => rfl); (case hg => rfl); (case hr => first | (go_simp; done) | (go_simp; rfl)); intro gb439 hg w41 hbox hb; have n0_ := Aside0.mk (blk_below (g := gb438) (o := .cells #[.slice A0_0 l0_0.length c0_0, .bool a0_1, .slice A0_2 l0_2.length c0_2, .slice A0_3 l0_3.length c0_3, .slice A0_4 l0_4.length c0_4, .slice A0_5 l0_5.length c0_5, .slice A0_6 l0_6.length c0_6] 62 (0, 0)) z16_15 hb); have n1_ := Aside0.mk (below_step z16_0 hb); have n2_ := Aside0.mk (hbox); have n3_ := Aside0.mk ((z16_13 : w.heap.size ≤ gb439)); have n4_ := Aside0.mk ((z16_13 : w.heap.size ≤ gb439)); have n5_ := Aside0.mk ((z16_3 : gb438 ≠ gb439)); have n6_ := Aside0.mk ((z16_4 : gb439 ≠ gb438)); clear BK438; clear HB; have BK438 := n0_; have HB := n1_; have BK439 := n2_; have GW439 := n3_; have GE439 := n4_; have NB438_439 := n5_; have NB439_438 := n6_; clear n0_ n1_ n2_ n3_ n4_ n5_ n6_; clear hb hbox hg; have hnb42 := NB438_439.out; have hnc42 := NB439_438.out; obtain ⟨hcz43_0, hcz43_1, hcz43_2, hcz43_3, hcz43_4, hcz43_5, hcz43_6⟩ := cz7x16 BK438.out; obtain ⟨hfz43_0, hfz43_1, hfz43_2, hfz43_3, hfz43_4, hfz43_5, hfz43_6⟩ := fz7x16 BK438.out; obtain ⟨hcz44_0, hcz44_1, hcz44_2, hcz44_3, hcz44_4, hcz44_5, hcz44_6⟩ := cz7x16 BK439.out; obtain ⟨hfz44_0, hfz44_1, hfz44_2, hfz44_3, hfz44_4, hfz44_5, hfz44_6⟩ := fz7x16 BK439.out) | (go_at_call 46; (with_reducible refine (sEq.calls k _ _ l0_0 _ _ l1_0 false _ ?side1 ?side2 ?side3 ?side4 A4.out).mono ?_); (case side1 => repeat (first | exact (Kd.C_below HR0_0.out HB.out) | (with_reducible refine Kd.C_alloc ?_ _) | (with_reducible refine Kd.C_drewN ?_ _) | (with_reducible refine Kd.C_drew ?_))); (case side2 => exact HC0_0.out); (case side3 => repeat (first | exact (Kd.C_below HR1_0.out HB.out) | (with_reducible refine Kd.C_alloc ?_ _) | (with_reducible refine Kd.C_drewN ?_ _) | (with_reducible refine Kd.C_drew ?_))); (case side4 => exact HC1_0.out); rintro e w' ⟨rfl, ⟨nd, rfl⟩⟩))
   go_ret
   exact ⟨by first | rfl | (simp [errW_none, errW_some] <;> rfl) | (simp [*, errW_none, errW_some] <;> rfl), by repeat (first | (with_reducible first | exact HB.out | apply below_alloc | apply pw_below_drewN | apply below_drew1 | refine below_set ?_ GE438.out | refine below_set ?_ GE439.out | refine below_set ?_ GE447.out | refine below_set ?_ GE449.out) | exact HB.out)⟩
 ·rw [if_neg c3] at H
  have c3b0 : (a0_1 == a1_1) = false := by simpa using c3
  (try (have c3b1 : decide (a0_1 = a1_1) = false := by simpa using c3))
  (try (have c3b2 : (a0_1 == a1_1) = false := by simpa using c3))
  (try (have c3b3 : ¬ (a0_1 = a1_1) := by simpa using c3))
  clear c3
  obtain rfl := Option.some.inj H
  go_enter Try.func29, Try.ntmps29
  go_wp2_with (first | ((with_reducible refine gate_dst (N := 2) rfl ?_); refine box_event ?hg (N := 2) ?hd (cs := #[.slice A0_0 l0_0.length c0_0, .bool a0_1, .slice A0_2 l0_2.length c0_2, .slice A0_3 l0_3.length c0_3, .slice A0_4 l0_4.length c0_4, .slice A0_5 l0_5.length c0_5, .slice A0_6 l0_6.length c0_6]) (t := 62) ?hr ?_; (case hd => rfl); (case hg => rfl); (case hr => first | (go_simp; done) | (go_simp; rfl)); intro gb438 hg w45 hbox hb; have n0_ := Aside0.mk (below_step z16_0 hb); have n1_ := Aside0.mk (hbox); have n2_ := Aside0.mk ((z16_13 : w.heap.size ≤ gb438)); have n3_ := Aside0.mk ((z16_13 : w.heap.size ≤ gb438)); clear HB; have HB := n0_; have BK438 := n1_; have GW438 := n2_; have GE438 := n3_; clear n0_ n1_ n2_ n3_; clear hb hbox hg) | ((with_reducible refine gate_dst (N := 3) rfl ?_); refine box_event ?hg (N := 3) ?hd (cs := #[.slice A1_0 l1_0.length c1_0, .bool a1_1, .slice A1_2 l1_2.length c1_2, .slice A1_3 l1_3.length c1_3, .slice A1_4 l1_4.length c1_4, .slice A1_5 l1_5.length c1_5, .slice A1_6 l1_6.length c1_6]) (t := 62) ?hr ?_; (case hd => rfl); (case hg => rfl); (case hr => first | (go_simp; done) | (go_simp; rfl)); intro gb439 hg w46 hbox hb; have n0_ := Aside0.mk (blk_below (g := gb438) (o := .cells #[.slice A0_0 l0_0.length c0_0, .bool a0_1, .slice A0_2 l0_2.length c0_2, .slice A0_3 l0_3.length c0_3, .slice A0_4 l0_4.length c0_4, .slice A0_5 l0_5.length c0_5, .slice A0_6 l0_6.length c0_6] 62 (0, 0)) z16_15 hb); have n1_ := Aside0.mk (below_step z16_0 hb); have n2_ := Aside0.mk (hbox); have n3_ := Aside0.mk ((z16_13 : w.heap.size ≤ gb439)); have n4_ := Aside0.mk ((z16_13 : w.heap.size ≤ gb439)); have n5_ := Aside0.mk ((z16_3 : gb438 ≠ gb439)); have n6_ := Aside0.mk ((z16_4 : gb439 ≠ gb438)); clear BK438; clear HB; have BK438 := n0_; have HB := n1_; have BK439 := n2_; have GW439 := n3_; have GE439 := n4_; have NB438_439 := n5_; have NB439_438 := n6_; clear n0_ n1_ n2_ n3_ n4_ n5_ n6_; clear hb hbox hg; have hnb47 := NB438_439.out; have hnc47 := NB439_438.out; obtain ⟨hcz48_0, hcz48_1, hcz48_2, hcz48_3, hcz48_4, hcz48_5, hcz48_6⟩ := cz7x16 BK438.out; obtain ⟨hfz48_0, hfz48_1, hfz48_2, hfz48_3, hfz48_4, hfz48_5, hfz48_6⟩ := fz7x16 BK438.out; obtain ⟨hcz49_0, hcz49_1, hcz49_2, hcz49_3, hcz49_4, hcz49_5, hcz49_6⟩ := cz7x16 BK439.out; obtain ⟨hfz49_0, hfz49_1, hfz49_2, hfz49_3, hfz49_4, hfz49_5, hfz49_6⟩ := fz7x16 BK439.out))
  go_ret
  exact ⟨by first | rfl | (simp [errW_none, errW_some] <;> rfl) | (simp [*, errW_none, errW_some] <;> rfl), by repeat (first | (with_reducible first | exact HB.out | apply below_alloc | apply pw_below_drewN | apply below_drew1 | refine below_set ?_ GE438.out | refine below_set ?_ GE439.out | refine below_set ?_ GE447.out | refine below_set ?_ GE449.out) | exact HB.out)⟩

def iTu.l0 : Nat → List (S62) → List (S62) → Int → Int → Option (Bool)
 | 0, _, _, _, _ => none
 | k + 1, x1, x15, x16, x17 => if x17 < x16 then (if 0 ≤ x17 then (if x17 < (x15.length : Int) then (if x17 < (x1.length : Int) then ((sT.f k ((rd_T62 x15 x17).f0) ((rd_T62 x15 x17).f1) ((rd_T62 x15 x17).f2) ((rd_T62 x15 x17).f3) ((rd_T62 x15 x17).f4) ((rd_T62 x15 x17).f5) ((rd_T62 x15 x17).f6) ((rd_T62 x1 x17).f0) ((rd_T62 x1 x17).f1) ((rd_T62 x1 x17).f2) ((rd_T62 x1 x17).f3) ((rd_T62 x1 x17).f4) ((rd_T62 x1 x17).f5) ((rd_T62 x1 x17).f6)).bind fun t450 => (if t450 = true then (iTu.l0 k x1 x15 x16 (wrap64 (x17 + 1))) else (some false))) else (none)) else (none)) else (none)) else (some true)
def iTu.f (k : Nat) (l0 : List (S62)) (l1 : List (S62)) : Option (Bool) := if (l0.length : Int) = (l1.length : Int) then (iTu.l0 k l1 l0 (l0.length : Int) 0) else (some false)
theorem iTu.mono_l : ∀ k, (∀ y0 y1 y2 y3, LeO (iTu.l0 k y0 y1 y2 y3) (iTu.l0 (k + 1) y0 y1 y2 y3))
 | 0 => fun _ _ _ _ r h => by simp [iTu.l0] at h
 | k + 1 => by
  have ih0 := iTu.mono_l k
  ·intro y0 y1 y2 y3
   unfold iTu.l0
   repeat' first
   | (with_reducible exact ih0 _ _ _ _)
   | (with_reducible exact sT.mono _ _ _ _ _ _ _ _ _ _ _ _ _ _ _)
   | (with_reducible exact LeO.refl _)
   | (with_reducible exact LeO.none _)
   | (with_reducible refine LeO.ite ?_ ?_)
   | (with_reducible refine LeO.bind ?_ (fun _ => ?_))
theorem iTu.mono : ∀ a0 a1 k, LeO (iTu.f k a0 a1) (iTu.f (k + 1) a0 a1) := by
 intro a0 a1 k
 have ih0 := iTu.mono_l k
 unfold iTu.f
 repeat' first
   | (with_reducible exact ih0 _ _ _ _)
   | (with_reducible exact sT.mono _ _ _ _ _ _ _ _ _ _ _ _ _ _ _)
   | (with_reducible exact LeO.refl _)
   | (with_reducible exact LeO.none _)
   | (with_reducible refine LeO.ite ?_ ?_)
   | (with_reducible refine LeO.bind ?_ (fun _ => ?_))
set_option maxHeartbeats 8000000 in
set_option maxRecDepth 100000 in
theorem iTu.calls (k : Nat) (A0 : Option Addr) (c0 : Nat) (l0 : List (S62)) (A1 : Option Addr) (c1 : Nat) (l1 : List (S62)) (r : Bool) (w : World) (hr0 : Kd.C k62 w A0 l0.length l0) (hc0 : l0.length ≤ c0) (hr1 : Kd.C k62 w A1 l1.length l1) (hc1 : l1.length ≤ c1) (h : iTu.f k l0 l1 = some r) :
  Calls Try.prog 28 #[.slice A0 l0.length c0, .slice A1 l1.length c1, .func (.func 29) #[] #[]] w fun e w' => e = .returned (.bool r) ∧ Below w.heap.size w w' := by
 have hu62 := Try.underlying62
 have HR0 := Aside0.mk hr0
 have HC0 := Aside0.mk hc0
 clear hr0 hc0
 have HR1 := Aside0.mk hr1
 have HC1 := Aside0.mk hc1
 clear hr1 hc1
 have HB := Aside0.mk (Below.refl w.heap.size w)
 have H : (if (l0.length : Int) = (l1.length : Int) then (iTu.l0 k l1 l0 (l0.length : Int) 0) else (some false)) = some r := h
 clear h
 by_cases c3 : (l0.length : Int) = (l1.length : Int)
 ·rw [if_pos c3] at H
  have c3b0 : ((l0.length : Int) == (l1.length : Int)) = true := beq_iff_eq.mpr c3
  have c3b1 : ((l0.length : Int) != (l1.length : Int)) = false := bne_eq_false_iff_eq.mpr c3
  have c3b2 : (l0.length == l1.length) = true := by first | simpa using c3 | (simp at c3 ⊢; omega)
  clear c3
  have H' := Aside0.mk H
  clear H
  go_enter Try.func28, Try.ntmps28
  go_wp2
  go_loopg [17] k (fun kq v17 w' => ∃ (x17_1 : Int), v17 = .int .i64 x17_1 ∧ Aside0 (iTu.l0 kq l1 l0 (l0.length : Int) x17_1 = some r) ∧ Aside0 (kq ≤ k) ∧ Aside0 (Below w.heap.size w w'))
  case atStart => exact ⟨(0), (by first | rfl | (simp; done) | (simp [*]; done)), H', ⟨Nat.le_refl _⟩, ⟨z16_0⟩⟩
  case round =>
   clear H'
   clear c3b0 c3b1 c3b2
   obtain ⟨x17_1, rfl, HA, HK1, HB⟩ := hrel
   cases gk with
   | zero => exact absurd HA.out (by simp [iTu.l0])
   | succ k1 =>
    have H := HA.out
    clear HA
    simp only [iTu.l0] at H
    by_cases c4 : x17_1 < (l0.length : Int)
    ·rw [if_pos c4] at H
     have c4b0 : decide (x17_1 < (l0.length : Int)) = true := decide_eq_true c4
     clear c4
     by_cases c5 : 0 ≤ x17_1
     rotate_left
     ·rw [if_neg c5] at H
      exact absurd H (by simp)
     rw [if_pos c5] at H
     have c5b0 : decide (0 ≤ x17_1) = true := decide_eq_true c5
     clear c5
     by_cases c6 : x17_1 < (l0.length : Int)
     rotate_left
     ·rw [if_neg c6] at H
      exact absurd H (by simp)
     rw [if_pos c6] at H
     have c6b0 : decide (x17_1 < (l0.length : Int)) = true := decide_eq_true c6
     clear c6
     by_cases c7 : x17_1 < (l1.length : Int)
     rotate_left
     ·rw [if_neg c7] at H
      exact absurd H (by simp)
     rw [if_pos c7] at H
     have c7b0 : decide (x17_1 < (l1.length : Int)) = true := decide_eq_true c7
     clear c7
     replace H := Option.bind_eq_some_iff.mp H
     obtain ⟨t450, A80, H⟩ := H
     replace H : (if t450 = true then (iTu.l0 k1 l1 l0 (l0.length : Int) (wrap64 (x17_1 + 1))) else (some false)) = some r := H
     have A8 := Aside0.mk A80
     clear A80
     by_cases c9 : t450 = true
     ·subst c9
      have H1 : (iTu.l0 k1 l1 l0 (l0.length : Int) (wrap64 (x17_1 + 1))) = some r := by rw [if_pos rfl] at H; exact H
      clear H
      have H := H1
      clear H1
      have H' := Aside0.mk H
      clear H
      have p446 : 0 ≤ (x17_1 : Int) := of_decide_eq_true z16_18
      have q446 : x17_1 < (l0.length : Int) := of_decide_eq_true z16_18
      obtain ⟨ad446, A446_0, c446_0, A446_2, c446_2, A446_3, c446_3, A446_4, c446_4, A446_5, c446_5, A446_6, c446_6, e446, hx446_0, hx446_1, hx446_2, hx446_3, hx446_4, hx446_5, hx446_6, hl446_0, hi446_0, hl446_2, hi446_2, hl446_3, hi446_3, hl446_4, hi446_4, hl446_5, hi446_5, hl446_6, hi446_6⟩ := at_T62 HR0.out x17_1 p446 q446
      cases e446
      replace hx446_0 := (HB.out.cell (World.block_lt_of_cell? w _ hx446_0)).trans hx446_0
      replace hx446_1 := (HB.out.cell (World.block_lt_of_cell? w _ hx446_1)).trans hx446_1
      replace hx446_2 := (HB.out.cell (World.block_lt_of_cell? w _ hx446_2)).trans hx446_2
      replace hx446_3 := (HB.out.cell (World.block_lt_of_cell? w _ hx446_3)).trans hx446_3
      replace hx446_4 := (HB.out.cell (World.block_lt_of_cell? w _ hx446_4)).trans hx446_4
      replace hx446_5 := (HB.out.cell (World.block_lt_of_cell? w _ hx446_5)).trans hx446_5
      replace hx446_6 := (HB.out.cell (World.block_lt_of_cell? w _ hx446_6)).trans hx446_6
      have HR446_0 := Aside0.mk hi446_0
      have HC446_0 := Aside0.mk hl446_0
      clear hi446_0 hl446_0
      have HR446_2 := Aside0.mk hi446_2
      have HC446_2 := Aside0.mk hl446_2
      clear hi446_2 hl446_2
      have HR446_3 := Aside0.mk hi446_3
      have HC446_3 := Aside0.mk hl446_3
      clear hi446_3 hl446_3
      have HR446_4 := Aside0.mk hi446_4
      have HC446_4 := Aside0.mk hl446_4
      clear hi446_4 hl446_4
      have HR446_5 := Aside0.mk hi446_5
      have HC446_5 := Aside0.mk hl446_5
      clear hi446_5 hl446_5
      have HR446_6 := Aside0.mk hi446_6
      have HC446_6 := Aside0.mk hl446_6
      clear hi446_6 hl446_6
      replace p446 := eq_true p446
      replace q446 := eq_true q446
      go_wp2_with (first | ((with_reducible refine gate_dst (N := 8) rfl ?_); refine box_event ?hg (N := 8) ?hd (cs := #[.slice none 0 0, .bool false, .slice none 0 0, .slice none 0 0, .slice none 0 0, .slice none 0 0, .slice none 0 0]) (t := 62) ?hr ?_; (case hd => rfl); (case hg => rfl); (case hr => first | (go_simp; done) | (go_simp; rfl)); intro gb447 hg w10 hbox hb; have n0_ := Aside0.mk (below_step z16_0 hb); have n1_ := Aside0.mk (hbox); have n2_ := Aside0.mk ((z16_13 : w.heap.size ≤ gb447)); have n3_ := Aside0.mk ((z16_13 : w.heap.size ≤ gb447)); clear HB; have HB := n0_; have BK447 := n1_; have GW447 := n2_; have GE447 := n3_; clear n0_ n1_ n2_ n3_; clear hb hbox hg; obtain ⟨hcz11_0, hcz11_1, hcz11_2, hcz11_3, hcz11_4, hcz11_5, hcz11_6⟩ := cz7x16 BK447.out; obtain ⟨hfz11_0, hfz11_1, hfz11_2, hfz11_3, hfz11_4, hfz11_5, hfz11_6⟩ := fz7x16 BK447.out; have p448 : 0 ≤ (x17_1 : Int) := of_decide_eq_true z16_18; have q448 : x17_1 < (l1.length : Int) := of_decide_eq_true z16_18; obtain ⟨ad448, A448_0, c448_0, A448_2, c448_2, A448_3, c448_3, A448_4, c448_4, A448_5, c448_5, A448_6, c448_6, e448, hx448_0, hx448_1, hx448_2, hx448_3, hx448_4, hx448_5, hx448_6, hl448_0, hi448_0, hl448_2, hi448_2, hl448_3, hi448_3, hl448_4, hi448_4, hl448_5, hi448_5, hl448_6, hi448_6⟩ := at_T62 HR1.out x17_1 p448 q448; cases e448; have hn448_0 : ad448.block ≠ gb447 := Nat.ne_of_lt (Nat.lt_of_lt_of_le z16_12 GW447.out); have hn448_1 : ad448.block ≠ gb447 := Nat.ne_of_lt (Nat.lt_of_lt_of_le z16_12 GW447.out); have hn448_2 : ad448.block ≠ gb447 := Nat.ne_of_lt (Nat.lt_of_lt_of_le z16_12 GW447.out); have hn448_3 : ad448.block ≠ gb447 := Nat.ne_of_lt (Nat.lt_of_lt_of_le z16_12 GW447.out); have hn448_4 : ad448.block ≠ gb447 := Nat.ne_of_lt (Nat.lt_of_lt_of_le z16_12 GW447.out); have hn448_5 : ad448.block ≠ gb447 := Nat.ne_of_lt (Nat.lt_of_lt_of_le z16_12 GW447.out); have hn448_6 : ad448.block ≠ gb447 := Nat.ne_of_lt (Nat.lt_of_lt_of_le z16_12 GW447.out); replace hx448_0 := (HB.out.cell (World.block_lt_of_cell? w _ hx448_0)).trans hx448_0; replace hx448_1 := (HB.out.cell (World.block_lt_of_cell? w _ hx448_1)).trans hx448_1; replace hx448_2 := (HB.out.cell (World.block_lt_of_cell? w _ hx448_2)).trans hx448_2; replace hx448_3 := (HB.out.cell (World.block_lt_of_cell? w _ hx448_3)).trans hx448_3; replace hx448_4 := (HB.out.cell (World.block_lt_of_cell? w _ hx448_4)).trans hx448_4; replace hx448_5 := (HB.out.cell (World.block_lt_of_cell? w _ hx448_5)).trans hx448_5; replace hx448_6 := (HB.out.cell (World.block_lt_of_cell? w _ hx448_6)).trans hx448_6; have HR448_0 := Aside0.mk hi448_0; have HC448_0 := Aside0.mk hl448_0; clear hi448_0 hl448_0; have HR448_2 := Aside0.mk hi448_2; have HC448_2 := Aside0.mk hl448_2; clear hi448_2 hl448_2; have HR448_3 := Aside0.mk hi448_3; have HC448_3 := Aside0.mk hl448_3; clear hi448_3 hl448_3; have HR448_4 := Aside0.mk hi448_4; have HC448_4 := Aside0.mk hl448_4; clear hi448_4 hl448_4; have HR448_5 := Aside0.mk hi448_5; have HC448_5 := Aside0.mk hl448_5; clear hi448_5 hl448_5; have HR448_6 := Aside0.mk hi448_6; have HC448_6 := Aside0.mk hl448_6; clear hi448_6 hl448_6; replace hx448_0 := (cell_far (p := ⟨gb447, 0, none⟩) z16_5 (.slice A446_0 ((rd_T62 l0 x17_1).f0).length c446_0)).trans hx448_0; replace hx448_1 := (cell_far (p := ⟨gb447, 0, none⟩) z16_5 (.slice A446_0 ((rd_T62 l0 x17_1).f0).length c446_0)).trans hx448_1; replace hx448_2 := (cell_far (p := ⟨gb447, 0, none⟩) z16_5 (.slice A446_0 ((rd_T62 l0 x17_1).f0).length c446_0)).trans hx448_2; replace hx448_3 := (cell_far (p := ⟨gb447, 0, none⟩) z16_5 (.slice A446_0 ((rd_T62 l0 x17_1).f0).length c446_0)).trans hx448_3; replace hx448_4 := (cell_far (p := ⟨gb447, 0, none⟩) z16_5 (.slice A446_0 ((rd_T62 l0 x17_1).f0).length c446_0)).trans hx448_4; replace hx448_5 := (cell_far (p := ⟨gb447, 0, none⟩) z16_5 (.slice A446_0 ((rd_T62 l0 x17_1).f0).length c446_0)).trans hx448_5; replace hx448_6 := (cell_far (p := ⟨gb447, 0, none⟩) z16_5 (.slice A446_0 ((rd_T62 l0 x17_1).f0).length c446_0)).trans hx448_6; replace hx448_0 := (cell_far (p := ⟨gb447, 1, none⟩) z16_6 (.bool ((rd_T62 l0 x17_1).f1))).trans hx448_0; replace hx448_1 := (cell_far (p := ⟨gb447, 1, none⟩) z16_6 (.bool ((rd_T62 l0 x17_1).f1))).trans hx448_1; replace hx448_2 := (cell_far (p := ⟨gb447, 1, none⟩) z16_6 (.bool ((rd_T62 l0 x17_1).f1))).trans hx448_2; replace hx448_3 := (cell_far (p := ⟨gb447, 1, none⟩) z16_6 (.bool ((rd_T62 l0 x17_1).f1))).trans hx448_3; replace hx448_4 := (cell_far (p := ⟨gb447, 1, none⟩) z16_6 (.bool ((rd_T62 l0 x17_1).f1))).trans hx448_4; replace hx448_5 := (cell_far (p := ⟨gb447, 1, none⟩) z16_6 (.bool ((rd_T62 l0 x17_1).f1))).trans hx448_5; replace hx448_6 := (cell_far (p := ⟨gb447, 1, none⟩) z16_6 (.bool ((rd_T62 l0 x17_1).f1))).trans hx448_6; replace hx448_0 := (cell_far (p := ⟨gb447, 2, none⟩) z16_7 (.slice A446_2 ((rd_T62 l0 x17_1).f2).length c446_2)).trans hx448_0; replace hx448_1 := (cell_far (p := ⟨gb447, 2, none⟩) z16_7 (.slice A446_2 ((rd_T62 l0 x17_1).f2).length c446_2)).trans hx448_1; replace hx448_2 := (cell_far (p := ⟨gb447, 2, none⟩) z16_7 (.slice A446_2 ((rd_T62 l0 x17_1).f2).length c446_2)).trans hx448_2; replace hx448_3 := (cell_far (p := ⟨gb447, 2, none⟩) z16_7 (.slice A446_2 ((rd_T62 l0 x17_1).f2).length c446_2)).trans hx448_3; replace hx448_4 := (cell_far (p := ⟨gb447, 2, none⟩) z16_7 (.slice A446_2 ((rd_T62 l0 x17_1).f2).length c446_2)).trans hx448_4; replace hx448_5 := (cell_far (p := ⟨gb447, 2, none⟩) z16_7 (.slice A446_2 ((rd_T62 l0 x17_1).f2).length c446_2)).trans hx448_5; replace hx448_6 := (cell_far (p := ⟨gb447, 2, none⟩) z16_7 (.slice A446_2 ((rd_T62 l0 x17_1).f2).length c446_2)).trans hx448_6; replace hx448_0 := (cell_far (p := ⟨gb447, 3, none⟩) z16_8 (.slice A446_3 ((rd_T62 l0 x17_1).f3).length c446_3)).trans hx448_0; replace hx448_1 := (cell_far (p := ⟨gb447, 3, none⟩) z16_8 (.slice A446_3 ((rd_T62 l0 x17_1).f3).length c446_3)).trans hx448_1; replace hx448_2 := (cell_far (p := ⟨gb447, 3, none⟩) z16_8 (.slice A446_3 ((rd_T62 l0 x17_1).f3).length c446_3)).trans hx448_2; replace hx448_3 := (cell_far (p := ⟨gb447, 3, none⟩) z16_8 (.slice A446_3 ((rd_T62 l0 x17_1).f3).length c446_3)).trans hx448_3; replace hx448_4 := (cell_far (p := ⟨gb447, 3, none⟩) z16_8 (.slice A446_3 ((rd_T62 l0 x17_1).f3).length c446_3)).trans hx448_4; replace hx448_5 := (cell_far (p := ⟨gb447, 3, none⟩) z16_8 (.slice A446_3 ((rd_T62 l0 x17_1).f3).length c446_3)).trans hx448_5; replace hx448_6 := (cell_far (p := ⟨gb447, 3, none⟩) z16_8 (.slice A446_3 ((rd_T62 l0 x17_1).f3).length c446_3)).trans hx448_6; replace hx448_0 := (cell_far (p := ⟨gb447, 4, none⟩) z16_9 (.slice A446_4 ((rd_T62 l0 x17_1).f4).length c446_4)).trans hx448_0; replace hx448_1 := (cell_far (p := ⟨gb447, 4, none⟩) z16_9 (.slice A446_4 ((rd_T62 l0 x17_1).f4).length c446_4)).trans hx448_1; replace hx448_2 := (cell_far (p := ⟨gb447, 4, none⟩) z16_9 (.slice A446_4 ((rd_T62 l0 x17_1).f4).length c446_4)).trans hx448_2; replace hx448_3 := (cell_far (p := ⟨gb447, 4, none⟩) z16_9 (.slice A446_4 ((rd_T62 l0 x17_1).f4).length c446_4)).trans hx448_3; replace hx448_4 := (cell_far (p := ⟨gb447, 4, none⟩) z16_9 (.slice A446_4 ((rd_T62 l0 x17_1).f4).length c446_4)).trans hx448_4; replace hx448_5 := (cell_far (p := ⟨gb447, 4, none⟩) z16_9 (.slice A446_4 ((rd_T62 l0 x17_1).f4).length c446_4)).trans hx448_5; replace hx448_6 := (cell_far (p := ⟨gb447, 4, none⟩) z16_9 (.slice A446_4 ((rd_T62 l0 x17_1).f4).length c446_4)).trans hx448_6; replace hx448_0 := (cell_far (p := ⟨gb447, 5, none⟩) z16_10 (.slice A446_5 ((rd_T62 l0 x17_1).f5).length c446_5)).trans hx448_0; replace hx448_1 := (cell_far (p := ⟨gb447, 5, none⟩) z16_10 (.slice A446_5 ((rd_T62 l0 x17_1).f5).length c446_5)).trans hx448_1; replace hx448_2 := (cell_far (p := ⟨gb447, 5, none⟩) z16_10 (.slice A446_5 ((rd_T62 l0 x17_1).f5).length c446_5)).trans hx448_2; replace hx448_3 := (cell_far (p := ⟨gb447, 5, none⟩) z16_10 (.slice A446_5 ((rd_T62 l0 x17_1).f5).length c446_5)).trans hx448_3; replace hx448_4 := (cell_far (p := ⟨gb447, 5, none⟩) z16_10 (.slice A446_5 ((rd_T62 l0 x17_1).f5).length c446_5)).trans hx448_4; replace hx448_5 := (cell_far (p := ⟨gb447, 5, none⟩) z16_10 (.slice A446_5 ((rd_T62 l0 x17_1).f5).length c446_5)).trans hx448_5; replace hx448_6 := (cell_far (p := ⟨gb447, 5, none⟩) z16_10 (.slice A446_5 ((rd_T62 l0 x17_1).f5).length c446_5)).trans hx448_6; replace hx448_0 := (cell_far (p := ⟨gb447, 6, none⟩) z16_11 (.slice A446_6 ((rd_T62 l0 x17_1).f6).length c446_6)).trans hx448_0; replace hx448_1 := (cell_far (p := ⟨gb447, 6, none⟩) z16_11 (.slice A446_6 ((rd_T62 l0 x17_1).f6).length c446_6)).trans hx448_1; replace hx448_2 := (cell_far (p := ⟨gb447, 6, none⟩) z16_11 (.slice A446_6 ((rd_T62 l0 x17_1).f6).length c446_6)).trans hx448_2; replace hx448_3 := (cell_far (p := ⟨gb447, 6, none⟩) z16_11 (.slice A446_6 ((rd_T62 l0 x17_1).f6).length c446_6)).trans hx448_3; replace hx448_4 := (cell_far (p := ⟨gb447, 6, none⟩) z16_11 (.slice A446_6 ((rd_T62 l0 x17_1).f6).length c446_6)).trans hx448_4; replace hx448_5 := (cell_far (p := ⟨gb447, 6, none⟩) z16_11 (.slice A446_6 ((rd_T62 l0 x17_1).f6).length c446_6)).trans hx448_5; replace hx448_6 := (cell_far (p := ⟨gb447, 6, none⟩) z16_11 (.slice A446_6 ((rd_T62 l0 x17_1).f6).length c446_6)).trans hx448_6; clear hn448_0; clear hn448_1; clear hn448_2; clear hn448_3; clear hn448_4; clear hn448_5; clear hn448_6; replace p448 := eq_true p448; replace q448 := eq_true q448) | ((with_reducible refine gate_dst (N := 9) rfl ?_); refine box_event ?hg (N := 9) ?hd (cs := #[.slice none 0 0, .bool false, .slice none 0 0, .slice none 0 0, .slice none 0 0, .slice none 0 0, .slice none 0 0]) (t := 62) ?hr ?_; (case hd => rfl); (case hg => rfl); (case hr => first | (go_simp; done) | (go_simp; rfl)); intro gb449 hg w12 hbox hb; have n0_ := Aside0.mk (blk_below (g := gb447) (o := .cells #[.slice A446_0 ((rd_T62 l0 x17_1).f0).length c446_0, .bool ((rd_T62 l0 x17_1).f1), .slice A446_2 ((rd_T62 l0 x17_1).f2).length c446_2, .slice A446_3 ((rd_T62 l0 x17_1).f3).length c446_3, .slice A446_4 ((rd_T62 l0 x17_1).f4).length c446_4, .slice A446_5 ((rd_T62 l0 x17_1).f5).length c446_5, .slice A446_6 ((rd_T62 l0 x17_1).f6).length c446_6] 62 (0, 0)) z16_1 hb); have n1_ := Aside0.mk (below_step z16_0 hb); have n2_ := Aside0.mk (hbox); have n3_ := Aside0.mk ((z16_13 : w.heap.size ≤ gb449)); have n4_ := Aside0.mk ((z16_13 : w.heap.size ≤ gb449)); have n5_ := Aside0.mk ((z16_16 : gb447 ≠ gb449)); have n6_ := Aside0.mk ((z16_17 : gb449 ≠ gb447)); clear BK447; clear HB; have BK447 := n0_; have HB := n1_; have BK449 := n2_; have GW449 := n3_; have GE449 := n4_; have NB447_449 := n5_; have NB449_447 := n6_; clear n0_ n1_ n2_ n3_ n4_ n5_ n6_; clear hb hbox hg; have hnb13 := NB449_447.out; have hnc13 := NB447_449.out; obtain ⟨hcz14_0, hcz14_1, hcz14_2, hcz14_3, hcz14_4, hcz14_5, hcz14_6⟩ := cz7x16 BK449.out; obtain ⟨hfz14_0, hfz14_1, hfz14_2, hfz14_3, hfz14_4, hfz14_5, hfz14_6⟩ := fz7x16 BK449.out; obtain ⟨hcz15_0, hcz15_1, hcz15_2, hcz15_3, hcz15_4, hcz15_5, hcz15_6⟩ := cz7x16 BK447.out; obtain ⟨hfz15_0, hfz15_1, hfz15_2, hfz15_3, hfz15_4, hfz15_5, hfz15_6⟩ := fz7x16 BK447.out))
      (with_reducible refine (sT.calls k1 _ _ ((rd_T62 l0 x17_1).f0) ((rd_T62 l0 x17_1).f1) _ _ ((rd_T62 l0 x17_1).f2) _ _ ((rd_T62 l0 x17_1).f3) _ _ ((rd_T62 l0 x17_1).f4) _ _ ((rd_T62 l0 x17_1).f5) _ _ ((rd_T62 l0 x17_1).f6) _ _ ((rd_T62 l1 x17_1).f0) ((rd_T62 l1 x17_1).f1) _ _ ((rd_T62 l1 x17_1).f2) _ _ ((rd_T62 l1 x17_1).f3) _ _ ((rd_T62 l1 x17_1).f4) _ _ ((rd_T62 l1 x17_1).f5) _ _ ((rd_T62 l1 x17_1).f6) true _ ?side1 ?side2 ?side3 ?side4 ?side5 ?side6 ?side7 ?side8 ?side9 ?side10 ?side11 ?side12 ?side13 ?side14 ?side15 ?side16 ?side17 ?side18 ?side19 ?side20 ?side21 ?side22 ?side23 ?side24 A8.out).mono ?_)
      (case side1 => exact Kd.C_below HR446_0.out z16_0)
      (case side2 => exact HC446_0.out)
      (case side3 => exact Kd.C_below HR446_2.out z16_0)
      (case side4 => exact HC446_2.out)
      (case side5 => exact Kd.C_below HR446_3.out z16_0)
      (case side6 => exact HC446_3.out)
      (case side7 => exact Kd.C_below HR446_4.out z16_0)
      (case side8 => exact HC446_4.out)
      (case side9 => exact Kd.C_below HR446_5.out z16_0)
      (case side10 => exact HC446_5.out)
      (case side11 => exact Kd.C_below HR446_6.out z16_0)
      (case side12 => exact HC446_6.out)
      (case side13 => exact Kd.C_below HR448_0.out z16_0)
      (case side14 => exact HC448_0.out)
      (case side15 => exact Kd.C_below HR448_2.out z16_0)
      (case side16 => exact HC448_2.out)
      (case side17 => exact Kd.C_below HR448_3.out z16_0)
      (case side18 => exact HC448_3.out)
      (case side19 => exact Kd.C_below HR448_4.out z16_0)
      (case side20 => exact HC448_4.out)
      (case side21 => exact Kd.C_below HR448_5.out z16_0)
      (case side22 => exact HC448_5.out)
      (case side23 => exact Kd.C_below HR448_6.out z16_0)
      (case side24 => exact HC448_6.out)
      rintro e w16 ⟨rfl, hb⟩
      have n0_ := Aside0.mk (blk_below (g := gb447) (o := .cells #[.slice A446_0 ((rd_T62 l0 x17_1).f0).length c446_0, .bool ((rd_T62 l0 x17_1).f1), .slice A446_2 ((rd_T62 l0 x17_1).f2).length c446_2, .slice A446_3 ((rd_T62 l0 x17_1).f3).length c446_3, .slice A446_4 ((rd_T62 l0 x17_1).f4).length c446_4, .slice A446_5 ((rd_T62 l0 x17_1).f5).length c446_5, .slice A446_6 ((rd_T62 l0 x17_1).f6).length c446_6] 62 (0, 0)) z16_14 hb)
      have n1_ := Aside0.mk (blk_below (g := gb449) (o := .cells #[.slice A448_0 ((rd_T62 l1 x17_1).f0).length c448_0, .bool ((rd_T62 l1 x17_1).f1), .slice A448_2 ((rd_T62 l1 x17_1).f2).length c448_2, .slice A448_3 ((rd_T62 l1 x17_1).f3).length c448_3, .slice A448_4 ((rd_T62 l1 x17_1).f4).length c448_4, .slice A448_5 ((rd_T62 l1 x17_1).f5).length c448_5, .slice A448_6 ((rd_T62 l1 x17_1).f6).length c448_6] 62 (0, 0)) z16_2 hb)
      have n2_ := Aside0.mk (below_step z16_0 hb)
      clear BK447
      clear BK449
      clear HB
      have BK447 := n0_
      have BK449 := n1_
      have HB := n2_
      clear n0_ n1_ n2_
      clear hb
      go_wp2
      go_roundg k1
      case measure => have := HK1.out; omega
      case rel => exact ⟨(wrap64 (x17_1 + 1)), (by first | rfl | (simp; done) | (simp [*]; done)), H', ⟨by have := HK1.out; omega⟩, ⟨z16_0⟩⟩
     ·replace c9 := Bool.eq_false_iff.mpr c9
      subst c9
      have H1 : (some false) = some r := by rw [if_neg (show ¬ (false = true) by decide)] at H; exact H
      clear H
      have H := H1
      clear H1
      obtain rfl := Option.some.inj H
      have p446 : 0 ≤ (x17_1 : Int) := of_decide_eq_true z16_18
      have q446 : x17_1 < (l0.length : Int) := of_decide_eq_true z16_18
      obtain ⟨ad446, A446_0, c446_0, A446_2, c446_2, A446_3, c446_3, A446_4, c446_4, A446_5, c446_5, A446_6, c446_6, e446, hx446_0, hx446_1, hx446_2, hx446_3, hx446_4, hx446_5, hx446_6, hl446_0, hi446_0, hl446_2, hi446_2, hl446_3, hi446_3, hl446_4, hi446_4, hl446_5, hi446_5, hl446_6, hi446_6⟩ := at_T62 HR0.out x17_1 p446 q446
      cases e446
      replace hx446_0 := (HB.out.cell (World.block_lt_of_cell? w _ hx446_0)).trans hx446_0
      replace hx446_1 := (HB.out.cell (World.block_lt_of_cell? w _ hx446_1)).trans hx446_1
      replace hx446_2 := (HB.out.cell (World.block_lt_of_cell? w _ hx446_2)).trans hx446_2
      replace hx446_3 := (HB.out.cell (World.block_lt_of_cell? w _ hx446_3)).trans hx446_3
      replace hx446_4 := (HB.out.cell (World.block_lt_of_cell? w _ hx446_4)).trans hx446_4
      replace hx446_5 := (HB.out.cell (World.block_lt_of_cell? w _ hx446_5)).trans hx446_5
      replace hx446_6 := (HB.out.cell (World.block_lt_of_cell? w _ hx446_6)).trans hx446_6
      have HR446_0 := Aside0.mk hi446_0
      have HC446_0 := Aside0.mk hl446_0
      clear hi446_0 hl446_0
      have HR446_2 := Aside0.mk hi446_2
      have HC446_2 := Aside0.mk hl446_2
      clear hi446_2 hl446_2
      have HR446_3 := Aside0.mk hi446_3
      have HC446_3 := Aside0.mk hl446_3
      clear hi446_3 hl446_3
      have HR446_4 := Aside0.mk hi446_4
      have HC446_4 := Aside0.mk hl446_4
      clear hi446_4 hl446_4
      have HR446_5 := Aside0.mk hi446_5
      have HC446_5 := Aside0.mk hl446_5
      clear hi446_5 hl446_5
      have HR446_6 := Aside0.mk hi446_6
      have HC446_6 := Aside0.mk hl446_6
      clear hi446_6 hl446_6
      replace p446 := eq_true p446
      replace q446 := eq_true q446
      go_wp2_with (first | ((with_reducible refine gate_dst (N := 8) rfl ?_); refine box_event ?hg (N := 8) ?hd (cs := #[.slice none 0 0, .bool false, .slice none 0 0, .slice none 0 0, .slice none 0 0, .slice none 0 0, .slice none 0 0]) (t := 62) ?hr ?_; (case hd => rfl); (case hg => rfl); (case hr => first | (go_simp; done) | (go_simp; rfl)); intro gb447 hg w17 hbox hb; have n0_ := Aside0.mk (below_step z16_0 hb); have n1_ := Aside0.mk (hbox); have n2_ := Aside0.mk ((z16_13 : w.heap.size ≤ gb447)); have n3_ := Aside0.mk ((z16_13 : w.heap.size ≤ gb447)); clear HB; have HB := n0_; have BK447 := n1_; have GW447 := n2_; have GE447 := n3_; clear n0_ n1_ n2_ n3_; clear hb hbox hg; obtain ⟨hcz18_0, hcz18_1, hcz18_2, hcz18_3, hcz18_4, hcz18_5, hcz18_6⟩ := cz7x16 BK447.out; obtain ⟨hfz18_0, hfz18_1, hfz18_2, hfz18_3, hfz18_4, hfz18_5, hfz18_6⟩ := fz7x16 BK447.out; have p448 : 0 ≤ (x17_1 : Int) := of_decide_eq_true z16_18; have q448 : x17_1 < (l1.length : Int) := of_decide_eq_true z16_18; obtain ⟨ad448, A448_0, c448_0, A448_2, c448_2, A448_3, c448_3, A448_4, c448_4, A448_5, c448_5, A448_6, c448_6, e448, hx448_0, hx448_1, hx448_2, hx448_3, hx448_4, hx448_5, hx448_6, hl448_0, hi448_0, hl448_2, hi448_2, hl448_3, hi448_3, hl448_4, hi448_4, hl448_5, hi448_5, hl448_6, hi448_6⟩ := at_T62 HR1.out x17_1 p448 q448; cases e448; have hn448_0 : ad448.block ≠ gb447 := Nat.ne_of_lt (Nat.lt_of_lt_of_le z16_12 GW447.out); have hn448_1 : ad448.block ≠ gb447 := Nat.ne_of_lt (Nat.lt_of_lt_of_le z16_12 GW447.out); have hn448_2 : ad448.block ≠ gb447 := Nat.ne_of_lt (Nat.lt_of_lt_of_le z16_12 GW447.out); have hn448_3 : ad448.block ≠ gb447 := Nat.ne_of_lt (Nat.lt_of_lt_of_le z16_12 GW447.out); have hn448_4 : ad448.block ≠ gb447 := Nat.ne_of_lt (Nat.lt_of_lt_of_le z16_12 GW447.out); have hn448_5 : ad448.block ≠ gb447 := Nat.ne_of_lt (Nat.lt_of_lt_of_le z16_12 GW447.out); have hn448_6 : ad448.block ≠ gb447 := Nat.ne_of_lt (Nat.lt_of_lt_of_le z16_12 GW447.out); replace hx448_0 := (HB.out.cell (World.block_lt_of_cell? w _ hx448_0)).trans hx448_0; replace hx448_1 := (HB.out.cell (World.block_lt_of_cell? w _ hx448_1)).trans hx448_1; replace hx448_2 := (HB.out.cell (World.block_lt_of_cell? w _ hx448_2)).trans hx448_2; replace hx448_3 := (HB.out.cell (World.block_lt_of_cell? w _ hx448_3)).trans hx448_3; replace hx448_4 := (HB.out.cell (World.block_lt_of_cell? w _ hx448_4)).trans hx448_4; replace hx448_5 := (HB.out.cell (World.block_lt_of_cell? w _ hx448_5)).trans hx448_5; replace hx448_6 := (HB.out.cell (World.block_lt_of_cell? w _ hx448_6)).trans hx448_6; have HR448_0 := Aside0.mk hi448_0; have HC448_0 := Aside0.mk hl448_0; clear hi448_0 hl448_0; have HR448_2 := Aside0.mk hi448_2; have HC448_2 := Aside0.mk hl448_2; clear hi448_2 hl448_2; have HR448_3 := Aside0.mk hi448_3; have HC448_3 := Aside0.mk hl448_3; clear hi448_3 hl448_3; have HR448_4 := Aside0.mk hi448_4; have HC448_4 := Aside0.mk hl448_4; clear hi448_4 hl448_4; have HR448_5 := Aside0.mk hi448_5; have HC448_5 := Aside0.mk hl448_5; clear hi448_5 hl448_5; have HR448_6 := Aside0.mk hi448_6; have HC448_6 := Aside0.mk hl448_6; clear hi448_6 hl448_6; replace hx448_0 := (cell_far (p := ⟨gb447, 0, none⟩) z16_5 (.slice A446_0 ((rd_T62 l0 x17_1).f0).length c446_0)).trans hx448_0; replace hx448_1 := (cell_far (p := ⟨gb447, 0, none⟩) z16_5 (.slice A446_0 ((rd_T62 l0 x17_1).f0).length c446_0)).trans hx448_1; replace hx448_2 := (cell_far (p := ⟨gb447, 0, none⟩) z16_5 (.slice A446_0 ((rd_T62 l0 x17_1).f0).length c446_0)).trans hx448_2; replace hx448_3 := (cell_far (p := ⟨gb447, 0, none⟩) z16_5 (.slice A446_0 ((rd_T62 l0 x17_1).f0).length c446_0)).trans hx448_3; replace hx448_4 := (cell_far (p := ⟨gb447, 0, none⟩) z16_5 (.slice A446_0 ((rd_T62 l0 x17_1).f0).length c446_0)).trans hx448_4; replace hx448_5 := (cell_far (p := ⟨gb447, 0, none⟩) z16_5 (.slice A446_0 ((rd_T62 l0 x17_1).f0).length c446_0)).trans hx448_5; replace hx448_6 := (cell_far (p := ⟨gb447, 0, none⟩) z16_5 (.slice A446_0 ((rd_T62 l0 x17_1).f0).length c446_0)).trans hx448_6; replace hx448_0 := (cell_far (p := ⟨gb447, 1, none⟩) z16_6 (.bool ((rd_T62 l0 x17_1).f1))).trans hx448_0; replace hx448_1 := (cell_far (p := ⟨gb447, 1, none⟩) z16_6 (.bool ((rd_T62 l0 x17_1).f1))).trans hx448_1; replace hx448_2 := (cell_far (p := ⟨gb447, 1, none⟩) z16_6 (.bool ((rd_T62 l0 x17_1).f1))).trans hx448_2; replace hx448_3 := (cell_far (p := ⟨gb447, 1, none⟩) z16_6 (.bool ((rd_T62 l0 x17_1).f1))).trans hx448_3; replace hx448_4 := (cell_far (p := ⟨gb447, 1, none⟩) z16_6 (.bool ((rd_T62 l0 x17_1).f1))).trans hx448_4; replace hx448_5 := (cell_far (p := ⟨gb447, 1, none⟩) z16_6 (.bool ((rd_T62 l0 x17_1).f1))).trans hx448_5; replace hx448_6 := (cell_far (p := ⟨gb447, 1, none⟩) z16_6 (.bool ((rd_T62 l0 x17_1).f1))).trans hx448_6; replace hx448_0 := (cell_far (p := ⟨gb447, 2, none⟩) z16_7 (.slice A446_2 ((rd_T62 l0 x17_1).f2).length c446_2)).trans hx448_0; replace hx448_1 := (cell_far (p := ⟨gb447, 2, none⟩) z16_7 (.slice A446_2 ((rd_T62 l0 x17_1).f2).length c446_2)).trans hx448_1; replace hx448_2 := (cell_far (p := ⟨gb447, 2, none⟩) z16_7 (.slice A446_2 ((rd_T62 l0 x17_1).f2).length c446_2)).trans hx448_2; replace hx448_3 := (cell_far (p := ⟨gb447, 2, none⟩) z16_7 (.slice A446_2 ((rd_T62 l0 x17_1).f2).length c446_2)).trans hx448_3; replace hx448_4 := (cell_far (p := ⟨gb447, 2, none⟩) z16_7 (.slice A446_2 ((rd_T62 l0 x17_1).f2).length c446_2)).trans hx448_4; replace hx448_5 := (cell_far (p := ⟨gb447, 2, none⟩) z16_7 (.slice A446_2 ((rd_T62 l0 x17_1).f2).length c446_2)).trans hx448_5; replace hx448_6 := (cell_far (p := ⟨gb447, 2, none⟩) z16_7 (.slice A446_2 ((rd_T62 l0 x17_1).f2).length c446_2)).trans hx448_6; replace hx448_0 := (cell_far (p := ⟨gb447, 3, none⟩) z16_8 (.slice A446_3 ((rd_T62 l0 x17_1).f3).length c446_3)).trans hx448_0; replace hx448_1 := (cell_far (p := ⟨gb447, 3, none⟩) z16_8 (.slice A446_3 ((rd_T62 l0 x17_1).f3).length c446_3)).trans hx448_1; replace hx448_2 := (cell_far (p := ⟨gb447, 3, none⟩) z16_8 (.slice A446_3 ((rd_T62 l0 x17_1).f3).length c446_3)).trans hx448_2; replace hx448_3 := (cell_far (p := ⟨gb447, 3, none⟩) z16_8 (.slice A446_3 ((rd_T62 l0 x17_1).f3).length c446_3)).trans hx448_3; replace hx448_4 := (cell_far (p := ⟨gb447, 3, none⟩) z16_8 (.slice A446_3 ((rd_T62 l0 x17_1).f3).length c446_3)).trans hx448_4; replace hx448_5 := (cell_far (p := ⟨gb447, 3, none⟩) z16_8 (.slice A446_3 ((rd_T62 l0 x17_1).f3).length c446_3)).trans hx448_5; replace hx448_6 := (cell_far (p := ⟨gb447, 3, none⟩) z16_8 (.slice A446_3 ((rd_T62 l0 x17_1).f3).length c446_3)).trans hx448_6; replace hx448_0 := (cell_far (p := ⟨gb447, 4, none⟩) z16_9 (.slice A446_4 ((rd_T62 l0 x17_1).f4).length c446_4)).trans hx448_0; replace hx448_1 := (cell_far (p := ⟨gb447, 4, none⟩) z16_9 (.slice A446_4 ((rd_T62 l0 x17_1).f4).length c446_4)).trans hx448_1; replace hx448_2 := (cell_far (p := ⟨gb447, 4, none⟩) z16_9 (.slice A446_4 ((rd_T62 l0 x17_1).f4).length c446_4)).trans hx448_2; replace hx448_3 := (cell_far (p := ⟨gb447, 4, none⟩) z16_9 (.slice A446_4 ((rd_T62 l0 x17_1).f4).length c446_4)).trans hx448_3; replace hx448_4 := (cell_far (p := ⟨gb447, 4, none⟩) z16_9 (.slice A446_4 ((rd_T62 l0 x17_1).f4).length c446_4)).trans hx448_4; replace hx448_5 := (cell_far (p := ⟨gb447, 4, none⟩) z16_9 (.slice A446_4 ((rd_T62 l0 x17_1).f4).length c446_4)).trans hx448_5; replace hx448_6 := (cell_far (p := ⟨gb447, 4, none⟩) z16_9 (.slice A446_4 ((rd_T62 l0 x17_1).f4).length c446_4)).trans hx448_6; replace hx448_0 := (cell_far (p := ⟨gb447, 5, none⟩) z16_10 (.slice A446_5 ((rd_T62 l0 x17_1).f5).length c446_5)).trans hx448_0; replace hx448_1 := (cell_far (p := ⟨gb447, 5, none⟩) z16_10 (.slice A446_5 ((rd_T62 l0 x17_1).f5).length c446_5)).trans hx448_1; replace hx448_2 := (cell_far (p := ⟨gb447, 5, none⟩) z16_10 (.slice A446_5 ((rd_T62 l0 x17_1).f5).length c446_5)).trans hx448_2; replace hx448_3 := (cell_far (p := ⟨gb447, 5, none⟩) z16_10 (.slice A446_5 ((rd_T62 l0 x17_1).f5).length c446_5)).trans hx448_3; replace hx448_4 := (cell_far (p := ⟨gb447, 5, none⟩) z16_10 (.slice A446_5 ((rd_T62 l0 x17_1).f5).length c446_5)).trans hx448_4; replace hx448_5 := (cell_far (p := ⟨gb447, 5, none⟩) z16_10 (.slice A446_5 ((rd_T62 l0 x17_1).f5).length c446_5)).trans hx448_5; replace hx448_6 := (cell_far (p := ⟨gb447, 5, none⟩) z16_10 (.slice A446_5 ((rd_T62 l0 x17_1).f5).length c446_5)).trans hx448_6; replace hx448_0 := (cell_far (p := ⟨gb447, 6, none⟩) z16_11 (.slice A446_6 ((rd_T62 l0 x17_1).f6).length c446_6)).trans hx448_0; replace hx448_1 := (cell_far (p := ⟨gb447, 6, none⟩) z16_11 (.slice A446_6 ((rd_T62 l0 x17_1).f6).length c446_6)).trans hx448_1; replace hx448_2 := (cell_far (p := ⟨gb447, 6, none⟩) z16_11 (.slice A446_6 ((rd_T62 l0 x17_1).f6).length c446_6)).trans hx448_2; replace hx448_3 := (cell_far (p := ⟨gb447, 6, none⟩) z16_11 (.slice A446_6 ((rd_T62 l0 x17_1).f6).length c446_6)).trans hx448_3; replace hx448_4 := (cell_far (p := ⟨gb447, 6, none⟩) z16_11 (.slice A446_6 ((rd_T62 l0 x17_1).f6).length c446_6)).trans hx448_4; replace hx448_5 := (cell_far (p := ⟨gb447, 6, none⟩) z16_11 (.slice A446_6 ((rd_T62 l0 x17_1).f6).length c446_6)).trans hx448_5; replace hx448_6 := (cell_far (p := ⟨gb447, 6, none⟩) z16_11 (.slice A446_6 ((rd_T62 l0 x17_1).f6).length c446_6)).trans hx448_6; clear hn448_0; clear hn448_1; clear hn448_2; clear hn448_3; clear hn448_4; clear hn448_5; clear hn448_6; replace p448 := eq_true p448; replace q448 := eq_true q448) | ((with_reducible refine gate_dst (N := 9) rfl ?_); refine box_event ?hg (N := 9) ?hd (cs := #[.slice none 0 0, .bool false, .slice none 0 0, .slice none 0 0, .slice none 0 0, .slice none 0 0, .slice none 0 0]) (t := 62) ?hr ?_; (case hd => rfl); (case hg => rfl); (case hr => first | (go_simp; done) | (go_simp; rfl)); intro gb449 hg w19 hbox hb; have n0_ := Aside0.mk (blk_below (g := gb447) (o := .cells #[.slice A446_0 ((rd_T62 l0 x17_1).f0).length c446_0, .bool ((rd_T62 l0 x17_1).f1), .slice A446_2 ((rd_T62 l0 x17_1).f2).length c446_2, .slice A446_3 ((rd_T62 l0 x17_1).f3).length c446_3, .slice A446_4 ((rd_T62 l0 x17_1).f4).length c446_4, .slice A446_5 ((rd_T62 l0 x17_1).f5).length c446_5, .slice A446_6 ((rd_T62 l0 x17_1).f6).length c446_6] 62 (0, 0)) z16_1 hb); have n1_ := Aside0.mk (below_step z16_0 hb); have n2_ := Aside0.mk (hbox); have n3_ := Aside0.mk ((z16_13 : w.heap.size ≤ gb449)); have n4_ := Aside0.mk ((z16_13 : w.heap.size ≤ gb449)); have n5_ := Aside0.mk ((z16_16 : gb447 ≠ gb449)); have n6_ := Aside0.mk ((z16_17 : gb449 ≠ gb447)); clear BK447; clear HB; have BK447 := n0_; have HB := n1_; have BK449 := n2_; have GW449 := n3_; have GE449 := n4_; have NB447_449 := n5_; have NB449_447 := n6_; clear n0_ n1_ n2_ n3_ n4_ n5_ n6_; clear hb hbox hg; have hnb20 := NB449_447.out; have hnc20 := NB447_449.out; obtain ⟨hcz21_0, hcz21_1, hcz21_2, hcz21_3, hcz21_4, hcz21_5, hcz21_6⟩ := cz7x16 BK449.out; obtain ⟨hfz21_0, hfz21_1, hfz21_2, hfz21_3, hfz21_4, hfz21_5, hfz21_6⟩ := fz7x16 BK449.out; obtain ⟨hcz22_0, hcz22_1, hcz22_2, hcz22_3, hcz22_4, hcz22_5, hcz22_6⟩ := cz7x16 BK447.out; obtain ⟨hfz22_0, hfz22_1, hfz22_2, hfz22_3, hfz22_4, hfz22_5, hfz22_6⟩ := fz7x16 BK447.out))
      (with_reducible refine (sT.calls k1 _ _ ((rd_T62 l0 x17_1).f0) ((rd_T62 l0 x17_1).f1) _ _ ((rd_T62 l0 x17_1).f2) _ _ ((rd_T62 l0 x17_1).f3) _ _ ((rd_T62 l0 x17_1).f4) _ _ ((rd_T62 l0 x17_1).f5) _ _ ((rd_T62 l0 x17_1).f6) _ _ ((rd_T62 l1 x17_1).f0) ((rd_T62 l1 x17_1).f1) _ _ ((rd_T62 l1 x17_1).f2) _ _ ((rd_T62 l1 x17_1).f3) _ _ ((rd_T62 l1 x17_1).f4) _ _ ((rd_T62 l1 x17_1).f5) _ _ ((rd_T62 l1 x17_1).f6) false _ ?side1 ?side2 ?side3 ?side4 ?side5 ?side6 ?side7 ?side8 ?side9 ?side10 ?side11 ?side12 ?side13 ?side14 ?side15 ?side16 ?side17 ?side18 ?side19 ?side20 ?side21 ?side22 ?side23 ?side24 A8.out).mono ?_)
      (case side1 => exact Kd.C_below HR446_0.out z16_0)
      (case side2 => exact HC446_0.out)
      (case side3 => exact Kd.C_below HR446_2.out z16_0)
      (case side4 => exact HC446_2.out)
      (case side5 => exact Kd.C_below HR446_3.out z16_0)
      (case side6 => exact HC446_3.out)
      (case side7 => exact Kd.C_below HR446_4.out z16_0)
      (case side8 => exact HC446_4.out)
      (case side9 => exact Kd.C_below HR446_5.out z16_0)
      (case side10 => exact HC446_5.out)
      (case side11 => exact Kd.C_below HR446_6.out z16_0)
      (case side12 => exact HC446_6.out)
      (case side13 => exact Kd.C_below HR448_0.out z16_0)
      (case side14 => exact HC448_0.out)
      (case side15 => exact Kd.C_below HR448_2.out z16_0)
      (case side16 => exact HC448_2.out)
      (case side17 => exact Kd.C_below HR448_3.out z16_0)
      (case side18 => exact HC448_3.out)
      (case side19 => exact Kd.C_below HR448_4.out z16_0)
      (case side20 => exact HC448_4.out)
      (case side21 => exact Kd.C_below HR448_5.out z16_0)
      (case side22 => exact HC448_5.out)
      (case side23 => exact Kd.C_below HR448_6.out z16_0)
      (case side24 => exact HC448_6.out)
      rintro e w23 ⟨rfl, hb⟩
      have n0_ := Aside0.mk (blk_below (g := gb447) (o := .cells #[.slice A446_0 ((rd_T62 l0 x17_1).f0).length c446_0, .bool ((rd_T62 l0 x17_1).f1), .slice A446_2 ((rd_T62 l0 x17_1).f2).length c446_2, .slice A446_3 ((rd_T62 l0 x17_1).f3).length c446_3, .slice A446_4 ((rd_T62 l0 x17_1).f4).length c446_4, .slice A446_5 ((rd_T62 l0 x17_1).f5).length c446_5, .slice A446_6 ((rd_T62 l0 x17_1).f6).length c446_6] 62 (0, 0)) z16_14 hb)
      have n1_ := Aside0.mk (blk_below (g := gb449) (o := .cells #[.slice A448_0 ((rd_T62 l1 x17_1).f0).length c448_0, .bool ((rd_T62 l1 x17_1).f1), .slice A448_2 ((rd_T62 l1 x17_1).f2).length c448_2, .slice A448_3 ((rd_T62 l1 x17_1).f3).length c448_3, .slice A448_4 ((rd_T62 l1 x17_1).f4).length c448_4, .slice A448_5 ((rd_T62 l1 x17_1).f5).length c448_5, .slice A448_6 ((rd_T62 l1 x17_1).f6).length c448_6] 62 (0, 0)) z16_2 hb)
      have n2_ := Aside0.mk (below_step z16_0 hb)
      clear BK447
      clear BK449
      clear HB
      have BK447 := n0_
      have BK449 := n1_
      have HB := n2_
      clear n0_ n1_ n2_
      clear hb
      go_wp2
      go_ret
      exact ⟨by first | rfl | (simp [errW_none, errW_some] <;> rfl) | (simp [*, errW_none, errW_some] <;> rfl), by repeat (first | (with_reducible first | exact HB.out | apply below_alloc | apply pw_below_drewN | apply below_drew1 | refine below_set ?_ GE438.out | refine below_set ?_ GE439.out | refine below_set ?_ GE447.out | refine below_set ?_ GE449.out) | exact HB.out)⟩
    ·rw [if_neg c4] at H
     have c4b0 : decide (x17_1 < (l0.length : Int)) = false := decide_eq_false c4
     clear c4
     obtain rfl := Option.some.inj H
     go_wp2
     go_ret
     exact ⟨by first | rfl | (simp [errW_none, errW_some] <;> rfl) | (simp [*, errW_none, errW_some] <;> rfl), by repeat (first | (with_reducible first | exact HB.out | apply below_alloc | apply pw_below_drewN | apply below_drew1 | refine below_set ?_ GE438.out | refine below_set ?_ GE439.out | refine below_set ?_ GE447.out | refine below_set ?_ GE449.out) | exact HB.out)⟩
 ·rw [if_neg c3] at H
  have c3b0 : ((l0.length : Int) == (l1.length : Int)) = false := beq_eq_false_iff_ne.mpr c3
  have c3b1 : ((l0.length : Int) != (l1.length : Int)) = true := bne_iff_ne.mpr c3
  have c3b2 : (l0.length == l1.length) = false := by first | simpa using c3 | (simp at c3 ⊢; omega)
  obtain rfl := Option.some.inj H
  go_enter Try.func28, Try.ntmps28
  go_wp2
  go_ret
  exact ⟨by first | rfl | (simp [errW_none, errW_some] <;> rfl) | (simp [*, errW_none, errW_some] <;> rfl), by repeat (first | (with_reducible first | exact HB.out | apply below_alloc | apply pw_below_drewN | apply below_drew1 | refine below_set ?_ GE438.out | refine below_set ?_ GE439.out | refine below_set ?_ GE447.out | refine below_set ?_ GE449.out) | exact HB.out)⟩

end Go.Proofs.Ytchkmmbedgolbaa.PFnTuplesOf

