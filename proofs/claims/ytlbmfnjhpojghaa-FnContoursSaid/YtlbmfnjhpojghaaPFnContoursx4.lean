-- Written by a program of this session (xprint) out of the translation; Lean checks it.
import Derived.Test.YtlbmfnjhpojghaaPFnContoursx0
import Derived.Test.YtlbmfnjhpojghaaPFnContoursx1
import Derived.Test.YtlbmfnjhpojghaaPFnContoursx3
namespace Go.Proofs.Ytlbmfnjhpojghaa.PFnContours
open Go.RowKit Go.Proofs.YtlbmfnjhpojghaaW.PrintWords Go.Proofs.YtlbmfnjhpojghaaW.PrintLast Go.Proofs.YtlbmfnjhpojghaaW.PrintMore
attribute [local go_sem] max2_int min2_int max_two min_two max_three min_three max_four min_four   -- for this text's walks alone
set_option linter.unusedVariables false
set_option linter.unusedSimpArgs false

attribute [local go_sem high] eqA124
attribute [local go_sem] f_add f_sub f_mul f_quo f_conv f_same f_int f_max f_store
/-! ### spec_PiecesOf: function 17 -/
def spec_PiecesOf.T5 : Bool × List (List Nat × List Nat) := (true, [([], []), ([0], [0]), ([1], [1]), ([], []), ([3], [3]), ([4], [4]), ([2, 5], [2, 5]), ([], []), ([7], [7]), ([8], [8]), ([], []), ([10], [10]), ([11], [11]), ([9, 12], [9, 12]), ([], []), ([], []), ([14, 6, 0, 1, 2, 3, 4, 5, 6, 14, 15], [6, 14]), ([15, 13, 16, 0, 1, 2, 3, 4, 5, 6, 7, 8, 9, 10, 11, 12, 13, 14, 15, 16], [13, 15])])
def spec_PiecesOf.B5 : List Nat := [0, 1, 3, 0, 8, 24, 63, 0, 128, 384, 0, 1024, 3072, 8064, 0, 0, 49279, 131071]
theorem spec_PiecesOf.tab5 : rtab .any (opsOf Try.f17 5) = spec_PiecesOf.T5 := by kernel_rfl
theorem spec_PiecesOf.bits5 : waitsOk spec_PiecesOf.T5.2 spec_PiecesOf.B5 = true := by kernel_rfl
def spec_PiecesOf.T9 : Bool × List (List Nat × List Nat) := (true, [([], []), ([], []), ([0, 1], [0, 1]), ([], []), ([], []), ([2, 2, 0, 1, 2], [0, 2]), ([3, 5, 0, 1, 2, 3, 5], [3]), ([4, 6, 0, 1, 2, 3, 4, 5, 6], [4])])
def spec_PiecesOf.B9 : List Nat := [0, 0, 3, 0, 0, 7, 47, 127]
theorem spec_PiecesOf.tab9 : rtab .any (opsOf Try.f17 9) = spec_PiecesOf.T9 := by kernel_rfl
theorem spec_PiecesOf.bits9 : waitsOk spec_PiecesOf.T9.2 spec_PiecesOf.B9 = true := by kernel_rfl
def spec_PiecesOf.T15 : Bool × List (List Nat × List Nat) := (true, [([], []), ([], []), ([], []), ([], []), ([2, 3], [2, 3]), ([4], [4]), ([], []), ([], []), ([6, 7], [6, 7]), ([8], [8]), ([5, 9], [5, 9]), ([0, 1, 0, 1, 2, 3, 4, 5, 6, 7, 8, 9, 10], [0, 1]), ([11, 10, 10, 0, 1, 2, 3, 4, 5, 6, 7, 8, 9, 10], [10, 11])])
def spec_PiecesOf.B15 : List Nat := [0, 0, 0, 0, 12, 28, 0, 0, 192, 448, 1020, 2047, 4095]
theorem spec_PiecesOf.tab15 : rtab .any (opsOf Try.f17 15) = spec_PiecesOf.T15 := by kernel_rfl
theorem spec_PiecesOf.bits15 : waitsOk spec_PiecesOf.T15.2 spec_PiecesOf.B15 = true := by kernel_rfl
def spec_PiecesOf.T17 : Bool × List (List Nat × List Nat) := (true, [([], []), ([], []), ([], []), ([], []), ([2, 3], [2, 3]), ([4], [4]), ([], []), ([], []), ([], []), ([6, 7, 8], [6, 7, 8]), ([9], [9]), ([5, 10], [5, 10]), ([0, 1, 0, 1, 2, 3, 4, 5, 6, 7, 8, 9, 10, 11], [0, 1]), ([12, 11, 11, 0, 1, 2, 3, 4, 5, 6, 7, 8, 9, 10, 11], [11, 12])])
def spec_PiecesOf.B17 : List Nat := [0, 0, 0, 0, 12, 28, 0, 0, 0, 448, 960, 2044, 4095, 8191]
theorem spec_PiecesOf.tab17 : rtab .any (opsOf Try.f17 17) = spec_PiecesOf.T17 := by kernel_rfl
theorem spec_PiecesOf.bits17 : waitsOk spec_PiecesOf.T17.2 spec_PiecesOf.B17 = true := by kernel_rfl
set_option maxHeartbeats 8000000 in
set_option maxRecDepth 100000 in
theorem spec_PiecesOf.calls (k : Nat) (A0 : Option Addr) (c0 : Nat) (l0 : List (S127)) (r1 : List (List (S129))) (r2 : Bool) (w : World) (hr0 : Kd.C k127 w A0 l0.length l0) (hc0 : l0.length ≤ c0) (h : spec_PiecesOf.f k l0 = some (r1, r2)) :
  Calls Try.prog 17 #[.slice A0 l0.length c0] w fun e w' => ∃ v0_ : Value, e = .returned (.tuple #[v0_, .bool r2]) ∧ Kd.S (Kd.slice 129 k129) 62 w' w.heap.size (fun _ => True) v0_ r1 ∧ Below w.heap.size w w' := by
 have hu124 := Try.underlying124
 have hu127 := Try.underlying127
 have hu129 := Try.underlying129
 have HR0 := Aside0.mk hr0
 have HC0 := Aside0.mk hc0
 clear hr0 hc0
 have HB := Aside0.mk (Below.refl w.heap.size w)
 have H : (spec_PiecesOf.l0 k ([] : List (List (S129))) l0 (l0.length : Int) 0 0 0 0 0) = some (r1, r2) := h
 clear h
 have H' := Aside0.mk H
 clear H
 go_enter Try.func17, Try.ntmps17
 go_wp2_with (first | ((with_reducible refine gate_dst (N := 4) rfl ?_); refine box_event ?hg (N := 4) ?hd (cs := #[.float .f32 0, .float .f32 0]) (t := 124) ?hr ?_; (case hd => rfl); (case hg => rfl); (case hr => first | (go_simp; done) | (go_simp; rfl)); intro gb113 hg w2 hbox hb; have n0_ := Aside0.mk (below_step (by repeat (first | (with_reducible first | exact HB.out | apply below_alloc | apply pw_below_drewN | apply below_drew1) | exact HB.out)) hb); have n1_ := Aside0.mk (hbox); have n2_ := Aside0.mk ((by rw [hg]; exact (below_size (by repeat (first | (with_reducible first | exact HB.out | apply below_alloc | apply pw_below_drewN | apply below_drew1) | exact HB.out))) : w.heap.size ≤ gb113)); have n3_ := Aside0.mk ((by rw [hg]; exact (below_size (by repeat (first | (with_reducible first | exact HB.out | apply below_alloc | apply pw_below_drewN | apply below_drew1) | exact HB.out))) : w.heap.size ≤ gb113)); clear HB; have HB := n0_; have BK113 := n1_; have GW113 := n2_; have GE113 := n3_; clear n0_ n1_ n2_ n3_; clear hb hbox hg) | ((with_reducible refine gate_dst (N := 5) rfl ?_); refine box_event ?hg (N := 5) ?hd (cs := #[.float .f32 0, .float .f32 0]) (t := 124) ?hr ?_; (case hd => rfl); (case hg => rfl); (case hr => first | (go_simp; done) | (go_simp; rfl)); intro gb114 hg w3 hbox hb; have n0_ := Aside0.mk (blk_below (g := gb113) (o := .cells #[.float .f32 0, .float .f32 0] 124 (0, 0)) (by (with_reducible repeat (first | apply b1_ | apply b2_ | apply b3_)); exact BK113.out) hb); have n1_ := Aside0.mk (below_step (by repeat (first | (with_reducible first | exact HB.out | apply below_alloc | apply pw_below_drewN | apply below_drew1 | refine below_set ?_ GE113.out) | exact HB.out)) hb); have n2_ := Aside0.mk (hbox); have n3_ := Aside0.mk ((by rw [hg]; exact (below_size (by repeat (first | (with_reducible first | exact HB.out | apply below_alloc | apply pw_below_drewN | apply below_drew1 | refine below_set ?_ GE113.out) | exact HB.out))) : w.heap.size ≤ gb114)); have n4_ := Aside0.mk ((by rw [hg]; exact (below_size (by repeat (first | (with_reducible first | exact HB.out | apply below_alloc | apply pw_below_drewN | apply below_drew1 | refine below_set ?_ GE113.out) | exact HB.out))) : w.heap.size ≤ gb114)); have n5_ := Aside0.mk ((by rw [hg]; exact Nat.ne_of_lt (blk_lt (g := gb113) (o := .cells #[.float .f32 0, .float .f32 0] 124 (0, 0)) (by (with_reducible repeat (first | apply b1_ | apply b2_ | apply b3_)); exact BK113.out)) : gb113 ≠ gb114)); have n6_ := Aside0.mk ((by rw [hg]; exact Nat.ne_of_gt (blk_lt (g := gb113) (o := .cells #[.float .f32 0, .float .f32 0] 124 (0, 0)) (by (with_reducible repeat (first | apply b1_ | apply b2_ | apply b3_)); exact BK113.out)) : gb114 ≠ gb113)); clear BK113; clear HB; have BK113 := n0_; have HB := n1_; have BK114 := n2_; have GW114 := n3_; have GE114 := n4_; have NB113_114 := n5_; have NB114_113 := n6_; clear n0_ n1_ n2_ n3_ n4_ n5_ n6_; clear hb hbox hg))
 go_loopg [2, 13] k (fun kq v2 v13 w' => ∃ (x2_1 : List (List (S129))) (x13_1 : Int) (x114000_1 : Nat) (x114001_1 : Nat) (x115000_1 : Nat) (x115001_1 : Nat), v13 = .int .i64 x13_1 ∧ Aside0 (spec_PiecesOf.l0 kq x2_1 l0 (l0.length : Int) x13_1 x114000_1 x114001_1 x115000_1 x115001_1 = some (r1, r2)) ∧ Aside0 (kq ≤ k) ∧ Aside0 (Kd.S (Kd.slice 129 k129) 62 w' w.heap.size (fun _ => True) v2 x2_1) ∧ Aside0 (w'.heap[gb113]? = some (.cells #[.float .f32 x114000_1, .float .f32 x114001_1] 124 (0, 0))) ∧ Aside0 (w'.heap[gb114]? = some (.cells #[.float .f32 x115000_1, .float .f32 x115001_1] 124 (0, 0))) ∧ Aside0 (Below w.heap.size w w'))
 case atStart => exact ⟨(([] : List (List (S129)))), (0), (0), (0), (0), (0), (by first | rfl | (simp; done) | (simp [*]; done)), H', ⟨Nat.le_refl _⟩, ⟨by first | exact Kd.S_nil _ _ _ _ _ | exact Kd.N_nil _ _ _ _ _ | exact Kd.V_nil _ _ _ _ _ | exact Kd.Q_nil _ _ _ _ _ | exact Kd.R_nil _ _ _ _ _⟩, ⟨by (with_reducible repeat (first | apply b1_ | apply b2_ | apply b3_)); exact BK113.out⟩, ⟨by (with_reducible repeat (first | apply b1_ | apply b2_ | apply b3_)); exact BK114.out⟩, ⟨by repeat (first | (with_reducible first | exact HB.out | apply below_alloc | apply pw_below_drewN | apply below_drew1 | refine below_set ?_ GE113.out | refine below_set ?_ GE114.out) | exact HB.out)⟩⟩
 case round =>
  clear H'
  (try clear c1); (try clear p2)
  obtain ⟨x2_1, x13_1, x114000_1, x114001_1, x115000_1, x115001_1, rfl, HA, HK1, HO_2, BK113, BK114, HB⟩ := hrel
  cases gk with
  | zero => exact absurd HA.out (by simp [spec_PiecesOf.l0])
  | succ k1 =>
   have H := HA.out
   clear HA
   simp only [spec_PiecesOf.l0] at H
   by_cases c4 : x13_1 < (l0.length : Int)
   ·rw [if_pos c4] at H
    have c4b0 : decide (x13_1 < (l0.length : Int)) = true := decide_eq_true c4
    clear c4
    by_cases c5 : 0 ≤ x13_1
    rotate_left
    ·rw [if_neg c5] at H
     exact absurd H (by simp)
    rw [if_pos c5] at H
    have c5b0 : decide (0 ≤ x13_1) = true := decide_eq_true c5
    clear c5
    by_cases c6 : x13_1 < (l0.length : Int)
    rotate_left
    ·rw [if_neg c6] at H
     exact absurd H (by simp)
    rw [if_pos c6] at H
    have c6b0 : decide (x13_1 < (l0.length : Int)) = true := decide_eq_true c6
    clear c6
    by_cases c7 : ((rd_T127 l0 x13_1).f0) = 0
    ·rw [if_pos c7] at H
     have c7b0 : (((rd_T127 l0 x13_1).f0) == 0) = true := beq_iff_eq.mpr c7
     have c7b1 : (((rd_T127 l0 x13_1).f0) != 0) = false := bne_eq_false_iff_eq.mpr c7
     clear c7
     have HC8 := Aside0.mk H
     clear H
     have p115 : 0 ≤ (x13_1 : Int) := of_decide_eq_true (by first | (with_reducible assumption) | assumption)
     have q115 : x13_1 < (l0.length : Int) := of_decide_eq_true (by first | (with_reducible assumption) | assumption)
     obtain ⟨ad115, e115, hx115_0, hx115_1, hx115_2, hx115_3, hx115_4, hx115_5, hx115_6⟩ := at_T127 HR0.out x13_1 p115 q115
     cases e115
     replace hx115_0 := (HB.out.cell (World.block_lt_of_cell? w _ hx115_0)).trans hx115_0
     replace hx115_1 := (HB.out.cell (World.block_lt_of_cell? w _ hx115_1)).trans hx115_1
     replace hx115_2 := (HB.out.cell (World.block_lt_of_cell? w _ hx115_2)).trans hx115_2
     replace hx115_3 := (HB.out.cell (World.block_lt_of_cell? w _ hx115_3)).trans hx115_3
     replace hx115_4 := (HB.out.cell (World.block_lt_of_cell? w _ hx115_4)).trans hx115_4
     replace hx115_5 := (HB.out.cell (World.block_lt_of_cell? w _ hx115_5)).trans hx115_5
     replace hx115_6 := (HB.out.cell (World.block_lt_of_cell? w _ hx115_6)).trans hx115_6
     replace p115 := eq_true p115
     replace q115 := eq_true q115
     try go_wp2_with (first | ((with_reducible refine gate_dst (N := 7) rfl ?_); refine box_event ?hg (N := 7) ?hd (cs := #[.int .i64 0, .float .f32 0, .float .f32 0, .float .f32 0, .float .f32 0, .float .f32 0, .float .f32 0]) (t := 127) ?hr ?_; (case hd => rfl); (case hg => rfl); (case hr => first | (go_simp; done) | (go_simp; rfl)); intro gb116 hg w9 hbox hb; have n0_ := Aside0.mk (Kd.S_below (by (with_reducible repeat (first | apply Kd.S_alloc | apply Kd.S_drewN | apply Kd.S_drew)); exact HO_2.out) hb); have n1_ := Aside0.mk (blk_below (g := gb113) (o := .cells #[.float .f32 x114000_1, .float .f32 x114001_1] 124 (0, 0)) (by (with_reducible repeat (first | apply b1_ | apply b2_ | apply b3_)); exact BK113.out) hb); have n2_ := Aside0.mk (blk_below (g := gb114) (o := .cells #[.float .f32 x115000_1, .float .f32 x115001_1] 124 (0, 0)) (by (with_reducible repeat (first | apply b1_ | apply b2_ | apply b3_)); exact BK114.out) hb); have n3_ := Aside0.mk (below_step (by repeat (first | (with_reducible first | exact HB.out | apply below_alloc | apply pw_below_drewN | apply below_drew1 | refine below_set ?_ GE113.out | refine below_set ?_ GE114.out) | exact HB.out)) hb); have n4_ := Aside0.mk (hbox); have n5_ := Aside0.mk ((by rw [hg]; exact (below_size (by repeat (first | (with_reducible first | exact HB.out | apply below_alloc | apply pw_below_drewN | apply below_drew1 | refine below_set ?_ GE113.out | refine below_set ?_ GE114.out) | exact HB.out))) : w.heap.size ≤ gb116)); have n6_ := Aside0.mk ((by rw [hg]; exact (below_size (by repeat (first | (with_reducible first | exact HB.out | apply below_alloc | apply pw_below_drewN | apply below_drew1 | refine below_set ?_ GE113.out | refine below_set ?_ GE114.out) | exact HB.out))) : w.heap.size ≤ gb116)); have n7_ := Aside0.mk ((by rw [hg]; exact Nat.ne_of_lt (blk_lt (g := gb113) (o := .cells #[.float .f32 x114000_1, .float .f32 x114001_1] 124 (0, 0)) (by (with_reducible repeat (first | apply b1_ | apply b2_ | apply b3_)); exact BK113.out)) : gb113 ≠ gb116)); have n8_ := Aside0.mk ((by rw [hg]; exact Nat.ne_of_gt (blk_lt (g := gb113) (o := .cells #[.float .f32 x114000_1, .float .f32 x114001_1] 124 (0, 0)) (by (with_reducible repeat (first | apply b1_ | apply b2_ | apply b3_)); exact BK113.out)) : gb116 ≠ gb113)); have n9_ := Aside0.mk ((by rw [hg]; exact Nat.ne_of_lt (blk_lt (g := gb114) (o := .cells #[.float .f32 x115000_1, .float .f32 x115001_1] 124 (0, 0)) (by (with_reducible repeat (first | apply b1_ | apply b2_ | apply b3_)); exact BK114.out)) : gb114 ≠ gb116)); have n10_ := Aside0.mk ((by rw [hg]; exact Nat.ne_of_gt (blk_lt (g := gb114) (o := .cells #[.float .f32 x115000_1, .float .f32 x115001_1] 124 (0, 0)) (by (with_reducible repeat (first | apply b1_ | apply b2_ | apply b3_)); exact BK114.out)) : gb116 ≠ gb114)); clear HO_2; clear BK113; clear BK114; clear HB; have HO_2 := n0_; have BK113 := n1_; have BK114 := n2_; have HB := n3_; have BK116 := n4_; have GW116 := n5_; have GE116 := n6_; have NB113_116 := n7_; have NB116_113 := n8_; have NB114_116 := n9_; have NB116_114 := n10_; clear n0_ n1_ n2_ n3_ n4_ n5_ n6_ n7_ n8_ n9_ n10_; clear hb hbox hg; have hnb10 := NB116_113.out; have hnc10 := NB113_116.out; have hnb11 := NB116_114.out; have hnc11 := NB114_116.out; have hcz12_0 : w9.cell? ⟨gb116, 0, none⟩ = some (.int .i64 0) := (blk_cell BK116.out 0).trans rfl; have hcz12_1 : w9.cell? ⟨gb116, 1, none⟩ = some (.float .f32 0) := (blk_cell BK116.out 1).trans rfl; have hcz12_2 : w9.cell? ⟨gb116, 2, none⟩ = some (.float .f32 0) := (blk_cell BK116.out 2).trans rfl; have hcz12_3 : w9.cell? ⟨gb116, 3, none⟩ = some (.float .f32 0) := (blk_cell BK116.out 3).trans rfl; have hcz12_4 : w9.cell? ⟨gb116, 4, none⟩ = some (.float .f32 0) := (blk_cell BK116.out 4).trans rfl; have hcz12_5 : w9.cell? ⟨gb116, 5, none⟩ = some (.float .f32 0) := (blk_cell BK116.out 5).trans rfl; have hcz12_6 : w9.cell? ⟨gb116, 6, none⟩ = some (.float .f32 0) := (blk_cell BK116.out 6).trans rfl; have hfz12_0 := blk_frozen BK116.out 0; have hfz12_1 := blk_frozen BK116.out 1; have hfz12_2 := blk_frozen BK116.out 2; have hfz12_3 := blk_frozen BK116.out 3; have hfz12_4 := blk_frozen BK116.out 4; have hfz12_5 := blk_frozen BK116.out 5; have hfz12_6 := blk_frozen BK116.out 6))
     have n0_ : Aside0 (Kd.S (Kd.slice 129 k129) 62 (((((((w9.setCell ⟨gb116, 0, none⟩ (.int .i64 ((rd_T127 l0 x13_1).f0))).setCell ⟨gb116, 1, none⟩ (.float .f32 ((rd_T127 l0 x13_1).f1.f0))).setCell ⟨gb116, 2, none⟩ (.float .f32 ((rd_T127 l0 x13_1).f1.f1))).setCell ⟨gb116, 3, none⟩ (.float .f32 ((rd_T127 l0 x13_1).f1.f2))).setCell ⟨gb116, 4, none⟩ (.float .f32 ((rd_T127 l0 x13_1).f2.f0))).setCell ⟨gb116, 5, none⟩ (.float .f32 ((rd_T127 l0 x13_1).f2.f1))).setCell ⟨gb116, 6, none⟩ (.float .f32 ((rd_T127 l0 x13_1).f2.f2))) w.heap.size (fun _ => True) u2 x2_1) := ⟨by (with_reducible repeat (first | apply Kd.S_alloc | apply Kd.S_drewN | apply Kd.S_drew)); exact Kd.S_mono (Kd.S_far (p := ⟨gb116, 6, none⟩) (Kd.S_far (p := ⟨gb116, 5, none⟩) (Kd.S_far (p := ⟨gb116, 4, none⟩) (Kd.S_far (p := ⟨gb116, 3, none⟩) (Kd.S_far (p := ⟨gb116, 2, none⟩) (Kd.S_far (p := ⟨gb116, 1, none⟩) (Kd.S_far (p := ⟨gb116, 0, none⟩) (Kd.S_types HO_2.out BK116.out (by decide)) (fun _ hk => hk.2) (.int .i64 ((rd_T127 l0 x13_1).f0))) (fun _ hk => hk.2) (.float .f32 ((rd_T127 l0 x13_1).f1.f0))) (fun _ hk => hk.2) (.float .f32 ((rd_T127 l0 x13_1).f1.f1))) (fun _ hk => hk.2) (.float .f32 ((rd_T127 l0 x13_1).f1.f2))) (fun _ hk => hk.2) (.float .f32 ((rd_T127 l0 x13_1).f2.f0))) (fun _ hk => hk.2) (.float .f32 ((rd_T127 l0 x13_1).f2.f1))) (fun _ hk => hk.2) (.float .f32 ((rd_T127 l0 x13_1).f2.f2))) (fun _ hk => trivial)⟩
     have n1_ : Aside0 ((((((((w9.setCell ⟨gb116, 0, none⟩ (.int .i64 ((rd_T127 l0 x13_1).f0))).setCell ⟨gb116, 1, none⟩ (.float .f32 ((rd_T127 l0 x13_1).f1.f0))).setCell ⟨gb116, 2, none⟩ (.float .f32 ((rd_T127 l0 x13_1).f1.f1))).setCell ⟨gb116, 3, none⟩ (.float .f32 ((rd_T127 l0 x13_1).f1.f2))).setCell ⟨gb116, 4, none⟩ (.float .f32 ((rd_T127 l0 x13_1).f2.f0))).setCell ⟨gb116, 5, none⟩ (.float .f32 ((rd_T127 l0 x13_1).f2.f1))).setCell ⟨gb116, 6, none⟩ (.float .f32 ((rd_T127 l0 x13_1).f2.f2))).heap[gb113]? = some (.cells #[.float .f32 x114000_1, .float .f32 x114001_1] 124 (0, 0))) := ⟨by (with_reducible repeat (first | apply b1_ | apply b2_ | apply b3_)); refine blk_far ?_ NB113_116.out _; (with_reducible repeat (first | apply b1_ | apply b2_ | apply b3_)); refine blk_far ?_ NB113_116.out _; (with_reducible repeat (first | apply b1_ | apply b2_ | apply b3_)); refine blk_far ?_ NB113_116.out _; (with_reducible repeat (first | apply b1_ | apply b2_ | apply b3_)); refine blk_far ?_ NB113_116.out _; (with_reducible repeat (first | apply b1_ | apply b2_ | apply b3_)); refine blk_far ?_ NB113_116.out _; (with_reducible repeat (first | apply b1_ | apply b2_ | apply b3_)); refine blk_far ?_ NB113_116.out _; (with_reducible repeat (first | apply b1_ | apply b2_ | apply b3_)); refine blk_far ?_ NB113_116.out _; (with_reducible repeat (first | apply b1_ | apply b2_ | apply b3_)); exact BK113.out⟩
     have n2_ : Aside0 ((((((((w9.setCell ⟨gb116, 0, none⟩ (.int .i64 ((rd_T127 l0 x13_1).f0))).setCell ⟨gb116, 1, none⟩ (.float .f32 ((rd_T127 l0 x13_1).f1.f0))).setCell ⟨gb116, 2, none⟩ (.float .f32 ((rd_T127 l0 x13_1).f1.f1))).setCell ⟨gb116, 3, none⟩ (.float .f32 ((rd_T127 l0 x13_1).f1.f2))).setCell ⟨gb116, 4, none⟩ (.float .f32 ((rd_T127 l0 x13_1).f2.f0))).setCell ⟨gb116, 5, none⟩ (.float .f32 ((rd_T127 l0 x13_1).f2.f1))).setCell ⟨gb116, 6, none⟩ (.float .f32 ((rd_T127 l0 x13_1).f2.f2))).heap[gb114]? = some (.cells #[.float .f32 x115000_1, .float .f32 x115001_1] 124 (0, 0))) := ⟨by (with_reducible repeat (first | apply b1_ | apply b2_ | apply b3_)); refine blk_far ?_ NB114_116.out _; (with_reducible repeat (first | apply b1_ | apply b2_ | apply b3_)); refine blk_far ?_ NB114_116.out _; (with_reducible repeat (first | apply b1_ | apply b2_ | apply b3_)); refine blk_far ?_ NB114_116.out _; (with_reducible repeat (first | apply b1_ | apply b2_ | apply b3_)); refine blk_far ?_ NB114_116.out _; (with_reducible repeat (first | apply b1_ | apply b2_ | apply b3_)); refine blk_far ?_ NB114_116.out _; (with_reducible repeat (first | apply b1_ | apply b2_ | apply b3_)); refine blk_far ?_ NB114_116.out _; (with_reducible repeat (first | apply b1_ | apply b2_ | apply b3_)); refine blk_far ?_ NB114_116.out _; (with_reducible repeat (first | apply b1_ | apply b2_ | apply b3_)); exact BK114.out⟩
     have n3_ : Aside0 ((((((((w9.setCell ⟨gb116, 0, none⟩ (.int .i64 ((rd_T127 l0 x13_1).f0))).setCell ⟨gb116, 1, none⟩ (.float .f32 ((rd_T127 l0 x13_1).f1.f0))).setCell ⟨gb116, 2, none⟩ (.float .f32 ((rd_T127 l0 x13_1).f1.f1))).setCell ⟨gb116, 3, none⟩ (.float .f32 ((rd_T127 l0 x13_1).f1.f2))).setCell ⟨gb116, 4, none⟩ (.float .f32 ((rd_T127 l0 x13_1).f2.f0))).setCell ⟨gb116, 5, none⟩ (.float .f32 ((rd_T127 l0 x13_1).f2.f1))).setCell ⟨gb116, 6, none⟩ (.float .f32 ((rd_T127 l0 x13_1).f2.f2))).heap[gb116]? = some (.cells #[.int .i64 ((rd_T127 l0 x13_1).f0), .float .f32 ((rd_T127 l0 x13_1).f1.f0), .float .f32 ((rd_T127 l0 x13_1).f1.f1), .float .f32 ((rd_T127 l0 x13_1).f1.f2), .float .f32 ((rd_T127 l0 x13_1).f2.f0), .float .f32 ((rd_T127 l0 x13_1).f2.f1), .float .f32 ((rd_T127 l0 x13_1).f2.f2)] 127 (0, 0))) := ⟨by (with_reducible repeat (first | apply b1_ | apply b2_ | apply b3_)); refine blk_put (cs := #[.int .i64 ((rd_T127 l0 x13_1).f0), .float .f32 ((rd_T127 l0 x13_1).f1.f0), .float .f32 ((rd_T127 l0 x13_1).f1.f1), .float .f32 ((rd_T127 l0 x13_1).f1.f2), .float .f32 ((rd_T127 l0 x13_1).f2.f0), .float .f32 ((rd_T127 l0 x13_1).f2.f1), .float .f32 0]) ?_ 6 _ rfl; (with_reducible repeat (first | apply b1_ | apply b2_ | apply b3_)); refine blk_put (cs := #[.int .i64 ((rd_T127 l0 x13_1).f0), .float .f32 ((rd_T127 l0 x13_1).f1.f0), .float .f32 ((rd_T127 l0 x13_1).f1.f1), .float .f32 ((rd_T127 l0 x13_1).f1.f2), .float .f32 ((rd_T127 l0 x13_1).f2.f0), .float .f32 0, .float .f32 0]) ?_ 5 _ rfl; (with_reducible repeat (first | apply b1_ | apply b2_ | apply b3_)); refine blk_put (cs := #[.int .i64 ((rd_T127 l0 x13_1).f0), .float .f32 ((rd_T127 l0 x13_1).f1.f0), .float .f32 ((rd_T127 l0 x13_1).f1.f1), .float .f32 ((rd_T127 l0 x13_1).f1.f2), .float .f32 0, .float .f32 0, .float .f32 0]) ?_ 4 _ rfl; (with_reducible repeat (first | apply b1_ | apply b2_ | apply b3_)); refine blk_put (cs := #[.int .i64 ((rd_T127 l0 x13_1).f0), .float .f32 ((rd_T127 l0 x13_1).f1.f0), .float .f32 ((rd_T127 l0 x13_1).f1.f1), .float .f32 0, .float .f32 0, .float .f32 0, .float .f32 0]) ?_ 3 _ rfl; (with_reducible repeat (first | apply b1_ | apply b2_ | apply b3_)); refine blk_put (cs := #[.int .i64 ((rd_T127 l0 x13_1).f0), .float .f32 ((rd_T127 l0 x13_1).f1.f0), .float .f32 0, .float .f32 0, .float .f32 0, .float .f32 0, .float .f32 0]) ?_ 2 _ rfl; (with_reducible repeat (first | apply b1_ | apply b2_ | apply b3_)); refine blk_put (cs := #[.int .i64 ((rd_T127 l0 x13_1).f0), .float .f32 0, .float .f32 0, .float .f32 0, .float .f32 0, .float .f32 0, .float .f32 0]) ?_ 1 _ rfl; (with_reducible repeat (first | apply b1_ | apply b2_ | apply b3_)); refine blk_put (cs := #[.int .i64 0, .float .f32 0, .float .f32 0, .float .f32 0, .float .f32 0, .float .f32 0, .float .f32 0]) ?_ 0 _ rfl; (with_reducible repeat (first | apply b1_ | apply b2_ | apply b3_)); exact BK116.out⟩
     have n4_ : Aside0 (Below w.heap.size w (((((((w9.setCell ⟨gb116, 0, none⟩ (.int .i64 ((rd_T127 l0 x13_1).f0))).setCell ⟨gb116, 1, none⟩ (.float .f32 ((rd_T127 l0 x13_1).f1.f0))).setCell ⟨gb116, 2, none⟩ (.float .f32 ((rd_T127 l0 x13_1).f1.f1))).setCell ⟨gb116, 3, none⟩ (.float .f32 ((rd_T127 l0 x13_1).f1.f2))).setCell ⟨gb116, 4, none⟩ (.float .f32 ((rd_T127 l0 x13_1).f2.f0))).setCell ⟨gb116, 5, none⟩ (.float .f32 ((rd_T127 l0 x13_1).f2.f1))).setCell ⟨gb116, 6, none⟩ (.float .f32 ((rd_T127 l0 x13_1).f2.f2)))) := ⟨by repeat (first | (with_reducible first | exact HB.out | apply below_alloc | apply pw_below_drewN | apply below_drew1 | refine below_set ?_ GE113.out | refine below_set ?_ GE114.out | refine below_set ?_ GE116.out) | exact HB.out)⟩
     (try clear HO_2)
     (try clear BK113)
     (try clear BK114)
     (try clear BK116)
     (try clear HB)
     generalize (((((((w9.setCell ⟨gb116, 0, none⟩ (.int .i64 ((rd_T127 l0 x13_1).f0))).setCell ⟨gb116, 1, none⟩ (.float .f32 ((rd_T127 l0 x13_1).f1.f0))).setCell ⟨gb116, 2, none⟩ (.float .f32 ((rd_T127 l0 x13_1).f1.f1))).setCell ⟨gb116, 3, none⟩ (.float .f32 ((rd_T127 l0 x13_1).f1.f2))).setCell ⟨gb116, 4, none⟩ (.float .f32 ((rd_T127 l0 x13_1).f2.f0))).setCell ⟨gb116, 5, none⟩ (.float .f32 ((rd_T127 l0 x13_1).f2.f1))).setCell ⟨gb116, 6, none⟩ (.float .f32 ((rd_T127 l0 x13_1).f2.f2))) = w13 at n0_ n1_ n2_ n3_ n4_ ⊢
     have HO_2 := n0_
     have BK113 := n1_
     have BK114 := n2_
     have BK116 := n3_
     have HB := n4_
     clear n0_ n1_ n2_ n3_ n4_
     have n0_ := Aside0.mk (Kd.S_drew HO_2.out)
     have n1_ := Aside0.mk (blk_drew BK113.out)
     have n2_ := Aside0.mk (blk_drew BK114.out)
     have n3_ := Aside0.mk (blk_drew BK116.out)
     have n4_ := Aside0.mk (below_drew1 HB.out)
     clear HO_2
     clear BK113
     clear BK114
     clear BK116
     clear HB
     have HO_2 := n0_
     have BK113 := n1_
     have BK114 := n2_
     have BK116 := n3_
     have HB := n4_
     clear n0_ n1_ n2_ n3_ n4_
     refine start_ (n := 18) (S := fun w' => w'.cell? ⟨gb116, 0, none⟩ = some (.int .i64 ((rd_T127 l0 x13_1).f0)) ∧ w'.cell? ⟨gb116, 1, none⟩ = some (.float .f32 ((rd_T127 l0 x13_1).f1.f0)) ∧ w'.cell? ⟨gb116, 2, none⟩ = some (.float .f32 ((rd_T127 l0 x13_1).f1.f1)) ∧ w'.cell? ⟨gb116, 3, none⟩ = some (.float .f32 ((rd_T127 l0 x13_1).f1.f2)) ∧ w'.cell? ⟨gb116, 4, none⟩ = some (.float .f32 ((rd_T127 l0 x13_1).f2.f0)) ∧ w'.cell? ⟨gb116, 5, none⟩ = some (.float .f32 ((rd_T127 l0 x13_1).f2.f1)) ∧ w'.cell? ⟨gb116, 6, none⟩ = some (.float .f32 ((rd_T127 l0 x13_1).f2.f2))) (ds := []) #[ff,ff,ff,ff,ff,ff,ff,ff,ff,ff,ff,ff,ff,ff,ff,ff,ff,ff] (by kernel_rfl) rfl rfl ⟨(blk_cell BK116.out 0).trans rfl, (blk_cell BK116.out 1).trans rfl, (blk_cell BK116.out 2).trans rfl, (blk_cell BK116.out 3).trans rfl, (blk_cell BK116.out 4).trans rfl, (blk_cell BK116.out 5).trans rfl, (blk_cell BK116.out 6).trans rfl⟩ (fun hHeld => ?_); refine with_tabW spec_PiecesOf.tab5 spec_PiecesOf.bits5 (fun HT_ HW_ => ?_)
     generalize w13.drew = w14 at HO_2 BK113 BK114 BK116 HB hHeld ⊢
     refine pure_ (i := 0) (N := some 17) (v := ?_) (a' := ?_) #[tt,ff,ff,ff,ff,ff,ff,ff,ff,ff,ff,ff,ff,ff,ff,ff,ff,ff] rfl rfl (any_of HT_.out (by kernel_rfl)) (fun _ _ _ h => h) (Or.inl ⟨by rfl, ?_⟩) ?_ ?_
     rotate_left
     ·intro w'
      go_simp
      with_reducible rfl
     rotate_left
     ·simp only [Act.put, L1_, L2_, L3_, i64_w, i32_w]
      rfl
     refine pure_ (i := 1) (N := some 18) (v := ?_) (a' := ?_) #[tt,tt,ff,ff,ff,ff,ff,ff,ff,ff,ff,ff,ff,ff,ff,ff,ff,ff] rfl rfl (any_of HT_.out (by kernel_rfl)) (fun _ _ _ h => h) (Or.inl ⟨by rfl, ?_⟩) ?_ ?_
     rotate_left
     ·intro w'
      go_simp
      with_reducible rfl
     rotate_left
     ·simp only [Act.put, L1_, L2_, L3_, i64_w, i32_w]
      rfl
     refine pure_ (i := 3) (N := some 20) (v := ?_) (a' := ?_) #[tt,tt,ff,tt,ff,ff,ff,ff,ff,ff,ff,ff,ff,ff,ff,ff,ff,ff] rfl rfl (any_of HT_.out (by kernel_rfl)) (fun _ _ _ h => h) (Or.inl ⟨by rfl, ?_⟩) ?_ ?_
     rotate_left
     ·intro w'
      go_simp
      with_reducible rfl
     rotate_left
     ·simp only [Act.put, L1_, L2_, L3_, i64_w, i32_w]
      rfl
     refine pure_ (i := 4) (N := some 21) (v := ?_) (a' := ?_) #[tt,tt,ff,tt,tt,ff,ff,ff,ff,ff,ff,ff,ff,ff,ff,ff,ff,ff] rfl rfl (any_of HT_.out (by kernel_rfl)) (fun _ _ _ h => h) (Or.inl ⟨by rfl, ?_⟩) ?_ ?_
     rotate_left
     ·intro w'
      go_simp
      with_reducible rfl
     rotate_left
     ·simp only [Act.put, L1_, L2_, L3_, i64_w, i32_w]
      rfl
     refine pure_ (i := 7) (N := some 24) (v := ?_) (a' := ?_) #[tt,tt,ff,tt,tt,ff,ff,tt,ff,ff,ff,ff,ff,ff,ff,ff,ff,ff] rfl rfl (any_of HT_.out (by kernel_rfl)) (fun _ _ _ h => h) (Or.inl ⟨by rfl, ?_⟩) ?_ ?_
     rotate_left
     ·intro w'
      go_simp
      with_reducible rfl
     rotate_left
     ·simp only [Act.put, L1_, L2_, L3_, i64_w, i32_w]
      rfl
     refine pure_ (i := 8) (N := some 25) (v := ?_) (a' := ?_) #[tt,tt,ff,tt,tt,ff,ff,tt,tt,ff,ff,ff,ff,ff,ff,ff,ff,ff] rfl rfl (any_of HT_.out (by kernel_rfl)) (fun _ _ _ h => h) (Or.inl ⟨by rfl, ?_⟩) ?_ ?_
     rotate_left
     ·intro w'
      go_simp
      with_reducible rfl
     rotate_left
     ·simp only [Act.put, L1_, L2_, L3_, i64_w, i32_w]
      rfl
     refine pure_ (i := 10) (N := some 27) (v := ?_) (a' := ?_) #[tt,tt,ff,tt,tt,ff,ff,tt,tt,ff,tt,ff,ff,ff,ff,ff,ff,ff] rfl rfl (any_of HT_.out (by kernel_rfl)) (fun _ _ _ h => h) (Or.inl ⟨by rfl, ?_⟩) ?_ ?_
     rotate_left
     ·intro w'
      go_simp
      with_reducible rfl
     rotate_left
     ·simp only [Act.put, L1_, L2_, L3_, i64_w, i32_w]
      rfl
     refine pure_ (i := 11) (N := some 28) (v := ?_) (a' := ?_) #[tt,tt,ff,tt,tt,ff,ff,tt,tt,ff,tt,tt,ff,ff,ff,ff,ff,ff] rfl rfl (any_of HT_.out (by kernel_rfl)) (fun _ _ _ h => h) (Or.inl ⟨by rfl, ?_⟩) ?_ ?_
     rotate_left
     ·intro w'
      go_simp
      with_reducible rfl
     rotate_left
     ·simp only [Act.put, L1_, L2_, L3_, i64_w, i32_w]
      rfl
     refine take_ (i := 2) (N := some 19) (v := ?_) (a' := ?_) #[tt,tt,tt,tt,tt,ff,ff,tt,tt,ff,tt,tt,ff,ff,ff,ff,ff,ff] rfl rfl (take_ofW HT_.out HW_.out (by kernel_rfl)) (fun _ _ _ h => h) (Or.inl ⟨by rfl, ?_⟩) hHeld ?_ ?_
     rotate_left
     ·rintro w' ⟨s0, s1, s2, s3, s4, s5, s6⟩
      go_simp
      with_reducible rfl
     rotate_left
     ·simp only [Act.put, L1_, L2_, L3_, i64_w, i32_w]
      rfl
     refine take_ (i := 5) (N := some 22) (v := ?_) (a' := ?_) #[tt,tt,tt,tt,tt,tt,ff,tt,tt,ff,tt,tt,ff,ff,ff,ff,ff,ff] rfl rfl (take_ofW HT_.out HW_.out (by kernel_rfl)) (fun _ _ _ h => h) (Or.inl ⟨by rfl, ?_⟩) hHeld ?_ ?_
     rotate_left
     ·rintro w' ⟨s0, s1, s2, s3, s4, s5, s6⟩
      go_simp
      with_reducible rfl
     rotate_left
     ·simp only [Act.put, L1_, L2_, L3_, i64_w, i32_w]
      rfl
     refine pure_ (i := 6) (N := some 23) (v := ?_) (a' := ?_) #[tt,tt,tt,tt,tt,tt,tt,tt,tt,ff,tt,tt,ff,ff,ff,ff,ff,ff] rfl rfl (any_of HT_.out (by kernel_rfl)) (fun _ _ _ h => h) (Or.inl ⟨by rfl, ?_⟩) ?_ ?_
     rotate_left
     ·intro w'
      go_simp
      with_reducible rfl
     rotate_left
     ·simp only [Act.put, L1_, L2_, L3_, i64_w, i32_w]
      rfl
     refine take_ (i := 9) (N := some 26) (v := ?_) (a' := ?_) #[tt,tt,tt,tt,tt,tt,tt,tt,tt,tt,tt,tt,ff,ff,ff,ff,ff,ff] rfl rfl (take_ofW HT_.out HW_.out (by kernel_rfl)) (fun _ _ _ h => h) (Or.inl ⟨by rfl, ?_⟩) hHeld ?_ ?_
     rotate_left
     ·rintro w' ⟨s0, s1, s2, s3, s4, s5, s6⟩
      go_simp
      with_reducible rfl
     rotate_left
     ·simp only [Act.put, L1_, L2_, L3_, i64_w, i32_w]
      rfl
     refine take_ (i := 12) (N := some 29) (v := ?_) (a' := ?_) #[tt,tt,tt,tt,tt,tt,tt,tt,tt,tt,tt,tt,tt,ff,ff,ff,ff,ff] rfl rfl (take_ofW HT_.out HW_.out (by kernel_rfl)) (fun _ _ _ h => h) (Or.inl ⟨by rfl, ?_⟩) hHeld ?_ ?_
     rotate_left
     ·rintro w' ⟨s0, s1, s2, s3, s4, s5, s6⟩
      go_simp
      with_reducible rfl
     rotate_left
     ·simp only [Act.put, L1_, L2_, L3_, i64_w, i32_w]
      rfl
     refine pure_ (i := 13) (N := some 30) (v := ?_) (a' := ?_) #[tt,tt,tt,tt,tt,tt,tt,tt,tt,tt,tt,tt,tt,tt,ff,ff,ff,ff] rfl rfl (any_of HT_.out (by kernel_rfl)) (fun _ _ _ h => h) (Or.inl ⟨by rfl, ?_⟩) ?_ ?_
     rotate_left
     ·intro w'
      go_simp
      with_reducible rfl
     rotate_left
     ·simp only [Act.put, L1_, L2_, L3_, i64_w, i32_w]
      rfl
     refine join_ (σ := Nat × Nat) 2 #[tt,tt,tt,tt,tt,tt,tt,tt,tt,tt,tt,tt,tt,tt,tt,tt,ff,ff] (fun s_ => [(8, .pointer (some ⟨s_.1, 0, none⟩)), (9, .pointer (some ⟨s_.2, 0, none⟩))]) (fun s_ w' => (w'.cell? ⟨gb116, 0, none⟩ = some (.int .i64 ((rd_T127 l0 x13_1).f0)) ∧ w'.cell? ⟨gb116, 1, none⟩ = some (.float .f32 ((rd_T127 l0 x13_1).f1.f0)) ∧ w'.cell? ⟨gb116, 2, none⟩ = some (.float .f32 ((rd_T127 l0 x13_1).f1.f1)) ∧ w'.cell? ⟨gb116, 3, none⟩ = some (.float .f32 ((rd_T127 l0 x13_1).f1.f2)) ∧ w'.cell? ⟨gb116, 4, none⟩ = some (.float .f32 ((rd_T127 l0 x13_1).f2.f0)) ∧ w'.cell? ⟨gb116, 5, none⟩ = some (.float .f32 ((rd_T127 l0 x13_1).f2.f1)) ∧ w'.cell? ⟨gb116, 6, none⟩ = some (.float .f32 ((rd_T127 l0 x13_1).f2.f2))) ∧ (Kd.S (Kd.slice 129 k129) 62 w' w.heap.size (fun _ => True) u2 x2_1) ∧ (w'.heap[gb113]? = some (.cells #[.float .f32 x114000_1, .float .f32 x114001_1] 124 (0, 0))) ∧ (w'.heap[gb114]? = some (.cells #[.float .f32 x115000_1, .float .f32 x115001_1] 124 (0, 0))) ∧ (w'.heap[gb116]? = some (.cells #[.int .i64 ((rd_T127 l0 x13_1).f0), .float .f32 ((rd_T127 l0 x13_1).f1.f0), .float .f32 ((rd_T127 l0 x13_1).f1.f1), .float .f32 ((rd_T127 l0 x13_1).f1.f2), .float .f32 ((rd_T127 l0 x13_1).f2.f0), .float .f32 ((rd_T127 l0 x13_1).f2.f1), .float .f32 ((rd_T127 l0 x13_1).f2.f2)] 127 (0, 0))) ∧ (w'.heap[s_.1]? = some (.cells #[.float .f32 0, .float .f32 0] 124 (0, 0))) ∧ (w'.heap[s_.2]? = some (.cells #[.float .f32 0, .float .f32 0] 124 (0, 0))) ∧ (w.heap.size ≤ s_.1) ∧ (w.heap.size ≤ s_.1) ∧ (gb113 ≠ s_.1) ∧ (s_.1 ≠ gb113) ∧ (gb114 ≠ s_.1) ∧ (s_.1 ≠ gb114) ∧ (gb116 ≠ s_.1) ∧ (s_.1 ≠ gb116) ∧ (s_.2 ≠ s_.1) ∧ (s_.1 ≠ s_.2) ∧ (w.heap.size ≤ s_.2) ∧ (w.heap.size ≤ s_.2) ∧ (gb113 ≠ s_.2) ∧ (s_.2 ≠ gb113) ∧ (gb114 ≠ s_.2) ∧ (s_.2 ≠ gb114) ∧ (gb116 ≠ s_.2) ∧ (s_.2 ≠ gb116) ∧ (Below w.heap.size w w')) ?_ ?_
     rotate_left
     ·intro hCont
      refine two_ (i := 14) (j := 15) (Ni := some 8) (Nj := some 9) #[tt,tt,tt,tt,tt,tt,tt,tt,tt,tt,tt,tt,tt,tt,tt,ff,ff,ff] #[tt,tt,tt,tt,tt,tt,tt,tt,tt,tt,tt,tt,tt,tt,ff,tt,ff,ff] rfl rfl rfl rfl (two_of HT_.out (by kernel_rfl)) (by decide) (by decide) (fun K hK => ?_) (fun K hK => ?_)
      ·skip
       refine box_step ?hg (N := 8) ?hd (cs := #[.float .f32 0, .float .f32 0]) (t := 124) ?hr ?_; (case hd => rfl); (case hg => rfl); (case hr => first | (go_simp; done) | (go_simp; rfl))
       intro gb117 hg w15 hbox hb
       have n0_ := Aside0.mk (Kd.S_below (by (with_reducible repeat (first | apply Kd.S_alloc | apply Kd.S_drewN | apply Kd.S_drew)); exact HO_2.out) hb)
       have n1_ := Aside0.mk (blk_below (g := gb113) (o := .cells #[.float .f32 x114000_1, .float .f32 x114001_1] 124 (0, 0)) (by (with_reducible repeat (first | apply b1_ | apply b2_ | apply b3_)); exact BK113.out) hb)
       have n2_ := Aside0.mk (blk_below (g := gb114) (o := .cells #[.float .f32 x115000_1, .float .f32 x115001_1] 124 (0, 0)) (by (with_reducible repeat (first | apply b1_ | apply b2_ | apply b3_)); exact BK114.out) hb)
       have n3_ := Aside0.mk (blk_below (g := gb116) (o := .cells #[.int .i64 ((rd_T127 l0 x13_1).f0), .float .f32 ((rd_T127 l0 x13_1).f1.f0), .float .f32 ((rd_T127 l0 x13_1).f1.f1), .float .f32 ((rd_T127 l0 x13_1).f1.f2), .float .f32 ((rd_T127 l0 x13_1).f2.f0), .float .f32 ((rd_T127 l0 x13_1).f2.f1), .float .f32 ((rd_T127 l0 x13_1).f2.f2)] 127 (0, 0)) (by (with_reducible repeat (first | apply b1_ | apply b2_ | apply b3_)); exact BK116.out) hb)
       have n4_ := Aside0.mk (below_step (by repeat (first | (with_reducible first | exact HB.out | apply below_alloc | apply pw_below_drewN | apply below_drew1 | refine below_set ?_ GE113.out | refine below_set ?_ GE114.out | refine below_set ?_ GE116.out) | exact HB.out)) hb)
       have n5_ := Aside0.mk (hbox)
       have n6_ := Aside0.mk ((by rw [hg]; exact (below_size (by repeat (first | (with_reducible first | exact HB.out | apply below_alloc | apply pw_below_drewN | apply below_drew1 | refine below_set ?_ GE113.out | refine below_set ?_ GE114.out | refine below_set ?_ GE116.out) | exact HB.out))) : w.heap.size ≤ gb117))
       have n7_ := Aside0.mk ((by rw [hg]; exact (below_size (by repeat (first | (with_reducible first | exact HB.out | apply below_alloc | apply pw_below_drewN | apply below_drew1 | refine below_set ?_ GE113.out | refine below_set ?_ GE114.out | refine below_set ?_ GE116.out) | exact HB.out))) : w.heap.size ≤ gb117))
       have n8_ := Aside0.mk ((by rw [hg]; exact Nat.ne_of_lt (blk_lt (g := gb113) (o := .cells #[.float .f32 x114000_1, .float .f32 x114001_1] 124 (0, 0)) (by (with_reducible repeat (first | apply b1_ | apply b2_ | apply b3_)); exact BK113.out)) : gb113 ≠ gb117))
       have n9_ := Aside0.mk ((by rw [hg]; exact Nat.ne_of_gt (blk_lt (g := gb113) (o := .cells #[.float .f32 x114000_1, .float .f32 x114001_1] 124 (0, 0)) (by (with_reducible repeat (first | apply b1_ | apply b2_ | apply b3_)); exact BK113.out)) : gb117 ≠ gb113))
       have n10_ := Aside0.mk ((by rw [hg]; exact Nat.ne_of_lt (blk_lt (g := gb114) (o := .cells #[.float .f32 x115000_1, .float .f32 x115001_1] 124 (0, 0)) (by (with_reducible repeat (first | apply b1_ | apply b2_ | apply b3_)); exact BK114.out)) : gb114 ≠ gb117))
       have n11_ := Aside0.mk ((by rw [hg]; exact Nat.ne_of_gt (blk_lt (g := gb114) (o := .cells #[.float .f32 x115000_1, .float .f32 x115001_1] 124 (0, 0)) (by (with_reducible repeat (first | apply b1_ | apply b2_ | apply b3_)); exact BK114.out)) : gb117 ≠ gb114))
       have n12_ := Aside0.mk ((by rw [hg]; exact Nat.ne_of_lt (blk_lt (g := gb116) (o := .cells #[.int .i64 ((rd_T127 l0 x13_1).f0), .float .f32 ((rd_T127 l0 x13_1).f1.f0), .float .f32 ((rd_T127 l0 x13_1).f1.f1), .float .f32 ((rd_T127 l0 x13_1).f1.f2), .float .f32 ((rd_T127 l0 x13_1).f2.f0), .float .f32 ((rd_T127 l0 x13_1).f2.f1), .float .f32 ((rd_T127 l0 x13_1).f2.f2)] 127 (0, 0)) (by (with_reducible repeat (first | apply b1_ | apply b2_ | apply b3_)); exact BK116.out)) : gb116 ≠ gb117))
       have n13_ := Aside0.mk ((by rw [hg]; exact Nat.ne_of_gt (blk_lt (g := gb116) (o := .cells #[.int .i64 ((rd_T127 l0 x13_1).f0), .float .f32 ((rd_T127 l0 x13_1).f1.f0), .float .f32 ((rd_T127 l0 x13_1).f1.f1), .float .f32 ((rd_T127 l0 x13_1).f1.f2), .float .f32 ((rd_T127 l0 x13_1).f2.f0), .float .f32 ((rd_T127 l0 x13_1).f2.f1), .float .f32 ((rd_T127 l0 x13_1).f2.f2)] 127 (0, 0)) (by (with_reducible repeat (first | apply b1_ | apply b2_ | apply b3_)); exact BK116.out)) : gb117 ≠ gb116))
       clear HO_2
       clear BK113
       clear BK114
       clear BK116
       clear HB
       have HO_2 := n0_
       have BK113 := n1_
       have BK114 := n2_
       have BK116 := n3_
       have HB := n4_
       have BK117 := n5_
       have GW117 := n6_
       have GE117 := n7_
       have NB113_117 := n8_
       have NB117_113 := n9_
       have NB114_117 := n10_
       have NB117_114 := n11_
       have NB116_117 := n12_
       have NB117_116 := n13_
       clear n0_ n1_ n2_ n3_ n4_ n5_ n6_ n7_ n8_ n9_ n10_ n11_ n12_ n13_
       clear hb hbox hg
       refine hK.out _ _ ⟨(blk_cell BK116.out 0).trans rfl, (blk_cell BK116.out 1).trans rfl, (blk_cell BK116.out 2).trans rfl, (blk_cell BK116.out 3).trans rfl, (blk_cell BK116.out 4).trans rfl, (blk_cell BK116.out 5).trans rfl, (blk_cell BK116.out 6).trans rfl⟩ (fun hHeld => ?_)
       clear hK K
       refine norm_ (a' := ?_) ?_ ?_
       rotate_left
       ·show Act.put _ (some 8) _ = _
        simp only [Act.put, L1_, L2_, L3_, i64_w, i32_w]
        rfl
       refine one_ (i := 15) (N := some 9) #[tt,tt,tt,tt,tt,tt,tt,tt,tt,tt,tt,tt,tt,tt,tt,tt,ff,ff] rfl rfl (one_of HT_.out (by kernel_rfl)) (by decide) (fun K hK => ?_)
       refine box_step ?hg (N := 9) ?hd (cs := #[.float .f32 0, .float .f32 0]) (t := 124) ?hr ?_; (case hd => rfl); (case hg => rfl); (case hr => first | (go_simp; done) | (go_simp; rfl))
       intro gb118 hg w16 hbox hb
       have n0_ := Aside0.mk (Kd.S_below (by (with_reducible repeat (first | apply Kd.S_alloc | apply Kd.S_drewN | apply Kd.S_drew)); exact HO_2.out) hb)
       have n1_ := Aside0.mk (blk_below (g := gb113) (o := .cells #[.float .f32 x114000_1, .float .f32 x114001_1] 124 (0, 0)) (by (with_reducible repeat (first | apply b1_ | apply b2_ | apply b3_)); exact BK113.out) hb)
       have n2_ := Aside0.mk (blk_below (g := gb114) (o := .cells #[.float .f32 x115000_1, .float .f32 x115001_1] 124 (0, 0)) (by (with_reducible repeat (first | apply b1_ | apply b2_ | apply b3_)); exact BK114.out) hb)
       have n3_ := Aside0.mk (blk_below (g := gb116) (o := .cells #[.int .i64 ((rd_T127 l0 x13_1).f0), .float .f32 ((rd_T127 l0 x13_1).f1.f0), .float .f32 ((rd_T127 l0 x13_1).f1.f1), .float .f32 ((rd_T127 l0 x13_1).f1.f2), .float .f32 ((rd_T127 l0 x13_1).f2.f0), .float .f32 ((rd_T127 l0 x13_1).f2.f1), .float .f32 ((rd_T127 l0 x13_1).f2.f2)] 127 (0, 0)) (by (with_reducible repeat (first | apply b1_ | apply b2_ | apply b3_)); exact BK116.out) hb)
       have n4_ := Aside0.mk (blk_below (g := gb117) (o := .cells #[.float .f32 0, .float .f32 0] 124 (0, 0)) (by (with_reducible repeat (first | apply b1_ | apply b2_ | apply b3_)); exact BK117.out) hb)
       have n5_ := Aside0.mk (below_step (by repeat (first | (with_reducible first | exact HB.out | apply below_alloc | apply pw_below_drewN | apply below_drew1 | refine below_set ?_ GE113.out | refine below_set ?_ GE114.out | refine below_set ?_ GE116.out | refine below_set ?_ GE117.out) | exact HB.out)) hb)
       have n6_ := Aside0.mk (hbox)
       have n7_ := Aside0.mk ((by rw [hg]; exact (below_size (by repeat (first | (with_reducible first | exact HB.out | apply below_alloc | apply pw_below_drewN | apply below_drew1 | refine below_set ?_ GE113.out | refine below_set ?_ GE114.out | refine below_set ?_ GE116.out | refine below_set ?_ GE117.out) | exact HB.out))) : w.heap.size ≤ gb118))
       have n8_ := Aside0.mk ((by rw [hg]; exact (below_size (by repeat (first | (with_reducible first | exact HB.out | apply below_alloc | apply pw_below_drewN | apply below_drew1 | refine below_set ?_ GE113.out | refine below_set ?_ GE114.out | refine below_set ?_ GE116.out | refine below_set ?_ GE117.out) | exact HB.out))) : w.heap.size ≤ gb118))
       have n9_ := Aside0.mk ((by rw [hg]; exact Nat.ne_of_lt (blk_lt (g := gb113) (o := .cells #[.float .f32 x114000_1, .float .f32 x114001_1] 124 (0, 0)) (by (with_reducible repeat (first | apply b1_ | apply b2_ | apply b3_)); exact BK113.out)) : gb113 ≠ gb118))
       have n10_ := Aside0.mk ((by rw [hg]; exact Nat.ne_of_gt (blk_lt (g := gb113) (o := .cells #[.float .f32 x114000_1, .float .f32 x114001_1] 124 (0, 0)) (by (with_reducible repeat (first | apply b1_ | apply b2_ | apply b3_)); exact BK113.out)) : gb118 ≠ gb113))
       have n11_ := Aside0.mk ((by rw [hg]; exact Nat.ne_of_lt (blk_lt (g := gb114) (o := .cells #[.float .f32 x115000_1, .float .f32 x115001_1] 124 (0, 0)) (by (with_reducible repeat (first | apply b1_ | apply b2_ | apply b3_)); exact BK114.out)) : gb114 ≠ gb118))
       have n12_ := Aside0.mk ((by rw [hg]; exact Nat.ne_of_gt (blk_lt (g := gb114) (o := .cells #[.float .f32 x115000_1, .float .f32 x115001_1] 124 (0, 0)) (by (with_reducible repeat (first | apply b1_ | apply b2_ | apply b3_)); exact BK114.out)) : gb118 ≠ gb114))
       have n13_ := Aside0.mk ((by rw [hg]; exact Nat.ne_of_lt (blk_lt (g := gb116) (o := .cells #[.int .i64 ((rd_T127 l0 x13_1).f0), .float .f32 ((rd_T127 l0 x13_1).f1.f0), .float .f32 ((rd_T127 l0 x13_1).f1.f1), .float .f32 ((rd_T127 l0 x13_1).f1.f2), .float .f32 ((rd_T127 l0 x13_1).f2.f0), .float .f32 ((rd_T127 l0 x13_1).f2.f1), .float .f32 ((rd_T127 l0 x13_1).f2.f2)] 127 (0, 0)) (by (with_reducible repeat (first | apply b1_ | apply b2_ | apply b3_)); exact BK116.out)) : gb116 ≠ gb118))
       have n14_ := Aside0.mk ((by rw [hg]; exact Nat.ne_of_gt (blk_lt (g := gb116) (o := .cells #[.int .i64 ((rd_T127 l0 x13_1).f0), .float .f32 ((rd_T127 l0 x13_1).f1.f0), .float .f32 ((rd_T127 l0 x13_1).f1.f1), .float .f32 ((rd_T127 l0 x13_1).f1.f2), .float .f32 ((rd_T127 l0 x13_1).f2.f0), .float .f32 ((rd_T127 l0 x13_1).f2.f1), .float .f32 ((rd_T127 l0 x13_1).f2.f2)] 127 (0, 0)) (by (with_reducible repeat (first | apply b1_ | apply b2_ | apply b3_)); exact BK116.out)) : gb118 ≠ gb116))
       have n15_ := Aside0.mk ((by rw [hg]; exact Nat.ne_of_lt (blk_lt (g := gb117) (o := .cells #[.float .f32 0, .float .f32 0] 124 (0, 0)) (by (with_reducible repeat (first | apply b1_ | apply b2_ | apply b3_)); exact BK117.out)) : gb117 ≠ gb118))
       have n16_ := Aside0.mk ((by rw [hg]; exact Nat.ne_of_gt (blk_lt (g := gb117) (o := .cells #[.float .f32 0, .float .f32 0] 124 (0, 0)) (by (with_reducible repeat (first | apply b1_ | apply b2_ | apply b3_)); exact BK117.out)) : gb118 ≠ gb117))
       clear HO_2
       clear BK113
       clear BK114
       clear BK116
       clear BK117
       clear HB
       have HO_2 := n0_
       have BK113 := n1_
       have BK114 := n2_
       have BK116 := n3_
       have BK117 := n4_
       have HB := n5_
       have BK118 := n6_
       have GW118 := n7_
       have GE118 := n8_
       have NB113_118 := n9_
       have NB118_113 := n10_
       have NB114_118 := n11_
       have NB118_114 := n12_
       have NB116_118 := n13_
       have NB118_116 := n14_
       have NB117_118 := n15_
       have NB118_117 := n16_
       clear n0_ n1_ n2_ n3_ n4_ n5_ n6_ n7_ n8_ n9_ n10_ n11_ n12_ n13_ n14_ n15_ n16_
       clear hb hbox hg
       refine hK.out _ _ ⟨(blk_cell BK116.out 0).trans rfl, (blk_cell BK116.out 1).trans rfl, (blk_cell BK116.out 2).trans rfl, (blk_cell BK116.out 3).trans rfl, (blk_cell BK116.out 4).trans rfl, (blk_cell BK116.out 5).trans rfl, (blk_cell BK116.out 6).trans rfl⟩ (fun hHeld => ?_)
       clear hK K
       refine norm_ (a' := ?_) ?_ ?_
       rotate_left
       ·show Act.put _ (some 9) _ = _
        simp only [Act.put, L1_, L2_, L3_, i64_w, i32_w]
        rfl
       exact norm_ (by simp only [putAll, Act.put, L1_, L2_, L3_]) (hCont (gb117, gb118) _ ⟨hHeld, (by (with_reducible repeat (first | apply Kd.S_alloc | apply Kd.S_drewN | apply Kd.S_drew)); exact HO_2.out), (by (with_reducible repeat (first | apply b1_ | apply b2_ | apply b3_)); exact BK113.out), (by (with_reducible repeat (first | apply b1_ | apply b2_ | apply b3_)); exact BK114.out), (by (with_reducible repeat (first | apply b1_ | apply b2_ | apply b3_)); exact BK116.out), (by (with_reducible repeat (first | apply b1_ | apply b2_ | apply b3_)); exact BK117.out), (by (with_reducible repeat (first | apply b1_ | apply b2_ | apply b3_)); exact BK118.out), GW117.out, GE117.out, NB113_117.out, NB117_113.out, NB114_117.out, NB117_114.out, NB116_117.out, NB117_116.out, NB118_117.out, NB117_118.out, GW118.out, GE118.out, NB113_118.out, NB118_113.out, NB114_118.out, NB118_114.out, NB116_118.out, NB118_116.out, (by repeat (first | (with_reducible first | exact HB.out | apply below_alloc | apply pw_below_drewN | apply below_drew1 | refine below_set ?_ GE113.out | refine below_set ?_ GE114.out | refine below_set ?_ GE116.out | refine below_set ?_ GE117.out | refine below_set ?_ GE118.out) | exact HB.out))⟩)
      ·skip
       refine box_step ?hg (N := 9) ?hd (cs := #[.float .f32 0, .float .f32 0]) (t := 124) ?hr ?_; (case hd => rfl); (case hg => rfl); (case hr => first | (go_simp; done) | (go_simp; rfl))
       intro gb118 hg w15 hbox hb
       have n0_ := Aside0.mk (Kd.S_below (by (with_reducible repeat (first | apply Kd.S_alloc | apply Kd.S_drewN | apply Kd.S_drew)); exact HO_2.out) hb)
       have n1_ := Aside0.mk (blk_below (g := gb113) (o := .cells #[.float .f32 x114000_1, .float .f32 x114001_1] 124 (0, 0)) (by (with_reducible repeat (first | apply b1_ | apply b2_ | apply b3_)); exact BK113.out) hb)
       have n2_ := Aside0.mk (blk_below (g := gb114) (o := .cells #[.float .f32 x115000_1, .float .f32 x115001_1] 124 (0, 0)) (by (with_reducible repeat (first | apply b1_ | apply b2_ | apply b3_)); exact BK114.out) hb)
       have n3_ := Aside0.mk (blk_below (g := gb116) (o := .cells #[.int .i64 ((rd_T127 l0 x13_1).f0), .float .f32 ((rd_T127 l0 x13_1).f1.f0), .float .f32 ((rd_T127 l0 x13_1).f1.f1), .float .f32 ((rd_T127 l0 x13_1).f1.f2), .float .f32 ((rd_T127 l0 x13_1).f2.f0), .float .f32 ((rd_T127 l0 x13_1).f2.f1), .float .f32 ((rd_T127 l0 x13_1).f2.f2)] 127 (0, 0)) (by (with_reducible repeat (first | apply b1_ | apply b2_ | apply b3_)); exact BK116.out) hb)
       have n4_ := Aside0.mk (below_step (by repeat (first | (with_reducible first | exact HB.out | apply below_alloc | apply pw_below_drewN | apply below_drew1 | refine below_set ?_ GE113.out | refine below_set ?_ GE114.out | refine below_set ?_ GE116.out) | exact HB.out)) hb)
       have n5_ := Aside0.mk (hbox)
       have n6_ := Aside0.mk ((by rw [hg]; exact (below_size (by repeat (first | (with_reducible first | exact HB.out | apply below_alloc | apply pw_below_drewN | apply below_drew1 | refine below_set ?_ GE113.out | refine below_set ?_ GE114.out | refine below_set ?_ GE116.out) | exact HB.out))) : w.heap.size ≤ gb118))
       have n7_ := Aside0.mk ((by rw [hg]; exact (below_size (by repeat (first | (with_reducible first | exact HB.out | apply below_alloc | apply pw_below_drewN | apply below_drew1 | refine below_set ?_ GE113.out | refine below_set ?_ GE114.out | refine below_set ?_ GE116.out) | exact HB.out))) : w.heap.size ≤ gb118))
       have n8_ := Aside0.mk ((by rw [hg]; exact Nat.ne_of_lt (blk_lt (g := gb113) (o := .cells #[.float .f32 x114000_1, .float .f32 x114001_1] 124 (0, 0)) (by (with_reducible repeat (first | apply b1_ | apply b2_ | apply b3_)); exact BK113.out)) : gb113 ≠ gb118))
       have n9_ := Aside0.mk ((by rw [hg]; exact Nat.ne_of_gt (blk_lt (g := gb113) (o := .cells #[.float .f32 x114000_1, .float .f32 x114001_1] 124 (0, 0)) (by (with_reducible repeat (first | apply b1_ | apply b2_ | apply b3_)); exact BK113.out)) : gb118 ≠ gb113))
       have n10_ := Aside0.mk ((by rw [hg]; exact Nat.ne_of_lt (blk_lt (g := gb114) (o := .cells #[.float .f32 x115000_1, .float .f32 x115001_1] 124 (0, 0)) (by (with_reducible repeat (first | apply b1_ | apply b2_ | apply b3_)); exact BK114.out)) : gb114 ≠ gb118))
       have n11_ := Aside0.mk ((by rw [hg]; exact Nat.ne_of_gt (blk_lt (g := gb114) (o := .cells #[.float .f32 x115000_1, .float .f32 x115001_1] 124 (0, 0)) (by (with_reducible repeat (first | apply b1_ | apply b2_ | apply b3_)); exact BK114.out)) : gb118 ≠ gb114))
       have n12_ := Aside0.mk ((by rw [hg]; exact Nat.ne_of_lt (blk_lt (g := gb116) (o := .cells #[.int .i64 ((rd_T127 l0 x13_1).f0), .float .f32 ((rd_T127 l0 x13_1).f1.f0), .float .f32 ((rd_T127 l0 x13_1).f1.f1), .float .f32 ((rd_T127 l0 x13_1).f1.f2), .float .f32 ((rd_T127 l0 x13_1).f2.f0), .float .f32 ((rd_T127 l0 x13_1).f2.f1), .float .f32 ((rd_T127 l0 x13_1).f2.f2)] 127 (0, 0)) (by (with_reducible repeat (first | apply b1_ | apply b2_ | apply b3_)); exact BK116.out)) : gb116 ≠ gb118))
       have n13_ := Aside0.mk ((by rw [hg]; exact Nat.ne_of_gt (blk_lt (g := gb116) (o := .cells #[.int .i64 ((rd_T127 l0 x13_1).f0), .float .f32 ((rd_T127 l0 x13_1).f1.f0), .float .f32 ((rd_T127 l0 x13_1).f1.f1), .float .f32 ((rd_T127 l0 x13_1).f1.f2), .float .f32 ((rd_T127 l0 x13_1).f2.f0), .float .f32 ((rd_T127 l0 x13_1).f2.f1), .float .f32 ((rd_T127 l0 x13_1).f2.f2)] 127 (0, 0)) (by (with_reducible repeat (first | apply b1_ | apply b2_ | apply b3_)); exact BK116.out)) : gb118 ≠ gb116))
       clear HO_2
       clear BK113
       clear BK114
       clear BK116
       clear HB
       have HO_2 := n0_
       have BK113 := n1_
       have BK114 := n2_
       have BK116 := n3_
       have HB := n4_
       have BK118 := n5_
       have GW118 := n6_
       have GE118 := n7_
       have NB113_118 := n8_
       have NB118_113 := n9_
       have NB114_118 := n10_
       have NB118_114 := n11_
       have NB116_118 := n12_
       have NB118_116 := n13_
       clear n0_ n1_ n2_ n3_ n4_ n5_ n6_ n7_ n8_ n9_ n10_ n11_ n12_ n13_
       clear hb hbox hg
       refine hK.out _ _ ⟨(blk_cell BK116.out 0).trans rfl, (blk_cell BK116.out 1).trans rfl, (blk_cell BK116.out 2).trans rfl, (blk_cell BK116.out 3).trans rfl, (blk_cell BK116.out 4).trans rfl, (blk_cell BK116.out 5).trans rfl, (blk_cell BK116.out 6).trans rfl⟩ (fun hHeld => ?_)
       clear hK K
       refine norm_ (a' := ?_) ?_ ?_
       rotate_left
       ·show Act.put _ (some 9) _ = _
        simp only [Act.put, L1_, L2_, L3_, i64_w, i32_w]
        rfl
       refine one_ (i := 14) (N := some 8) #[tt,tt,tt,tt,tt,tt,tt,tt,tt,tt,tt,tt,tt,tt,tt,tt,ff,ff] rfl rfl (one_of HT_.out (by kernel_rfl)) (by decide) (fun K hK => ?_)
       refine box_step ?hg (N := 8) ?hd (cs := #[.float .f32 0, .float .f32 0]) (t := 124) ?hr ?_; (case hd => rfl); (case hg => rfl); (case hr => first | (go_simp; done) | (go_simp; rfl))
       intro gb117 hg w16 hbox hb
       have n0_ := Aside0.mk (Kd.S_below (by (with_reducible repeat (first | apply Kd.S_alloc | apply Kd.S_drewN | apply Kd.S_drew)); exact HO_2.out) hb)
       have n1_ := Aside0.mk (blk_below (g := gb113) (o := .cells #[.float .f32 x114000_1, .float .f32 x114001_1] 124 (0, 0)) (by (with_reducible repeat (first | apply b1_ | apply b2_ | apply b3_)); exact BK113.out) hb)
       have n2_ := Aside0.mk (blk_below (g := gb114) (o := .cells #[.float .f32 x115000_1, .float .f32 x115001_1] 124 (0, 0)) (by (with_reducible repeat (first | apply b1_ | apply b2_ | apply b3_)); exact BK114.out) hb)
       have n3_ := Aside0.mk (blk_below (g := gb116) (o := .cells #[.int .i64 ((rd_T127 l0 x13_1).f0), .float .f32 ((rd_T127 l0 x13_1).f1.f0), .float .f32 ((rd_T127 l0 x13_1).f1.f1), .float .f32 ((rd_T127 l0 x13_1).f1.f2), .float .f32 ((rd_T127 l0 x13_1).f2.f0), .float .f32 ((rd_T127 l0 x13_1).f2.f1), .float .f32 ((rd_T127 l0 x13_1).f2.f2)] 127 (0, 0)) (by (with_reducible repeat (first | apply b1_ | apply b2_ | apply b3_)); exact BK116.out) hb)
       have n4_ := Aside0.mk (blk_below (g := gb118) (o := .cells #[.float .f32 0, .float .f32 0] 124 (0, 0)) (by (with_reducible repeat (first | apply b1_ | apply b2_ | apply b3_)); exact BK118.out) hb)
       have n5_ := Aside0.mk (below_step (by repeat (first | (with_reducible first | exact HB.out | apply below_alloc | apply pw_below_drewN | apply below_drew1 | refine below_set ?_ GE113.out | refine below_set ?_ GE114.out | refine below_set ?_ GE116.out | refine below_set ?_ GE118.out) | exact HB.out)) hb)
       have n6_ := Aside0.mk (hbox)
       have n7_ := Aside0.mk ((by rw [hg]; exact (below_size (by repeat (first | (with_reducible first | exact HB.out | apply below_alloc | apply pw_below_drewN | apply below_drew1 | refine below_set ?_ GE113.out | refine below_set ?_ GE114.out | refine below_set ?_ GE116.out | refine below_set ?_ GE118.out) | exact HB.out))) : w.heap.size ≤ gb117))
       have n8_ := Aside0.mk ((by rw [hg]; exact (below_size (by repeat (first | (with_reducible first | exact HB.out | apply below_alloc | apply pw_below_drewN | apply below_drew1 | refine below_set ?_ GE113.out | refine below_set ?_ GE114.out | refine below_set ?_ GE116.out | refine below_set ?_ GE118.out) | exact HB.out))) : w.heap.size ≤ gb117))
       have n9_ := Aside0.mk ((by rw [hg]; exact Nat.ne_of_lt (blk_lt (g := gb113) (o := .cells #[.float .f32 x114000_1, .float .f32 x114001_1] 124 (0, 0)) (by (with_reducible repeat (first | apply b1_ | apply b2_ | apply b3_)); exact BK113.out)) : gb113 ≠ gb117))
       have n10_ := Aside0.mk ((by rw [hg]; exact Nat.ne_of_gt (blk_lt (g := gb113) (o := .cells #[.float .f32 x114000_1, .float .f32 x114001_1] 124 (0, 0)) (by (with_reducible repeat (first | apply b1_ | apply b2_ | apply b3_)); exact BK113.out)) : gb117 ≠ gb113))
       have n11_ := Aside0.mk ((by rw [hg]; exact Nat.ne_of_lt (blk_lt (g := gb114) (o := .cells #[.float .f32 x115000_1, .float .f32 x115001_1] 124 (0, 0)) (by (with_reducible repeat (first | apply b1_ | apply b2_ | apply b3_)); exact BK114.out)) : gb114 ≠ gb117))
       have n12_ := Aside0.mk ((by rw [hg]; exact Nat.ne_of_gt (blk_lt (g := gb114) (o := .cells #[.float .f32 x115000_1, .float .f32 x115001_1] 124 (0, 0)) (by (with_reducible repeat (first | apply b1_ | apply b2_ | apply b3_)); exact BK114.out)) : gb117 ≠ gb114))
       have n13_ := Aside0.mk ((by rw [hg]; exact Nat.ne_of_lt (blk_lt (g := gb116) (o := .cells #[.int .i64 ((rd_T127 l0 x13_1).f0), .float .f32 ((rd_T127 l0 x13_1).f1.f0), .float .f32 ((rd_T127 l0 x13_1).f1.f1), .float .f32 ((rd_T127 l0 x13_1).f1.f2), .float .f32 ((rd_T127 l0 x13_1).f2.f0), .float .f32 ((rd_T127 l0 x13_1).f2.f1), .float .f32 ((rd_T127 l0 x13_1).f2.f2)] 127 (0, 0)) (by (with_reducible repeat (first | apply b1_ | apply b2_ | apply b3_)); exact BK116.out)) : gb116 ≠ gb117))
       have n14_ := Aside0.mk ((by rw [hg]; exact Nat.ne_of_gt (blk_lt (g := gb116) (o := .cells #[.int .i64 ((rd_T127 l0 x13_1).f0), .float .f32 ((rd_T127 l0 x13_1).f1.f0), .float .f32 ((rd_T127 l0 x13_1).f1.f1), .float .f32 ((rd_T127 l0 x13_1).f1.f2), .float .f32 ((rd_T127 l0 x13_1).f2.f0), .float .f32 ((rd_T127 l0 x13_1).f2.f1), .float .f32 ((rd_T127 l0 x13_1).f2.f2)] 127 (0, 0)) (by (with_reducible repeat (first | apply b1_ | apply b2_ | apply b3_)); exact BK116.out)) : gb117 ≠ gb116))
       have n15_ := Aside0.mk ((by rw [hg]; exact Nat.ne_of_lt (blk_lt (g := gb118) (o := .cells #[.float .f32 0, .float .f32 0] 124 (0, 0)) (by (with_reducible repeat (first | apply b1_ | apply b2_ | apply b3_)); exact BK118.out)) : gb118 ≠ gb117))
       have n16_ := Aside0.mk ((by rw [hg]; exact Nat.ne_of_gt (blk_lt (g := gb118) (o := .cells #[.float .f32 0, .float .f32 0] 124 (0, 0)) (by (with_reducible repeat (first | apply b1_ | apply b2_ | apply b3_)); exact BK118.out)) : gb117 ≠ gb118))
       clear HO_2
       clear BK113
       clear BK114
       clear BK116
       clear BK118
       clear HB
       have HO_2 := n0_
       have BK113 := n1_
       have BK114 := n2_
       have BK116 := n3_
       have BK118 := n4_
       have HB := n5_
       have BK117 := n6_
       have GW117 := n7_
       have GE117 := n8_
       have NB113_117 := n9_
       have NB117_113 := n10_
       have NB114_117 := n11_
       have NB117_114 := n12_
       have NB116_117 := n13_
       have NB117_116 := n14_
       have NB118_117 := n15_
       have NB117_118 := n16_
       clear n0_ n1_ n2_ n3_ n4_ n5_ n6_ n7_ n8_ n9_ n10_ n11_ n12_ n13_ n14_ n15_ n16_
       clear hb hbox hg
       refine hK.out _ _ ⟨(blk_cell BK116.out 0).trans rfl, (blk_cell BK116.out 1).trans rfl, (blk_cell BK116.out 2).trans rfl, (blk_cell BK116.out 3).trans rfl, (blk_cell BK116.out 4).trans rfl, (blk_cell BK116.out 5).trans rfl, (blk_cell BK116.out 6).trans rfl⟩ (fun hHeld => ?_)
       clear hK K
       refine norm_ (a' := ?_) ?_ ?_
       rotate_left
       ·show Act.put _ (some 8) _ = _
        simp only [Act.put, L1_, L2_, L3_, i64_w, i32_w]
        rfl
       exact norm_ (by simp only [putAll, Act.put, L1_, L2_, L3_]) (hCont (gb117, gb118) _ ⟨hHeld, (by (with_reducible repeat (first | apply Kd.S_alloc | apply Kd.S_drewN | apply Kd.S_drew)); exact HO_2.out), (by (with_reducible repeat (first | apply b1_ | apply b2_ | apply b3_)); exact BK113.out), (by (with_reducible repeat (first | apply b1_ | apply b2_ | apply b3_)); exact BK114.out), (by (with_reducible repeat (first | apply b1_ | apply b2_ | apply b3_)); exact BK116.out), (by (with_reducible repeat (first | apply b1_ | apply b2_ | apply b3_)); exact BK117.out), (by (with_reducible repeat (first | apply b1_ | apply b2_ | apply b3_)); exact BK118.out), GW117.out, GE117.out, NB113_117.out, NB117_113.out, NB114_117.out, NB117_114.out, NB116_117.out, NB117_116.out, NB118_117.out, NB117_118.out, GW118.out, GE118.out, NB113_118.out, NB118_113.out, NB114_118.out, NB118_114.out, NB116_118.out, NB118_116.out, (by repeat (first | (with_reducible first | exact HB.out | apply below_alloc | apply pw_below_drewN | apply below_drew1 | refine below_set ?_ GE113.out | refine below_set ?_ GE114.out | refine below_set ?_ GE116.out | refine below_set ?_ GE118.out | refine below_set ?_ GE117.out) | exact HB.out))⟩)
     rintro ⟨gb117, gb118⟩ w17 ⟨hS_, h0_, h1_, h2_, h3_, h4_, h5_, h6_, h7_, h8_, h9_, h10_, h11_, h12_, h13_, h14_, h15_, h16_, h17_, h18_, h19_, h20_, h21_, h22_, h23_, h24_⟩
     have n0_ : Aside0 (Kd.S (Kd.slice 129 k129) 62 w17 w.heap.size (fun _ => True) u2 x2_1) := ⟨h0_⟩
     have n1_ : Aside0 (w17.heap[gb113]? = some (.cells #[.float .f32 x114000_1, .float .f32 x114001_1] 124 (0, 0))) := ⟨h1_⟩
     have n2_ : Aside0 (w17.heap[gb114]? = some (.cells #[.float .f32 x115000_1, .float .f32 x115001_1] 124 (0, 0))) := ⟨h2_⟩
     have n3_ : Aside0 (w17.heap[gb116]? = some (.cells #[.int .i64 ((rd_T127 l0 x13_1).f0), .float .f32 ((rd_T127 l0 x13_1).f1.f0), .float .f32 ((rd_T127 l0 x13_1).f1.f1), .float .f32 ((rd_T127 l0 x13_1).f1.f2), .float .f32 ((rd_T127 l0 x13_1).f2.f0), .float .f32 ((rd_T127 l0 x13_1).f2.f1), .float .f32 ((rd_T127 l0 x13_1).f2.f2)] 127 (0, 0))) := ⟨h3_⟩
     have n4_ : Aside0 (w17.heap[gb117]? = some (.cells #[.float .f32 0, .float .f32 0] 124 (0, 0))) := ⟨h4_⟩
     have n5_ : Aside0 (w17.heap[gb118]? = some (.cells #[.float .f32 0, .float .f32 0] 124 (0, 0))) := ⟨h5_⟩
     have n6_ : Aside0 (w.heap.size ≤ gb117) := ⟨h6_⟩
     have n7_ : Aside0 (w.heap.size ≤ gb117) := ⟨h7_⟩
     have n8_ : Aside0 (gb113 ≠ gb117) := ⟨h8_⟩
     have n9_ : Aside0 (gb117 ≠ gb113) := ⟨h9_⟩
     have n10_ : Aside0 (gb114 ≠ gb117) := ⟨h10_⟩
     have n11_ : Aside0 (gb117 ≠ gb114) := ⟨h11_⟩
     have n12_ : Aside0 (gb116 ≠ gb117) := ⟨h12_⟩
     have n13_ : Aside0 (gb117 ≠ gb116) := ⟨h13_⟩
     have n14_ : Aside0 (gb118 ≠ gb117) := ⟨h14_⟩
     have n15_ : Aside0 (gb117 ≠ gb118) := ⟨h15_⟩
     have n16_ : Aside0 (w.heap.size ≤ gb118) := ⟨h16_⟩
     have n17_ : Aside0 (w.heap.size ≤ gb118) := ⟨h17_⟩
     have n18_ : Aside0 (gb113 ≠ gb118) := ⟨h18_⟩
     have n19_ : Aside0 (gb118 ≠ gb113) := ⟨h19_⟩
     have n20_ : Aside0 (gb114 ≠ gb118) := ⟨h20_⟩
     have n21_ : Aside0 (gb118 ≠ gb114) := ⟨h21_⟩
     have n22_ : Aside0 (gb116 ≠ gb118) := ⟨h22_⟩
     have n23_ : Aside0 (gb118 ≠ gb116) := ⟨h23_⟩
     have n24_ : Aside0 (Below w.heap.size w w17) := ⟨h24_⟩
     clear HO_2
     clear BK113
     clear BK114
     clear BK116
     clear HB
     clear h0_ h1_ h2_ h3_ h4_ h5_ h6_ h7_ h8_ h9_ h10_ h11_ h12_ h13_ h14_ h15_ h16_ h17_ h18_ h19_ h20_ h21_ h22_ h23_ h24_
     have HO_2 := n0_
     have BK113 := n1_
     have BK114 := n2_
     have BK116 := n3_
     have BK117 := n4_
     have BK118 := n5_
     have GW117 := n6_
     have GE117 := n7_
     have NB113_117 := n8_
     have NB117_113 := n9_
     have NB114_117 := n10_
     have NB117_114 := n11_
     have NB116_117 := n12_
     have NB117_116 := n13_
     have NB118_117 := n14_
     have NB117_118 := n15_
     have GW118 := n16_
     have GE118 := n17_
     have NB113_118 := n18_
     have NB118_113 := n19_
     have NB114_118 := n20_
     have NB118_114 := n21_
     have NB116_118 := n22_
     have NB118_116 := n23_
     have HB := n24_
     clear n0_ n1_ n2_ n3_ n4_ n5_ n6_ n7_ n8_ n9_ n10_ n11_ n12_ n13_ n14_ n15_ n16_ n17_ n18_ n19_ n20_ n21_ n22_ n23_ n24_
     have hHeld : w17.cell? ⟨gb116, 0, none⟩ = some (.int .i64 ((rd_T127 l0 x13_1).f0)) ∧ w17.cell? ⟨gb116, 1, none⟩ = some (.float .f32 ((rd_T127 l0 x13_1).f1.f0)) ∧ w17.cell? ⟨gb116, 2, none⟩ = some (.float .f32 ((rd_T127 l0 x13_1).f1.f1)) ∧ w17.cell? ⟨gb116, 3, none⟩ = some (.float .f32 ((rd_T127 l0 x13_1).f1.f2)) ∧ w17.cell? ⟨gb116, 4, none⟩ = some (.float .f32 ((rd_T127 l0 x13_1).f2.f0)) ∧ w17.cell? ⟨gb116, 5, none⟩ = some (.float .f32 ((rd_T127 l0 x13_1).f2.f1)) ∧ w17.cell? ⟨gb116, 6, none⟩ = some (.float .f32 ((rd_T127 l0 x13_1).f2.f2)) := hS_
     refine norm_ (a' := ?_) ?_ ?_
     rotate_left
     ·simp only [putAll, Act.put, L1_, L2_, L3_]
      rfl
     refine one_ (i := 16) (N := none) #[tt,tt,tt,tt,tt,tt,tt,tt,tt,tt,tt,tt,tt,tt,tt,tt,tt,ff] rfl rfl (one_of HT_.out (by kernel_rfl)) (by decide) (fun K hK => ?_)
     have hs18 : w17.cell? ⟨gb117, 0, none⟩ = some (.float .f32 0) := (blk_cell BK117.out 0).trans rfl
     have hfs18 := blk_frozen BK117.out 0
     have hns18_0 := NB113_117.out
     have hns18_1 := NB114_117.out
     have hns18_2 := NB116_117.out
     have hns18_4 := NB118_117.out
     have hms18_0 := NB117_113.out
     have hms18_1 := NB117_114.out
     have hms18_2 := NB117_116.out
     have hms18_4 := NB117_118.out
     have hs19 : w17.cell? ⟨gb117, 1, none⟩ = some (.float .f32 0) := (blk_cell BK117.out 1).trans rfl
     have hfs19 := blk_frozen BK117.out 1
     have hns19_0 := NB113_117.out
     have hns19_1 := NB114_117.out
     have hns19_2 := NB116_117.out
     have hns19_4 := NB118_117.out
     have hms19_0 := NB117_113.out
     have hms19_1 := NB117_114.out
     have hms19_2 := NB117_116.out
     have hms19_4 := NB117_118.out
     refine skip_ (w1 := ?_) (by rfl) rfl ?_ ?_
     rotate_left
     ·go_simp
      rfl
     refine hK.out _ _ ⟨((cell_far (p := ⟨gb117, _, none⟩) NB116_117.out _).trans (((cell_far (p := ⟨gb117, _, none⟩) NB116_117.out _).trans (hHeld.1)))), ((cell_far (p := ⟨gb117, _, none⟩) NB116_117.out _).trans (((cell_far (p := ⟨gb117, _, none⟩) NB116_117.out _).trans (hHeld.2.1)))), ((cell_far (p := ⟨gb117, _, none⟩) NB116_117.out _).trans (((cell_far (p := ⟨gb117, _, none⟩) NB116_117.out _).trans (hHeld.2.2.1)))), ((cell_far (p := ⟨gb117, _, none⟩) NB116_117.out _).trans (((cell_far (p := ⟨gb117, _, none⟩) NB116_117.out _).trans (hHeld.2.2.2.1)))), ((cell_far (p := ⟨gb117, _, none⟩) NB116_117.out _).trans (((cell_far (p := ⟨gb117, _, none⟩) NB116_117.out _).trans (hHeld.2.2.2.2.1)))), ((cell_far (p := ⟨gb117, _, none⟩) NB116_117.out _).trans (((cell_far (p := ⟨gb117, _, none⟩) NB116_117.out _).trans (hHeld.2.2.2.2.2.1)))), ((cell_far (p := ⟨gb117, _, none⟩) NB116_117.out _).trans (((cell_far (p := ⟨gb117, _, none⟩) NB116_117.out _).trans (hHeld.2.2.2.2.2.2))))⟩ (fun hHeld => ?_)
     clear hK K
     refine one_ (i := 17) (N := none) #[tt,tt,tt,tt,tt,tt,tt,tt,tt,tt,tt,tt,tt,tt,tt,tt,tt,tt] rfl rfl (one_of HT_.out (by kernel_rfl)) (by decide) (fun K hK => ?_)
     have hs20 : w17.cell? ⟨gb118, 0, none⟩ = some (.float .f32 0) := (blk_cell BK118.out 0).trans rfl
     have hfs20 := blk_frozen BK118.out 0
     have hns20_0 := NB113_118.out
     have hns20_1 := NB114_118.out
     have hns20_2 := NB116_118.out
     have hns20_3 := NB117_118.out
     have hms20_0 := NB118_113.out
     have hms20_1 := NB118_114.out
     have hms20_2 := NB118_116.out
     have hms20_3 := NB118_117.out
     have hs21 : w17.cell? ⟨gb118, 1, none⟩ = some (.float .f32 0) := (blk_cell BK118.out 1).trans rfl
     have hfs21 := blk_frozen BK118.out 1
     have hns21_0 := NB113_118.out
     have hns21_1 := NB114_118.out
     have hns21_2 := NB116_118.out
     have hns21_3 := NB117_118.out
     have hms21_0 := NB118_113.out
     have hms21_1 := NB118_114.out
     have hms21_2 := NB118_116.out
     have hms21_3 := NB118_117.out
     refine skip_ (w1 := ?_) (by rfl) rfl ?_ ?_
     rotate_left
     ·go_simp
      rfl
     refine hK.out _ _ ⟨((cell_far (p := ⟨gb118, _, none⟩) NB116_118.out _).trans (((cell_far (p := ⟨gb118, _, none⟩) NB116_118.out _).trans (hHeld.1)))), ((cell_far (p := ⟨gb118, _, none⟩) NB116_118.out _).trans (((cell_far (p := ⟨gb118, _, none⟩) NB116_118.out _).trans (hHeld.2.1)))), ((cell_far (p := ⟨gb118, _, none⟩) NB116_118.out _).trans (((cell_far (p := ⟨gb118, _, none⟩) NB116_118.out _).trans (hHeld.2.2.1)))), ((cell_far (p := ⟨gb118, _, none⟩) NB116_118.out _).trans (((cell_far (p := ⟨gb118, _, none⟩) NB116_118.out _).trans (hHeld.2.2.2.1)))), ((cell_far (p := ⟨gb118, _, none⟩) NB116_118.out _).trans (((cell_far (p := ⟨gb118, _, none⟩) NB116_118.out _).trans (hHeld.2.2.2.2.1)))), ((cell_far (p := ⟨gb118, _, none⟩) NB116_118.out _).trans (((cell_far (p := ⟨gb118, _, none⟩) NB116_118.out _).trans (hHeld.2.2.2.2.2.1)))), ((cell_far (p := ⟨gb118, _, none⟩) NB116_118.out _).trans (((cell_far (p := ⟨gb118, _, none⟩) NB116_118.out _).trans (hHeld.2.2.2.2.2.2))))⟩ (fun hHeld => ?_)
     clear hK K
     refine done_ (done_of HT_.out (by kernel_rfl)) ?_
     have hnb22 := NB116_117.out
     have hnc22 := NB117_116.out
     have hnb23 := NB116_118.out
     have hnc23 := NB118_116.out
     have hcz24_0 : w17.cell? ⟨gb116, 0, none⟩ = some (.int .i64 ((rd_T127 l0 x13_1).f0)) := (blk_cell BK116.out 0).trans rfl
     have hcz24_1 : w17.cell? ⟨gb116, 1, none⟩ = some (.float .f32 ((rd_T127 l0 x13_1).f1.f0)) := (blk_cell BK116.out 1).trans rfl
     have hcz24_2 : w17.cell? ⟨gb116, 2, none⟩ = some (.float .f32 ((rd_T127 l0 x13_1).f1.f1)) := (blk_cell BK116.out 2).trans rfl
     have hcz24_3 : w17.cell? ⟨gb116, 3, none⟩ = some (.float .f32 ((rd_T127 l0 x13_1).f1.f2)) := (blk_cell BK116.out 3).trans rfl
     have hcz24_4 : w17.cell? ⟨gb116, 4, none⟩ = some (.float .f32 ((rd_T127 l0 x13_1).f2.f0)) := (blk_cell BK116.out 4).trans rfl
     have hcz24_5 : w17.cell? ⟨gb116, 5, none⟩ = some (.float .f32 ((rd_T127 l0 x13_1).f2.f1)) := (blk_cell BK116.out 5).trans rfl
     have hcz24_6 : w17.cell? ⟨gb116, 6, none⟩ = some (.float .f32 ((rd_T127 l0 x13_1).f2.f2)) := (blk_cell BK116.out 6).trans rfl
     have hfz24_0 := blk_frozen BK116.out 0
     have hfz24_1 := blk_frozen BK116.out 1
     have hfz24_2 := blk_frozen BK116.out 2
     have hfz24_3 := blk_frozen BK116.out 3
     have hfz24_4 := blk_frozen BK116.out 4
     have hfz24_5 := blk_frozen BK116.out 5
     have hfz24_6 := blk_frozen BK116.out 6
     go_upto_region 7 with (fail)
     go_cut [42] (fun v42 wc => ∃ (kq : Nat) (x42_7 : Bool), v42 = .bool x42_7 ∧ Aside0 (spec_PiecesOf.j1 kq x2_1 l0 (l0.length : Int) x13_1 x42_7 ((rd_T127 l0 x13_1).f1.f0) ((rd_T127 l0 x13_1).f2.f0) = some (r1, r2)) ∧ Aside0 (kq ≤ k1) ∧ Aside0 (Kd.S (Kd.slice 129 k129) 62 wc w.heap.size (fun _ => True) u2 x2_1) ∧ Aside0 (wc.heap[gb113]? = some (.cells #[.float .f32 x114000_1, .float .f32 x114001_1] 124 (0, 0))) ∧ Aside0 (wc.heap[gb114]? = some (.cells #[.float .f32 x115000_1, .float .f32 x115001_1] 124 (0, 0))) ∧ Aside0 (wc.heap[gb116]? = some (.cells #[.int .i64 ((rd_T127 l0 x13_1).f0), .float .f32 ((rd_T127 l0 x13_1).f1.f0), .float .f32 ((rd_T127 l0 x13_1).f1.f1), .float .f32 ((rd_T127 l0 x13_1).f1.f2), .float .f32 ((rd_T127 l0 x13_1).f2.f0), .float .f32 ((rd_T127 l0 x13_1).f2.f1), .float .f32 ((rd_T127 l0 x13_1).f2.f2)] 127 (0, 0))) ∧ Aside0 (wc.heap[gb117]? = some (.cells #[.float .f32 ((rd_T127 l0 x13_1).f1.f0), .float .f32 ((rd_T127 l0 x13_1).f2.f0)] 124 (0, 0))) ∧ Aside0 (wc.heap[gb118]? = some (.cells #[.float .f32 ((rd_T127 l0 x13_1).f1.f1), .float .f32 ((rd_T127 l0 x13_1).f2.f1)] 124 (0, 0))) ∧ Aside0 (Below w.heap.size w wc))
     case first =>
      have H := HC8.out
      clear HC8
      by_cases c25 : (x2_1.length : Int) > 0
      ·rw [if_pos c25] at H
       have c25b0 : decide (0 < (x2_1.length : Int)) = true := decide_eq_true c25
       have c25b1 : decide (0 < x2_1.length) = true := decide_eq_true (by omega)
       clear c25
       (first | rw [c25b0] | (simp only [i64_w, i32_w]; rw [c25b0]) | skip)
       have H' := Aside0.mk H
       clear H
       obtain ⟨Ao26, co26, eo26⟩ := Kd.S_slice HO_2.out
       subst eo26
       have hnb27 := NB113_114.out
       have hnc27 := NB114_113.out
       have hnb28 := NB113_116.out
       have hnc28 := NB116_113.out
       have hnb29 := NB113_117.out
       have hnc29 := NB117_113.out
       have hnb30 := NB113_118.out
       have hnc30 := NB118_113.out
       have hcz31_0 : w17.cell? ⟨gb113, 0, none⟩ = some (.float .f32 x114000_1) := (blk_cell BK113.out 0).trans rfl
       have hcz31_1 : w17.cell? ⟨gb113, 1, none⟩ = some (.float .f32 x114001_1) := (blk_cell BK113.out 1).trans rfl
       have hfz31_0 := blk_frozen BK113.out 0
       have hfz31_1 := blk_frozen BK113.out 1
       have hnb32 := NB114_116.out
       have hnc32 := NB116_114.out
       have hnb33 := NB114_117.out
       have hnc33 := NB117_114.out
       have hnb34 := NB114_118.out
       have hnc34 := NB118_114.out
       have hcz35_0 : w17.cell? ⟨gb114, 0, none⟩ = some (.float .f32 x115000_1) := (blk_cell BK114.out 0).trans rfl
       have hcz35_1 : w17.cell? ⟨gb114, 1, none⟩ = some (.float .f32 x115001_1) := (blk_cell BK114.out 1).trans rfl
       have hfz35_0 := blk_frozen BK114.out 0
       have hfz35_1 := blk_frozen BK114.out 1
       go_wp2
       go_meet
       case rel => exact ⟨_, ((!(FloatKind.f32.format.order x114000_1 x115000_1 == some .eq) || (!(FloatKind.f32.format.order x114001_1 x115001_1 == some .eq)))), (by first | rfl | (simp; done) | (simp [*]; done)), H', ⟨by have := HK1.out; first | omega | exact Nat.le_refl _⟩, ⟨by (with_reducible repeat (first | apply Kd.S_alloc | apply Kd.S_drewN | apply Kd.S_drew)); exact Kd.S_mono (Kd.S_far (p := ⟨gb118, 1, none⟩) (Kd.S_far (p := ⟨gb118, 0, none⟩) (Kd.S_far (p := ⟨gb117, 1, none⟩) (Kd.S_far (p := ⟨gb117, 0, none⟩) (Kd.S_types (Kd.S_types HO_2.out BK117.out (by decide)) BK118.out (by decide)) (fun _ hk => hk.1.2) (.float .f32 ((rd_T127 l0 x13_1).f1.f0))) (fun _ hk => hk.1.2) (.float .f32 ((rd_T127 l0 x13_1).f2.f0))) (fun _ hk => hk.2) (.float .f32 ((rd_T127 l0 x13_1).f1.f1))) (fun _ hk => hk.2) (.float .f32 ((rd_T127 l0 x13_1).f2.f1))) (fun _ hk => trivial)⟩, ⟨by (with_reducible repeat (first | apply b1_ | apply b2_ | apply b3_)); refine blk_far ?_ NB113_118.out _; (with_reducible repeat (first | apply b1_ | apply b2_ | apply b3_)); refine blk_far ?_ NB113_118.out _; (with_reducible repeat (first | apply b1_ | apply b2_ | apply b3_)); refine blk_far ?_ NB113_117.out _; (with_reducible repeat (first | apply b1_ | apply b2_ | apply b3_)); refine blk_far ?_ NB113_117.out _; (with_reducible repeat (first | apply b1_ | apply b2_ | apply b3_)); exact BK113.out⟩, ⟨by (with_reducible repeat (first | apply b1_ | apply b2_ | apply b3_)); refine blk_far ?_ NB114_118.out _; (with_reducible repeat (first | apply b1_ | apply b2_ | apply b3_)); refine blk_far ?_ NB114_118.out _; (with_reducible repeat (first | apply b1_ | apply b2_ | apply b3_)); refine blk_far ?_ NB114_117.out _; (with_reducible repeat (first | apply b1_ | apply b2_ | apply b3_)); refine blk_far ?_ NB114_117.out _; (with_reducible repeat (first | apply b1_ | apply b2_ | apply b3_)); exact BK114.out⟩, ⟨by (with_reducible repeat (first | apply b1_ | apply b2_ | apply b3_)); refine blk_far ?_ NB116_118.out _; (with_reducible repeat (first | apply b1_ | apply b2_ | apply b3_)); refine blk_far ?_ NB116_118.out _; (with_reducible repeat (first | apply b1_ | apply b2_ | apply b3_)); refine blk_far ?_ NB116_117.out _; (with_reducible repeat (first | apply b1_ | apply b2_ | apply b3_)); refine blk_far ?_ NB116_117.out _; (with_reducible repeat (first | apply b1_ | apply b2_ | apply b3_)); exact BK116.out⟩, ⟨by (with_reducible repeat (first | apply b1_ | apply b2_ | apply b3_)); refine blk_far ?_ NB117_118.out _; (with_reducible repeat (first | apply b1_ | apply b2_ | apply b3_)); refine blk_far ?_ NB117_118.out _; (with_reducible repeat (first | apply b1_ | apply b2_ | apply b3_)); refine blk_put (cs := #[.float .f32 ((rd_T127 l0 x13_1).f1.f0), .float .f32 0]) ?_ 1 _ rfl; (with_reducible repeat (first | apply b1_ | apply b2_ | apply b3_)); refine blk_put (cs := #[.float .f32 0, .float .f32 0]) ?_ 0 _ rfl; (with_reducible repeat (first | apply b1_ | apply b2_ | apply b3_)); exact BK117.out⟩, ⟨by (with_reducible repeat (first | apply b1_ | apply b2_ | apply b3_)); refine blk_put (cs := #[.float .f32 ((rd_T127 l0 x13_1).f1.f1), .float .f32 0]) ?_ 1 _ rfl; (with_reducible repeat (first | apply b1_ | apply b2_ | apply b3_)); refine blk_put (cs := #[.float .f32 0, .float .f32 0]) ?_ 0 _ rfl; (with_reducible repeat (first | apply b1_ | apply b2_ | apply b3_)); refine blk_far ?_ NB118_117.out _; (with_reducible repeat (first | apply b1_ | apply b2_ | apply b3_)); refine blk_far ?_ NB118_117.out _; (with_reducible repeat (first | apply b1_ | apply b2_ | apply b3_)); exact BK118.out⟩, ⟨by repeat (first | (with_reducible first | exact HB.out | apply below_alloc | apply pw_below_drewN | apply below_drew1 | refine below_set ?_ GE113.out | refine below_set ?_ GE114.out | refine below_set ?_ GE116.out | refine below_set ?_ GE117.out | refine below_set ?_ GE118.out) | exact HB.out)⟩⟩
      ·rw [if_neg c25] at H
       have c25b0 : decide (0 < (x2_1.length : Int)) = false := decide_eq_false c25
       have c25b1 : decide (0 < x2_1.length) = false := decide_eq_false (by omega)
       clear c25
       (first | rw [c25b0] | (simp only [i64_w, i32_w]; rw [c25b0]) | skip)
       have H' := Aside0.mk H
       clear H
       obtain ⟨Ao36, co36, eo36⟩ := Kd.S_slice HO_2.out
       subst eo36
       go_wp2
       go_meet
       case rel => exact ⟨_, (false), (by first | rfl | (simp; done) | (simp [*]; done)), H', ⟨by have := HK1.out; first | omega | exact Nat.le_refl _⟩, ⟨by (with_reducible repeat (first | apply Kd.S_alloc | apply Kd.S_drewN | apply Kd.S_drew)); exact Kd.S_mono (Kd.S_far (p := ⟨gb118, 1, none⟩) (Kd.S_far (p := ⟨gb118, 0, none⟩) (Kd.S_far (p := ⟨gb117, 1, none⟩) (Kd.S_far (p := ⟨gb117, 0, none⟩) (Kd.S_types (Kd.S_types HO_2.out BK117.out (by decide)) BK118.out (by decide)) (fun _ hk => hk.1.2) (.float .f32 ((rd_T127 l0 x13_1).f1.f0))) (fun _ hk => hk.1.2) (.float .f32 ((rd_T127 l0 x13_1).f2.f0))) (fun _ hk => hk.2) (.float .f32 ((rd_T127 l0 x13_1).f1.f1))) (fun _ hk => hk.2) (.float .f32 ((rd_T127 l0 x13_1).f2.f1))) (fun _ hk => trivial)⟩, ⟨by (with_reducible repeat (first | apply b1_ | apply b2_ | apply b3_)); refine blk_far ?_ NB113_118.out _; (with_reducible repeat (first | apply b1_ | apply b2_ | apply b3_)); refine blk_far ?_ NB113_118.out _; (with_reducible repeat (first | apply b1_ | apply b2_ | apply b3_)); refine blk_far ?_ NB113_117.out _; (with_reducible repeat (first | apply b1_ | apply b2_ | apply b3_)); refine blk_far ?_ NB113_117.out _; (with_reducible repeat (first | apply b1_ | apply b2_ | apply b3_)); exact BK113.out⟩, ⟨by (with_reducible repeat (first | apply b1_ | apply b2_ | apply b3_)); refine blk_far ?_ NB114_118.out _; (with_reducible repeat (first | apply b1_ | apply b2_ | apply b3_)); refine blk_far ?_ NB114_118.out _; (with_reducible repeat (first | apply b1_ | apply b2_ | apply b3_)); refine blk_far ?_ NB114_117.out _; (with_reducible repeat (first | apply b1_ | apply b2_ | apply b3_)); refine blk_far ?_ NB114_117.out _; (with_reducible repeat (first | apply b1_ | apply b2_ | apply b3_)); exact BK114.out⟩, ⟨by (with_reducible repeat (first | apply b1_ | apply b2_ | apply b3_)); refine blk_far ?_ NB116_118.out _; (with_reducible repeat (first | apply b1_ | apply b2_ | apply b3_)); refine blk_far ?_ NB116_118.out _; (with_reducible repeat (first | apply b1_ | apply b2_ | apply b3_)); refine blk_far ?_ NB116_117.out _; (with_reducible repeat (first | apply b1_ | apply b2_ | apply b3_)); refine blk_far ?_ NB116_117.out _; (with_reducible repeat (first | apply b1_ | apply b2_ | apply b3_)); exact BK116.out⟩, ⟨by (with_reducible repeat (first | apply b1_ | apply b2_ | apply b3_)); refine blk_far ?_ NB117_118.out _; (with_reducible repeat (first | apply b1_ | apply b2_ | apply b3_)); refine blk_far ?_ NB117_118.out _; (with_reducible repeat (first | apply b1_ | apply b2_ | apply b3_)); refine blk_put (cs := #[.float .f32 ((rd_T127 l0 x13_1).f1.f0), .float .f32 0]) ?_ 1 _ rfl; (with_reducible repeat (first | apply b1_ | apply b2_ | apply b3_)); refine blk_put (cs := #[.float .f32 0, .float .f32 0]) ?_ 0 _ rfl; (with_reducible repeat (first | apply b1_ | apply b2_ | apply b3_)); exact BK117.out⟩, ⟨by (with_reducible repeat (first | apply b1_ | apply b2_ | apply b3_)); refine blk_put (cs := #[.float .f32 ((rd_T127 l0 x13_1).f1.f1), .float .f32 0]) ?_ 1 _ rfl; (with_reducible repeat (first | apply b1_ | apply b2_ | apply b3_)); refine blk_put (cs := #[.float .f32 0, .float .f32 0]) ?_ 0 _ rfl; (with_reducible repeat (first | apply b1_ | apply b2_ | apply b3_)); refine blk_far ?_ NB118_117.out _; (with_reducible repeat (first | apply b1_ | apply b2_ | apply b3_)); refine blk_far ?_ NB118_117.out _; (with_reducible repeat (first | apply b1_ | apply b2_ | apply b3_)); exact BK118.out⟩, ⟨by repeat (first | (with_reducible first | exact HB.out | apply below_alloc | apply pw_below_drewN | apply below_drew1 | refine below_set ?_ GE113.out | refine below_set ?_ GE114.out | refine below_set ?_ GE116.out | refine below_set ?_ GE117.out | refine below_set ?_ GE118.out) | exact HB.out)⟩⟩
     case rest =>
      clear HC8
      (try clear c1); (try clear p1); (try clear q1); (try clear hx1); (try clear c2); (try clear p2); (try clear c3); (try clear c4); (try clear c4b0); (try clear c5); (try clear c5b0); (try clear c6); (try clear c6b0); (try clear c7); (try clear c7b0); (try clear c7b1); (try clear c10); (try clear c11); (try clear p11); (try clear q11); (try clear hx11); (try clear c17); (try clear c22); (try clear c23); (try clear c25); (try clear c25b0); (try clear c25b1); (try clear c27); (try clear c28); (try clear c29); (try clear c30); (try clear c32); (try clear c33); (try clear c34); (try clear hcz12_0); (try clear hcz12_1); (try clear hcz12_2); (try clear hcz12_3); (try clear hcz12_4); (try clear hcz12_5); (try clear hcz12_6); (try clear hcz24_0); (try clear hcz24_1); (try clear hcz24_2); (try clear hcz24_3); (try clear hcz24_4); (try clear hcz24_5); (try clear hcz24_6); (try clear hcz31_0); (try clear hcz31_1); (try clear hcz35_0); (try clear hcz35_1); (try clear hfz12_0); (try clear hfz12_1); (try clear hfz12_2); (try clear hfz12_3); (try clear hfz12_4); (try clear hfz12_5); (try clear hfz12_6); (try clear hfz24_0); (try clear hfz24_1); (try clear hfz24_2); (try clear hfz24_3); (try clear hfz24_4); (try clear hfz24_5); (try clear hfz24_6); (try clear hfz31_0); (try clear hfz31_1); (try clear hfz35_0); (try clear hfz35_1); (try clear hx115_0); (try clear hx115_1); (try clear hx115_2); (try clear hx115_3); (try clear hx115_4); (try clear hx115_5); (try clear hx115_6); (try clear p115); (try clear p2); (try clear q115)
      obtain ⟨kq, x42_7, rfl, HA, HJ7, HO_2, BK113, BK114, BK116, BK117, BK118, HB⟩ := hcut
      cases kq with
      | zero => exact absurd HA.out (by simp [spec_PiecesOf.j1])
      | succ kj7 =>
       have H := HA.out
       clear HA
       simp only [spec_PiecesOf.j1] at H
       by_cases c37 : x42_7 = true
       ·subst c37
        have H1 : (some (([] : List (List (S129))), false)) = some (r1, r2) := by rw [if_pos rfl] at H; exact H
        clear H
        have H := H1
        clear H1
        simp only [Option.some.injEq, Prod.mk.injEq] at H
        obtain ⟨rfl, rfl⟩ := H
        go_wp2
        go_ret2
        exact ⟨_, by first | rfl | (simp [errW_none, errW_some] <;> rfl) | (simp [*, errW_none, errW_some] <;> rfl), by first | exact Kd.S_nil _ _ _ _ _ | exact Kd.N_nil _ _ _ _ _ | exact Kd.V_nil _ _ _ _ _ | exact Kd.Q_nil _ _ _ _ _ | exact Kd.R_nil _ _ _ _ _, by repeat (first | (with_reducible first | exact HB.out | apply below_alloc | apply pw_below_drewN | apply below_drew1 | refine below_set ?_ GE113.out | refine below_set ?_ GE114.out | refine below_set ?_ GE116.out | refine below_set ?_ GE117.out | refine below_set ?_ GE118.out) | exact HB.out)⟩
       ·replace c37 := Bool.eq_false_iff.mpr c37
        subst c37
        have H1 : (if x2_1.length < 5864062014805 then (spec_PiecesOf.l0 kj7 (x2_1 ++ [[]]) l0 (l0.length : Int) (wrap64 (x13_1 + 1)) ((rd_T127 l0 x13_1).f1.f0) ((rd_T127 l0 x13_1).f2.f0) ((rd_T127 l0 x13_1).f1.f0) ((rd_T127 l0 x13_1).f2.f0)) else (none)) = some (r1, r2) := by rw [if_neg (show ¬ (false = true) by decide)] at H; exact H
        clear H
        have H := H1
        clear H1
        by_cases c38 : x2_1.length < 5864062014805
        rotate_left
        ·rw [if_neg c38] at H
         exact absurd H (by simp)
        rw [if_pos c38] at H
        have LMc38 := Aside0.mk c38
        clear c38
        obtain ⟨y119, hy119⟩ : ∃ y_ : List (List (S129)), y_ = (x2_1 ++ [[]]) := ⟨_, rfl⟩
        replace H : (spec_PiecesOf.l0 kj7 y119 l0 (l0.length : Int) (wrap64 (x13_1 + 1)) ((rd_T127 l0 x13_1).f1.f0) ((rd_T127 l0 x13_1).f2.f0) ((rd_T127 l0 x13_1).f1.f0) ((rd_T127 l0 x13_1).f2.f0)) = some (r1, r2) := by first | (rw [hy119]; with_reducible exact H) | (have H2_ := (Option.bind_some _ _).symm.trans H; rw [hy119]; with_reducible exact H2_) | (have H2_ := (Option.bind_some _ _).symm.trans H; with_reducible exact H2_) | with_reducible exact H | (rw [hy119]; exact H) | exact H
        have Ny119 := Aside0.mk hy119
        clear hy119
        have H' := Aside0.mk H
        clear H
        try go_wp2
        have n0_ := Aside0.mk (Kd.S_drew HO_2.out)
        have n1_ := Aside0.mk (blk_drew BK113.out)
        have n2_ := Aside0.mk (blk_drew BK114.out)
        have n3_ := Aside0.mk (blk_drew BK116.out)
        have n4_ := Aside0.mk (blk_drew BK117.out)
        have n5_ := Aside0.mk (blk_drew BK118.out)
        have n6_ := Aside0.mk (below_drew1 HB.out)
        clear HO_2
        clear BK113
        clear BK114
        clear BK116
        clear BK117
        clear BK118
        clear HB
        have HO_2 := n0_
        have BK113 := n1_
        have BK114 := n2_
        have BK116 := n3_
        have BK117 := n4_
        have BK118 := n5_
        have HB := n6_
        clear n0_ n1_ n2_ n3_ n4_ n5_ n6_
        refine start_ (n := 8) (S := fun w' => w'.cell? ⟨gb117, 0, none⟩ = some (.float .f32 ((rd_T127 l0 x13_1).f1.f0)) ∧ w'.cell? ⟨gb117, 1, none⟩ = some (.float .f32 ((rd_T127 l0 x13_1).f2.f0))) (ds := []) #[false, false, false, false, false, false, false, false] (by kernel_rfl) rfl rfl ⟨(blk_cell BK117.out 0).trans rfl, (blk_cell BK117.out 1).trans rfl⟩ (fun hHeld => ?_); refine with_tabW spec_PiecesOf.tab9 spec_PiecesOf.bits9 (fun HT_ HW_ => ?_)
        generalize wc.drew = w39 at HO_2 BK113 BK114 BK116 BK117 BK118 HB hHeld ⊢
        refine pure_ (i := 0) (N := some 43) (v := ?_) (a' := ?_) #[true, false, false, false, false, false, false, false] rfl rfl (any_of HT_.out (by kernel_rfl)) (fun _ _ _ h => h) (Or.inl ⟨by rfl, ?_⟩) ?_ ?_
        rotate_left
        ·intro w'
         go_simp
         with_reducible rfl
        rotate_left
        ·simp only [Act.put, L1_, L2_, L3_, i64_w, i32_w]
         rfl
        refine take_ (i := 3) (N := some 46) (v := ?_) (a' := ?_) #[true, false, false, true, false, false, false, false] rfl rfl (take_ofW HT_.out HW_.out (by kernel_rfl)) (fun _ _ _ h => h) (Or.inl ⟨by rfl, ?_⟩) hHeld ?_ ?_
        rotate_left
        ·rintro w' ⟨s0, s1⟩
         go_simp
         with_reducible rfl
        rotate_left
        ·simp only [Act.put, L1_, L2_, L3_, i64_w, i32_w]
         rfl
        refine take_ (i := 4) (N := some 47) (v := ?_) (a' := ?_) #[true, false, false, true, true, false, false, false] rfl rfl (take_ofW HT_.out HW_.out (by kernel_rfl)) (fun _ _ _ h => h) (Or.inl ⟨by rfl, ?_⟩) hHeld ?_ ?_
        rotate_left
        ·rintro w' ⟨s0, s1⟩
         go_simp
         with_reducible rfl
        rotate_left
        ·simp only [Act.put, L1_, L2_, L3_, i64_w, i32_w]
         rfl
        refine one_ (i := 1) (N := some 44) #[true, true, false, true, true, false, false, false] rfl rfl (one_of HT_.out (by kernel_rfl)) (by decide) (fun K hK => ?_)
        refine value_ (w1 := ?_) (v := ?_) (by rfl) rfl ?_ ?_
        rotate_left 2
        ·go_simp
         constructor
         ·rfl
         ·rfl
        refine hK.out _ _ ⟨(blk_cell (blk_alloc BK117.out _) 0).trans rfl, (blk_cell (blk_alloc BK117.out _) 1).trans rfl⟩ (fun hHeld => ?_)
        clear hK K
        refine norm_ (a' := ?_) ?_ ?_
        rotate_left
        ·show Act.put _ (some 44) _ = _
         simp only [Act.put, L1_, L2_, L3_, i64_w, i32_w]
         rfl
        refine one_ (i := 2) (N := some 45) #[true, true, true, true, true, false, false, false] rfl rfl (one_of HT_.out (by kernel_rfl)) (by decide) (fun K hK => ?_)
        refine Kd.S_append_step (Kd.slice 129 k129) (w0 := w) w.heap.size (by rfl) (.tmp 43) (.tmp 44) 55 62 (.slice none 0 0) 24 rfl Try.underlying55 info62 rfl (by decide) (by omega) u2 x2_1 ([] : List (S129)) [.slice none 0 0] (fun _ => True) (fun _ => False) rfl rfl ?aP (fun k_ hk_ => hk_.elim) ?aF ?aO ?aB ?aS ?aL ?_
        (case aP => exact Kd.M_row (Kd.R_nil _ _ _ _ _))
        (case aB => exact (by repeat (first | (with_reducible first | exact HB.out | apply below_alloc | apply pw_below_drewN | apply below_drew1 | refine below_set ?_ GE113.out | refine below_set ?_ GE114.out | refine below_set ?_ GE116.out | refine below_set ?_ GE117.out | refine below_set ?_ GE118.out) | exact HB.out)))
        (case aF => exact (fun _ _ => trivial))
        (case aO => exact (by (with_reducible repeat (first | apply Kd.S_alloc | apply Kd.S_drewN | apply Kd.S_drew)); exact Kd.S_mono HO_2.out (fun k_ hk => ⟨trivial, fun e_ => e_⟩)))
        (case aS => exact (below_size (by repeat (first | (with_reducible first | exact HB.out | apply below_alloc | apply pw_below_drewN | apply below_drew1 | refine below_set ?_ GE113.out | refine below_set ?_ GE114.out | refine below_set ?_ GE116.out | refine below_set ?_ GE117.out | refine below_set ?_ GE118.out) | exact HB.out))))
        (case aL => have := LMc38.out; omega)
        intro v120 w40 ho hb hg hat
        rw [← Ny119.out] at ho
        have n0_ := Aside0.mk (blk_grown (g := gb113) (o := .cells #[.float .f32 x114000_1, .float .f32 x114001_1] 124 (0, 0)) (by (with_reducible repeat (first | apply b1_ | apply b2_ | apply b3_)); exact BK113.out) hg (Kd.S_ne HO_2.out BK113.out (by decide)))
        have n1_ := Aside0.mk (blk_grown (g := gb114) (o := .cells #[.float .f32 x115000_1, .float .f32 x115001_1] 124 (0, 0)) (by (with_reducible repeat (first | apply b1_ | apply b2_ | apply b3_)); exact BK114.out) hg (Kd.S_ne HO_2.out BK114.out (by decide)))
        have n2_ := Aside0.mk (blk_grown (g := gb116) (o := .cells #[.int .i64 ((rd_T127 l0 x13_1).f0), .float .f32 ((rd_T127 l0 x13_1).f1.f0), .float .f32 ((rd_T127 l0 x13_1).f1.f1), .float .f32 ((rd_T127 l0 x13_1).f1.f2), .float .f32 ((rd_T127 l0 x13_1).f2.f0), .float .f32 ((rd_T127 l0 x13_1).f2.f1), .float .f32 ((rd_T127 l0 x13_1).f2.f2)] 127 (0, 0)) (by (with_reducible repeat (first | apply b1_ | apply b2_ | apply b3_)); exact BK116.out) hg (Kd.S_ne HO_2.out BK116.out (by decide)))
        have n3_ := Aside0.mk (blk_grown (g := gb117) (o := .cells #[.float .f32 ((rd_T127 l0 x13_1).f1.f0), .float .f32 ((rd_T127 l0 x13_1).f2.f0)] 124 (0, 0)) (by (with_reducible repeat (first | apply b1_ | apply b2_ | apply b3_)); exact BK117.out) hg (Kd.S_ne HO_2.out BK117.out (by decide)))
        have n4_ := Aside0.mk (blk_grown (g := gb118) (o := .cells #[.float .f32 ((rd_T127 l0 x13_1).f1.f1), .float .f32 ((rd_T127 l0 x13_1).f2.f1)] 124 (0, 0)) (by (with_reducible repeat (first | apply b1_ | apply b2_ | apply b3_)); exact BK118.out) hg (Kd.S_ne HO_2.out BK118.out (by decide)))
        have n5_ := Aside0.mk (hb)
        have n6_ := Aside0.mk (ho)
        clear BK113
        clear BK114
        clear BK116
        clear BK117
        clear BK118
        clear HB
        clear HO_2
        have BK113 := n0_
        have BK114 := n1_
        have BK116 := n2_
        have BK117 := n3_
        have BK118 := n4_
        have HB := n5_
        have HO121 := n6_
        clear n0_ n1_ n2_ n3_ n4_ n5_ n6_
        clear ho hb hg hat
        refine hK.out _ _ ⟨(blk_cell BK117.out 0).trans rfl, (blk_cell BK117.out 1).trans rfl⟩ (fun hHeld => ?_)
        clear hK K
        refine norm_ (a' := ?_) ?_ ?_
        rotate_left
        ·show Act.put _ (some 45) _ = _
         simp only [Act.put, L1_, L2_, L3_, i64_w, i32_w]
         rfl
        refine pure_ (i := 5) (N := some 2) (v := ?_) (a' := ?_) #[true, true, true, true, true, true, false, false] rfl rfl (any_of HT_.out (by kernel_rfl)) (fun _ _ _ h => h) (Or.inl ⟨by rfl, ?_⟩) ?_ ?_
        rotate_left
        ·intro w'
         go_simp
         with_reducible rfl
        rotate_left
        ·simp only [Act.put, L1_, L2_, L3_, i64_w, i32_w]
         rfl
        refine one_ (i := 6) (N := none) #[true, true, true, true, true, true, true, false] rfl rfl (one_of HT_.out (by kernel_rfl)) (by decide) (fun K hK => ?_)
        have hs41 : w40.cell? ⟨gb113, 0, none⟩ = some (.float .f32 x114000_1) := (blk_cell BK113.out 0).trans rfl
        have hfs41 := blk_frozen BK113.out 0
        have hns41_1 := NB114_113.out
        have hns41_2 := NB116_113.out
        have hns41_3 := NB117_113.out
        have hns41_4 := NB118_113.out
        have hms41_1 := NB113_114.out
        have hms41_2 := NB113_116.out
        have hms41_3 := NB113_117.out
        have hms41_4 := NB113_118.out
        have hs42 : w40.cell? ⟨gb113, 1, none⟩ = some (.float .f32 x114001_1) := (blk_cell BK113.out 1).trans rfl
        have hfs42 := blk_frozen BK113.out 1
        have hns42_1 := NB114_113.out
        have hns42_2 := NB116_113.out
        have hns42_3 := NB117_113.out
        have hns42_4 := NB118_113.out
        have hms42_1 := NB113_114.out
        have hms42_2 := NB113_116.out
        have hms42_3 := NB113_117.out
        have hms42_4 := NB113_118.out
        refine skip_ (w1 := ?_) (by rfl) rfl ?_ ?_
        rotate_left
        ·go_simp
         rfl
        refine hK.out _ _ ⟨((cell_far (p := ⟨gb113, _, none⟩) NB117_113.out _).trans (((cell_far (p := ⟨gb113, _, none⟩) NB117_113.out _).trans (hHeld.1)))), ((cell_far (p := ⟨gb113, _, none⟩) NB117_113.out _).trans (((cell_far (p := ⟨gb113, _, none⟩) NB117_113.out _).trans (hHeld.2))))⟩ (fun hHeld => ?_)
        clear hK K
        refine one_ (i := 7) (N := none) #[true, true, true, true, true, true, true, true] rfl rfl (one_of HT_.out (by kernel_rfl)) (by decide) (fun K hK => ?_)
        have hs43 : w40.cell? ⟨gb114, 0, none⟩ = some (.float .f32 x115000_1) := (blk_cell BK114.out 0).trans rfl
        have hfs43 := blk_frozen BK114.out 0
        have hns43_0 := NB113_114.out
        have hns43_2 := NB116_114.out
        have hns43_3 := NB117_114.out
        have hns43_4 := NB118_114.out
        have hms43_0 := NB114_113.out
        have hms43_2 := NB114_116.out
        have hms43_3 := NB114_117.out
        have hms43_4 := NB114_118.out
        have hs44 : w40.cell? ⟨gb114, 1, none⟩ = some (.float .f32 x115001_1) := (blk_cell BK114.out 1).trans rfl
        have hfs44 := blk_frozen BK114.out 1
        have hns44_0 := NB113_114.out
        have hns44_2 := NB116_114.out
        have hns44_3 := NB117_114.out
        have hns44_4 := NB118_114.out
        have hms44_0 := NB114_113.out
        have hms44_2 := NB114_116.out
        have hms44_3 := NB114_117.out
        have hms44_4 := NB114_118.out
        refine skip_ (w1 := ?_) (by rfl) rfl ?_ ?_
        rotate_left
        ·go_simp
         rfl
        refine hK.out _ _ ⟨((cell_far (p := ⟨gb114, _, none⟩) NB117_114.out _).trans (((cell_far (p := ⟨gb114, _, none⟩) NB117_114.out _).trans (hHeld.1)))), ((cell_far (p := ⟨gb114, _, none⟩) NB117_114.out _).trans (((cell_far (p := ⟨gb114, _, none⟩) NB117_114.out _).trans (hHeld.2))))⟩ (fun hHeld => ?_)
        clear hK K
        refine done_ (done_of HT_.out (by kernel_rfl)) ?_
        try go_wp2
        go_roundg kj7
        case measure => have := HK1.out; have := HJ7.out; omega
        case rel => exact ⟨(y119), (wrap64 (x13_1 + 1)), (((rd_T127 l0 x13_1).f1.f0)), (((rd_T127 l0 x13_1).f2.f0)), (((rd_T127 l0 x13_1).f1.f0)), (((rd_T127 l0 x13_1).f2.f0)), (by first | rfl | (simp; done) | (simp [*]; done)), H', ⟨by have := HK1.out; have := HJ7.out; omega⟩, ⟨by (with_reducible repeat (first | apply Kd.S_alloc | apply Kd.S_drewN | apply Kd.S_drew)); exact Kd.S_mono (Kd.S_far (p := ⟨gb114, 1, none⟩) (Kd.S_far (p := ⟨gb114, 0, none⟩) (Kd.S_far (p := ⟨gb113, 1, none⟩) (Kd.S_far (p := ⟨gb113, 0, none⟩) (Kd.S_types (Kd.S_types HO121.out BK113.out (by decide)) BK114.out (by decide)) (fun _ hk => hk.1.2) (.float .f32 ((rd_T127 l0 x13_1).f1.f0))) (fun _ hk => hk.1.2) (.float .f32 ((rd_T127 l0 x13_1).f2.f0))) (fun _ hk => hk.2) (.float .f32 ((rd_T127 l0 x13_1).f1.f0))) (fun _ hk => hk.2) (.float .f32 ((rd_T127 l0 x13_1).f2.f0))) (fun _ hk => trivial)⟩, ⟨by (with_reducible repeat (first | apply b1_ | apply b2_ | apply b3_)); refine blk_far ?_ NB113_114.out _; (with_reducible repeat (first | apply b1_ | apply b2_ | apply b3_)); refine blk_far ?_ NB113_114.out _; (with_reducible repeat (first | apply b1_ | apply b2_ | apply b3_)); refine blk_put (cs := #[.float .f32 ((rd_T127 l0 x13_1).f1.f0), .float .f32 x114001_1]) ?_ 1 _ rfl; (with_reducible repeat (first | apply b1_ | apply b2_ | apply b3_)); refine blk_put (cs := #[.float .f32 x114000_1, .float .f32 x114001_1]) ?_ 0 _ rfl; (with_reducible repeat (first | apply b1_ | apply b2_ | apply b3_)); exact BK113.out⟩, ⟨by (with_reducible repeat (first | apply b1_ | apply b2_ | apply b3_)); refine blk_put (cs := #[.float .f32 ((rd_T127 l0 x13_1).f1.f0), .float .f32 x115001_1]) ?_ 1 _ rfl; (with_reducible repeat (first | apply b1_ | apply b2_ | apply b3_)); refine blk_put (cs := #[.float .f32 x115000_1, .float .f32 x115001_1]) ?_ 0 _ rfl; (with_reducible repeat (first | apply b1_ | apply b2_ | apply b3_)); refine blk_far ?_ NB114_113.out _; (with_reducible repeat (first | apply b1_ | apply b2_ | apply b3_)); refine blk_far ?_ NB114_113.out _; (with_reducible repeat (first | apply b1_ | apply b2_ | apply b3_)); exact BK114.out⟩, ⟨by repeat (first | (with_reducible first | exact HB.out | apply below_alloc | apply pw_below_drewN | apply below_drew1 | refine below_set ?_ GE113.out | refine below_set ?_ GE114.out | refine below_set ?_ GE116.out | refine below_set ?_ GE117.out | refine below_set ?_ GE118.out) | exact HB.out)⟩⟩
    ·rw [if_neg c7] at H
     have c7b0 : (((rd_T127 l0 x13_1).f0) == 0) = false := beq_eq_false_iff_ne.mpr c7
     have c7b1 : (((rd_T127 l0 x13_1).f0) != 0) = true := bne_iff_ne.mpr c7
     have HC45 := Aside0.mk H
     clear H
     have p115 : 0 ≤ (x13_1 : Int) := of_decide_eq_true (by first | (with_reducible assumption) | assumption)
     have q115 : x13_1 < (l0.length : Int) := of_decide_eq_true (by first | (with_reducible assumption) | assumption)
     obtain ⟨ad115, e115, hx115_0, hx115_1, hx115_2, hx115_3, hx115_4, hx115_5, hx115_6⟩ := at_T127 HR0.out x13_1 p115 q115
     cases e115
     replace hx115_0 := (HB.out.cell (World.block_lt_of_cell? w _ hx115_0)).trans hx115_0
     replace hx115_1 := (HB.out.cell (World.block_lt_of_cell? w _ hx115_1)).trans hx115_1
     replace hx115_2 := (HB.out.cell (World.block_lt_of_cell? w _ hx115_2)).trans hx115_2
     replace hx115_3 := (HB.out.cell (World.block_lt_of_cell? w _ hx115_3)).trans hx115_3
     replace hx115_4 := (HB.out.cell (World.block_lt_of_cell? w _ hx115_4)).trans hx115_4
     replace hx115_5 := (HB.out.cell (World.block_lt_of_cell? w _ hx115_5)).trans hx115_5
     replace hx115_6 := (HB.out.cell (World.block_lt_of_cell? w _ hx115_6)).trans hx115_6
     replace p115 := eq_true p115
     replace q115 := eq_true q115
     try go_wp2_with (first | ((with_reducible refine gate_dst (N := 7) rfl ?_); refine box_event ?hg (N := 7) ?hd (cs := #[.int .i64 0, .float .f32 0, .float .f32 0, .float .f32 0, .float .f32 0, .float .f32 0, .float .f32 0]) (t := 127) ?hr ?_; (case hd => rfl); (case hg => rfl); (case hr => first | (go_simp; done) | (go_simp; rfl)); intro gb116 hg w46 hbox hb; have n0_ := Aside0.mk (Kd.S_below (by (with_reducible repeat (first | apply Kd.S_alloc | apply Kd.S_drewN | apply Kd.S_drew)); exact HO_2.out) hb); have n1_ := Aside0.mk (blk_below (g := gb113) (o := .cells #[.float .f32 x114000_1, .float .f32 x114001_1] 124 (0, 0)) (by (with_reducible repeat (first | apply b1_ | apply b2_ | apply b3_)); exact BK113.out) hb); have n2_ := Aside0.mk (blk_below (g := gb114) (o := .cells #[.float .f32 x115000_1, .float .f32 x115001_1] 124 (0, 0)) (by (with_reducible repeat (first | apply b1_ | apply b2_ | apply b3_)); exact BK114.out) hb); have n3_ := Aside0.mk (below_step (by repeat (first | (with_reducible first | exact HB.out | apply below_alloc | apply pw_below_drewN | apply below_drew1 | refine below_set ?_ GE113.out | refine below_set ?_ GE114.out) | exact HB.out)) hb); have n4_ := Aside0.mk (hbox); have n5_ := Aside0.mk ((by rw [hg]; exact (below_size (by repeat (first | (with_reducible first | exact HB.out | apply below_alloc | apply pw_below_drewN | apply below_drew1 | refine below_set ?_ GE113.out | refine below_set ?_ GE114.out) | exact HB.out))) : w.heap.size ≤ gb116)); have n6_ := Aside0.mk ((by rw [hg]; exact (below_size (by repeat (first | (with_reducible first | exact HB.out | apply below_alloc | apply pw_below_drewN | apply below_drew1 | refine below_set ?_ GE113.out | refine below_set ?_ GE114.out) | exact HB.out))) : w.heap.size ≤ gb116)); have n7_ := Aside0.mk ((by rw [hg]; exact Nat.ne_of_lt (blk_lt (g := gb113) (o := .cells #[.float .f32 x114000_1, .float .f32 x114001_1] 124 (0, 0)) (by (with_reducible repeat (first | apply b1_ | apply b2_ | apply b3_)); exact BK113.out)) : gb113 ≠ gb116)); have n8_ := Aside0.mk ((by rw [hg]; exact Nat.ne_of_gt (blk_lt (g := gb113) (o := .cells #[.float .f32 x114000_1, .float .f32 x114001_1] 124 (0, 0)) (by (with_reducible repeat (first | apply b1_ | apply b2_ | apply b3_)); exact BK113.out)) : gb116 ≠ gb113)); have n9_ := Aside0.mk ((by rw [hg]; exact Nat.ne_of_lt (blk_lt (g := gb114) (o := .cells #[.float .f32 x115000_1, .float .f32 x115001_1] 124 (0, 0)) (by (with_reducible repeat (first | apply b1_ | apply b2_ | apply b3_)); exact BK114.out)) : gb114 ≠ gb116)); have n10_ := Aside0.mk ((by rw [hg]; exact Nat.ne_of_gt (blk_lt (g := gb114) (o := .cells #[.float .f32 x115000_1, .float .f32 x115001_1] 124 (0, 0)) (by (with_reducible repeat (first | apply b1_ | apply b2_ | apply b3_)); exact BK114.out)) : gb116 ≠ gb114)); clear HO_2; clear BK113; clear BK114; clear HB; have HO_2 := n0_; have BK113 := n1_; have BK114 := n2_; have HB := n3_; have BK116 := n4_; have GW116 := n5_; have GE116 := n6_; have NB113_116 := n7_; have NB116_113 := n8_; have NB114_116 := n9_; have NB116_114 := n10_; clear n0_ n1_ n2_ n3_ n4_ n5_ n6_ n7_ n8_ n9_ n10_; clear hb hbox hg; have hnb47 := NB116_113.out; have hnc47 := NB113_116.out; have hnb48 := NB116_114.out; have hnc48 := NB114_116.out; have hcz49_0 : w46.cell? ⟨gb116, 0, none⟩ = some (.int .i64 0) := (blk_cell BK116.out 0).trans rfl; have hcz49_1 : w46.cell? ⟨gb116, 1, none⟩ = some (.float .f32 0) := (blk_cell BK116.out 1).trans rfl; have hcz49_2 : w46.cell? ⟨gb116, 2, none⟩ = some (.float .f32 0) := (blk_cell BK116.out 2).trans rfl; have hcz49_3 : w46.cell? ⟨gb116, 3, none⟩ = some (.float .f32 0) := (blk_cell BK116.out 3).trans rfl; have hcz49_4 : w46.cell? ⟨gb116, 4, none⟩ = some (.float .f32 0) := (blk_cell BK116.out 4).trans rfl; have hcz49_5 : w46.cell? ⟨gb116, 5, none⟩ = some (.float .f32 0) := (blk_cell BK116.out 5).trans rfl; have hcz49_6 : w46.cell? ⟨gb116, 6, none⟩ = some (.float .f32 0) := (blk_cell BK116.out 6).trans rfl; have hfz49_0 := blk_frozen BK116.out 0; have hfz49_1 := blk_frozen BK116.out 1; have hfz49_2 := blk_frozen BK116.out 2; have hfz49_3 := blk_frozen BK116.out 3; have hfz49_4 := blk_frozen BK116.out 4; have hfz49_5 := blk_frozen BK116.out 5; have hfz49_6 := blk_frozen BK116.out 6))
     have n0_ : Aside0 (Kd.S (Kd.slice 129 k129) 62 (((((((w46.setCell ⟨gb116, 0, none⟩ (.int .i64 ((rd_T127 l0 x13_1).f0))).setCell ⟨gb116, 1, none⟩ (.float .f32 ((rd_T127 l0 x13_1).f1.f0))).setCell ⟨gb116, 2, none⟩ (.float .f32 ((rd_T127 l0 x13_1).f1.f1))).setCell ⟨gb116, 3, none⟩ (.float .f32 ((rd_T127 l0 x13_1).f1.f2))).setCell ⟨gb116, 4, none⟩ (.float .f32 ((rd_T127 l0 x13_1).f2.f0))).setCell ⟨gb116, 5, none⟩ (.float .f32 ((rd_T127 l0 x13_1).f2.f1))).setCell ⟨gb116, 6, none⟩ (.float .f32 ((rd_T127 l0 x13_1).f2.f2))) w.heap.size (fun _ => True) u2 x2_1) := ⟨by (with_reducible repeat (first | apply Kd.S_alloc | apply Kd.S_drewN | apply Kd.S_drew)); exact Kd.S_mono (Kd.S_far (p := ⟨gb116, 6, none⟩) (Kd.S_far (p := ⟨gb116, 5, none⟩) (Kd.S_far (p := ⟨gb116, 4, none⟩) (Kd.S_far (p := ⟨gb116, 3, none⟩) (Kd.S_far (p := ⟨gb116, 2, none⟩) (Kd.S_far (p := ⟨gb116, 1, none⟩) (Kd.S_far (p := ⟨gb116, 0, none⟩) (Kd.S_types HO_2.out BK116.out (by decide)) (fun _ hk => hk.2) (.int .i64 ((rd_T127 l0 x13_1).f0))) (fun _ hk => hk.2) (.float .f32 ((rd_T127 l0 x13_1).f1.f0))) (fun _ hk => hk.2) (.float .f32 ((rd_T127 l0 x13_1).f1.f1))) (fun _ hk => hk.2) (.float .f32 ((rd_T127 l0 x13_1).f1.f2))) (fun _ hk => hk.2) (.float .f32 ((rd_T127 l0 x13_1).f2.f0))) (fun _ hk => hk.2) (.float .f32 ((rd_T127 l0 x13_1).f2.f1))) (fun _ hk => hk.2) (.float .f32 ((rd_T127 l0 x13_1).f2.f2))) (fun _ hk => trivial)⟩
     have n1_ : Aside0 ((((((((w46.setCell ⟨gb116, 0, none⟩ (.int .i64 ((rd_T127 l0 x13_1).f0))).setCell ⟨gb116, 1, none⟩ (.float .f32 ((rd_T127 l0 x13_1).f1.f0))).setCell ⟨gb116, 2, none⟩ (.float .f32 ((rd_T127 l0 x13_1).f1.f1))).setCell ⟨gb116, 3, none⟩ (.float .f32 ((rd_T127 l0 x13_1).f1.f2))).setCell ⟨gb116, 4, none⟩ (.float .f32 ((rd_T127 l0 x13_1).f2.f0))).setCell ⟨gb116, 5, none⟩ (.float .f32 ((rd_T127 l0 x13_1).f2.f1))).setCell ⟨gb116, 6, none⟩ (.float .f32 ((rd_T127 l0 x13_1).f2.f2))).heap[gb113]? = some (.cells #[.float .f32 x114000_1, .float .f32 x114001_1] 124 (0, 0))) := ⟨by (with_reducible repeat (first | apply b1_ | apply b2_ | apply b3_)); refine blk_far ?_ NB113_116.out _; (with_reducible repeat (first | apply b1_ | apply b2_ | apply b3_)); refine blk_far ?_ NB113_116.out _; (with_reducible repeat (first | apply b1_ | apply b2_ | apply b3_)); refine blk_far ?_ NB113_116.out _; (with_reducible repeat (first | apply b1_ | apply b2_ | apply b3_)); refine blk_far ?_ NB113_116.out _; (with_reducible repeat (first | apply b1_ | apply b2_ | apply b3_)); refine blk_far ?_ NB113_116.out _; (with_reducible repeat (first | apply b1_ | apply b2_ | apply b3_)); refine blk_far ?_ NB113_116.out _; (with_reducible repeat (first | apply b1_ | apply b2_ | apply b3_)); refine blk_far ?_ NB113_116.out _; (with_reducible repeat (first | apply b1_ | apply b2_ | apply b3_)); exact BK113.out⟩
     have n2_ : Aside0 ((((((((w46.setCell ⟨gb116, 0, none⟩ (.int .i64 ((rd_T127 l0 x13_1).f0))).setCell ⟨gb116, 1, none⟩ (.float .f32 ((rd_T127 l0 x13_1).f1.f0))).setCell ⟨gb116, 2, none⟩ (.float .f32 ((rd_T127 l0 x13_1).f1.f1))).setCell ⟨gb116, 3, none⟩ (.float .f32 ((rd_T127 l0 x13_1).f1.f2))).setCell ⟨gb116, 4, none⟩ (.float .f32 ((rd_T127 l0 x13_1).f2.f0))).setCell ⟨gb116, 5, none⟩ (.float .f32 ((rd_T127 l0 x13_1).f2.f1))).setCell ⟨gb116, 6, none⟩ (.float .f32 ((rd_T127 l0 x13_1).f2.f2))).heap[gb114]? = some (.cells #[.float .f32 x115000_1, .float .f32 x115001_1] 124 (0, 0))) := ⟨by (with_reducible repeat (first | apply b1_ | apply b2_ | apply b3_)); refine blk_far ?_ NB114_116.out _; (with_reducible repeat (first | apply b1_ | apply b2_ | apply b3_)); refine blk_far ?_ NB114_116.out _; (with_reducible repeat (first | apply b1_ | apply b2_ | apply b3_)); refine blk_far ?_ NB114_116.out _; (with_reducible repeat (first | apply b1_ | apply b2_ | apply b3_)); refine blk_far ?_ NB114_116.out _; (with_reducible repeat (first | apply b1_ | apply b2_ | apply b3_)); refine blk_far ?_ NB114_116.out _; (with_reducible repeat (first | apply b1_ | apply b2_ | apply b3_)); refine blk_far ?_ NB114_116.out _; (with_reducible repeat (first | apply b1_ | apply b2_ | apply b3_)); refine blk_far ?_ NB114_116.out _; (with_reducible repeat (first | apply b1_ | apply b2_ | apply b3_)); exact BK114.out⟩
     have n3_ : Aside0 ((((((((w46.setCell ⟨gb116, 0, none⟩ (.int .i64 ((rd_T127 l0 x13_1).f0))).setCell ⟨gb116, 1, none⟩ (.float .f32 ((rd_T127 l0 x13_1).f1.f0))).setCell ⟨gb116, 2, none⟩ (.float .f32 ((rd_T127 l0 x13_1).f1.f1))).setCell ⟨gb116, 3, none⟩ (.float .f32 ((rd_T127 l0 x13_1).f1.f2))).setCell ⟨gb116, 4, none⟩ (.float .f32 ((rd_T127 l0 x13_1).f2.f0))).setCell ⟨gb116, 5, none⟩ (.float .f32 ((rd_T127 l0 x13_1).f2.f1))).setCell ⟨gb116, 6, none⟩ (.float .f32 ((rd_T127 l0 x13_1).f2.f2))).heap[gb116]? = some (.cells #[.int .i64 ((rd_T127 l0 x13_1).f0), .float .f32 ((rd_T127 l0 x13_1).f1.f0), .float .f32 ((rd_T127 l0 x13_1).f1.f1), .float .f32 ((rd_T127 l0 x13_1).f1.f2), .float .f32 ((rd_T127 l0 x13_1).f2.f0), .float .f32 ((rd_T127 l0 x13_1).f2.f1), .float .f32 ((rd_T127 l0 x13_1).f2.f2)] 127 (0, 0))) := ⟨by (with_reducible repeat (first | apply b1_ | apply b2_ | apply b3_)); refine blk_put (cs := #[.int .i64 ((rd_T127 l0 x13_1).f0), .float .f32 ((rd_T127 l0 x13_1).f1.f0), .float .f32 ((rd_T127 l0 x13_1).f1.f1), .float .f32 ((rd_T127 l0 x13_1).f1.f2), .float .f32 ((rd_T127 l0 x13_1).f2.f0), .float .f32 ((rd_T127 l0 x13_1).f2.f1), .float .f32 0]) ?_ 6 _ rfl; (with_reducible repeat (first | apply b1_ | apply b2_ | apply b3_)); refine blk_put (cs := #[.int .i64 ((rd_T127 l0 x13_1).f0), .float .f32 ((rd_T127 l0 x13_1).f1.f0), .float .f32 ((rd_T127 l0 x13_1).f1.f1), .float .f32 ((rd_T127 l0 x13_1).f1.f2), .float .f32 ((rd_T127 l0 x13_1).f2.f0), .float .f32 0, .float .f32 0]) ?_ 5 _ rfl; (with_reducible repeat (first | apply b1_ | apply b2_ | apply b3_)); refine blk_put (cs := #[.int .i64 ((rd_T127 l0 x13_1).f0), .float .f32 ((rd_T127 l0 x13_1).f1.f0), .float .f32 ((rd_T127 l0 x13_1).f1.f1), .float .f32 ((rd_T127 l0 x13_1).f1.f2), .float .f32 0, .float .f32 0, .float .f32 0]) ?_ 4 _ rfl; (with_reducible repeat (first | apply b1_ | apply b2_ | apply b3_)); refine blk_put (cs := #[.int .i64 ((rd_T127 l0 x13_1).f0), .float .f32 ((rd_T127 l0 x13_1).f1.f0), .float .f32 ((rd_T127 l0 x13_1).f1.f1), .float .f32 0, .float .f32 0, .float .f32 0, .float .f32 0]) ?_ 3 _ rfl; (with_reducible repeat (first | apply b1_ | apply b2_ | apply b3_)); refine blk_put (cs := #[.int .i64 ((rd_T127 l0 x13_1).f0), .float .f32 ((rd_T127 l0 x13_1).f1.f0), .float .f32 0, .float .f32 0, .float .f32 0, .float .f32 0, .float .f32 0]) ?_ 2 _ rfl; (with_reducible repeat (first | apply b1_ | apply b2_ | apply b3_)); refine blk_put (cs := #[.int .i64 ((rd_T127 l0 x13_1).f0), .float .f32 0, .float .f32 0, .float .f32 0, .float .f32 0, .float .f32 0, .float .f32 0]) ?_ 1 _ rfl; (with_reducible repeat (first | apply b1_ | apply b2_ | apply b3_)); refine blk_put (cs := #[.int .i64 0, .float .f32 0, .float .f32 0, .float .f32 0, .float .f32 0, .float .f32 0, .float .f32 0]) ?_ 0 _ rfl; (with_reducible repeat (first | apply b1_ | apply b2_ | apply b3_)); exact BK116.out⟩
     have n4_ : Aside0 (Below w.heap.size w (((((((w46.setCell ⟨gb116, 0, none⟩ (.int .i64 ((rd_T127 l0 x13_1).f0))).setCell ⟨gb116, 1, none⟩ (.float .f32 ((rd_T127 l0 x13_1).f1.f0))).setCell ⟨gb116, 2, none⟩ (.float .f32 ((rd_T127 l0 x13_1).f1.f1))).setCell ⟨gb116, 3, none⟩ (.float .f32 ((rd_T127 l0 x13_1).f1.f2))).setCell ⟨gb116, 4, none⟩ (.float .f32 ((rd_T127 l0 x13_1).f2.f0))).setCell ⟨gb116, 5, none⟩ (.float .f32 ((rd_T127 l0 x13_1).f2.f1))).setCell ⟨gb116, 6, none⟩ (.float .f32 ((rd_T127 l0 x13_1).f2.f2)))) := ⟨by repeat (first | (with_reducible first | exact HB.out | apply below_alloc | apply pw_below_drewN | apply below_drew1 | refine below_set ?_ GE113.out | refine below_set ?_ GE114.out | refine below_set ?_ GE116.out) | exact HB.out)⟩
     (try clear HO_2)
     (try clear BK113)
     (try clear BK114)
     (try clear BK116)
     (try clear HB)
     generalize (((((((w46.setCell ⟨gb116, 0, none⟩ (.int .i64 ((rd_T127 l0 x13_1).f0))).setCell ⟨gb116, 1, none⟩ (.float .f32 ((rd_T127 l0 x13_1).f1.f0))).setCell ⟨gb116, 2, none⟩ (.float .f32 ((rd_T127 l0 x13_1).f1.f1))).setCell ⟨gb116, 3, none⟩ (.float .f32 ((rd_T127 l0 x13_1).f1.f2))).setCell ⟨gb116, 4, none⟩ (.float .f32 ((rd_T127 l0 x13_1).f2.f0))).setCell ⟨gb116, 5, none⟩ (.float .f32 ((rd_T127 l0 x13_1).f2.f1))).setCell ⟨gb116, 6, none⟩ (.float .f32 ((rd_T127 l0 x13_1).f2.f2))) = w50 at n0_ n1_ n2_ n3_ n4_ ⊢
     have HO_2 := n0_
     have BK113 := n1_
     have BK114 := n2_
     have BK116 := n3_
     have HB := n4_
     clear n0_ n1_ n2_ n3_ n4_
     have n0_ := Aside0.mk (Kd.S_drew HO_2.out)
     have n1_ := Aside0.mk (blk_drew BK113.out)
     have n2_ := Aside0.mk (blk_drew BK114.out)
     have n3_ := Aside0.mk (blk_drew BK116.out)
     have n4_ := Aside0.mk (below_drew1 HB.out)
     clear HO_2
     clear BK113
     clear BK114
     clear BK116
     clear HB
     have HO_2 := n0_
     have BK113 := n1_
     have BK114 := n2_
     have BK116 := n3_
     have HB := n4_
     clear n0_ n1_ n2_ n3_ n4_
     refine start_ (n := 18) (S := fun w' => w'.cell? ⟨gb116, 0, none⟩ = some (.int .i64 ((rd_T127 l0 x13_1).f0)) ∧ w'.cell? ⟨gb116, 1, none⟩ = some (.float .f32 ((rd_T127 l0 x13_1).f1.f0)) ∧ w'.cell? ⟨gb116, 2, none⟩ = some (.float .f32 ((rd_T127 l0 x13_1).f1.f1)) ∧ w'.cell? ⟨gb116, 3, none⟩ = some (.float .f32 ((rd_T127 l0 x13_1).f1.f2)) ∧ w'.cell? ⟨gb116, 4, none⟩ = some (.float .f32 ((rd_T127 l0 x13_1).f2.f0)) ∧ w'.cell? ⟨gb116, 5, none⟩ = some (.float .f32 ((rd_T127 l0 x13_1).f2.f1)) ∧ w'.cell? ⟨gb116, 6, none⟩ = some (.float .f32 ((rd_T127 l0 x13_1).f2.f2))) (ds := []) #[ff,ff,ff,ff,ff,ff,ff,ff,ff,ff,ff,ff,ff,ff,ff,ff,ff,ff] (by kernel_rfl) rfl rfl ⟨(blk_cell BK116.out 0).trans rfl, (blk_cell BK116.out 1).trans rfl, (blk_cell BK116.out 2).trans rfl, (blk_cell BK116.out 3).trans rfl, (blk_cell BK116.out 4).trans rfl, (blk_cell BK116.out 5).trans rfl, (blk_cell BK116.out 6).trans rfl⟩ (fun hHeld => ?_); refine with_tabW spec_PiecesOf.tab5 spec_PiecesOf.bits5 (fun HT_ HW_ => ?_)
     generalize w50.drew = w51 at HO_2 BK113 BK114 BK116 HB hHeld ⊢
     refine pure_ (i := 0) (N := some 17) (v := ?_) (a' := ?_) #[tt,ff,ff,ff,ff,ff,ff,ff,ff,ff,ff,ff,ff,ff,ff,ff,ff,ff] rfl rfl (any_of HT_.out (by kernel_rfl)) (fun _ _ _ h => h) (Or.inl ⟨by rfl, ?_⟩) ?_ ?_
     rotate_left
     ·intro w'
      go_simp
      with_reducible rfl
     rotate_left
     ·simp only [Act.put, L1_, L2_, L3_, i64_w, i32_w]
      rfl
     refine pure_ (i := 1) (N := some 18) (v := ?_) (a' := ?_) #[tt,tt,ff,ff,ff,ff,ff,ff,ff,ff,ff,ff,ff,ff,ff,ff,ff,ff] rfl rfl (any_of HT_.out (by kernel_rfl)) (fun _ _ _ h => h) (Or.inl ⟨by rfl, ?_⟩) ?_ ?_
     rotate_left
     ·intro w'
      go_simp
      with_reducible rfl
     rotate_left
     ·simp only [Act.put, L1_, L2_, L3_, i64_w, i32_w]
      rfl
     refine pure_ (i := 3) (N := some 20) (v := ?_) (a' := ?_) #[tt,tt,ff,tt,ff,ff,ff,ff,ff,ff,ff,ff,ff,ff,ff,ff,ff,ff] rfl rfl (any_of HT_.out (by kernel_rfl)) (fun _ _ _ h => h) (Or.inl ⟨by rfl, ?_⟩) ?_ ?_
     rotate_left
     ·intro w'
      go_simp
      with_reducible rfl
     rotate_left
     ·simp only [Act.put, L1_, L2_, L3_, i64_w, i32_w]
      rfl
     refine pure_ (i := 4) (N := some 21) (v := ?_) (a' := ?_) #[tt,tt,ff,tt,tt,ff,ff,ff,ff,ff,ff,ff,ff,ff,ff,ff,ff,ff] rfl rfl (any_of HT_.out (by kernel_rfl)) (fun _ _ _ h => h) (Or.inl ⟨by rfl, ?_⟩) ?_ ?_
     rotate_left
     ·intro w'
      go_simp
      with_reducible rfl
     rotate_left
     ·simp only [Act.put, L1_, L2_, L3_, i64_w, i32_w]
      rfl
     refine pure_ (i := 7) (N := some 24) (v := ?_) (a' := ?_) #[tt,tt,ff,tt,tt,ff,ff,tt,ff,ff,ff,ff,ff,ff,ff,ff,ff,ff] rfl rfl (any_of HT_.out (by kernel_rfl)) (fun _ _ _ h => h) (Or.inl ⟨by rfl, ?_⟩) ?_ ?_
     rotate_left
     ·intro w'
      go_simp
      with_reducible rfl
     rotate_left
     ·simp only [Act.put, L1_, L2_, L3_, i64_w, i32_w]
      rfl
     refine pure_ (i := 8) (N := some 25) (v := ?_) (a' := ?_) #[tt,tt,ff,tt,tt,ff,ff,tt,tt,ff,ff,ff,ff,ff,ff,ff,ff,ff] rfl rfl (any_of HT_.out (by kernel_rfl)) (fun _ _ _ h => h) (Or.inl ⟨by rfl, ?_⟩) ?_ ?_
     rotate_left
     ·intro w'
      go_simp
      with_reducible rfl
     rotate_left
     ·simp only [Act.put, L1_, L2_, L3_, i64_w, i32_w]
      rfl
     refine pure_ (i := 10) (N := some 27) (v := ?_) (a' := ?_) #[tt,tt,ff,tt,tt,ff,ff,tt,tt,ff,tt,ff,ff,ff,ff,ff,ff,ff] rfl rfl (any_of HT_.out (by kernel_rfl)) (fun _ _ _ h => h) (Or.inl ⟨by rfl, ?_⟩) ?_ ?_
     rotate_left
     ·intro w'
      go_simp
      with_reducible rfl
     rotate_left
     ·simp only [Act.put, L1_, L2_, L3_, i64_w, i32_w]
      rfl
     refine pure_ (i := 11) (N := some 28) (v := ?_) (a' := ?_) #[tt,tt,ff,tt,tt,ff,ff,tt,tt,ff,tt,tt,ff,ff,ff,ff,ff,ff] rfl rfl (any_of HT_.out (by kernel_rfl)) (fun _ _ _ h => h) (Or.inl ⟨by rfl, ?_⟩) ?_ ?_
     rotate_left
     ·intro w'
      go_simp
      with_reducible rfl
     rotate_left
     ·simp only [Act.put, L1_, L2_, L3_, i64_w, i32_w]
      rfl
     refine take_ (i := 2) (N := some 19) (v := ?_) (a' := ?_) #[tt,tt,tt,tt,tt,ff,ff,tt,tt,ff,tt,tt,ff,ff,ff,ff,ff,ff] rfl rfl (take_ofW HT_.out HW_.out (by kernel_rfl)) (fun _ _ _ h => h) (Or.inl ⟨by rfl, ?_⟩) hHeld ?_ ?_
     rotate_left
     ·rintro w' ⟨s0, s1, s2, s3, s4, s5, s6⟩
      go_simp
      with_reducible rfl
     rotate_left
     ·simp only [Act.put, L1_, L2_, L3_, i64_w, i32_w]
      rfl
     refine take_ (i := 5) (N := some 22) (v := ?_) (a' := ?_) #[tt,tt,tt,tt,tt,tt,ff,tt,tt,ff,tt,tt,ff,ff,ff,ff,ff,ff] rfl rfl (take_ofW HT_.out HW_.out (by kernel_rfl)) (fun _ _ _ h => h) (Or.inl ⟨by rfl, ?_⟩) hHeld ?_ ?_
     rotate_left
     ·rintro w' ⟨s0, s1, s2, s3, s4, s5, s6⟩
      go_simp
      with_reducible rfl
     rotate_left
     ·simp only [Act.put, L1_, L2_, L3_, i64_w, i32_w]
      rfl
     refine pure_ (i := 6) (N := some 23) (v := ?_) (a' := ?_) #[tt,tt,tt,tt,tt,tt,tt,tt,tt,ff,tt,tt,ff,ff,ff,ff,ff,ff] rfl rfl (any_of HT_.out (by kernel_rfl)) (fun _ _ _ h => h) (Or.inl ⟨by rfl, ?_⟩) ?_ ?_
     rotate_left
     ·intro w'
      go_simp
      with_reducible rfl
     rotate_left
     ·simp only [Act.put, L1_, L2_, L3_, i64_w, i32_w]
      rfl
     refine take_ (i := 9) (N := some 26) (v := ?_) (a' := ?_) #[tt,tt,tt,tt,tt,tt,tt,tt,tt,tt,tt,tt,ff,ff,ff,ff,ff,ff] rfl rfl (take_ofW HT_.out HW_.out (by kernel_rfl)) (fun _ _ _ h => h) (Or.inl ⟨by rfl, ?_⟩) hHeld ?_ ?_
     rotate_left
     ·rintro w' ⟨s0, s1, s2, s3, s4, s5, s6⟩
      go_simp
      with_reducible rfl
     rotate_left
     ·simp only [Act.put, L1_, L2_, L3_, i64_w, i32_w]
      rfl
     refine take_ (i := 12) (N := some 29) (v := ?_) (a' := ?_) #[tt,tt,tt,tt,tt,tt,tt,tt,tt,tt,tt,tt,tt,ff,ff,ff,ff,ff] rfl rfl (take_ofW HT_.out HW_.out (by kernel_rfl)) (fun _ _ _ h => h) (Or.inl ⟨by rfl, ?_⟩) hHeld ?_ ?_
     rotate_left
     ·rintro w' ⟨s0, s1, s2, s3, s4, s5, s6⟩
      go_simp
      with_reducible rfl
     rotate_left
     ·simp only [Act.put, L1_, L2_, L3_, i64_w, i32_w]
      rfl
     refine pure_ (i := 13) (N := some 30) (v := ?_) (a' := ?_) #[tt,tt,tt,tt,tt,tt,tt,tt,tt,tt,tt,tt,tt,tt,ff,ff,ff,ff] rfl rfl (any_of HT_.out (by kernel_rfl)) (fun _ _ _ h => h) (Or.inl ⟨by rfl, ?_⟩) ?_ ?_
     rotate_left
     ·intro w'
      go_simp
      with_reducible rfl
     rotate_left
     ·simp only [Act.put, L1_, L2_, L3_, i64_w, i32_w]
      rfl
     refine join_ (σ := Nat × Nat) 2 #[tt,tt,tt,tt,tt,tt,tt,tt,tt,tt,tt,tt,tt,tt,tt,tt,ff,ff] (fun s_ => [(8, .pointer (some ⟨s_.1, 0, none⟩)), (9, .pointer (some ⟨s_.2, 0, none⟩))]) (fun s_ w' => (w'.cell? ⟨gb116, 0, none⟩ = some (.int .i64 ((rd_T127 l0 x13_1).f0)) ∧ w'.cell? ⟨gb116, 1, none⟩ = some (.float .f32 ((rd_T127 l0 x13_1).f1.f0)) ∧ w'.cell? ⟨gb116, 2, none⟩ = some (.float .f32 ((rd_T127 l0 x13_1).f1.f1)) ∧ w'.cell? ⟨gb116, 3, none⟩ = some (.float .f32 ((rd_T127 l0 x13_1).f1.f2)) ∧ w'.cell? ⟨gb116, 4, none⟩ = some (.float .f32 ((rd_T127 l0 x13_1).f2.f0)) ∧ w'.cell? ⟨gb116, 5, none⟩ = some (.float .f32 ((rd_T127 l0 x13_1).f2.f1)) ∧ w'.cell? ⟨gb116, 6, none⟩ = some (.float .f32 ((rd_T127 l0 x13_1).f2.f2))) ∧ (Kd.S (Kd.slice 129 k129) 62 w' w.heap.size (fun _ => True) u2 x2_1) ∧ (w'.heap[gb113]? = some (.cells #[.float .f32 x114000_1, .float .f32 x114001_1] 124 (0, 0))) ∧ (w'.heap[gb114]? = some (.cells #[.float .f32 x115000_1, .float .f32 x115001_1] 124 (0, 0))) ∧ (w'.heap[gb116]? = some (.cells #[.int .i64 ((rd_T127 l0 x13_1).f0), .float .f32 ((rd_T127 l0 x13_1).f1.f0), .float .f32 ((rd_T127 l0 x13_1).f1.f1), .float .f32 ((rd_T127 l0 x13_1).f1.f2), .float .f32 ((rd_T127 l0 x13_1).f2.f0), .float .f32 ((rd_T127 l0 x13_1).f2.f1), .float .f32 ((rd_T127 l0 x13_1).f2.f2)] 127 (0, 0))) ∧ (w'.heap[s_.1]? = some (.cells #[.float .f32 0, .float .f32 0] 124 (0, 0))) ∧ (w'.heap[s_.2]? = some (.cells #[.float .f32 0, .float .f32 0] 124 (0, 0))) ∧ (w.heap.size ≤ s_.1) ∧ (w.heap.size ≤ s_.1) ∧ (gb113 ≠ s_.1) ∧ (s_.1 ≠ gb113) ∧ (gb114 ≠ s_.1) ∧ (s_.1 ≠ gb114) ∧ (gb116 ≠ s_.1) ∧ (s_.1 ≠ gb116) ∧ (s_.2 ≠ s_.1) ∧ (s_.1 ≠ s_.2) ∧ (w.heap.size ≤ s_.2) ∧ (w.heap.size ≤ s_.2) ∧ (gb113 ≠ s_.2) ∧ (s_.2 ≠ gb113) ∧ (gb114 ≠ s_.2) ∧ (s_.2 ≠ gb114) ∧ (gb116 ≠ s_.2) ∧ (s_.2 ≠ gb116) ∧ (Below w.heap.size w w')) ?_ ?_
     rotate_left
     ·intro hCont
      refine two_ (i := 14) (j := 15) (Ni := some 8) (Nj := some 9) #[tt,tt,tt,tt,tt,tt,tt,tt,tt,tt,tt,tt,tt,tt,tt,ff,ff,ff] #[tt,tt,tt,tt,tt,tt,tt,tt,tt,tt,tt,tt,tt,tt,ff,tt,ff,ff] rfl rfl rfl rfl (two_of HT_.out (by kernel_rfl)) (by decide) (by decide) (fun K hK => ?_) (fun K hK => ?_)
      ·skip
       refine box_step ?hg (N := 8) ?hd (cs := #[.float .f32 0, .float .f32 0]) (t := 124) ?hr ?_; (case hd => rfl); (case hg => rfl); (case hr => first | (go_simp; done) | (go_simp; rfl))
       intro gb117 hg w52 hbox hb
       have n0_ := Aside0.mk (Kd.S_below (by (with_reducible repeat (first | apply Kd.S_alloc | apply Kd.S_drewN | apply Kd.S_drew)); exact HO_2.out) hb)
       have n1_ := Aside0.mk (blk_below (g := gb113) (o := .cells #[.float .f32 x114000_1, .float .f32 x114001_1] 124 (0, 0)) (by (with_reducible repeat (first | apply b1_ | apply b2_ | apply b3_)); exact BK113.out) hb)
       have n2_ := Aside0.mk (blk_below (g := gb114) (o := .cells #[.float .f32 x115000_1, .float .f32 x115001_1] 124 (0, 0)) (by (with_reducible repeat (first | apply b1_ | apply b2_ | apply b3_)); exact BK114.out) hb)
       have n3_ := Aside0.mk (blk_below (g := gb116) (o := .cells #[.int .i64 ((rd_T127 l0 x13_1).f0), .float .f32 ((rd_T127 l0 x13_1).f1.f0), .float .f32 ((rd_T127 l0 x13_1).f1.f1), .float .f32 ((rd_T127 l0 x13_1).f1.f2), .float .f32 ((rd_T127 l0 x13_1).f2.f0), .float .f32 ((rd_T127 l0 x13_1).f2.f1), .float .f32 ((rd_T127 l0 x13_1).f2.f2)] 127 (0, 0)) (by (with_reducible repeat (first | apply b1_ | apply b2_ | apply b3_)); exact BK116.out) hb)
       have n4_ := Aside0.mk (below_step (by repeat (first | (with_reducible first | exact HB.out | apply below_alloc | apply pw_below_drewN | apply below_drew1 | refine below_set ?_ GE113.out | refine below_set ?_ GE114.out | refine below_set ?_ GE116.out) | exact HB.out)) hb)
       have n5_ := Aside0.mk (hbox)
       have n6_ := Aside0.mk ((by rw [hg]; exact (below_size (by repeat (first | (with_reducible first | exact HB.out | apply below_alloc | apply pw_below_drewN | apply below_drew1 | refine below_set ?_ GE113.out | refine below_set ?_ GE114.out | refine below_set ?_ GE116.out) | exact HB.out))) : w.heap.size ≤ gb117))
       have n7_ := Aside0.mk ((by rw [hg]; exact (below_size (by repeat (first | (with_reducible first | exact HB.out | apply below_alloc | apply pw_below_drewN | apply below_drew1 | refine below_set ?_ GE113.out | refine below_set ?_ GE114.out | refine below_set ?_ GE116.out) | exact HB.out))) : w.heap.size ≤ gb117))
       have n8_ := Aside0.mk ((by rw [hg]; exact Nat.ne_of_lt (blk_lt (g := gb113) (o := .cells #[.float .f32 x114000_1, .float .f32 x114001_1] 124 (0, 0)) (by (with_reducible repeat (first | apply b1_ | apply b2_ | apply b3_)); exact BK113.out)) : gb113 ≠ gb117))
       have n9_ := Aside0.mk ((by rw [hg]; exact Nat.ne_of_gt (blk_lt (g := gb113) (o := .cells #[.float .f32 x114000_1, .float .f32 x114001_1] 124 (0, 0)) (by (with_reducible repeat (first | apply b1_ | apply b2_ | apply b3_)); exact BK113.out)) : gb117 ≠ gb113))
       have n10_ := Aside0.mk ((by rw [hg]; exact Nat.ne_of_lt (blk_lt (g := gb114) (o := .cells #[.float .f32 x115000_1, .float .f32 x115001_1] 124 (0, 0)) (by (with_reducible repeat (first | apply b1_ | apply b2_ | apply b3_)); exact BK114.out)) : gb114 ≠ gb117))
       have n11_ := Aside0.mk ((by rw [hg]; exact Nat.ne_of_gt (blk_lt (g := gb114) (o := .cells #[.float .f32 x115000_1, .float .f32 x115001_1] 124 (0, 0)) (by (with_reducible repeat (first | apply b1_ | apply b2_ | apply b3_)); exact BK114.out)) : gb117 ≠ gb114))
       have n12_ := Aside0.mk ((by rw [hg]; exact Nat.ne_of_lt (blk_lt (g := gb116) (o := .cells #[.int .i64 ((rd_T127 l0 x13_1).f0), .float .f32 ((rd_T127 l0 x13_1).f1.f0), .float .f32 ((rd_T127 l0 x13_1).f1.f1), .float .f32 ((rd_T127 l0 x13_1).f1.f2), .float .f32 ((rd_T127 l0 x13_1).f2.f0), .float .f32 ((rd_T127 l0 x13_1).f2.f1), .float .f32 ((rd_T127 l0 x13_1).f2.f2)] 127 (0, 0)) (by (with_reducible repeat (first | apply b1_ | apply b2_ | apply b3_)); exact BK116.out)) : gb116 ≠ gb117))
       have n13_ := Aside0.mk ((by rw [hg]; exact Nat.ne_of_gt (blk_lt (g := gb116) (o := .cells #[.int .i64 ((rd_T127 l0 x13_1).f0), .float .f32 ((rd_T127 l0 x13_1).f1.f0), .float .f32 ((rd_T127 l0 x13_1).f1.f1), .float .f32 ((rd_T127 l0 x13_1).f1.f2), .float .f32 ((rd_T127 l0 x13_1).f2.f0), .float .f32 ((rd_T127 l0 x13_1).f2.f1), .float .f32 ((rd_T127 l0 x13_1).f2.f2)] 127 (0, 0)) (by (with_reducible repeat (first | apply b1_ | apply b2_ | apply b3_)); exact BK116.out)) : gb117 ≠ gb116))
       clear HO_2
       clear BK113
       clear BK114
       clear BK116
       clear HB
       have HO_2 := n0_
       have BK113 := n1_
       have BK114 := n2_
       have BK116 := n3_
       have HB := n4_
       have BK117 := n5_
       have GW117 := n6_
       have GE117 := n7_
       have NB113_117 := n8_
       have NB117_113 := n9_
       have NB114_117 := n10_
       have NB117_114 := n11_
       have NB116_117 := n12_
       have NB117_116 := n13_
       clear n0_ n1_ n2_ n3_ n4_ n5_ n6_ n7_ n8_ n9_ n10_ n11_ n12_ n13_
       clear hb hbox hg
       refine hK.out _ _ ⟨(blk_cell BK116.out 0).trans rfl, (blk_cell BK116.out 1).trans rfl, (blk_cell BK116.out 2).trans rfl, (blk_cell BK116.out 3).trans rfl, (blk_cell BK116.out 4).trans rfl, (blk_cell BK116.out 5).trans rfl, (blk_cell BK116.out 6).trans rfl⟩ (fun hHeld => ?_)
       clear hK K
       refine norm_ (a' := ?_) ?_ ?_
       rotate_left
       ·show Act.put _ (some 8) _ = _
        simp only [Act.put, L1_, L2_, L3_, i64_w, i32_w]
        rfl
       refine one_ (i := 15) (N := some 9) #[tt,tt,tt,tt,tt,tt,tt,tt,tt,tt,tt,tt,tt,tt,tt,tt,ff,ff] rfl rfl (one_of HT_.out (by kernel_rfl)) (by decide) (fun K hK => ?_)
       refine box_step ?hg (N := 9) ?hd (cs := #[.float .f32 0, .float .f32 0]) (t := 124) ?hr ?_; (case hd => rfl); (case hg => rfl); (case hr => first | (go_simp; done) | (go_simp; rfl))
       intro gb118 hg w53 hbox hb
       have n0_ := Aside0.mk (Kd.S_below (by (with_reducible repeat (first | apply Kd.S_alloc | apply Kd.S_drewN | apply Kd.S_drew)); exact HO_2.out) hb)
       have n1_ := Aside0.mk (blk_below (g := gb113) (o := .cells #[.float .f32 x114000_1, .float .f32 x114001_1] 124 (0, 0)) (by (with_reducible repeat (first | apply b1_ | apply b2_ | apply b3_)); exact BK113.out) hb)
       have n2_ := Aside0.mk (blk_below (g := gb114) (o := .cells #[.float .f32 x115000_1, .float .f32 x115001_1] 124 (0, 0)) (by (with_reducible repeat (first | apply b1_ | apply b2_ | apply b3_)); exact BK114.out) hb)
       have n3_ := Aside0.mk (blk_below (g := gb116) (o := .cells #[.int .i64 ((rd_T127 l0 x13_1).f0), .float .f32 ((rd_T127 l0 x13_1).f1.f0), .float .f32 ((rd_T127 l0 x13_1).f1.f1), .float .f32 ((rd_T127 l0 x13_1).f1.f2), .float .f32 ((rd_T127 l0 x13_1).f2.f0), .float .f32 ((rd_T127 l0 x13_1).f2.f1), .float .f32 ((rd_T127 l0 x13_1).f2.f2)] 127 (0, 0)) (by (with_reducible repeat (first | apply b1_ | apply b2_ | apply b3_)); exact BK116.out) hb)
       have n4_ := Aside0.mk (blk_below (g := gb117) (o := .cells #[.float .f32 0, .float .f32 0] 124 (0, 0)) (by (with_reducible repeat (first | apply b1_ | apply b2_ | apply b3_)); exact BK117.out) hb)
       have n5_ := Aside0.mk (below_step (by repeat (first | (with_reducible first | exact HB.out | apply below_alloc | apply pw_below_drewN | apply below_drew1 | refine below_set ?_ GE113.out | refine below_set ?_ GE114.out | refine below_set ?_ GE116.out | refine below_set ?_ GE117.out) | exact HB.out)) hb)
       have n6_ := Aside0.mk (hbox)
       have n7_ := Aside0.mk ((by rw [hg]; exact (below_size (by repeat (first | (with_reducible first | exact HB.out | apply below_alloc | apply pw_below_drewN | apply below_drew1 | refine below_set ?_ GE113.out | refine below_set ?_ GE114.out | refine below_set ?_ GE116.out | refine below_set ?_ GE117.out) | exact HB.out))) : w.heap.size ≤ gb118))
       have n8_ := Aside0.mk ((by rw [hg]; exact (below_size (by repeat (first | (with_reducible first | exact HB.out | apply below_alloc | apply pw_below_drewN | apply below_drew1 | refine below_set ?_ GE113.out | refine below_set ?_ GE114.out | refine below_set ?_ GE116.out | refine below_set ?_ GE117.out) | exact HB.out))) : w.heap.size ≤ gb118))
       have n9_ := Aside0.mk ((by rw [hg]; exact Nat.ne_of_lt (blk_lt (g := gb113) (o := .cells #[.float .f32 x114000_1, .float .f32 x114001_1] 124 (0, 0)) (by (with_reducible repeat (first | apply b1_ | apply b2_ | apply b3_)); exact BK113.out)) : gb113 ≠ gb118))
       have n10_ := Aside0.mk ((by rw [hg]; exact Nat.ne_of_gt (blk_lt (g := gb113) (o := .cells #[.float .f32 x114000_1, .float .f32 x114001_1] 124 (0, 0)) (by (with_reducible repeat (first | apply b1_ | apply b2_ | apply b3_)); exact BK113.out)) : gb118 ≠ gb113))
       have n11_ := Aside0.mk ((by rw [hg]; exact Nat.ne_of_lt (blk_lt (g := gb114) (o := .cells #[.float .f32 x115000_1, .float .f32 x115001_1] 124 (0, 0)) (by (with_reducible repeat (first | apply b1_ | apply b2_ | apply b3_)); exact BK114.out)) : gb114 ≠ gb118))
       have n12_ := Aside0.mk ((by rw [hg]; exact Nat.ne_of_gt (blk_lt (g := gb114) (o := .cells #[.float .f32 x115000_1, .float .f32 x115001_1] 124 (0, 0)) (by (with_reducible repeat (first | apply b1_ | apply b2_ | apply b3_)); exact BK114.out)) : gb118 ≠ gb114))
       have n13_ := Aside0.mk ((by rw [hg]; exact Nat.ne_of_lt (blk_lt (g := gb116) (o := .cells #[.int .i64 ((rd_T127 l0 x13_1).f0), .float .f32 ((rd_T127 l0 x13_1).f1.f0), .float .f32 ((rd_T127 l0 x13_1).f1.f1), .float .f32 ((rd_T127 l0 x13_1).f1.f2), .float .f32 ((rd_T127 l0 x13_1).f2.f0), .float .f32 ((rd_T127 l0 x13_1).f2.f1), .float .f32 ((rd_T127 l0 x13_1).f2.f2)] 127 (0, 0)) (by (with_reducible repeat (first | apply b1_ | apply b2_ | apply b3_)); exact BK116.out)) : gb116 ≠ gb118))
       have n14_ := Aside0.mk ((by rw [hg]; exact Nat.ne_of_gt (blk_lt (g := gb116) (o := .cells #[.int .i64 ((rd_T127 l0 x13_1).f0), .float .f32 ((rd_T127 l0 x13_1).f1.f0), .float .f32 ((rd_T127 l0 x13_1).f1.f1), .float .f32 ((rd_T127 l0 x13_1).f1.f2), .float .f32 ((rd_T127 l0 x13_1).f2.f0), .float .f32 ((rd_T127 l0 x13_1).f2.f1), .float .f32 ((rd_T127 l0 x13_1).f2.f2)] 127 (0, 0)) (by (with_reducible repeat (first | apply b1_ | apply b2_ | apply b3_)); exact BK116.out)) : gb118 ≠ gb116))
       have n15_ := Aside0.mk ((by rw [hg]; exact Nat.ne_of_lt (blk_lt (g := gb117) (o := .cells #[.float .f32 0, .float .f32 0] 124 (0, 0)) (by (with_reducible repeat (first | apply b1_ | apply b2_ | apply b3_)); exact BK117.out)) : gb117 ≠ gb118))
       have n16_ := Aside0.mk ((by rw [hg]; exact Nat.ne_of_gt (blk_lt (g := gb117) (o := .cells #[.float .f32 0, .float .f32 0] 124 (0, 0)) (by (with_reducible repeat (first | apply b1_ | apply b2_ | apply b3_)); exact BK117.out)) : gb118 ≠ gb117))
       clear HO_2
       clear BK113
       clear BK114
       clear BK116
       clear BK117
       clear HB
       have HO_2 := n0_
       have BK113 := n1_
       have BK114 := n2_
       have BK116 := n3_
       have BK117 := n4_
       have HB := n5_
       have BK118 := n6_
       have GW118 := n7_
       have GE118 := n8_
       have NB113_118 := n9_
       have NB118_113 := n10_
       have NB114_118 := n11_
       have NB118_114 := n12_
       have NB116_118 := n13_
       have NB118_116 := n14_
       have NB117_118 := n15_
       have NB118_117 := n16_
       clear n0_ n1_ n2_ n3_ n4_ n5_ n6_ n7_ n8_ n9_ n10_ n11_ n12_ n13_ n14_ n15_ n16_
       clear hb hbox hg
       refine hK.out _ _ ⟨(blk_cell BK116.out 0).trans rfl, (blk_cell BK116.out 1).trans rfl, (blk_cell BK116.out 2).trans rfl, (blk_cell BK116.out 3).trans rfl, (blk_cell BK116.out 4).trans rfl, (blk_cell BK116.out 5).trans rfl, (blk_cell BK116.out 6).trans rfl⟩ (fun hHeld => ?_)
       clear hK K
       refine norm_ (a' := ?_) ?_ ?_
       rotate_left
       ·show Act.put _ (some 9) _ = _
        simp only [Act.put, L1_, L2_, L3_, i64_w, i32_w]
        rfl
       exact norm_ (by simp only [putAll, Act.put, L1_, L2_, L3_]) (hCont (gb117, gb118) _ ⟨hHeld, (by (with_reducible repeat (first | apply Kd.S_alloc | apply Kd.S_drewN | apply Kd.S_drew)); exact HO_2.out), (by (with_reducible repeat (first | apply b1_ | apply b2_ | apply b3_)); exact BK113.out), (by (with_reducible repeat (first | apply b1_ | apply b2_ | apply b3_)); exact BK114.out), (by (with_reducible repeat (first | apply b1_ | apply b2_ | apply b3_)); exact BK116.out), (by (with_reducible repeat (first | apply b1_ | apply b2_ | apply b3_)); exact BK117.out), (by (with_reducible repeat (first | apply b1_ | apply b2_ | apply b3_)); exact BK118.out), GW117.out, GE117.out, NB113_117.out, NB117_113.out, NB114_117.out, NB117_114.out, NB116_117.out, NB117_116.out, NB118_117.out, NB117_118.out, GW118.out, GE118.out, NB113_118.out, NB118_113.out, NB114_118.out, NB118_114.out, NB116_118.out, NB118_116.out, (by repeat (first | (with_reducible first | exact HB.out | apply below_alloc | apply pw_below_drewN | apply below_drew1 | refine below_set ?_ GE113.out | refine below_set ?_ GE114.out | refine below_set ?_ GE116.out | refine below_set ?_ GE117.out | refine below_set ?_ GE118.out) | exact HB.out))⟩)
      ·skip
       refine box_step ?hg (N := 9) ?hd (cs := #[.float .f32 0, .float .f32 0]) (t := 124) ?hr ?_; (case hd => rfl); (case hg => rfl); (case hr => first | (go_simp; done) | (go_simp; rfl))
       intro gb118 hg w52 hbox hb
       have n0_ := Aside0.mk (Kd.S_below (by (with_reducible repeat (first | apply Kd.S_alloc | apply Kd.S_drewN | apply Kd.S_drew)); exact HO_2.out) hb)
       have n1_ := Aside0.mk (blk_below (g := gb113) (o := .cells #[.float .f32 x114000_1, .float .f32 x114001_1] 124 (0, 0)) (by (with_reducible repeat (first | apply b1_ | apply b2_ | apply b3_)); exact BK113.out) hb)
       have n2_ := Aside0.mk (blk_below (g := gb114) (o := .cells #[.float .f32 x115000_1, .float .f32 x115001_1] 124 (0, 0)) (by (with_reducible repeat (first | apply b1_ | apply b2_ | apply b3_)); exact BK114.out) hb)
       have n3_ := Aside0.mk (blk_below (g := gb116) (o := .cells #[.int .i64 ((rd_T127 l0 x13_1).f0), .float .f32 ((rd_T127 l0 x13_1).f1.f0), .float .f32 ((rd_T127 l0 x13_1).f1.f1), .float .f32 ((rd_T127 l0 x13_1).f1.f2), .float .f32 ((rd_T127 l0 x13_1).f2.f0), .float .f32 ((rd_T127 l0 x13_1).f2.f1), .float .f32 ((rd_T127 l0 x13_1).f2.f2)] 127 (0, 0)) (by (with_reducible repeat (first | apply b1_ | apply b2_ | apply b3_)); exact BK116.out) hb)
       have n4_ := Aside0.mk (below_step (by repeat (first | (with_reducible first | exact HB.out | apply below_alloc | apply pw_below_drewN | apply below_drew1 | refine below_set ?_ GE113.out | refine below_set ?_ GE114.out | refine below_set ?_ GE116.out) | exact HB.out)) hb)
       have n5_ := Aside0.mk (hbox)
       have n6_ := Aside0.mk ((by rw [hg]; exact (below_size (by repeat (first | (with_reducible first | exact HB.out | apply below_alloc | apply pw_below_drewN | apply below_drew1 | refine below_set ?_ GE113.out | refine below_set ?_ GE114.out | refine below_set ?_ GE116.out) | exact HB.out))) : w.heap.size ≤ gb118))
       have n7_ := Aside0.mk ((by rw [hg]; exact (below_size (by repeat (first | (with_reducible first | exact HB.out | apply below_alloc | apply pw_below_drewN | apply below_drew1 | refine below_set ?_ GE113.out | refine below_set ?_ GE114.out | refine below_set ?_ GE116.out) | exact HB.out))) : w.heap.size ≤ gb118))
       have n8_ := Aside0.mk ((by rw [hg]; exact Nat.ne_of_lt (blk_lt (g := gb113) (o := .cells #[.float .f32 x114000_1, .float .f32 x114001_1] 124 (0, 0)) (by (with_reducible repeat (first | apply b1_ | apply b2_ | apply b3_)); exact BK113.out)) : gb113 ≠ gb118))
       have n9_ := Aside0.mk ((by rw [hg]; exact Nat.ne_of_gt (blk_lt (g := gb113) (o := .cells #[.float .f32 x114000_1, .float .f32 x114001_1] 124 (0, 0)) (by (with_reducible repeat (first | apply b1_ | apply b2_ | apply b3_)); exact BK113.out)) : gb118 ≠ gb113))
       have n10_ := Aside0.mk ((by rw [hg]; exact Nat.ne_of_lt (blk_lt (g := gb114) (o := .cells #[.float .f32 x115000_1, .float .f32 x115001_1] 124 (0, 0)) (by (with_reducible repeat (first | apply b1_ | apply b2_ | apply b3_)); exact BK114.out)) : gb114 ≠ gb118))
       have n11_ := Aside0.mk ((by rw [hg]; exact Nat.ne_of_gt (blk_lt (g := gb114) (o := .cells #[.float .f32 x115000_1, .float .f32 x115001_1] 124 (0, 0)) (by (with_reducible repeat (first | apply b1_ | apply b2_ | apply b3_)); exact BK114.out)) : gb118 ≠ gb114))
       have n12_ := Aside0.mk ((by rw [hg]; exact Nat.ne_of_lt (blk_lt (g := gb116) (o := .cells #[.int .i64 ((rd_T127 l0 x13_1).f0), .float .f32 ((rd_T127 l0 x13_1).f1.f0), .float .f32 ((rd_T127 l0 x13_1).f1.f1), .float .f32 ((rd_T127 l0 x13_1).f1.f2), .float .f32 ((rd_T127 l0 x13_1).f2.f0), .float .f32 ((rd_T127 l0 x13_1).f2.f1), .float .f32 ((rd_T127 l0 x13_1).f2.f2)] 127 (0, 0)) (by (with_reducible repeat (first | apply b1_ | apply b2_ | apply b3_)); exact BK116.out)) : gb116 ≠ gb118))
       have n13_ := Aside0.mk ((by rw [hg]; exact Nat.ne_of_gt (blk_lt (g := gb116) (o := .cells #[.int .i64 ((rd_T127 l0 x13_1).f0), .float .f32 ((rd_T127 l0 x13_1).f1.f0), .float .f32 ((rd_T127 l0 x13_1).f1.f1), .float .f32 ((rd_T127 l0 x13_1).f1.f2), .float .f32 ((rd_T127 l0 x13_1).f2.f0), .float .f32 ((rd_T127 l0 x13_1).f2.f1), .float .f32 ((rd_T127 l0 x13_1).f2.f2)] 127 (0, 0)) (by (with_reducible repeat (first | apply b1_ | apply b2_ | apply b3_)); exact BK116.out)) : gb118 ≠ gb116))
       clear HO_2
       clear BK113
       clear BK114
       clear BK116
       clear HB
       have HO_2 := n0_
       have BK113 := n1_
       have BK114 := n2_
       have BK116 := n3_
       have HB := n4_
       have BK118 := n5_
       have GW118 := n6_
       have GE118 := n7_
       have NB113_118 := n8_
       have NB118_113 := n9_
       have NB114_118 := n10_
       have NB118_114 := n11_
       have NB116_118 := n12_
       have NB118_116 := n13_
       clear n0_ n1_ n2_ n3_ n4_ n5_ n6_ n7_ n8_ n9_ n10_ n11_ n12_ n13_
       clear hb hbox hg
       refine hK.out _ _ ⟨(blk_cell BK116.out 0).trans rfl, (blk_cell BK116.out 1).trans rfl, (blk_cell BK116.out 2).trans rfl, (blk_cell BK116.out 3).trans rfl, (blk_cell BK116.out 4).trans rfl, (blk_cell BK116.out 5).trans rfl, (blk_cell BK116.out 6).trans rfl⟩ (fun hHeld => ?_)
       clear hK K
       refine norm_ (a' := ?_) ?_ ?_
       rotate_left
       ·show Act.put _ (some 9) _ = _
        simp only [Act.put, L1_, L2_, L3_, i64_w, i32_w]
        rfl
       refine one_ (i := 14) (N := some 8) #[tt,tt,tt,tt,tt,tt,tt,tt,tt,tt,tt,tt,tt,tt,tt,tt,ff,ff] rfl rfl (one_of HT_.out (by kernel_rfl)) (by decide) (fun K hK => ?_)
       refine box_step ?hg (N := 8) ?hd (cs := #[.float .f32 0, .float .f32 0]) (t := 124) ?hr ?_; (case hd => rfl); (case hg => rfl); (case hr => first | (go_simp; done) | (go_simp; rfl))
       intro gb117 hg w53 hbox hb
       have n0_ := Aside0.mk (Kd.S_below (by (with_reducible repeat (first | apply Kd.S_alloc | apply Kd.S_drewN | apply Kd.S_drew)); exact HO_2.out) hb)
       have n1_ := Aside0.mk (blk_below (g := gb113) (o := .cells #[.float .f32 x114000_1, .float .f32 x114001_1] 124 (0, 0)) (by (with_reducible repeat (first | apply b1_ | apply b2_ | apply b3_)); exact BK113.out) hb)
       have n2_ := Aside0.mk (blk_below (g := gb114) (o := .cells #[.float .f32 x115000_1, .float .f32 x115001_1] 124 (0, 0)) (by (with_reducible repeat (first | apply b1_ | apply b2_ | apply b3_)); exact BK114.out) hb)
       have n3_ := Aside0.mk (blk_below (g := gb116) (o := .cells #[.int .i64 ((rd_T127 l0 x13_1).f0), .float .f32 ((rd_T127 l0 x13_1).f1.f0), .float .f32 ((rd_T127 l0 x13_1).f1.f1), .float .f32 ((rd_T127 l0 x13_1).f1.f2), .float .f32 ((rd_T127 l0 x13_1).f2.f0), .float .f32 ((rd_T127 l0 x13_1).f2.f1), .float .f32 ((rd_T127 l0 x13_1).f2.f2)] 127 (0, 0)) (by (with_reducible repeat (first | apply b1_ | apply b2_ | apply b3_)); exact BK116.out) hb)
       have n4_ := Aside0.mk (blk_below (g := gb118) (o := .cells #[.float .f32 0, .float .f32 0] 124 (0, 0)) (by (with_reducible repeat (first | apply b1_ | apply b2_ | apply b3_)); exact BK118.out) hb)
       have n5_ := Aside0.mk (below_step (by repeat (first | (with_reducible first | exact HB.out | apply below_alloc | apply pw_below_drewN | apply below_drew1 | refine below_set ?_ GE113.out | refine below_set ?_ GE114.out | refine below_set ?_ GE116.out | refine below_set ?_ GE118.out) | exact HB.out)) hb)
       have n6_ := Aside0.mk (hbox)
       have n7_ := Aside0.mk ((by rw [hg]; exact (below_size (by repeat (first | (with_reducible first | exact HB.out | apply below_alloc | apply pw_below_drewN | apply below_drew1 | refine below_set ?_ GE113.out | refine below_set ?_ GE114.out | refine below_set ?_ GE116.out | refine below_set ?_ GE118.out) | exact HB.out))) : w.heap.size ≤ gb117))
       have n8_ := Aside0.mk ((by rw [hg]; exact (below_size (by repeat (first | (with_reducible first | exact HB.out | apply below_alloc | apply pw_below_drewN | apply below_drew1 | refine below_set ?_ GE113.out | refine below_set ?_ GE114.out | refine below_set ?_ GE116.out | refine below_set ?_ GE118.out) | exact HB.out))) : w.heap.size ≤ gb117))
       have n9_ := Aside0.mk ((by rw [hg]; exact Nat.ne_of_lt (blk_lt (g := gb113) (o := .cells #[.float .f32 x114000_1, .float .f32 x114001_1] 124 (0, 0)) (by (with_reducible repeat (first | apply b1_ | apply b2_ | apply b3_)); exact BK113.out)) : gb113 ≠ gb117))
       have n10_ := Aside0.mk ((by rw [hg]; exact Nat.ne_of_gt (blk_lt (g := gb113) (o := .cells #[.float .f32 x114000_1, .float .f32 x114001_1] 124 (0, 0)) (by (with_reducible repeat (first | apply b1_ | apply b2_ | apply b3_)); exact BK113.out)) : gb117 ≠ gb113))
       have n11_ := Aside0.mk ((by rw [hg]; exact Nat.ne_of_lt (blk_lt (g := gb114) (o := .cells #[.float .f32 x115000_1, .float .f32 x115001_1] 124 (0, 0)) (by (with_reducible repeat (first | apply b1_ | apply b2_ | apply b3_)); exact BK114.out)) : gb114 ≠ gb117))
       have n12_ := Aside0.mk ((by rw [hg]; exact Nat.ne_of_gt (blk_lt (g := gb114) (o := .cells #[.float .f32 x115000_1, .float .f32 x115001_1] 124 (0, 0)) (by (with_reducible repeat (first | apply b1_ | apply b2_ | apply b3_)); exact BK114.out)) : gb117 ≠ gb114))
       have n13_ := Aside0.mk ((by rw [hg]; exact Nat.ne_of_lt (blk_lt (g := gb116) (o := .cells #[.int .i64 ((rd_T127 l0 x13_1).f0), .float .f32 ((rd_T127 l0 x13_1).f1.f0), .float .f32 ((rd_T127 l0 x13_1).f1.f1), .float .f32 ((rd_T127 l0 x13_1).f1.f2), .float .f32 ((rd_T127 l0 x13_1).f2.f0), .float .f32 ((rd_T127 l0 x13_1).f2.f1), .float .f32 ((rd_T127 l0 x13_1).f2.f2)] 127 (0, 0)) (by (with_reducible repeat (first | apply b1_ | apply b2_ | apply b3_)); exact BK116.out)) : gb116 ≠ gb117))
       have n14_ := Aside0.mk ((by rw [hg]; exact Nat.ne_of_gt (blk_lt (g := gb116) (o := .cells #[.int .i64 ((rd_T127 l0 x13_1).f0), .float .f32 ((rd_T127 l0 x13_1).f1.f0), .float .f32 ((rd_T127 l0 x13_1).f1.f1), .float .f32 ((rd_T127 l0 x13_1).f1.f2), .float .f32 ((rd_T127 l0 x13_1).f2.f0), .float .f32 ((rd_T127 l0 x13_1).f2.f1), .float .f32 ((rd_T127 l0 x13_1).f2.f2)] 127 (0, 0)) (by (with_reducible repeat (first | apply b1_ | apply b2_ | apply b3_)); exact BK116.out)) : gb117 ≠ gb116))
       have n15_ := Aside0.mk ((by rw [hg]; exact Nat.ne_of_lt (blk_lt (g := gb118) (o := .cells #[.float .f32 0, .float .f32 0] 124 (0, 0)) (by (with_reducible repeat (first | apply b1_ | apply b2_ | apply b3_)); exact BK118.out)) : gb118 ≠ gb117))
       have n16_ := Aside0.mk ((by rw [hg]; exact Nat.ne_of_gt (blk_lt (g := gb118) (o := .cells #[.float .f32 0, .float .f32 0] 124 (0, 0)) (by (with_reducible repeat (first | apply b1_ | apply b2_ | apply b3_)); exact BK118.out)) : gb117 ≠ gb118))
       clear HO_2
       clear BK113
       clear BK114
       clear BK116
       clear BK118
       clear HB
       have HO_2 := n0_
       have BK113 := n1_
       have BK114 := n2_
       have BK116 := n3_
       have BK118 := n4_
       have HB := n5_
       have BK117 := n6_
       have GW117 := n7_
       have GE117 := n8_
       have NB113_117 := n9_
       have NB117_113 := n10_
       have NB114_117 := n11_
       have NB117_114 := n12_
       have NB116_117 := n13_
       have NB117_116 := n14_
       have NB118_117 := n15_
       have NB117_118 := n16_
       clear n0_ n1_ n2_ n3_ n4_ n5_ n6_ n7_ n8_ n9_ n10_ n11_ n12_ n13_ n14_ n15_ n16_
       clear hb hbox hg
       refine hK.out _ _ ⟨(blk_cell BK116.out 0).trans rfl, (blk_cell BK116.out 1).trans rfl, (blk_cell BK116.out 2).trans rfl, (blk_cell BK116.out 3).trans rfl, (blk_cell BK116.out 4).trans rfl, (blk_cell BK116.out 5).trans rfl, (blk_cell BK116.out 6).trans rfl⟩ (fun hHeld => ?_)
       clear hK K
       refine norm_ (a' := ?_) ?_ ?_
       rotate_left
       ·show Act.put _ (some 8) _ = _
        simp only [Act.put, L1_, L2_, L3_, i64_w, i32_w]
        rfl
       exact norm_ (by simp only [putAll, Act.put, L1_, L2_, L3_]) (hCont (gb117, gb118) _ ⟨hHeld, (by (with_reducible repeat (first | apply Kd.S_alloc | apply Kd.S_drewN | apply Kd.S_drew)); exact HO_2.out), (by (with_reducible repeat (first | apply b1_ | apply b2_ | apply b3_)); exact BK113.out), (by (with_reducible repeat (first | apply b1_ | apply b2_ | apply b3_)); exact BK114.out), (by (with_reducible repeat (first | apply b1_ | apply b2_ | apply b3_)); exact BK116.out), (by (with_reducible repeat (first | apply b1_ | apply b2_ | apply b3_)); exact BK117.out), (by (with_reducible repeat (first | apply b1_ | apply b2_ | apply b3_)); exact BK118.out), GW117.out, GE117.out, NB113_117.out, NB117_113.out, NB114_117.out, NB117_114.out, NB116_117.out, NB117_116.out, NB118_117.out, NB117_118.out, GW118.out, GE118.out, NB113_118.out, NB118_113.out, NB114_118.out, NB118_114.out, NB116_118.out, NB118_116.out, (by repeat (first | (with_reducible first | exact HB.out | apply below_alloc | apply pw_below_drewN | apply below_drew1 | refine below_set ?_ GE113.out | refine below_set ?_ GE114.out | refine below_set ?_ GE116.out | refine below_set ?_ GE118.out | refine below_set ?_ GE117.out) | exact HB.out))⟩)
     rintro ⟨gb117, gb118⟩ w54 ⟨hS_, h0_, h1_, h2_, h3_, h4_, h5_, h6_, h7_, h8_, h9_, h10_, h11_, h12_, h13_, h14_, h15_, h16_, h17_, h18_, h19_, h20_, h21_, h22_, h23_, h24_⟩
     have n0_ : Aside0 (Kd.S (Kd.slice 129 k129) 62 w54 w.heap.size (fun _ => True) u2 x2_1) := ⟨h0_⟩
     have n1_ : Aside0 (w54.heap[gb113]? = some (.cells #[.float .f32 x114000_1, .float .f32 x114001_1] 124 (0, 0))) := ⟨h1_⟩
     have n2_ : Aside0 (w54.heap[gb114]? = some (.cells #[.float .f32 x115000_1, .float .f32 x115001_1] 124 (0, 0))) := ⟨h2_⟩
     have n3_ : Aside0 (w54.heap[gb116]? = some (.cells #[.int .i64 ((rd_T127 l0 x13_1).f0), .float .f32 ((rd_T127 l0 x13_1).f1.f0), .float .f32 ((rd_T127 l0 x13_1).f1.f1), .float .f32 ((rd_T127 l0 x13_1).f1.f2), .float .f32 ((rd_T127 l0 x13_1).f2.f0), .float .f32 ((rd_T127 l0 x13_1).f2.f1), .float .f32 ((rd_T127 l0 x13_1).f2.f2)] 127 (0, 0))) := ⟨h3_⟩
     have n4_ : Aside0 (w54.heap[gb117]? = some (.cells #[.float .f32 0, .float .f32 0] 124 (0, 0))) := ⟨h4_⟩
     have n5_ : Aside0 (w54.heap[gb118]? = some (.cells #[.float .f32 0, .float .f32 0] 124 (0, 0))) := ⟨h5_⟩
     have n6_ : Aside0 (w.heap.size ≤ gb117) := ⟨h6_⟩
     have n7_ : Aside0 (w.heap.size ≤ gb117) := ⟨h7_⟩
     have n8_ : Aside0 (gb113 ≠ gb117) := ⟨h8_⟩
     have n9_ : Aside0 (gb117 ≠ gb113) := ⟨h9_⟩
     have n10_ : Aside0 (gb114 ≠ gb117) := ⟨h10_⟩
     have n11_ : Aside0 (gb117 ≠ gb114) := ⟨h11_⟩
     have n12_ : Aside0 (gb116 ≠ gb117) := ⟨h12_⟩
     have n13_ : Aside0 (gb117 ≠ gb116) := ⟨h13_⟩
     have n14_ : Aside0 (gb118 ≠ gb117) := ⟨h14_⟩
     have n15_ : Aside0 (gb117 ≠ gb118) := ⟨h15_⟩
     have n16_ : Aside0 (w.heap.size ≤ gb118) := ⟨h16_⟩
     have n17_ : Aside0 (w.heap.size ≤ gb118) := ⟨h17_⟩
     have n18_ : Aside0 (gb113 ≠ gb118) := ⟨h18_⟩
     have n19_ : Aside0 (gb118 ≠ gb113) := ⟨h19_⟩
     have n20_ : Aside0 (gb114 ≠ gb118) := ⟨h20_⟩
     have n21_ : Aside0 (gb118 ≠ gb114) := ⟨h21_⟩
     have n22_ : Aside0 (gb116 ≠ gb118) := ⟨h22_⟩
     have n23_ : Aside0 (gb118 ≠ gb116) := ⟨h23_⟩
     have n24_ : Aside0 (Below w.heap.size w w54) := ⟨h24_⟩
     clear HO_2
     clear BK113
     clear BK114
     clear BK116
     clear HB
     clear h0_ h1_ h2_ h3_ h4_ h5_ h6_ h7_ h8_ h9_ h10_ h11_ h12_ h13_ h14_ h15_ h16_ h17_ h18_ h19_ h20_ h21_ h22_ h23_ h24_
     have HO_2 := n0_
     have BK113 := n1_
     have BK114 := n2_
     have BK116 := n3_
     have BK117 := n4_
     have BK118 := n5_
     have GW117 := n6_
     have GE117 := n7_
     have NB113_117 := n8_
     have NB117_113 := n9_
     have NB114_117 := n10_
     have NB117_114 := n11_
     have NB116_117 := n12_
     have NB117_116 := n13_
     have NB118_117 := n14_
     have NB117_118 := n15_
     have GW118 := n16_
     have GE118 := n17_
     have NB113_118 := n18_
     have NB118_113 := n19_
     have NB114_118 := n20_
     have NB118_114 := n21_
     have NB116_118 := n22_
     have NB118_116 := n23_
     have HB := n24_
     clear n0_ n1_ n2_ n3_ n4_ n5_ n6_ n7_ n8_ n9_ n10_ n11_ n12_ n13_ n14_ n15_ n16_ n17_ n18_ n19_ n20_ n21_ n22_ n23_ n24_
     have hHeld : w54.cell? ⟨gb116, 0, none⟩ = some (.int .i64 ((rd_T127 l0 x13_1).f0)) ∧ w54.cell? ⟨gb116, 1, none⟩ = some (.float .f32 ((rd_T127 l0 x13_1).f1.f0)) ∧ w54.cell? ⟨gb116, 2, none⟩ = some (.float .f32 ((rd_T127 l0 x13_1).f1.f1)) ∧ w54.cell? ⟨gb116, 3, none⟩ = some (.float .f32 ((rd_T127 l0 x13_1).f1.f2)) ∧ w54.cell? ⟨gb116, 4, none⟩ = some (.float .f32 ((rd_T127 l0 x13_1).f2.f0)) ∧ w54.cell? ⟨gb116, 5, none⟩ = some (.float .f32 ((rd_T127 l0 x13_1).f2.f1)) ∧ w54.cell? ⟨gb116, 6, none⟩ = some (.float .f32 ((rd_T127 l0 x13_1).f2.f2)) := hS_
     refine norm_ (a' := ?_) ?_ ?_
     rotate_left
     ·simp only [putAll, Act.put, L1_, L2_, L3_]
      rfl
     refine one_ (i := 16) (N := none) #[tt,tt,tt,tt,tt,tt,tt,tt,tt,tt,tt,tt,tt,tt,tt,tt,tt,ff] rfl rfl (one_of HT_.out (by kernel_rfl)) (by decide) (fun K hK => ?_)
     have hs55 : w54.cell? ⟨gb117, 0, none⟩ = some (.float .f32 0) := (blk_cell BK117.out 0).trans rfl
     have hfs55 := blk_frozen BK117.out 0
     have hns55_0 := NB113_117.out
     have hns55_1 := NB114_117.out
     have hns55_2 := NB116_117.out
     have hns55_4 := NB118_117.out
     have hms55_0 := NB117_113.out
     have hms55_1 := NB117_114.out
     have hms55_2 := NB117_116.out
     have hms55_4 := NB117_118.out
     have hs56 : w54.cell? ⟨gb117, 1, none⟩ = some (.float .f32 0) := (blk_cell BK117.out 1).trans rfl
     have hfs56 := blk_frozen BK117.out 1
     have hns56_0 := NB113_117.out
     have hns56_1 := NB114_117.out
     have hns56_2 := NB116_117.out
     have hns56_4 := NB118_117.out
     have hms56_0 := NB117_113.out
     have hms56_1 := NB117_114.out
     have hms56_2 := NB117_116.out
     have hms56_4 := NB117_118.out
     refine skip_ (w1 := ?_) (by rfl) rfl ?_ ?_
     rotate_left
     ·go_simp
      rfl
     refine hK.out _ _ ⟨((cell_far (p := ⟨gb117, _, none⟩) NB116_117.out _).trans (((cell_far (p := ⟨gb117, _, none⟩) NB116_117.out _).trans (hHeld.1)))), ((cell_far (p := ⟨gb117, _, none⟩) NB116_117.out _).trans (((cell_far (p := ⟨gb117, _, none⟩) NB116_117.out _).trans (hHeld.2.1)))), ((cell_far (p := ⟨gb117, _, none⟩) NB116_117.out _).trans (((cell_far (p := ⟨gb117, _, none⟩) NB116_117.out _).trans (hHeld.2.2.1)))), ((cell_far (p := ⟨gb117, _, none⟩) NB116_117.out _).trans (((cell_far (p := ⟨gb117, _, none⟩) NB116_117.out _).trans (hHeld.2.2.2.1)))), ((cell_far (p := ⟨gb117, _, none⟩) NB116_117.out _).trans (((cell_far (p := ⟨gb117, _, none⟩) NB116_117.out _).trans (hHeld.2.2.2.2.1)))), ((cell_far (p := ⟨gb117, _, none⟩) NB116_117.out _).trans (((cell_far (p := ⟨gb117, _, none⟩) NB116_117.out _).trans (hHeld.2.2.2.2.2.1)))), ((cell_far (p := ⟨gb117, _, none⟩) NB116_117.out _).trans (((cell_far (p := ⟨gb117, _, none⟩) NB116_117.out _).trans (hHeld.2.2.2.2.2.2))))⟩ (fun hHeld => ?_)
     clear hK K
     refine one_ (i := 17) (N := none) #[tt,tt,tt,tt,tt,tt,tt,tt,tt,tt,tt,tt,tt,tt,tt,tt,tt,tt] rfl rfl (one_of HT_.out (by kernel_rfl)) (by decide) (fun K hK => ?_)
     have hs57 : w54.cell? ⟨gb118, 0, none⟩ = some (.float .f32 0) := (blk_cell BK118.out 0).trans rfl
     have hfs57 := blk_frozen BK118.out 0
     have hns57_0 := NB113_118.out
     have hns57_1 := NB114_118.out
     have hns57_2 := NB116_118.out
     have hns57_3 := NB117_118.out
     have hms57_0 := NB118_113.out
     have hms57_1 := NB118_114.out
     have hms57_2 := NB118_116.out
     have hms57_3 := NB118_117.out
     have hs58 : w54.cell? ⟨gb118, 1, none⟩ = some (.float .f32 0) := (blk_cell BK118.out 1).trans rfl
     have hfs58 := blk_frozen BK118.out 1
     have hns58_0 := NB113_118.out
     have hns58_1 := NB114_118.out
     have hns58_2 := NB116_118.out
     have hns58_3 := NB117_118.out
     have hms58_0 := NB118_113.out
     have hms58_1 := NB118_114.out
     have hms58_2 := NB118_116.out
     have hms58_3 := NB118_117.out
     refine skip_ (w1 := ?_) (by rfl) rfl ?_ ?_
     rotate_left
     ·go_simp
      rfl
     refine hK.out _ _ ⟨((cell_far (p := ⟨gb118, _, none⟩) NB116_118.out _).trans (((cell_far (p := ⟨gb118, _, none⟩) NB116_118.out _).trans (hHeld.1)))), ((cell_far (p := ⟨gb118, _, none⟩) NB116_118.out _).trans (((cell_far (p := ⟨gb118, _, none⟩) NB116_118.out _).trans (hHeld.2.1)))), ((cell_far (p := ⟨gb118, _, none⟩) NB116_118.out _).trans (((cell_far (p := ⟨gb118, _, none⟩) NB116_118.out _).trans (hHeld.2.2.1)))), ((cell_far (p := ⟨gb118, _, none⟩) NB116_118.out _).trans (((cell_far (p := ⟨gb118, _, none⟩) NB116_118.out _).trans (hHeld.2.2.2.1)))), ((cell_far (p := ⟨gb118, _, none⟩) NB116_118.out _).trans (((cell_far (p := ⟨gb118, _, none⟩) NB116_118.out _).trans (hHeld.2.2.2.2.1)))), ((cell_far (p := ⟨gb118, _, none⟩) NB116_118.out _).trans (((cell_far (p := ⟨gb118, _, none⟩) NB116_118.out _).trans (hHeld.2.2.2.2.2.1)))), ((cell_far (p := ⟨gb118, _, none⟩) NB116_118.out _).trans (((cell_far (p := ⟨gb118, _, none⟩) NB116_118.out _).trans (hHeld.2.2.2.2.2.2))))⟩ (fun hHeld => ?_)
     clear hK K
     refine done_ (done_of HT_.out (by kernel_rfl)) ?_
     have hnb59 := NB116_117.out
     have hnc59 := NB117_116.out
     have hnb60 := NB116_118.out
     have hnc60 := NB118_116.out
     have hcz61_0 : w54.cell? ⟨gb116, 0, none⟩ = some (.int .i64 ((rd_T127 l0 x13_1).f0)) := (blk_cell BK116.out 0).trans rfl
     have hcz61_1 : w54.cell? ⟨gb116, 1, none⟩ = some (.float .f32 ((rd_T127 l0 x13_1).f1.f0)) := (blk_cell BK116.out 1).trans rfl
     have hcz61_2 : w54.cell? ⟨gb116, 2, none⟩ = some (.float .f32 ((rd_T127 l0 x13_1).f1.f1)) := (blk_cell BK116.out 2).trans rfl
     have hcz61_3 : w54.cell? ⟨gb116, 3, none⟩ = some (.float .f32 ((rd_T127 l0 x13_1).f1.f2)) := (blk_cell BK116.out 3).trans rfl
     have hcz61_4 : w54.cell? ⟨gb116, 4, none⟩ = some (.float .f32 ((rd_T127 l0 x13_1).f2.f0)) := (blk_cell BK116.out 4).trans rfl
     have hcz61_5 : w54.cell? ⟨gb116, 5, none⟩ = some (.float .f32 ((rd_T127 l0 x13_1).f2.f1)) := (blk_cell BK116.out 5).trans rfl
     have hcz61_6 : w54.cell? ⟨gb116, 6, none⟩ = some (.float .f32 ((rd_T127 l0 x13_1).f2.f2)) := (blk_cell BK116.out 6).trans rfl
     have hfz61_0 := blk_frozen BK116.out 0
     have hfz61_1 := blk_frozen BK116.out 1
     have hfz61_2 := blk_frozen BK116.out 2
     have hfz61_3 := blk_frozen BK116.out 3
     have hfz61_4 := blk_frozen BK116.out 4
     have hfz61_5 := blk_frozen BK116.out 5
     have hfz61_6 := blk_frozen BK116.out 6
     go_upto_region 10 with (fail)
     go_cut [48] (fun v48 wc => ∃ (kq : Nat) (x48_44 : Bool), v48 = .bool x48_44 ∧ Aside0 (spec_PiecesOf.j2 kq x2_1 l0 (l0.length : Int) x13_1 x48_44 x114000_1 x114001_1 x115000_1 x115001_1 ((rd_T127 l0 x13_1).f0) ((rd_T127 l0 x13_1).f1.f0) ((rd_T127 l0 x13_1).f1.f1) ((rd_T127 l0 x13_1).f1.f2) ((rd_T127 l0 x13_1).f2.f0) ((rd_T127 l0 x13_1).f2.f1) ((rd_T127 l0 x13_1).f2.f2) ((rd_T127 l0 x13_1).f1.f0) ((rd_T127 l0 x13_1).f2.f0) ((rd_T127 l0 x13_1).f1.f1) ((rd_T127 l0 x13_1).f2.f1) = some (r1, r2)) ∧ Aside0 (kq ≤ k1) ∧ Aside0 (Kd.S (Kd.slice 129 k129) 62 wc w.heap.size (fun _ => True) u2 x2_1) ∧ Aside0 (wc.heap[gb113]? = some (.cells #[.float .f32 x114000_1, .float .f32 x114001_1] 124 (0, 0))) ∧ Aside0 (wc.heap[gb114]? = some (.cells #[.float .f32 x115000_1, .float .f32 x115001_1] 124 (0, 0))) ∧ Aside0 (wc.heap[gb116]? = some (.cells #[.int .i64 ((rd_T127 l0 x13_1).f0), .float .f32 ((rd_T127 l0 x13_1).f1.f0), .float .f32 ((rd_T127 l0 x13_1).f1.f1), .float .f32 ((rd_T127 l0 x13_1).f1.f2), .float .f32 ((rd_T127 l0 x13_1).f2.f0), .float .f32 ((rd_T127 l0 x13_1).f2.f1), .float .f32 ((rd_T127 l0 x13_1).f2.f2)] 127 (0, 0))) ∧ Aside0 (wc.heap[gb117]? = some (.cells #[.float .f32 ((rd_T127 l0 x13_1).f1.f0), .float .f32 ((rd_T127 l0 x13_1).f2.f0)] 124 (0, 0))) ∧ Aside0 (wc.heap[gb118]? = some (.cells #[.float .f32 ((rd_T127 l0 x13_1).f1.f1), .float .f32 ((rd_T127 l0 x13_1).f2.f1)] 124 (0, 0))) ∧ Aside0 (Below w.heap.size w wc))
     case first =>
      have H := HC45.out
      clear HC45
      by_cases c62 : (x2_1.length : Int) = 0
      ·rw [if_pos c62] at H
       have c62b0 : ((x2_1.length : Int) == 0) = true := beq_iff_eq.mpr c62
       have c62b1 : ((x2_1.length : Int) != 0) = false := bne_eq_false_iff_eq.mpr c62
       clear c62
       (first | rw [c62b0] | (simp only [i64_w, i32_w]; rw [c62b0]) | skip)
       have H' := Aside0.mk H
       clear H
       obtain ⟨Ao63, co63, eo63⟩ := Kd.S_slice HO_2.out
       subst eo63
       go_wp2
       go_meet
       case rel => exact ⟨_, (true), (by first | rfl | (simp; done) | (simp [*]; done)), H', ⟨by have := HK1.out; first | omega | exact Nat.le_refl _⟩, ⟨by (with_reducible repeat (first | apply Kd.S_alloc | apply Kd.S_drewN | apply Kd.S_drew)); exact Kd.S_mono (Kd.S_far (p := ⟨gb118, 1, none⟩) (Kd.S_far (p := ⟨gb118, 0, none⟩) (Kd.S_far (p := ⟨gb117, 1, none⟩) (Kd.S_far (p := ⟨gb117, 0, none⟩) (Kd.S_types (Kd.S_types HO_2.out BK117.out (by decide)) BK118.out (by decide)) (fun _ hk => hk.1.2) (.float .f32 ((rd_T127 l0 x13_1).f1.f0))) (fun _ hk => hk.1.2) (.float .f32 ((rd_T127 l0 x13_1).f2.f0))) (fun _ hk => hk.2) (.float .f32 ((rd_T127 l0 x13_1).f1.f1))) (fun _ hk => hk.2) (.float .f32 ((rd_T127 l0 x13_1).f2.f1))) (fun _ hk => trivial)⟩, ⟨by (with_reducible repeat (first | apply b1_ | apply b2_ | apply b3_)); refine blk_far ?_ NB113_118.out _; (with_reducible repeat (first | apply b1_ | apply b2_ | apply b3_)); refine blk_far ?_ NB113_118.out _; (with_reducible repeat (first | apply b1_ | apply b2_ | apply b3_)); refine blk_far ?_ NB113_117.out _; (with_reducible repeat (first | apply b1_ | apply b2_ | apply b3_)); refine blk_far ?_ NB113_117.out _; (with_reducible repeat (first | apply b1_ | apply b2_ | apply b3_)); exact BK113.out⟩, ⟨by (with_reducible repeat (first | apply b1_ | apply b2_ | apply b3_)); refine blk_far ?_ NB114_118.out _; (with_reducible repeat (first | apply b1_ | apply b2_ | apply b3_)); refine blk_far ?_ NB114_118.out _; (with_reducible repeat (first | apply b1_ | apply b2_ | apply b3_)); refine blk_far ?_ NB114_117.out _; (with_reducible repeat (first | apply b1_ | apply b2_ | apply b3_)); refine blk_far ?_ NB114_117.out _; (with_reducible repeat (first | apply b1_ | apply b2_ | apply b3_)); exact BK114.out⟩, ⟨by (with_reducible repeat (first | apply b1_ | apply b2_ | apply b3_)); refine blk_far ?_ NB116_118.out _; (with_reducible repeat (first | apply b1_ | apply b2_ | apply b3_)); refine blk_far ?_ NB116_118.out _; (with_reducible repeat (first | apply b1_ | apply b2_ | apply b3_)); refine blk_far ?_ NB116_117.out _; (with_reducible repeat (first | apply b1_ | apply b2_ | apply b3_)); refine blk_far ?_ NB116_117.out _; (with_reducible repeat (first | apply b1_ | apply b2_ | apply b3_)); exact BK116.out⟩, ⟨by (with_reducible repeat (first | apply b1_ | apply b2_ | apply b3_)); refine blk_far ?_ NB117_118.out _; (with_reducible repeat (first | apply b1_ | apply b2_ | apply b3_)); refine blk_far ?_ NB117_118.out _; (with_reducible repeat (first | apply b1_ | apply b2_ | apply b3_)); refine blk_put (cs := #[.float .f32 ((rd_T127 l0 x13_1).f1.f0), .float .f32 0]) ?_ 1 _ rfl; (with_reducible repeat (first | apply b1_ | apply b2_ | apply b3_)); refine blk_put (cs := #[.float .f32 0, .float .f32 0]) ?_ 0 _ rfl; (with_reducible repeat (first | apply b1_ | apply b2_ | apply b3_)); exact BK117.out⟩, ⟨by (with_reducible repeat (first | apply b1_ | apply b2_ | apply b3_)); refine blk_put (cs := #[.float .f32 ((rd_T127 l0 x13_1).f1.f1), .float .f32 0]) ?_ 1 _ rfl; (with_reducible repeat (first | apply b1_ | apply b2_ | apply b3_)); refine blk_put (cs := #[.float .f32 0, .float .f32 0]) ?_ 0 _ rfl; (with_reducible repeat (first | apply b1_ | apply b2_ | apply b3_)); refine blk_far ?_ NB118_117.out _; (with_reducible repeat (first | apply b1_ | apply b2_ | apply b3_)); refine blk_far ?_ NB118_117.out _; (with_reducible repeat (first | apply b1_ | apply b2_ | apply b3_)); exact BK118.out⟩, ⟨by repeat (first | (with_reducible first | exact HB.out | apply below_alloc | apply pw_below_drewN | apply below_drew1 | refine below_set ?_ GE113.out | refine below_set ?_ GE114.out | refine below_set ?_ GE116.out | refine below_set ?_ GE117.out | refine below_set ?_ GE118.out) | exact HB.out)⟩⟩
      ·rw [if_neg c62] at H
       have c62b0 : ((x2_1.length : Int) == 0) = false := beq_eq_false_iff_ne.mpr c62
       have c62b1 : ((x2_1.length : Int) != 0) = true := bne_iff_ne.mpr c62
       have c62b2 : ¬ (x2_1 = []) := fun h_ => c62 (by rw [h_]; rfl)
       (first | rw [c62b0] | (simp only [i64_w, i32_w]; rw [c62b0]) | skip)
       have H' := Aside0.mk H
       clear H
       obtain ⟨Ao64, co64, eo64⟩ := Kd.S_slice HO_2.out
       subst eo64
       have hnb65 := NB116_113.out
       have hnc65 := NB113_116.out
       have hnb66 := NB116_114.out
       have hnc66 := NB114_116.out
       have hnb67 := NB116_117.out
       have hnc67 := NB117_116.out
       have hnb68 := NB116_118.out
       have hnc68 := NB118_116.out
       have hcz69_0 : w54.cell? ⟨gb116, 0, none⟩ = some (.int .i64 ((rd_T127 l0 x13_1).f0)) := (blk_cell BK116.out 0).trans rfl
       have hcz69_1 : w54.cell? ⟨gb116, 1, none⟩ = some (.float .f32 ((rd_T127 l0 x13_1).f1.f0)) := (blk_cell BK116.out 1).trans rfl
       have hcz69_2 : w54.cell? ⟨gb116, 2, none⟩ = some (.float .f32 ((rd_T127 l0 x13_1).f1.f1)) := (blk_cell BK116.out 2).trans rfl
       have hcz69_3 : w54.cell? ⟨gb116, 3, none⟩ = some (.float .f32 ((rd_T127 l0 x13_1).f1.f2)) := (blk_cell BK116.out 3).trans rfl
       have hcz69_4 : w54.cell? ⟨gb116, 4, none⟩ = some (.float .f32 ((rd_T127 l0 x13_1).f2.f0)) := (blk_cell BK116.out 4).trans rfl
       have hcz69_5 : w54.cell? ⟨gb116, 5, none⟩ = some (.float .f32 ((rd_T127 l0 x13_1).f2.f1)) := (blk_cell BK116.out 5).trans rfl
       have hcz69_6 : w54.cell? ⟨gb116, 6, none⟩ = some (.float .f32 ((rd_T127 l0 x13_1).f2.f2)) := (blk_cell BK116.out 6).trans rfl
       have hfz69_0 := blk_frozen BK116.out 0
       have hfz69_1 := blk_frozen BK116.out 1
       have hfz69_2 := blk_frozen BK116.out 2
       have hfz69_3 := blk_frozen BK116.out 3
       have hfz69_4 := blk_frozen BK116.out 4
       have hfz69_5 := blk_frozen BK116.out 5
       have hfz69_6 := blk_frozen BK116.out 6
       go_wp2
       go_meet
       case rel => exact ⟨_, (decide (((rd_T127 l0 x13_1).f0) > 2)), (by first | rfl | (simp; done) | (simp [*]; done)), H', ⟨by have := HK1.out; first | omega | exact Nat.le_refl _⟩, ⟨by (with_reducible repeat (first | apply Kd.S_alloc | apply Kd.S_drewN | apply Kd.S_drew)); exact Kd.S_mono (Kd.S_far (p := ⟨gb118, 1, none⟩) (Kd.S_far (p := ⟨gb118, 0, none⟩) (Kd.S_far (p := ⟨gb117, 1, none⟩) (Kd.S_far (p := ⟨gb117, 0, none⟩) (Kd.S_types (Kd.S_types HO_2.out BK117.out (by decide)) BK118.out (by decide)) (fun _ hk => hk.1.2) (.float .f32 ((rd_T127 l0 x13_1).f1.f0))) (fun _ hk => hk.1.2) (.float .f32 ((rd_T127 l0 x13_1).f2.f0))) (fun _ hk => hk.2) (.float .f32 ((rd_T127 l0 x13_1).f1.f1))) (fun _ hk => hk.2) (.float .f32 ((rd_T127 l0 x13_1).f2.f1))) (fun _ hk => trivial)⟩, ⟨by (with_reducible repeat (first | apply b1_ | apply b2_ | apply b3_)); refine blk_far ?_ NB113_118.out _; (with_reducible repeat (first | apply b1_ | apply b2_ | apply b3_)); refine blk_far ?_ NB113_118.out _; (with_reducible repeat (first | apply b1_ | apply b2_ | apply b3_)); refine blk_far ?_ NB113_117.out _; (with_reducible repeat (first | apply b1_ | apply b2_ | apply b3_)); refine blk_far ?_ NB113_117.out _; (with_reducible repeat (first | apply b1_ | apply b2_ | apply b3_)); exact BK113.out⟩, ⟨by (with_reducible repeat (first | apply b1_ | apply b2_ | apply b3_)); refine blk_far ?_ NB114_118.out _; (with_reducible repeat (first | apply b1_ | apply b2_ | apply b3_)); refine blk_far ?_ NB114_118.out _; (with_reducible repeat (first | apply b1_ | apply b2_ | apply b3_)); refine blk_far ?_ NB114_117.out _; (with_reducible repeat (first | apply b1_ | apply b2_ | apply b3_)); refine blk_far ?_ NB114_117.out _; (with_reducible repeat (first | apply b1_ | apply b2_ | apply b3_)); exact BK114.out⟩, ⟨by (with_reducible repeat (first | apply b1_ | apply b2_ | apply b3_)); refine blk_far ?_ NB116_118.out _; (with_reducible repeat (first | apply b1_ | apply b2_ | apply b3_)); refine blk_far ?_ NB116_118.out _; (with_reducible repeat (first | apply b1_ | apply b2_ | apply b3_)); refine blk_far ?_ NB116_117.out _; (with_reducible repeat (first | apply b1_ | apply b2_ | apply b3_)); refine blk_far ?_ NB116_117.out _; (with_reducible repeat (first | apply b1_ | apply b2_ | apply b3_)); exact BK116.out⟩, ⟨by (with_reducible repeat (first | apply b1_ | apply b2_ | apply b3_)); refine blk_far ?_ NB117_118.out _; (with_reducible repeat (first | apply b1_ | apply b2_ | apply b3_)); refine blk_far ?_ NB117_118.out _; (with_reducible repeat (first | apply b1_ | apply b2_ | apply b3_)); refine blk_put (cs := #[.float .f32 ((rd_T127 l0 x13_1).f1.f0), .float .f32 0]) ?_ 1 _ rfl; (with_reducible repeat (first | apply b1_ | apply b2_ | apply b3_)); refine blk_put (cs := #[.float .f32 0, .float .f32 0]) ?_ 0 _ rfl; (with_reducible repeat (first | apply b1_ | apply b2_ | apply b3_)); exact BK117.out⟩, ⟨by (with_reducible repeat (first | apply b1_ | apply b2_ | apply b3_)); refine blk_put (cs := #[.float .f32 ((rd_T127 l0 x13_1).f1.f1), .float .f32 0]) ?_ 1 _ rfl; (with_reducible repeat (first | apply b1_ | apply b2_ | apply b3_)); refine blk_put (cs := #[.float .f32 0, .float .f32 0]) ?_ 0 _ rfl; (with_reducible repeat (first | apply b1_ | apply b2_ | apply b3_)); refine blk_far ?_ NB118_117.out _; (with_reducible repeat (first | apply b1_ | apply b2_ | apply b3_)); refine blk_far ?_ NB118_117.out _; (with_reducible repeat (first | apply b1_ | apply b2_ | apply b3_)); exact BK118.out⟩, ⟨by repeat (first | (with_reducible first | exact HB.out | apply below_alloc | apply pw_below_drewN | apply below_drew1 | refine below_set ?_ GE113.out | refine below_set ?_ GE114.out | refine below_set ?_ GE116.out | refine below_set ?_ GE117.out | refine below_set ?_ GE118.out) | exact HB.out)⟩⟩
     case rest =>
      clear HC45
      (try clear p1); (try clear q1); (try clear hx1); (try clear p2); (try clear c3); (try clear c4); (try clear c5); (try clear c6); (try clear p6); (try clear c7); (try clear c7b0); (try clear c7b1); (try clear p11); (try clear q11); (try clear hx11); (try clear c38); (try clear c47); (try clear c48); (try clear c59); (try clear c60); (try clear c62); (try clear c62b0); (try clear c62b1); (try clear c62b2); (try clear p64); (try clear c65); (try clear c66); (try clear c67); (try clear c68); (try clear hcz49_0); (try clear hcz49_1); (try clear hcz49_2); (try clear hcz49_3); (try clear hcz49_4); (try clear hcz49_5); (try clear hcz49_6); (try clear hcz61_0); (try clear hcz61_1); (try clear hcz61_2); (try clear hcz61_3); (try clear hcz61_4); (try clear hcz61_5); (try clear hcz61_6); (try clear hcz69_0); (try clear hcz69_1); (try clear hcz69_2); (try clear hcz69_3); (try clear hcz69_4); (try clear hcz69_5); (try clear hcz69_6); (try clear hfz49_0); (try clear hfz49_1); (try clear hfz49_2); (try clear hfz49_3); (try clear hfz49_4); (try clear hfz49_5); (try clear hfz49_6); (try clear hfz61_0); (try clear hfz61_1); (try clear hfz61_2); (try clear hfz61_3); (try clear hfz61_4); (try clear hfz61_5); (try clear hfz61_6); (try clear hfz69_0); (try clear hfz69_1); (try clear hfz69_2); (try clear hfz69_3); (try clear hfz69_4); (try clear hfz69_5); (try clear hfz69_6); (try clear hx115_0); (try clear hx115_1); (try clear hx115_2); (try clear hx115_3); (try clear hx115_4); (try clear hx115_5); (try clear hx115_6); (try clear p115); (try clear q115)
      obtain ⟨kq, x48_44, rfl, HA, HJ44, HO_2, BK113, BK114, BK116, BK117, BK118, HB⟩ := hcut
      cases kq with
      | zero => exact absurd HA.out (by simp [spec_PiecesOf.j2])
      | succ kj44 =>
       have H := HA.out
       clear HA
       simp only [spec_PiecesOf.j2] at H
       by_cases c70 : x48_44 = true
       ·subst c70
        have H1 : (some (([] : List (List (S129))), false)) = some (r1, r2) := by rw [if_pos rfl] at H; exact H
        clear H
        have H := H1
        clear H1
        simp only [Option.some.injEq, Prod.mk.injEq] at H
        obtain ⟨rfl, rfl⟩ := H
        go_wp2
        go_ret2
        exact ⟨_, by first | rfl | (simp [errW_none, errW_some] <;> rfl) | (simp [*, errW_none, errW_some] <;> rfl), by first | exact Kd.S_nil _ _ _ _ _ | exact Kd.N_nil _ _ _ _ _ | exact Kd.V_nil _ _ _ _ _ | exact Kd.Q_nil _ _ _ _ _ | exact Kd.R_nil _ _ _ _ _, by repeat (first | (with_reducible first | exact HB.out | apply below_alloc | apply pw_below_drewN | apply below_drew1 | refine below_set ?_ GE113.out | refine below_set ?_ GE114.out | refine below_set ?_ GE116.out | refine below_set ?_ GE117.out | refine below_set ?_ GE118.out) | exact HB.out)⟩
       ·replace c70 := Bool.eq_false_iff.mpr c70
        subst c70
        have H1 : (if ((rd_T127 l0 x13_1).f0) = 1 then (if (!(FloatKind.f32.format.order ((rd_T127 l0 x13_1).f1.f0) x114000_1 == some .eq) || (!(FloatKind.f32.format.order ((rd_T127 l0 x13_1).f2.f0) x114001_1 == some .eq))) = true then (if 0 ≤ (wrap64 ((x2_1.length : Int) - 1)) then (if (wrap64 ((x2_1.length : Int) - 1)) < (x2_1.length : Int) then (if (rd_L9 x2_1 (wrap64 ((x2_1.length : Int) - 1))).length < 5026338869833 then (spec_PiecesOf.l0 kj44 (x2_1.set ((wrap64 ((x2_1.length : Int) - 1)) : Int).toNat ((rd_L9 x2_1 (wrap64 ((x2_1.length : Int) - 1))) ++ [(⟨false, (⟨x114000_1, x114001_1⟩ : S124), (⟨0, 0⟩ : S124), (⟨((rd_T127 l0 x13_1).f1.f0), ((rd_T127 l0 x13_1).f2.f0)⟩ : S124)⟩ : S129)])) l0 (l0.length : Int) (wrap64 (x13_1 + 1)) ((rd_T127 l0 x13_1).f1.f0) ((rd_T127 l0 x13_1).f2.f0) x115000_1 x115001_1) else (none)) else (none)) else (none)) else (spec_PiecesOf.l0 kj44 x2_1 l0 (l0.length : Int) (wrap64 (x13_1 + 1)) ((rd_T127 l0 x13_1).f1.f0) ((rd_T127 l0 x13_1).f2.f0) x115000_1 x115001_1)) else (if 0 ≤ (wrap64 ((x2_1.length : Int) - 1)) then (if (wrap64 ((x2_1.length : Int) - 1)) < (x2_1.length : Int) then (if (rd_L9 x2_1 (wrap64 ((x2_1.length : Int) - 1))).length < 5026338869833 then (spec_PiecesOf.l0 kj44 (x2_1.set ((wrap64 ((x2_1.length : Int) - 1)) : Int).toNat ((rd_L9 x2_1 (wrap64 ((x2_1.length : Int) - 1))) ++ [(⟨true, (⟨x114000_1, x114001_1⟩ : S124), (⟨((rd_T127 l0 x13_1).f1.f0), ((rd_T127 l0 x13_1).f2.f0)⟩ : S124), (⟨((rd_T127 l0 x13_1).f1.f1), ((rd_T127 l0 x13_1).f2.f1)⟩ : S124)⟩ : S129)])) l0 (l0.length : Int) (wrap64 (x13_1 + 1)) ((rd_T127 l0 x13_1).f1.f1) ((rd_T127 l0 x13_1).f2.f1) x115000_1 x115001_1) else (none)) else (none)) else (none))) = some (r1, r2) := by rw [if_neg (show ¬ (false = true) by decide)] at H; exact H
        clear H
        have H := H1
        clear H1
        by_cases c71 : ((rd_T127 l0 x13_1).f0) = 1
        ·rw [if_pos c71] at H
         have c71b0 : (((rd_T127 l0 x13_1).f0) == 1) = true := beq_iff_eq.mpr c71
         have c71b1 : (((rd_T127 l0 x13_1).f0) != 1) = false := bne_eq_false_iff_eq.mpr c71
         clear c71
         by_cases c72 : (!(FloatKind.f32.format.order ((rd_T127 l0 x13_1).f1.f0) x114000_1 == some .eq) || (!(FloatKind.f32.format.order ((rd_T127 l0 x13_1).f2.f0) x114001_1 == some .eq))) = true
         ·rw [if_pos c72] at H
          have c72b0 : (!(FloatKind.f32.format.order ((rd_T127 l0 x13_1).f1.f0) x114000_1 == some .eq) || (!(FloatKind.f32.format.order ((rd_T127 l0 x13_1).f2.f0) x114001_1 == some .eq))) = true := c72
          clear c72
          obtain ⟨ji73, hji73⟩ : ∃ j_ : Int, (wrap64 ((x2_1.length : Int) - 1)) = j_ := ⟨_, rfl⟩
          replace H : (if 0 ≤ (ji73) then (if (ji73) < (x2_1.length : Int) then (if (rd_L9 x2_1 (ji73)).length < 5026338869833 then (spec_PiecesOf.l0 kj44 (x2_1.set ((ji73) : Int).toNat ((rd_L9 x2_1 (ji73)) ++ [(⟨false, (⟨x114000_1, x114001_1⟩ : S124), (⟨0, 0⟩ : S124), (⟨((rd_T127 l0 x13_1).f1.f0), ((rd_T127 l0 x13_1).f2.f0)⟩ : S124)⟩ : S129)])) l0 (l0.length : Int) (wrap64 (x13_1 + 1)) ((rd_T127 l0 x13_1).f1.f0) ((rd_T127 l0 x13_1).f2.f0) x115000_1 x115001_1) else (none)) else (none)) else (none)) = some (r1, r2) := by first | (rw [hji73] at H; exact H) | (simp only [hji73] at H ⊢; exact H)
          have hji73w : (IntKind.i64.wrap ((x2_1.length : Int) - 1)) = ji73 := (i64_w _).trans hji73
          by_cases c74 : 0 ≤ (ji73)
          rotate_left
          ·rw [if_neg c74] at H
           exact absurd H (by simp)
          rw [if_pos c74] at H
          have c74b0 : decide (0 ≤ (ji73)) = true := decide_eq_true c74
          clear c74
          by_cases c75 : (ji73) < (x2_1.length : Int)
          rotate_left
          ·rw [if_neg c75] at H
           exact absurd H (by simp)
          rw [if_pos c75] at H
          have c75b0 : decide ((ji73) < (x2_1.length : Int)) = true := decide_eq_true c75
          clear c75
          by_cases c76 : (rd_L9 x2_1 (ji73)).length < 5026338869833
          rotate_left
          ·rw [if_neg c76] at H
           exact absurd H (by simp)
          rw [if_pos c76] at H
          have LMc76 := Aside0.mk c76
          clear c76
          obtain ⟨y123, hy123⟩ : ∃ y_ : List (S129), y_ = ((rd_L9 x2_1 (ji73)) ++ [(⟨false, (⟨x114000_1, x114001_1⟩ : S124), (⟨0, 0⟩ : S124), (⟨((rd_T127 l0 x13_1).f1.f0), ((rd_T127 l0 x13_1).f2.f0)⟩ : S124)⟩ : S129)]) := ⟨_, rfl⟩
          replace H : (spec_PiecesOf.l0 kj44 (x2_1.set ((ji73) : Int).toNat y123) l0 (l0.length : Int) (wrap64 (x13_1 + 1)) ((rd_T127 l0 x13_1).f1.f0) ((rd_T127 l0 x13_1).f2.f0) x115000_1 x115001_1) = some (r1, r2) := by first | (rw [hy123]; with_reducible exact H) | (have H2_ := (Option.bind_some _ _).symm.trans H; rw [hy123]; with_reducible exact H2_) | (have H2_ := (Option.bind_some _ _).symm.trans H; with_reducible exact H2_) | with_reducible exact H | (rw [hy123]; exact H) | exact H
          have Ny123 := Aside0.mk hy123
          clear hy123
          obtain ⟨y126, hy126⟩ : ∃ y_ : List (List (S129)), y_ = (x2_1.set ((ji73) : Int).toNat y123) := ⟨_, rfl⟩
          replace H : (spec_PiecesOf.l0 kj44 y126 l0 (l0.length : Int) (wrap64 (x13_1 + 1)) ((rd_T127 l0 x13_1).f1.f0) ((rd_T127 l0 x13_1).f2.f0) x115000_1 x115001_1) = some (r1, r2) := by first | (rw [hy126]; with_reducible exact H) | (have H2_ := (Option.bind_some _ _).symm.trans H; rw [hy126]; with_reducible exact H2_) | (have H2_ := (Option.bind_some _ _).symm.trans H; with_reducible exact H2_) | with_reducible exact H | (rw [hy126]; exact H) | exact H
          have Ny126 := Aside0.mk hy126
          clear hy126
          have H' := Aside0.mk H
          clear H
          obtain ⟨Ao78, co78, eo78⟩ := Kd.S_slice HO_2.out
          subst eo78
          have hnb79 := NB116_113.out
          have hnc79 := NB113_116.out
          have hnb80 := NB116_114.out
          have hnc80 := NB114_116.out
          have hnb81 := NB116_117.out
          have hnc81 := NB117_116.out
          have hnb82 := NB116_118.out
          have hnc82 := NB118_116.out
          have hcz83_0 : wc.cell? ⟨gb116, 0, none⟩ = some (.int .i64 ((rd_T127 l0 x13_1).f0)) := (blk_cell BK116.out 0).trans rfl
          have hcz83_1 : wc.cell? ⟨gb116, 1, none⟩ = some (.float .f32 ((rd_T127 l0 x13_1).f1.f0)) := (blk_cell BK116.out 1).trans rfl
          have hcz83_2 : wc.cell? ⟨gb116, 2, none⟩ = some (.float .f32 ((rd_T127 l0 x13_1).f1.f1)) := (blk_cell BK116.out 2).trans rfl
          have hcz83_3 : wc.cell? ⟨gb116, 3, none⟩ = some (.float .f32 ((rd_T127 l0 x13_1).f1.f2)) := (blk_cell BK116.out 3).trans rfl
          have hcz83_4 : wc.cell? ⟨gb116, 4, none⟩ = some (.float .f32 ((rd_T127 l0 x13_1).f2.f0)) := (blk_cell BK116.out 4).trans rfl
          have hcz83_5 : wc.cell? ⟨gb116, 5, none⟩ = some (.float .f32 ((rd_T127 l0 x13_1).f2.f1)) := (blk_cell BK116.out 5).trans rfl
          have hcz83_6 : wc.cell? ⟨gb116, 6, none⟩ = some (.float .f32 ((rd_T127 l0 x13_1).f2.f2)) := (blk_cell BK116.out 6).trans rfl
          have hfz83_0 := blk_frozen BK116.out 0
          have hfz83_1 := blk_frozen BK116.out 1
          have hfz83_2 := blk_frozen BK116.out 2
          have hfz83_3 := blk_frozen BK116.out 3
          have hfz83_4 := blk_frozen BK116.out 4
          have hfz83_5 := blk_frozen BK116.out 5
          have hfz83_6 := blk_frozen BK116.out 6
          have hnb84 := NB117_113.out
          have hnc84 := NB113_117.out
          have hnb85 := NB117_114.out
          have hnc85 := NB114_117.out
          have hnb86 := NB117_118.out
          have hnc86 := NB118_117.out
          have hcz87_0 : wc.cell? ⟨gb117, 0, none⟩ = some (.float .f32 ((rd_T127 l0 x13_1).f1.f0)) := (blk_cell BK117.out 0).trans rfl
          have hcz87_1 : wc.cell? ⟨gb117, 1, none⟩ = some (.float .f32 ((rd_T127 l0 x13_1).f2.f0)) := (blk_cell BK117.out 1).trans rfl
          have hfz87_0 := blk_frozen BK117.out 0
          have hfz87_1 := blk_frozen BK117.out 1
          have hnb88 := NB113_114.out
          have hnc88 := NB114_113.out
          have hnb89 := NB113_118.out
          have hnc89 := NB118_113.out
          have hcz90_0 : wc.cell? ⟨gb113, 0, none⟩ = some (.float .f32 x114000_1) := (blk_cell BK113.out 0).trans rfl
          have hcz90_1 : wc.cell? ⟨gb113, 1, none⟩ = some (.float .f32 x114001_1) := (blk_cell BK113.out 1).trans rfl
          have hfz90_0 := blk_frozen BK113.out 0
          have hfz90_1 := blk_frozen BK113.out 1
          try go_wp2
          have n0_ := Aside0.mk (Kd.S_drew HO_2.out)
          have n1_ := Aside0.mk (blk_drew BK113.out)
          have n2_ := Aside0.mk (blk_drew BK114.out)
          have n3_ := Aside0.mk (blk_drew BK116.out)
          have n4_ := Aside0.mk (blk_drew BK117.out)
          have n5_ := Aside0.mk (blk_drew BK118.out)
          have n6_ := Aside0.mk (below_drew1 HB.out)
          clear HO_2
          clear BK113
          clear BK114
          clear BK116
          clear BK117
          clear BK118
          clear HB
          have HO_2 := n0_
          have BK113 := n1_
          have BK114 := n2_
          have BK116 := n3_
          have BK117 := n4_
          have BK118 := n5_
          have HB := n6_
          clear n0_ n1_ n2_ n3_ n4_ n5_ n6_
          have p122 : 0 ≤ ((ji73) : Int) := of_decide_eq_true (by first | (with_reducible assumption) | assumption)
          have q122 : (ji73) < (x2_1.length : Int) := of_decide_eq_true (by first | (with_reducible assumption) | assumption)
          obtain ⟨ad122, A122_0, c122_0, e122, hx122_0, hl122_0, hi122_0⟩ := at_L9 (Kd.S_reads' HO_2.out).2.2 (ji73) p122 q122
          cases e122
          obtain ⟨ce122, hce122, hMe122, hcc122⟩ := Kd.S_get HO_2.out [] (ji73) p122 (by first | exact q122 | exact of_decide_eq_true (by first | (with_reducible assumption) | assumption) | (have e_ := (Kd.S_reads' HO_2.out).1; omega))
          obtain ⟨ve122_0, rfl, ge122_0⟩ := hMe122
          have hv122_0 := hcc122 0 _ rfl
          rw [Nat.add_zero, show ((Kd.slice 129 k129)).sz = 1 from rfl, Nat.mul_one] at hv122_0
          replace hv122_0 := Option.some.inj (hv122_0.symm.trans hx122_0)
          rw [hv122_0] at ge122_0
          have HL122_0 := Aside0.mk (show Kd.R k129 129 _ _ _ _ (rd_L9 x2_1 (ji73)) from ge122_0)
          clear hv122_0 ge122_0
          have HX122_0 := Aside0.mk hx122_0
          clear hcc122 hce122
          have HR122_0 := Aside0.mk hi122_0
          have HC122_0 := Aside0.mk hl122_0
          clear hi122_0 hl122_0
          replace p122 := eq_true p122
          replace q122 := eq_true q122
          obtain ⟨go92, co92, eo92, gb92, gl92, cl92, HG92⟩ := Kd.S_form HO_2.out (by have h_ : ((ji73) : Int) < ((x2_1.length : Int) : Int) := of_decide_eq_true (by first | (with_reducible assumption) | assumption); have h2_ : 0 ≤ ((ji73) : Int) := (of_decide_eq_true (by first | (with_reducible assumption) | assumption)); omega)
          (first | cases eo92 | (injection eo92 with ea_ en_ ec_; (first | subst ea_ | (injection ea_ with ea_; subst ea_)); subst ec_; clear en_))
          have GB92 := Aside0.mk gb92
          have GG92 := Aside0.mk HG92
          clear gb92 gl92 HG92
          (first | simp only [add_plain] at hx122_0 | skip)
          obtain ⟨oki92, ce92, hcl92, hM92, hcc92, _, _, hH92⟩ := Kd.S_elem HO_2.out [] ((ji73) : Int) (of_decide_eq_true (by first | (with_reducible assumption) | assumption)) (by have h_ : ((ji73) : Int) < ((x2_1.length : Int) : Int) := of_decide_eq_true (by first | (with_reducible assumption) | assumption); first | exact h_ | (have e_ := (Kd.S_reads' HO_2.out).1; omega) | simpa using h_)
          obtain ⟨ve92_0, rfl, ge92_0⟩ := hM92
          have hv92 := hcc92 0 _ rfl
          have hX92 := HX122_0.out
          (try simp only [add_plain] at hX92)
          (try simp only [Nat.add_zero] at hv92)
          (try rw [show ((Kd.slice 129 k129)).sz = 1 from rfl, Nat.mul_one] at hv92)
          replace hv92 := Option.some.inj (hv92.symm.trans hX92)
          subst hv92
          clear hX92 hcc92 hcl92
          have UU92 := Aside0.mk (show Kd.R k129 129 _ w.heap.size oki92 (.slice A122_0 (rd_L9 x2_1 (ji73)).length c122_0) (rd_L9 x2_1 (ji73)) from ge92_0)
          have HH92 := Aside0.mk hH92
          have HN92 := Aside0.mk (Kd.S_reads' HO_2.out).1
          clear hH92 ge92_0
          refine start_ (n := 13) (S := fun w' => w'.cell? ⟨gb113, 0, none⟩ = some (.float .f32 x114000_1) ∧ w'.cell? ⟨gb113, 1, none⟩ = some (.float .f32 x114001_1) ∧ w'.cell? ⟨gb117, 0, none⟩ = some (.float .f32 ((rd_T127 l0 x13_1).f1.f0)) ∧ w'.cell? ⟨gb117, 1, none⟩ = some (.float .f32 ((rd_T127 l0 x13_1).f2.f0)) ∧ w'.cell? ⟨go92, ((ji73)).toNat, none⟩ = some (.slice A122_0 (rd_L9 x2_1 (ji73)).length c122_0)) (ds := [12]) #[ff,ff,ff,ff,ff,ff,ff,ff,ff,ff,ff,ff,ff] (by kernel_rfl) rfl rfl ⟨(blk_cell BK113.out 0).trans rfl, (blk_cell BK113.out 1).trans rfl, (blk_cell BK117.out 0).trans rfl, (blk_cell BK117.out 1).trans rfl, hx122_0⟩ (fun hHeld => ?_); refine with_tabW spec_PiecesOf.tab15 spec_PiecesOf.bits15 (fun HT_ HW_ => ?_)
          generalize wc.drew = w91 at HO_2 BK113 BK114 BK116 BK117 BK118 HB GG92 HH92 HL122_0 HR122_0 HX122_0 UU92 hx122_0 hHeld ⊢
          refine pure_ (i := 0) (N := some 66) (v := ?_) (a' := ?_) #[tt,ff,ff,ff,ff,ff,ff,ff,ff,ff,ff,ff,ff] rfl rfl (any_of HT_.out (by kernel_rfl)) (fun _ _ _ h => h) (Or.inl ⟨by rfl, ?_⟩) ?_ ?_
          rotate_left
          ·intro w'
           go_simp
           with_reducible rfl
          rotate_left
          ·simp only [Act.put, L1_, L2_, L3_, i64_w, i32_w]
           rfl
          refine pure_ (i := 1) (N := some 67) (v := ?_) (a' := ?_) #[tt,tt,ff,ff,ff,ff,ff,ff,ff,ff,ff,ff,ff] rfl rfl (any_of HT_.out (by kernel_rfl)) (fun _ _ _ h => h) (Or.inl ⟨by rfl, ?_⟩) ?_ ?_
          rotate_left
          ·intro w'
           go_simp
           with_reducible rfl
          rotate_left
          ·simp only [Act.put, L1_, L2_, L3_, i64_w, i32_w]
           rfl
          refine pure_ (i := 2) (N := some 68) (v := ?_) (a' := ?_) #[tt,tt,tt,ff,ff,ff,ff,ff,ff,ff,ff,ff,ff] rfl rfl (any_of HT_.out (by kernel_rfl)) (fun _ _ _ h => h) (Or.inl ⟨by rfl, ?_⟩) ?_ ?_
          rotate_left
          ·intro w'
           go_simp
           with_reducible rfl
          rotate_left
          ·simp only [Act.put, L1_, L2_, L3_, i64_w, i32_w]
           rfl
          refine pure_ (i := 3) (N := some 69) (v := ?_) (a' := ?_) #[tt,tt,tt,tt,ff,ff,ff,ff,ff,ff,ff,ff,ff] rfl rfl (any_of HT_.out (by kernel_rfl)) (fun _ _ _ h => h) (Or.inl ⟨by rfl, ?_⟩) ?_ ?_
          rotate_left
          ·intro w'
           go_simp
           with_reducible rfl
          rotate_left
          ·simp only [Act.put, L1_, L2_, L3_, i64_w, i32_w]
           rfl
          refine pure_ (i := 4) (N := some 70) (v := ?_) (a' := ?_) #[tt,tt,tt,tt,tt,ff,ff,ff,ff,ff,ff,ff,ff] rfl rfl (any_of HT_.out (by kernel_rfl)) (fun _ _ _ h => h) (Or.inl ⟨by rfl, ?_⟩) ?_ ?_
          rotate_left
          ·intro w'
           go_simp
           with_reducible rfl
          rotate_left
          ·simp only [Act.put, L1_, L2_, L3_, i64_w, i32_w]
           rfl
          refine take_ (i := 5) (N := some 71) (v := ?_) (a' := ?_) #[tt,tt,tt,tt,tt,tt,ff,ff,ff,ff,ff,ff,ff] rfl rfl (take_ofW HT_.out HW_.out (by kernel_rfl)) (fun _ _ _ h => h) (Or.inl ⟨by rfl, ?_⟩) hHeld ?_ ?_
          rotate_left
          ·rintro w' ⟨s0, s1, s2, s3, s4⟩
           go_simp
           with_reducible rfl
          rotate_left
          ·simp only [Act.put, L1_, L2_, L3_, i64_w, i32_w]
           rfl
          refine take_ (i := 6) (N := some 72) (v := ?_) (a' := ?_) #[tt,tt,tt,tt,tt,tt,tt,ff,ff,ff,ff,ff,ff] rfl rfl (take_ofW HT_.out HW_.out (by kernel_rfl)) (fun _ _ _ h => h) (Or.inl ⟨by rfl, ?_⟩) hHeld ?_ ?_
          rotate_left
          ·rintro w' ⟨s0, s1, s2, s3, s4⟩
           go_simp
           with_reducible rfl
          rotate_left
          ·simp only [Act.put, L1_, L2_, L3_, i64_w, i32_w]
           rfl
          refine take_ (i := 7) (N := some 73) (v := ?_) (a' := ?_) #[tt,tt,tt,tt,tt,tt,tt,tt,ff,ff,ff,ff,ff] rfl rfl (take_ofW HT_.out HW_.out (by kernel_rfl)) (fun _ _ _ h => h) (Or.inl ⟨by rfl, ?_⟩) hHeld ?_ ?_
          rotate_left
          ·rintro w' ⟨s0, s1, s2, s3, s4⟩
           go_simp
           with_reducible rfl
          rotate_left
          ·simp only [Act.put, L1_, L2_, L3_, i64_w, i32_w]
           rfl
          refine pure_ (i := 8) (N := some 74) (v := ?_) (a' := ?_) #[tt,tt,tt,tt,tt,tt,tt,tt,tt,ff,ff,ff,ff] rfl rfl (any_of HT_.out (by kernel_rfl)) (fun _ _ _ h => h) (Or.inl ⟨by rfl, ?_⟩) ?_ ?_
          rotate_left
          ·intro w'
           go_simp
           with_reducible rfl
          rotate_left
          ·simp only [Act.put, L1_, L2_, L3_, i64_w, i32_w]
           rfl
          refine one_ (i := 9) (N := some 75) #[tt,tt,tt,tt,tt,tt,tt,tt,tt,tt,ff,ff,ff] rfl rfl (one_of HT_.out (by kernel_rfl)) (by decide) (fun K hK => ?_)
          refine value_ (w1 := ?_) (v := ?_) (by rfl) rfl ?_ ?_
          rotate_left 2
          ·go_simp
           constructor
           ·rfl
           ·rfl
          refine hK.out _ _ ⟨(blk_cell (blk_alloc BK113.out _) 0).trans rfl, (blk_cell (blk_alloc BK113.out _) 1).trans rfl, (blk_cell (blk_alloc BK117.out _) 0).trans rfl, (blk_cell (blk_alloc BK117.out _) 1).trans rfl, (World.cell?_alloc_lt _ _ _ (World.block_lt_of_cell? _ _ (hHeld.2.2.2.2))).trans (hHeld.2.2.2.2)⟩ (fun hHeld => ?_)
          clear hK K
          refine norm_ (a' := ?_) ?_ ?_
          rotate_left
          ·show Act.put _ (some 75) _ = _
           simp only [Act.put, L1_, L2_, L3_, i64_w, i32_w]
           rfl
          refine one_ (i := 10) (N := some 76) #[tt,tt,tt,tt,tt,tt,tt,tt,tt,tt,tt,ff,ff] rfl rfl (one_of HT_.out (by kernel_rfl)) (by decide) (fun K hK => ?_)
          refine Kd.R_append_step k129 (w0 := w) w.heap.size (by rfl) (.tmp 71) (.tmp 75) 62 129 (.agg #[(.bool false), (.float .f32 0), (.float .f32 0), (.float .f32 0), (.float .f32 0), (.float .f32 0), (.float .f32 0)]) 28 rfl Try.underlying62 info129 rfl (by decide) (by omega) (.slice A122_0 (rd_L9 x2_1 (ji73)).length c122_0) (rd_L9 x2_1 (ji73)) (⟨false, (⟨x114000_1, x114001_1⟩ : S124), (⟨0, 0⟩ : S124), (⟨((rd_T127 l0 x13_1).f1.f0), ((rd_T127 l0 x13_1).f2.f0)⟩ : S124)⟩ : S129) [.bool false, .float .f32 x114000_1, .float .f32 x114001_1, .float .f32 0, .float .f32 0, .float .f32 ((rd_T127 l0 x13_1).f1.f0), .float .f32 ((rd_T127 l0 x13_1).f2.f0)] (fun k_ => oki92 k_ ∨ ((fun _ => True)) k_ ∧ w91.heap.size ≤ k_) (fun _ => False) rfl rfl ?aP (fun _ hk => hk.elim) ?aF ?aO ?aB ?aS ?aL ?_
          (case aP => exact k129_mkM _ _ _ (⟨false, (⟨x114000_1, x114001_1⟩ : S124), (⟨0, 0⟩ : S124), (⟨((rd_T127 l0 x13_1).f1.f0), ((rd_T127 l0 x13_1).f2.f0)⟩ : S124)⟩ : S129))
          (case aB => exact (by repeat (first | (with_reducible first | exact HB.out | apply below_alloc | apply pw_below_drewN | apply below_drew1 | refine below_set ?_ GE113.out | refine below_set ?_ GE114.out | refine below_set ?_ GE116.out | refine below_set ?_ GE117.out | refine below_set ?_ GE118.out) | exact HB.out)))
          (case aF => exact (fun k_ hk => .inr ⟨trivial, hk⟩))
          (case aO => exact (by (with_reducible repeat (first | apply Kd.R_alloc | apply Kd.R_drewN | apply Kd.R_drew)); exact Kd.R_mono UU92.out (fun _ hk => .inl hk)))
          (case aS => exact (below_size (by repeat (first | (with_reducible first | exact HB.out | apply below_alloc | apply pw_below_drewN | apply below_drew1 | refine below_set ?_ GE113.out | refine below_set ?_ GE114.out | refine below_set ?_ GE116.out | refine below_set ?_ GE117.out | refine below_set ?_ GE118.out) | exact HB.out))))
          (case aL => have := LMc76.out; omega)
          intro v124 w93 ho hb hg hat
          (first | have HS4_ := cell_grown hg (hHeld.2.2.2.2) (by first | (rw [add_block]; exact (fun e_ => ((HL122_0.out.1 _ e_.symm).2) rfl)) | (show some (Addr.add _ _).block ≠ _; rw [add_block]; exact (fun e_ => ((HL122_0.out.1 _ e_.symm).2) rfl)) | exact (fun e_ => ((HL122_0.out.1 _ e_.symm).2) rfl)) | have HS4_ := cell_grown hg (cell_unalloc (hHeld.2.2.2.2) (by first | (rw [add_block]; exact Kd.S_lt HO_2.out _ rfl) | (show (Addr.add _ _).block < _; rw [add_block]; exact Kd.S_lt HO_2.out _ rfl) | exact Kd.S_lt HO_2.out _ rfl)) (by first | (rw [add_block]; exact (fun e_ => ((HL122_0.out.1 _ e_.symm).2) rfl)) | (show some (Addr.add _ _).block ≠ _; rw [add_block]; exact (fun e_ => ((HL122_0.out.1 _ e_.symm).2) rfl)) | exact (fun e_ => ((HL122_0.out.1 _ e_.symm).2) rfl)))
          rw [← Ny123.out] at ho
          have n0_ := Aside0.mk (blk_grown (g := gb113) (o := .cells #[.float .f32 x114000_1, .float .f32 x114001_1] 124 (0, 0)) (by (with_reducible repeat (first | apply b1_ | apply b2_ | apply b3_)); exact BK113.out) hg (Kd.R_ne HL122_0.out BK113.out (by decide)))
          have n1_ := Aside0.mk (blk_grown (g := gb114) (o := .cells #[.float .f32 x115000_1, .float .f32 x115001_1] 124 (0, 0)) (by (with_reducible repeat (first | apply b1_ | apply b2_ | apply b3_)); exact BK114.out) hg (Kd.R_ne HL122_0.out BK114.out (by decide)))
          have n2_ := Aside0.mk (blk_grown (g := gb116) (o := .cells #[.int .i64 ((rd_T127 l0 x13_1).f0), .float .f32 ((rd_T127 l0 x13_1).f1.f0), .float .f32 ((rd_T127 l0 x13_1).f1.f1), .float .f32 ((rd_T127 l0 x13_1).f1.f2), .float .f32 ((rd_T127 l0 x13_1).f2.f0), .float .f32 ((rd_T127 l0 x13_1).f2.f1), .float .f32 ((rd_T127 l0 x13_1).f2.f2)] 127 (0, 0)) (by (with_reducible repeat (first | apply b1_ | apply b2_ | apply b3_)); exact BK116.out) hg (Kd.R_ne HL122_0.out BK116.out (by decide)))
          have n3_ := Aside0.mk (blk_grown (g := gb117) (o := .cells #[.float .f32 ((rd_T127 l0 x13_1).f1.f0), .float .f32 ((rd_T127 l0 x13_1).f2.f0)] 124 (0, 0)) (by (with_reducible repeat (first | apply b1_ | apply b2_ | apply b3_)); exact BK117.out) hg (Kd.R_ne HL122_0.out BK117.out (by decide)))
          have n4_ := Aside0.mk (blk_grown (g := gb118) (o := .cells #[.float .f32 ((rd_T127 l0 x13_1).f1.f1), .float .f32 ((rd_T127 l0 x13_1).f2.f1)] 124 (0, 0)) (by (with_reducible repeat (first | apply b1_ | apply b2_ | apply b3_)); exact BK118.out) hg (Kd.R_ne HL122_0.out BK118.out (by decide)))
          have n5_ := Aside0.mk (hb)
          have n6_ := Aside0.mk (Kd.H_grown (Kd.H_widen (by repeat (first | exact HH92.out | refine Kd.H_alloc ?_ _ | refine Kd.H_drewN ?_ _ | refine Kd.H_drew ?_))) hg (fun k_ e_ => .inl (UU92.out.1 k_ e_)))
          have n7_ := Aside0.mk (ho)
          clear BK113
          clear BK114
          clear BK116
          clear BK117
          clear BK118
          clear HB
          clear HH92
          clear HO_2
          clear UU92
          clear HL122_0
          have BK113 := n0_
          have BK114 := n1_
          have BK116 := n2_
          have BK117 := n3_
          have BK118 := n4_
          have HB := n5_
          have HH92 := n6_
          have HO125 := n7_
          clear n0_ n1_ n2_ n3_ n4_ n5_ n6_ n7_
          clear ho hb hg hat
          have p77 : 0 ≤ ((ji73) : Int) := of_decide_eq_true (by first | (with_reducible assumption) | assumption)
          have q77 : ((ji73) : Int) < ((x2_1.length : Int) : Int) := of_decide_eq_true (by first | (with_reducible assumption) | assumption)
          replace p77 := eq_true p77
          replace q77 := eq_true q77
          obtain ⟨Ao96, co96, eo96⟩ := Kd.R_slice HO125.out
          (first | subst eo96 | (injection eo96 with f1_ f2_ f3_; have f4_ := f1_.symm; have f5_ := f3_.symm; clear f1_ f2_ f3_; subst f4_; subst f5_))
          obtain ⟨_, _, hraw94, _, _, hcc94, _⟩ := Kd.H_raw HH92.out (of_decide_eq_true (by first | (with_reducible assumption) | assumption)) (by have h_ : ((ji73) : Int) < ((x2_1.length : Int) : Int) := of_decide_eq_true (by first | (with_reducible assumption) | assumption); first | exact h_ | (have e_ := (HN92.out); omega) | simpa using h_)
          obtain ⟨_, hfr94⟩ := Kd.H_at HH92.out (of_decide_eq_true (by first | (with_reducible assumption) | assumption)) (by have h_ : ((ji73) : Int) < ((x2_1.length : Int) : Int) := of_decide_eq_true (by first | (with_reducible assumption) | assumption); first | exact h_ | (have e_ := (HN92.out); omega) | simpa using h_)
          have hx94_0 := hcc94 0 _ rfl
          have hf94_0 := hfr94 0
          (try simp only [Nat.add_zero] at hx94_0 hf94_0)
          (try rw [show ((Kd.slice 129 k129)).sz = 1 from rfl, Nat.mul_one] at hx94_0)
          (try rw [show ((Kd.slice 129 k129)).sz = 1 from rfl, Nat.mul_one] at hf94_0)
          have HP94 := Kd.S_seg0 HH92.out (of_decide_eq_true (by first | (with_reducible assumption) | assumption)) (by have h_ : ((ji73) : Int) < ((x2_1.length : Int) : Int) := of_decide_eq_true (by first | (with_reducible assumption) | assumption); first | exact h_ | (have e_ := (HN92.out); omega) | simpa using h_) (seg := [.slice Ao96 y123.length co96]) (j := 0) (show 1 ≤ 1 from by decide) (x' := y123) (Kd.M_row HO125.out) (fun _ hk => hk)
          (try simp only [show ((Kd.slice 129 k129)).sz = 1 from rfl, Nat.mul_one, Nat.add_zero] at HP94)
          clear hcc94 hfr94
          have HNB113_go92 := Aside0.mk (show gb113 ≠ go92 from by have h_ := Kd.R_ne hraw94 BK113.out (by decide); intro e_; exact h_ (by rw [e_]; rfl))
          have HNB114_go92 := Aside0.mk (show gb114 ≠ go92 from by have h_ := Kd.R_ne hraw94 BK114.out (by decide); intro e_; exact h_ (by rw [e_]; rfl))
          have HNB116_go92 := Aside0.mk (show gb116 ≠ go92 from by have h_ := Kd.R_ne hraw94 BK116.out (by decide); intro e_; exact h_ (by rw [e_]; rfl))
          have HNB117_go92 := Aside0.mk (show gb117 ≠ go92 from by have h_ := Kd.R_ne hraw94 BK117.out (by decide); intro e_; exact h_ (by rw [e_]; rfl))
          have HNB118_go92 := Aside0.mk (show gb118 ≠ go92 from by have h_ := Kd.R_ne hraw94 BK118.out (by decide); intro e_; exact h_ (by rw [e_]; rfl))
          have HS94 := HP94.1
          rw [← Ny126.out] at HS94
          have HQ94 := Aside0.mk HS94
          obtain ⟨_, hgg94⟩ := Kd.R_typed hraw94 go92 rfl
          have GG94_ := Aside0.mk hgg94
          clear HP94 HS94 hgg94
          refine hK.out _ _ ⟨(blk_cell BK113.out 0).trans rfl, (blk_cell BK113.out 1).trans rfl, (blk_cell BK117.out 0).trans rfl, (blk_cell BK117.out 1).trans rfl, HS4_⟩ (fun hHeld => ?_)
          clear hK K
          refine norm_ (a' := ?_) ?_ ?_
          rotate_left
          ·show Act.put _ (some 76) _ = _
           simp only [Act.put, L1_, L2_, L3_, i64_w, i32_w]
           rfl
          refine pure_ (i := 11) (N := some 77) (v := ?_) (a' := ?_) #[tt,tt,tt,tt,tt,tt,tt,tt,tt,tt,tt,tt,ff] rfl rfl (any_of HT_.out (by kernel_rfl)) (fun _ _ _ h => h) (Or.inl ⟨by rfl, ?_⟩) ?_ ?_
          rotate_left
          ·intro w'
           go_simp
           with_reducible rfl
          rotate_left
          ·simp only [Act.put, L1_, L2_, L3_, i64_w, i32_w]
           rfl
          refine last_ (i := 12) (N := none) #[tt,tt,tt,tt,tt,tt,tt,tt,tt,tt,tt,tt,tt] rfl rfl (one_of HT_.out (by kernel_rfl)) (by decide) (fun K hK => ?_)
          refine skip_ (w1 := ?_) (by rfl) rfl ?_ ?_
          rotate_left
          ·go_simp
           rfl
          refine hK.out _ _ ?_
          clear hK K
          refine done_ (done_of HT_.out (by kernel_rfl)) ?_
          have n0_ : Aside0 (Kd.S (Kd.slice 129 k129) 62 (w93.setCell ⟨go92, ((ji73) : Int).toNat, none⟩ (.slice Ao96 y123.length co96)) w.heap.size (fun _ => True) (.slice (some ⟨go92, 0, none⟩) x2_1.length co78) y126) := ⟨by (with_reducible repeat (first | apply Kd.S_alloc | apply Kd.S_drewN | apply Kd.S_drew)); exact HQ94.out⟩
          have n1_ : Aside0 ((w93.setCell ⟨go92, ((ji73) : Int).toNat, none⟩ (.slice Ao96 y123.length co96)).heap[gb113]? = some (.cells #[.float .f32 x114000_1, .float .f32 x114001_1] 124 (0, 0))) := ⟨by (with_reducible repeat (first | apply b1_ | apply b2_ | apply b3_)); refine blk_far ?_ HNB113_go92.out _; (with_reducible repeat (first | apply b1_ | apply b2_ | apply b3_)); exact BK113.out⟩
          have n2_ : Aside0 ((w93.setCell ⟨go92, ((ji73) : Int).toNat, none⟩ (.slice Ao96 y123.length co96)).heap[gb114]? = some (.cells #[.float .f32 x115000_1, .float .f32 x115001_1] 124 (0, 0))) := ⟨by (with_reducible repeat (first | apply b1_ | apply b2_ | apply b3_)); refine blk_far ?_ HNB114_go92.out _; (with_reducible repeat (first | apply b1_ | apply b2_ | apply b3_)); exact BK114.out⟩
          have n3_ : Aside0 ((w93.setCell ⟨go92, ((ji73) : Int).toNat, none⟩ (.slice Ao96 y123.length co96)).heap[gb116]? = some (.cells #[.int .i64 ((rd_T127 l0 x13_1).f0), .float .f32 ((rd_T127 l0 x13_1).f1.f0), .float .f32 ((rd_T127 l0 x13_1).f1.f1), .float .f32 ((rd_T127 l0 x13_1).f1.f2), .float .f32 ((rd_T127 l0 x13_1).f2.f0), .float .f32 ((rd_T127 l0 x13_1).f2.f1), .float .f32 ((rd_T127 l0 x13_1).f2.f2)] 127 (0, 0))) := ⟨by (with_reducible repeat (first | apply b1_ | apply b2_ | apply b3_)); refine blk_far ?_ HNB116_go92.out _; (with_reducible repeat (first | apply b1_ | apply b2_ | apply b3_)); exact BK116.out⟩
          have n4_ : Aside0 ((w93.setCell ⟨go92, ((ji73) : Int).toNat, none⟩ (.slice Ao96 y123.length co96)).heap[gb117]? = some (.cells #[.float .f32 ((rd_T127 l0 x13_1).f1.f0), .float .f32 ((rd_T127 l0 x13_1).f2.f0)] 124 (0, 0))) := ⟨by (with_reducible repeat (first | apply b1_ | apply b2_ | apply b3_)); refine blk_far ?_ HNB117_go92.out _; (with_reducible repeat (first | apply b1_ | apply b2_ | apply b3_)); exact BK117.out⟩
          have n5_ : Aside0 ((w93.setCell ⟨go92, ((ji73) : Int).toNat, none⟩ (.slice Ao96 y123.length co96)).heap[gb118]? = some (.cells #[.float .f32 ((rd_T127 l0 x13_1).f1.f1), .float .f32 ((rd_T127 l0 x13_1).f2.f1)] 124 (0, 0))) := ⟨by (with_reducible repeat (first | apply b1_ | apply b2_ | apply b3_)); refine blk_far ?_ HNB118_go92.out _; (with_reducible repeat (first | apply b1_ | apply b2_ | apply b3_)); exact BK118.out⟩
          have n6_ : Aside0 (Below w.heap.size w (w93.setCell ⟨go92, ((ji73) : Int).toNat, none⟩ (.slice Ao96 y123.length co96))) := ⟨by repeat (first | (with_reducible first | exact HB.out | apply below_alloc | apply pw_below_drewN | apply below_drew1 | refine below_set ?_ GB92.out | refine below_set ?_ GE113.out | refine below_set ?_ GE114.out | refine below_set ?_ GE116.out | refine below_set ?_ GE117.out | refine below_set ?_ GE118.out) | exact HB.out)⟩
          (try clear HO_2)
          (try clear BK113)
          (try clear BK114)
          (try clear BK116)
          (try clear BK117)
          (try clear BK118)
          (try clear HB)
          generalize (w93.setCell ⟨go92, ((ji73) : Int).toNat, none⟩ (.slice Ao96 y123.length co96)) = w97 at n0_ n1_ n2_ n3_ n4_ n5_ n6_ ⊢
          have HO_2 := n0_
          have BK113 := n1_
          have BK114 := n2_
          have BK116 := n3_
          have BK117 := n4_
          have BK118 := n5_
          have HB := n6_
          clear n0_ n1_ n2_ n3_ n4_ n5_ n6_
          have hcz98_0 : w97.cell? ⟨gb117, 0, none⟩ = some (.float .f32 ((rd_T127 l0 x13_1).f1.f0)) := (blk_cell BK117.out 0).trans rfl
          have hcz98_1 : w97.cell? ⟨gb117, 1, none⟩ = some (.float .f32 ((rd_T127 l0 x13_1).f2.f0)) := (blk_cell BK117.out 1).trans rfl
          have hfz98_0 := blk_frozen BK117.out 0
          have hfz98_1 := blk_frozen BK117.out 1
          have hcz99_0 : w97.cell? ⟨gb113, 0, none⟩ = some (.float .f32 x114000_1) := (blk_cell BK113.out 0).trans rfl
          have hcz99_1 : w97.cell? ⟨gb113, 1, none⟩ = some (.float .f32 x114001_1) := (blk_cell BK113.out 1).trans rfl
          have hfz99_0 := blk_frozen BK113.out 0
          have hfz99_1 := blk_frozen BK113.out 1
          try go_wp2
          go_roundg kj44
          case measure => have := HK1.out; have := HJ44.out; omega
          case rel => exact ⟨(y126), (wrap64 (x13_1 + 1)), (((rd_T127 l0 x13_1).f1.f0)), (((rd_T127 l0 x13_1).f2.f0)), (x115000_1), (x115001_1), (by first | rfl | (simp; done) | (simp [*]; done)), H', ⟨by have := HK1.out; have := HJ44.out; omega⟩, ⟨by (with_reducible repeat (first | apply Kd.S_alloc | apply Kd.S_drewN | apply Kd.S_drew)); exact Kd.S_mono (Kd.S_far (p := ⟨gb113, 1, none⟩) (Kd.S_far (p := ⟨gb113, 0, none⟩) (Kd.S_types HO_2.out BK113.out (by decide)) (fun _ hk => hk.2) (.float .f32 ((rd_T127 l0 x13_1).f1.f0))) (fun _ hk => hk.2) (.float .f32 ((rd_T127 l0 x13_1).f2.f0))) (fun _ hk => trivial)⟩, ⟨by (with_reducible repeat (first | apply b1_ | apply b2_ | apply b3_)); refine blk_put (cs := #[.float .f32 ((rd_T127 l0 x13_1).f1.f0), .float .f32 x114001_1]) ?_ 1 _ rfl; (with_reducible repeat (first | apply b1_ | apply b2_ | apply b3_)); refine blk_put (cs := #[.float .f32 x114000_1, .float .f32 x114001_1]) ?_ 0 _ rfl; (with_reducible repeat (first | apply b1_ | apply b2_ | apply b3_)); exact BK113.out⟩, ⟨by (with_reducible repeat (first | apply b1_ | apply b2_ | apply b3_)); refine blk_far ?_ NB114_113.out _; (with_reducible repeat (first | apply b1_ | apply b2_ | apply b3_)); refine blk_far ?_ NB114_113.out _; (with_reducible repeat (first | apply b1_ | apply b2_ | apply b3_)); exact BK114.out⟩, ⟨by repeat (first | (with_reducible first | exact HB.out | apply below_alloc | apply pw_below_drewN | apply below_drew1 | refine below_set ?_ GE113.out | refine below_set ?_ GE114.out | refine below_set ?_ GE116.out | refine below_set ?_ GE117.out | refine below_set ?_ GE118.out) | exact HB.out)⟩⟩
         ·rw [if_neg c72] at H
          have c72b0 : (!(FloatKind.f32.format.order ((rd_T127 l0 x13_1).f1.f0) x114000_1 == some .eq) || (!(FloatKind.f32.format.order ((rd_T127 l0 x13_1).f2.f0) x114001_1 == some .eq))) = false := by simpa using c72
          clear c72
          have H' := Aside0.mk H
          clear H
          obtain ⟨Ao100, co100, eo100⟩ := Kd.S_slice HO_2.out
          subst eo100
          have hnb101 := NB116_113.out
          have hnc101 := NB113_116.out
          have hnb102 := NB116_114.out
          have hnc102 := NB114_116.out
          have hnb103 := NB116_117.out
          have hnc103 := NB117_116.out
          have hnb104 := NB116_118.out
          have hnc104 := NB118_116.out
          have hcz105_0 : wc.cell? ⟨gb116, 0, none⟩ = some (.int .i64 ((rd_T127 l0 x13_1).f0)) := (blk_cell BK116.out 0).trans rfl
          have hcz105_1 : wc.cell? ⟨gb116, 1, none⟩ = some (.float .f32 ((rd_T127 l0 x13_1).f1.f0)) := (blk_cell BK116.out 1).trans rfl
          have hcz105_2 : wc.cell? ⟨gb116, 2, none⟩ = some (.float .f32 ((rd_T127 l0 x13_1).f1.f1)) := (blk_cell BK116.out 2).trans rfl
          have hcz105_3 : wc.cell? ⟨gb116, 3, none⟩ = some (.float .f32 ((rd_T127 l0 x13_1).f1.f2)) := (blk_cell BK116.out 3).trans rfl
          have hcz105_4 : wc.cell? ⟨gb116, 4, none⟩ = some (.float .f32 ((rd_T127 l0 x13_1).f2.f0)) := (blk_cell BK116.out 4).trans rfl
          have hcz105_5 : wc.cell? ⟨gb116, 5, none⟩ = some (.float .f32 ((rd_T127 l0 x13_1).f2.f1)) := (blk_cell BK116.out 5).trans rfl
          have hcz105_6 : wc.cell? ⟨gb116, 6, none⟩ = some (.float .f32 ((rd_T127 l0 x13_1).f2.f2)) := (blk_cell BK116.out 6).trans rfl
          have hfz105_0 := blk_frozen BK116.out 0
          have hfz105_1 := blk_frozen BK116.out 1
          have hfz105_2 := blk_frozen BK116.out 2
          have hfz105_3 := blk_frozen BK116.out 3
          have hfz105_4 := blk_frozen BK116.out 4
          have hfz105_5 := blk_frozen BK116.out 5
          have hfz105_6 := blk_frozen BK116.out 6
          have hnb106 := NB117_113.out
          have hnc106 := NB113_117.out
          have hnb107 := NB117_114.out
          have hnc107 := NB114_117.out
          have hnb108 := NB117_118.out
          have hnc108 := NB118_117.out
          have hcz109_0 : wc.cell? ⟨gb117, 0, none⟩ = some (.float .f32 ((rd_T127 l0 x13_1).f1.f0)) := (blk_cell BK117.out 0).trans rfl
          have hcz109_1 : wc.cell? ⟨gb117, 1, none⟩ = some (.float .f32 ((rd_T127 l0 x13_1).f2.f0)) := (blk_cell BK117.out 1).trans rfl
          have hfz109_0 := blk_frozen BK117.out 0
          have hfz109_1 := blk_frozen BK117.out 1
          have hnb110 := NB113_114.out
          have hnc110 := NB114_113.out
          have hnb111 := NB113_118.out
          have hnc111 := NB118_113.out
          have hcz112_0 : wc.cell? ⟨gb113, 0, none⟩ = some (.float .f32 x114000_1) := (blk_cell BK113.out 0).trans rfl
          have hcz112_1 : wc.cell? ⟨gb113, 1, none⟩ = some (.float .f32 x114001_1) := (blk_cell BK113.out 1).trans rfl
          have hfz112_0 := blk_frozen BK113.out 0
          have hfz112_1 := blk_frozen BK113.out 1
          go_wp2
          go_roundg kj44
          case measure => have := HK1.out; have := HJ44.out; omega
          case rel => exact ⟨(x2_1), (wrap64 (x13_1 + 1)), (((rd_T127 l0 x13_1).f1.f0)), (((rd_T127 l0 x13_1).f2.f0)), (x115000_1), (x115001_1), (by first | rfl | (simp; done) | (simp [*]; done)), H', ⟨by have := HK1.out; have := HJ44.out; omega⟩, ⟨by (with_reducible repeat (first | apply Kd.S_alloc | apply Kd.S_drewN | apply Kd.S_drew)); exact Kd.S_mono (Kd.S_far (p := ⟨gb113, 1, none⟩) (Kd.S_far (p := ⟨gb113, 0, none⟩) (Kd.S_types HO_2.out BK113.out (by decide)) (fun _ hk => hk.2) (.float .f32 ((rd_T127 l0 x13_1).f1.f0))) (fun _ hk => hk.2) (.float .f32 ((rd_T127 l0 x13_1).f2.f0))) (fun _ hk => trivial)⟩, ⟨by (with_reducible repeat (first | apply b1_ | apply b2_ | apply b3_)); refine blk_put (cs := #[.float .f32 ((rd_T127 l0 x13_1).f1.f0), .float .f32 x114001_1]) ?_ 1 _ rfl; (with_reducible repeat (first | apply b1_ | apply b2_ | apply b3_)); refine blk_put (cs := #[.float .f32 x114000_1, .float .f32 x114001_1]) ?_ 0 _ rfl; (with_reducible repeat (first | apply b1_ | apply b2_ | apply b3_)); exact BK113.out⟩, ⟨by (with_reducible repeat (first | apply b1_ | apply b2_ | apply b3_)); refine blk_far ?_ NB114_113.out _; (with_reducible repeat (first | apply b1_ | apply b2_ | apply b3_)); refine blk_far ?_ NB114_113.out _; (with_reducible repeat (first | apply b1_ | apply b2_ | apply b3_)); exact BK114.out⟩, ⟨by repeat (first | (with_reducible first | exact HB.out | apply below_alloc | apply pw_below_drewN | apply below_drew1 | refine below_set ?_ GE113.out | refine below_set ?_ GE114.out | refine below_set ?_ GE116.out | refine below_set ?_ GE117.out | refine below_set ?_ GE118.out) | exact HB.out)⟩⟩
        ·rw [if_neg c71] at H
         have c71b0 : (((rd_T127 l0 x13_1).f0) == 1) = false := beq_eq_false_iff_ne.mpr c71
         have c71b1 : (((rd_T127 l0 x13_1).f0) != 1) = true := bne_iff_ne.mpr c71
         obtain ⟨ji113, hji113⟩ : ∃ j_ : Int, (wrap64 ((x2_1.length : Int) - 1)) = j_ := ⟨_, rfl⟩
         replace H : (if 0 ≤ (ji113) then (if (ji113) < (x2_1.length : Int) then (if (rd_L9 x2_1 (ji113)).length < 5026338869833 then (spec_PiecesOf.l0 kj44 (x2_1.set ((ji113) : Int).toNat ((rd_L9 x2_1 (ji113)) ++ [(⟨true, (⟨x114000_1, x114001_1⟩ : S124), (⟨((rd_T127 l0 x13_1).f1.f0), ((rd_T127 l0 x13_1).f2.f0)⟩ : S124), (⟨((rd_T127 l0 x13_1).f1.f1), ((rd_T127 l0 x13_1).f2.f1)⟩ : S124)⟩ : S129)])) l0 (l0.length : Int) (wrap64 (x13_1 + 1)) ((rd_T127 l0 x13_1).f1.f1) ((rd_T127 l0 x13_1).f2.f1) x115000_1 x115001_1) else (none)) else (none)) else (none)) = some (r1, r2) := by first | (rw [hji113] at H; exact H) | (simp only [hji113] at H ⊢; exact H)
         have hji113w : (IntKind.i64.wrap ((x2_1.length : Int) - 1)) = ji113 := (i64_w _).trans hji113
         by_cases c114 : 0 ≤ (ji113)
         rotate_left
         ·rw [if_neg c114] at H
          exact absurd H (by simp)
         rw [if_pos c114] at H
         have c114b0 : decide (0 ≤ (ji113)) = true := decide_eq_true c114
         clear c114
         by_cases c115 : (ji113) < (x2_1.length : Int)
         rotate_left
         ·rw [if_neg c115] at H
          exact absurd H (by simp)
         rw [if_pos c115] at H
         have c115b0 : decide ((ji113) < (x2_1.length : Int)) = true := decide_eq_true c115
         clear c115
         by_cases c116 : (rd_L9 x2_1 (ji113)).length < 5026338869833
         rotate_left
         ·rw [if_neg c116] at H
          exact absurd H (by simp)
         rw [if_pos c116] at H
         have LMc116 := Aside0.mk c116
         clear c116
         obtain ⟨y128, hy128⟩ : ∃ y_ : List (S129), y_ = ((rd_L9 x2_1 (ji113)) ++ [(⟨true, (⟨x114000_1, x114001_1⟩ : S124), (⟨((rd_T127 l0 x13_1).f1.f0), ((rd_T127 l0 x13_1).f2.f0)⟩ : S124), (⟨((rd_T127 l0 x13_1).f1.f1), ((rd_T127 l0 x13_1).f2.f1)⟩ : S124)⟩ : S129)]) := ⟨_, rfl⟩
         replace H : (spec_PiecesOf.l0 kj44 (x2_1.set ((ji113) : Int).toNat y128) l0 (l0.length : Int) (wrap64 (x13_1 + 1)) ((rd_T127 l0 x13_1).f1.f1) ((rd_T127 l0 x13_1).f2.f1) x115000_1 x115001_1) = some (r1, r2) := by first | (rw [hy128]; with_reducible exact H) | (have H2_ := (Option.bind_some _ _).symm.trans H; rw [hy128]; with_reducible exact H2_) | (have H2_ := (Option.bind_some _ _).symm.trans H; with_reducible exact H2_) | with_reducible exact H | (rw [hy128]; exact H) | exact H
         have Ny128 := Aside0.mk hy128
         clear hy128
         obtain ⟨y131, hy131⟩ : ∃ y_ : List (List (S129)), y_ = (x2_1.set ((ji113) : Int).toNat y128) := ⟨_, rfl⟩
         replace H : (spec_PiecesOf.l0 kj44 y131 l0 (l0.length : Int) (wrap64 (x13_1 + 1)) ((rd_T127 l0 x13_1).f1.f1) ((rd_T127 l0 x13_1).f2.f1) x115000_1 x115001_1) = some (r1, r2) := by first | (rw [hy131]; with_reducible exact H) | (have H2_ := (Option.bind_some _ _).symm.trans H; rw [hy131]; with_reducible exact H2_) | (have H2_ := (Option.bind_some _ _).symm.trans H; with_reducible exact H2_) | with_reducible exact H | (rw [hy131]; exact H) | exact H
         have Ny131 := Aside0.mk hy131
         clear hy131
         have H' := Aside0.mk H
         clear H
         obtain ⟨Ao118, co118, eo118⟩ := Kd.S_slice HO_2.out
         subst eo118
         have hnb119 := NB116_113.out
         have hnc119 := NB113_116.out
         have hnb120 := NB116_114.out
         have hnc120 := NB114_116.out
         have hnb121 := NB116_117.out
         have hnc121 := NB117_116.out
         have hnb122 := NB116_118.out
         have hnc122 := NB118_116.out
         have hcz123_0 : wc.cell? ⟨gb116, 0, none⟩ = some (.int .i64 ((rd_T127 l0 x13_1).f0)) := (blk_cell BK116.out 0).trans rfl
         have hcz123_1 : wc.cell? ⟨gb116, 1, none⟩ = some (.float .f32 ((rd_T127 l0 x13_1).f1.f0)) := (blk_cell BK116.out 1).trans rfl
         have hcz123_2 : wc.cell? ⟨gb116, 2, none⟩ = some (.float .f32 ((rd_T127 l0 x13_1).f1.f1)) := (blk_cell BK116.out 2).trans rfl
         have hcz123_3 : wc.cell? ⟨gb116, 3, none⟩ = some (.float .f32 ((rd_T127 l0 x13_1).f1.f2)) := (blk_cell BK116.out 3).trans rfl
         have hcz123_4 : wc.cell? ⟨gb116, 4, none⟩ = some (.float .f32 ((rd_T127 l0 x13_1).f2.f0)) := (blk_cell BK116.out 4).trans rfl
         have hcz123_5 : wc.cell? ⟨gb116, 5, none⟩ = some (.float .f32 ((rd_T127 l0 x13_1).f2.f1)) := (blk_cell BK116.out 5).trans rfl
         have hcz123_6 : wc.cell? ⟨gb116, 6, none⟩ = some (.float .f32 ((rd_T127 l0 x13_1).f2.f2)) := (blk_cell BK116.out 6).trans rfl
         have hfz123_0 := blk_frozen BK116.out 0
         have hfz123_1 := blk_frozen BK116.out 1
         have hfz123_2 := blk_frozen BK116.out 2
         have hfz123_3 := blk_frozen BK116.out 3
         have hfz123_4 := blk_frozen BK116.out 4
         have hfz123_5 := blk_frozen BK116.out 5
         have hfz123_6 := blk_frozen BK116.out 6
         try go_wp2
         have n0_ := Aside0.mk (Kd.S_drew HO_2.out)
         have n1_ := Aside0.mk (blk_drew BK113.out)
         have n2_ := Aside0.mk (blk_drew BK114.out)
         have n3_ := Aside0.mk (blk_drew BK116.out)
         have n4_ := Aside0.mk (blk_drew BK117.out)
         have n5_ := Aside0.mk (blk_drew BK118.out)
         have n6_ := Aside0.mk (below_drew1 HB.out)
         clear HO_2
         clear BK113
         clear BK114
         clear BK116
         clear BK117
         clear BK118
         clear HB
         have HO_2 := n0_
         have BK113 := n1_
         have BK114 := n2_
         have BK116 := n3_
         have BK117 := n4_
         have BK118 := n5_
         have HB := n6_
         clear n0_ n1_ n2_ n3_ n4_ n5_ n6_
         have p127 : 0 ≤ ((ji113) : Int) := of_decide_eq_true (by first | (with_reducible assumption) | assumption)
         have q127 : (ji113) < (x2_1.length : Int) := of_decide_eq_true (by first | (with_reducible assumption) | assumption)
         obtain ⟨ad127, A127_0, c127_0, e127, hx127_0, hl127_0, hi127_0⟩ := at_L9 (Kd.S_reads' HO_2.out).2.2 (ji113) p127 q127
         cases e127
         obtain ⟨ce127, hce127, hMe127, hcc127⟩ := Kd.S_get HO_2.out [] (ji113) p127 (by first | exact q127 | exact of_decide_eq_true (by first | (with_reducible assumption) | assumption) | (have e_ := (Kd.S_reads' HO_2.out).1; omega))
         obtain ⟨ve127_0, rfl, ge127_0⟩ := hMe127
         have hv127_0 := hcc127 0 _ rfl
         rw [Nat.add_zero, show ((Kd.slice 129 k129)).sz = 1 from rfl, Nat.mul_one] at hv127_0
         replace hv127_0 := Option.some.inj (hv127_0.symm.trans hx127_0)
         rw [hv127_0] at ge127_0
         have HL127_0 := Aside0.mk (show Kd.R k129 129 _ _ _ _ (rd_L9 x2_1 (ji113)) from ge127_0)
         clear hv127_0 ge127_0
         have HX127_0 := Aside0.mk hx127_0
         clear hcc127 hce127
         have HR127_0 := Aside0.mk hi127_0
         have HC127_0 := Aside0.mk hl127_0
         clear hi127_0 hl127_0
         replace p127 := eq_true p127
         replace q127 := eq_true q127
         obtain ⟨go125, co125, eo125, gb125, gl125, cl125, HG125⟩ := Kd.S_form HO_2.out (by have h_ : ((ji113) : Int) < ((x2_1.length : Int) : Int) := of_decide_eq_true (by first | (with_reducible assumption) | assumption); have h2_ : 0 ≤ ((ji113) : Int) := (of_decide_eq_true (by first | (with_reducible assumption) | assumption)); omega)
         (first | cases eo125 | (injection eo125 with ea_ en_ ec_; (first | subst ea_ | (injection ea_ with ea_; subst ea_)); subst ec_; clear en_))
         have GB125 := Aside0.mk gb125
         have GG125 := Aside0.mk HG125
         clear gb125 gl125 HG125
         (first | simp only [add_plain] at hx127_0 | skip)
         obtain ⟨oki125, ce125, hcl125, hM125, hcc125, _, _, hH125⟩ := Kd.S_elem HO_2.out [] ((ji113) : Int) (of_decide_eq_true (by first | (with_reducible assumption) | assumption)) (by have h_ : ((ji113) : Int) < ((x2_1.length : Int) : Int) := of_decide_eq_true (by first | (with_reducible assumption) | assumption); first | exact h_ | (have e_ := (Kd.S_reads' HO_2.out).1; omega) | simpa using h_)
         obtain ⟨ve125_0, rfl, ge125_0⟩ := hM125
         have hv125 := hcc125 0 _ rfl
         have hX125 := HX127_0.out
         (try simp only [add_plain] at hX125)
         (try simp only [Nat.add_zero] at hv125)
         (try rw [show ((Kd.slice 129 k129)).sz = 1 from rfl, Nat.mul_one] at hv125)
         replace hv125 := Option.some.inj (hv125.symm.trans hX125)
         subst hv125
         clear hX125 hcc125 hcl125
         have UU125 := Aside0.mk (show Kd.R k129 129 _ w.heap.size oki125 (.slice A127_0 (rd_L9 x2_1 (ji113)).length c127_0) (rd_L9 x2_1 (ji113)) from ge125_0)
         have HH125 := Aside0.mk hH125
         have HN125 := Aside0.mk (Kd.S_reads' HO_2.out).1
         clear hH125 ge125_0
         refine start_ (n := 14) (S := fun w' => w'.cell? ⟨gb113, 0, none⟩ = some (.float .f32 x114000_1) ∧ w'.cell? ⟨gb113, 1, none⟩ = some (.float .f32 x114001_1) ∧ w'.cell? ⟨gb117, 0, none⟩ = some (.float .f32 ((rd_T127 l0 x13_1).f1.f0)) ∧ w'.cell? ⟨gb117, 1, none⟩ = some (.float .f32 ((rd_T127 l0 x13_1).f2.f0)) ∧ w'.cell? ⟨gb118, 0, none⟩ = some (.float .f32 ((rd_T127 l0 x13_1).f1.f1)) ∧ w'.cell? ⟨gb118, 1, none⟩ = some (.float .f32 ((rd_T127 l0 x13_1).f2.f1)) ∧ w'.cell? ⟨go125, ((ji113)).toNat, none⟩ = some (.slice A127_0 (rd_L9 x2_1 (ji113)).length c127_0)) (ds := [13]) #[ff,ff,ff,ff,ff,ff,ff,ff,ff,ff,ff,ff,ff,ff] (by kernel_rfl) rfl rfl ⟨(blk_cell BK113.out 0).trans rfl, (blk_cell BK113.out 1).trans rfl, (blk_cell BK117.out 0).trans rfl, (blk_cell BK117.out 1).trans rfl, (blk_cell BK118.out 0).trans rfl, (blk_cell BK118.out 1).trans rfl, hx127_0⟩ (fun hHeld => ?_); refine with_tabW spec_PiecesOf.tab17 spec_PiecesOf.bits17 (fun HT_ HW_ => ?_)
         generalize wc.drew = w124 at HO_2 BK113 BK114 BK116 BK117 BK118 HB GG125 HH125 HL127_0 HR127_0 HX127_0 UU125 hx127_0 hHeld ⊢
         refine pure_ (i := 0) (N := some 79) (v := ?_) (a' := ?_) #[tt,ff,ff,ff,ff,ff,ff,ff,ff,ff,ff,ff,ff,ff] rfl rfl (any_of HT_.out (by kernel_rfl)) (fun _ _ _ h => h) (Or.inl ⟨by rfl, ?_⟩) ?_ ?_
         rotate_left
         ·intro w'
          go_simp
          with_reducible rfl
         rotate_left
         ·simp only [Act.put, L1_, L2_, L3_, i64_w, i32_w]
          rfl
         refine pure_ (i := 1) (N := some 80) (v := ?_) (a' := ?_) #[tt,tt,ff,ff,ff,ff,ff,ff,ff,ff,ff,ff,ff,ff] rfl rfl (any_of HT_.out (by kernel_rfl)) (fun _ _ _ h => h) (Or.inl ⟨by rfl, ?_⟩) ?_ ?_
         rotate_left
         ·intro w'
          go_simp
          with_reducible rfl
         rotate_left
         ·simp only [Act.put, L1_, L2_, L3_, i64_w, i32_w]
          rfl
         refine pure_ (i := 2) (N := some 81) (v := ?_) (a' := ?_) #[tt,tt,tt,ff,ff,ff,ff,ff,ff,ff,ff,ff,ff,ff] rfl rfl (any_of HT_.out (by kernel_rfl)) (fun _ _ _ h => h) (Or.inl ⟨by rfl, ?_⟩) ?_ ?_
         rotate_left
         ·intro w'
          go_simp
          with_reducible rfl
         rotate_left
         ·simp only [Act.put, L1_, L2_, L3_, i64_w, i32_w]
          rfl
         refine pure_ (i := 3) (N := some 82) (v := ?_) (a' := ?_) #[tt,tt,tt,tt,ff,ff,ff,ff,ff,ff,ff,ff,ff,ff] rfl rfl (any_of HT_.out (by kernel_rfl)) (fun _ _ _ h => h) (Or.inl ⟨by rfl, ?_⟩) ?_ ?_
         rotate_left
         ·intro w'
          go_simp
          with_reducible rfl
         rotate_left
         ·simp only [Act.put, L1_, L2_, L3_, i64_w, i32_w]
          rfl
         refine pure_ (i := 4) (N := some 83) (v := ?_) (a' := ?_) #[tt,tt,tt,tt,tt,ff,ff,ff,ff,ff,ff,ff,ff,ff] rfl rfl (any_of HT_.out (by kernel_rfl)) (fun _ _ _ h => h) (Or.inl ⟨by rfl, ?_⟩) ?_ ?_
         rotate_left
         ·intro w'
          go_simp
          with_reducible rfl
         rotate_left
         ·simp only [Act.put, L1_, L2_, L3_, i64_w, i32_w]
          rfl
         refine take_ (i := 5) (N := some 84) (v := ?_) (a' := ?_) #[tt,tt,tt,tt,tt,tt,ff,ff,ff,ff,ff,ff,ff,ff] rfl rfl (take_ofW HT_.out HW_.out (by kernel_rfl)) (fun _ _ _ h => h) (Or.inl ⟨by rfl, ?_⟩) hHeld ?_ ?_
         rotate_left
         ·rintro w' ⟨s0, s1, s2, s3, s4, s5, s6⟩
          go_simp
          with_reducible rfl
         rotate_left
         ·simp only [Act.put, L1_, L2_, L3_, i64_w, i32_w]
          rfl
         refine take_ (i := 6) (N := some 85) (v := ?_) (a' := ?_) #[tt,tt,tt,tt,tt,tt,tt,ff,ff,ff,ff,ff,ff,ff] rfl rfl (take_ofW HT_.out HW_.out (by kernel_rfl)) (fun _ _ _ h => h) (Or.inl ⟨by rfl, ?_⟩) hHeld ?_ ?_
         rotate_left
         ·rintro w' ⟨s0, s1, s2, s3, s4, s5, s6⟩
          go_simp
          with_reducible rfl
         rotate_left
         ·simp only [Act.put, L1_, L2_, L3_, i64_w, i32_w]
          rfl
         refine take_ (i := 7) (N := some 86) (v := ?_) (a' := ?_) #[tt,tt,tt,tt,tt,tt,tt,tt,ff,ff,ff,ff,ff,ff] rfl rfl (take_ofW HT_.out HW_.out (by kernel_rfl)) (fun _ _ _ h => h) (Or.inl ⟨by rfl, ?_⟩) hHeld ?_ ?_
         rotate_left
         ·rintro w' ⟨s0, s1, s2, s3, s4, s5, s6⟩
          go_simp
          with_reducible rfl
         rotate_left
         ·simp only [Act.put, L1_, L2_, L3_, i64_w, i32_w]
          rfl
         refine take_ (i := 8) (N := some 87) (v := ?_) (a' := ?_) #[tt,tt,tt,tt,tt,tt,tt,tt,tt,ff,ff,ff,ff,ff] rfl rfl (take_ofW HT_.out HW_.out (by kernel_rfl)) (fun _ _ _ h => h) (Or.inl ⟨by rfl, ?_⟩) hHeld ?_ ?_
         rotate_left
         ·rintro w' ⟨s0, s1, s2, s3, s4, s5, s6⟩
          go_simp
          with_reducible rfl
         rotate_left
         ·simp only [Act.put, L1_, L2_, L3_, i64_w, i32_w]
          rfl
         refine pure_ (i := 9) (N := some 88) (v := ?_) (a' := ?_) #[tt,tt,tt,tt,tt,tt,tt,tt,tt,tt,ff,ff,ff,ff] rfl rfl (any_of HT_.out (by kernel_rfl)) (fun _ _ _ h => h) (Or.inl ⟨by rfl, ?_⟩) ?_ ?_
         rotate_left
         ·intro w'
          go_simp
          with_reducible rfl
         rotate_left
         ·simp only [Act.put, L1_, L2_, L3_, i64_w, i32_w]
          rfl
         refine one_ (i := 10) (N := some 89) #[tt,tt,tt,tt,tt,tt,tt,tt,tt,tt,tt,ff,ff,ff] rfl rfl (one_of HT_.out (by kernel_rfl)) (by decide) (fun K hK => ?_)
         refine value_ (w1 := ?_) (v := ?_) (by rfl) rfl ?_ ?_
         rotate_left 2
         ·go_simp
          constructor
          ·rfl
          ·rfl
         refine hK.out _ _ ⟨(blk_cell (blk_alloc BK113.out _) 0).trans rfl, (blk_cell (blk_alloc BK113.out _) 1).trans rfl, (blk_cell (blk_alloc BK117.out _) 0).trans rfl, (blk_cell (blk_alloc BK117.out _) 1).trans rfl, (blk_cell (blk_alloc BK118.out _) 0).trans rfl, (blk_cell (blk_alloc BK118.out _) 1).trans rfl, (World.cell?_alloc_lt _ _ _ (World.block_lt_of_cell? _ _ (hHeld.2.2.2.2.2.2))).trans (hHeld.2.2.2.2.2.2)⟩ (fun hHeld => ?_)
         clear hK K
         refine norm_ (a' := ?_) ?_ ?_
         rotate_left
         ·show Act.put _ (some 89) _ = _
          simp only [Act.put, L1_, L2_, L3_, i64_w, i32_w]
          rfl
         refine one_ (i := 11) (N := some 90) #[tt,tt,tt,tt,tt,tt,tt,tt,tt,tt,tt,tt,ff,ff] rfl rfl (one_of HT_.out (by kernel_rfl)) (by decide) (fun K hK => ?_)
         refine Kd.R_append_step k129 (w0 := w) w.heap.size (by rfl) (.tmp 84) (.tmp 89) 62 129 (.agg #[(.bool false), (.float .f32 0), (.float .f32 0), (.float .f32 0), (.float .f32 0), (.float .f32 0), (.float .f32 0)]) 28 rfl Try.underlying62 info129 rfl (by decide) (by omega) (.slice A127_0 (rd_L9 x2_1 (ji113)).length c127_0) (rd_L9 x2_1 (ji113)) (⟨true, (⟨x114000_1, x114001_1⟩ : S124), (⟨((rd_T127 l0 x13_1).f1.f0), ((rd_T127 l0 x13_1).f2.f0)⟩ : S124), (⟨((rd_T127 l0 x13_1).f1.f1), ((rd_T127 l0 x13_1).f2.f1)⟩ : S124)⟩ : S129) [.bool true, .float .f32 x114000_1, .float .f32 x114001_1, .float .f32 ((rd_T127 l0 x13_1).f1.f0), .float .f32 ((rd_T127 l0 x13_1).f2.f0), .float .f32 ((rd_T127 l0 x13_1).f1.f1), .float .f32 ((rd_T127 l0 x13_1).f2.f1)] (fun k_ => oki125 k_ ∨ ((fun _ => True)) k_ ∧ w124.heap.size ≤ k_) (fun _ => False) rfl rfl ?aP (fun _ hk => hk.elim) ?aF ?aO ?aB ?aS ?aL ?_
         (case aP => exact k129_mkM _ _ _ (⟨true, (⟨x114000_1, x114001_1⟩ : S124), (⟨((rd_T127 l0 x13_1).f1.f0), ((rd_T127 l0 x13_1).f2.f0)⟩ : S124), (⟨((rd_T127 l0 x13_1).f1.f1), ((rd_T127 l0 x13_1).f2.f1)⟩ : S124)⟩ : S129))
         (case aB => exact (by repeat (first | (with_reducible first | exact HB.out | apply below_alloc | apply pw_below_drewN | apply below_drew1 | refine below_set ?_ GE113.out | refine below_set ?_ GE114.out | refine below_set ?_ GE116.out | refine below_set ?_ GE117.out | refine below_set ?_ GE118.out) | exact HB.out)))
         (case aF => exact (fun k_ hk => .inr ⟨trivial, hk⟩))
         (case aO => exact (by (with_reducible repeat (first | apply Kd.R_alloc | apply Kd.R_drewN | apply Kd.R_drew)); exact Kd.R_mono UU125.out (fun _ hk => .inl hk)))
         (case aS => exact (below_size (by repeat (first | (with_reducible first | exact HB.out | apply below_alloc | apply pw_below_drewN | apply below_drew1 | refine below_set ?_ GE113.out | refine below_set ?_ GE114.out | refine below_set ?_ GE116.out | refine below_set ?_ GE117.out | refine below_set ?_ GE118.out) | exact HB.out))))
         (case aL => have := LMc116.out; omega)
         intro v129 w126 ho hb hg hat
         (first | have HS6_ := cell_grown hg (hHeld.2.2.2.2.2.2) (by first | (rw [add_block]; exact (fun e_ => ((HL127_0.out.1 _ e_.symm).2) rfl)) | (show some (Addr.add _ _).block ≠ _; rw [add_block]; exact (fun e_ => ((HL127_0.out.1 _ e_.symm).2) rfl)) | exact (fun e_ => ((HL127_0.out.1 _ e_.symm).2) rfl)) | have HS6_ := cell_grown hg (cell_unalloc (hHeld.2.2.2.2.2.2) (by first | (rw [add_block]; exact Kd.S_lt HO_2.out _ rfl) | (show (Addr.add _ _).block < _; rw [add_block]; exact Kd.S_lt HO_2.out _ rfl) | exact Kd.S_lt HO_2.out _ rfl)) (by first | (rw [add_block]; exact (fun e_ => ((HL127_0.out.1 _ e_.symm).2) rfl)) | (show some (Addr.add _ _).block ≠ _; rw [add_block]; exact (fun e_ => ((HL127_0.out.1 _ e_.symm).2) rfl)) | exact (fun e_ => ((HL127_0.out.1 _ e_.symm).2) rfl)))
         rw [← Ny128.out] at ho
         have n0_ := Aside0.mk (blk_grown (g := gb113) (o := .cells #[.float .f32 x114000_1, .float .f32 x114001_1] 124 (0, 0)) (by (with_reducible repeat (first | apply b1_ | apply b2_ | apply b3_)); exact BK113.out) hg (Kd.R_ne HL127_0.out BK113.out (by decide)))
         have n1_ := Aside0.mk (blk_grown (g := gb114) (o := .cells #[.float .f32 x115000_1, .float .f32 x115001_1] 124 (0, 0)) (by (with_reducible repeat (first | apply b1_ | apply b2_ | apply b3_)); exact BK114.out) hg (Kd.R_ne HL127_0.out BK114.out (by decide)))
         have n2_ := Aside0.mk (blk_grown (g := gb116) (o := .cells #[.int .i64 ((rd_T127 l0 x13_1).f0), .float .f32 ((rd_T127 l0 x13_1).f1.f0), .float .f32 ((rd_T127 l0 x13_1).f1.f1), .float .f32 ((rd_T127 l0 x13_1).f1.f2), .float .f32 ((rd_T127 l0 x13_1).f2.f0), .float .f32 ((rd_T127 l0 x13_1).f2.f1), .float .f32 ((rd_T127 l0 x13_1).f2.f2)] 127 (0, 0)) (by (with_reducible repeat (first | apply b1_ | apply b2_ | apply b3_)); exact BK116.out) hg (Kd.R_ne HL127_0.out BK116.out (by decide)))
         have n3_ := Aside0.mk (blk_grown (g := gb117) (o := .cells #[.float .f32 ((rd_T127 l0 x13_1).f1.f0), .float .f32 ((rd_T127 l0 x13_1).f2.f0)] 124 (0, 0)) (by (with_reducible repeat (first | apply b1_ | apply b2_ | apply b3_)); exact BK117.out) hg (Kd.R_ne HL127_0.out BK117.out (by decide)))
         have n4_ := Aside0.mk (blk_grown (g := gb118) (o := .cells #[.float .f32 ((rd_T127 l0 x13_1).f1.f1), .float .f32 ((rd_T127 l0 x13_1).f2.f1)] 124 (0, 0)) (by (with_reducible repeat (first | apply b1_ | apply b2_ | apply b3_)); exact BK118.out) hg (Kd.R_ne HL127_0.out BK118.out (by decide)))
         have n5_ := Aside0.mk (hb)
         have n6_ := Aside0.mk (Kd.H_grown (Kd.H_widen (by repeat (first | exact HH125.out | refine Kd.H_alloc ?_ _ | refine Kd.H_drewN ?_ _ | refine Kd.H_drew ?_))) hg (fun k_ e_ => .inl (UU125.out.1 k_ e_)))
         have n7_ := Aside0.mk (ho)
         clear BK113
         clear BK114
         clear BK116
         clear BK117
         clear BK118
         clear HB
         clear HH125
         clear HO_2
         clear UU125
         clear HL127_0
         have BK113 := n0_
         have BK114 := n1_
         have BK116 := n2_
         have BK117 := n3_
         have BK118 := n4_
         have HB := n5_
         have HH125 := n6_
         have HO130 := n7_
         clear n0_ n1_ n2_ n3_ n4_ n5_ n6_ n7_
         clear ho hb hg hat
         have p117 : 0 ≤ ((ji113) : Int) := of_decide_eq_true (by first | (with_reducible assumption) | assumption)
         have q117 : ((ji113) : Int) < ((x2_1.length : Int) : Int) := of_decide_eq_true (by first | (with_reducible assumption) | assumption)
         replace p117 := eq_true p117
         replace q117 := eq_true q117
         obtain ⟨Ao129, co129, eo129⟩ := Kd.R_slice HO130.out
         (first | subst eo129 | (injection eo129 with f1_ f2_ f3_; have f4_ := f1_.symm; have f5_ := f3_.symm; clear f1_ f2_ f3_; subst f4_; subst f5_))
         obtain ⟨_, _, hraw127, _, _, hcc127, _⟩ := Kd.H_raw HH125.out (of_decide_eq_true (by first | (with_reducible assumption) | assumption)) (by have h_ : ((ji113) : Int) < ((x2_1.length : Int) : Int) := of_decide_eq_true (by first | (with_reducible assumption) | assumption); first | exact h_ | (have e_ := (HN125.out); omega) | simpa using h_)
         obtain ⟨_, hfr127⟩ := Kd.H_at HH125.out (of_decide_eq_true (by first | (with_reducible assumption) | assumption)) (by have h_ : ((ji113) : Int) < ((x2_1.length : Int) : Int) := of_decide_eq_true (by first | (with_reducible assumption) | assumption); first | exact h_ | (have e_ := (HN125.out); omega) | simpa using h_)
         have hx127_0 := hcc127 0 _ rfl
         have hf127_0 := hfr127 0
         (try simp only [Nat.add_zero] at hx127_0 hf127_0)
         (try rw [show ((Kd.slice 129 k129)).sz = 1 from rfl, Nat.mul_one] at hx127_0)
         (try rw [show ((Kd.slice 129 k129)).sz = 1 from rfl, Nat.mul_one] at hf127_0)
         have HP127 := Kd.S_seg0 HH125.out (of_decide_eq_true (by first | (with_reducible assumption) | assumption)) (by have h_ : ((ji113) : Int) < ((x2_1.length : Int) : Int) := of_decide_eq_true (by first | (with_reducible assumption) | assumption); first | exact h_ | (have e_ := (HN125.out); omega) | simpa using h_) (seg := [.slice Ao129 y128.length co129]) (j := 0) (show 1 ≤ 1 from by decide) (x' := y128) (Kd.M_row HO130.out) (fun _ hk => hk)
         (try simp only [show ((Kd.slice 129 k129)).sz = 1 from rfl, Nat.mul_one, Nat.add_zero] at HP127)
         clear hcc127 hfr127
         have HNB113_go125 := Aside0.mk (show gb113 ≠ go125 from by have h_ := Kd.R_ne hraw127 BK113.out (by decide); intro e_; exact h_ (by rw [e_]; rfl))
         have HNB114_go125 := Aside0.mk (show gb114 ≠ go125 from by have h_ := Kd.R_ne hraw127 BK114.out (by decide); intro e_; exact h_ (by rw [e_]; rfl))
         have HNB116_go125 := Aside0.mk (show gb116 ≠ go125 from by have h_ := Kd.R_ne hraw127 BK116.out (by decide); intro e_; exact h_ (by rw [e_]; rfl))
         have HNB117_go125 := Aside0.mk (show gb117 ≠ go125 from by have h_ := Kd.R_ne hraw127 BK117.out (by decide); intro e_; exact h_ (by rw [e_]; rfl))
         have HNB118_go125 := Aside0.mk (show gb118 ≠ go125 from by have h_ := Kd.R_ne hraw127 BK118.out (by decide); intro e_; exact h_ (by rw [e_]; rfl))
         have HS127 := HP127.1
         rw [← Ny131.out] at HS127
         have HQ127 := Aside0.mk HS127
         obtain ⟨_, hgg127⟩ := Kd.R_typed hraw127 go125 rfl
         have GG127_ := Aside0.mk hgg127
         clear HP127 HS127 hgg127
         refine hK.out _ _ ⟨(blk_cell BK113.out 0).trans rfl, (blk_cell BK113.out 1).trans rfl, (blk_cell BK117.out 0).trans rfl, (blk_cell BK117.out 1).trans rfl, (blk_cell BK118.out 0).trans rfl, (blk_cell BK118.out 1).trans rfl, HS6_⟩ (fun hHeld => ?_)
         clear hK K
         refine norm_ (a' := ?_) ?_ ?_
         rotate_left
         ·show Act.put _ (some 90) _ = _
          simp only [Act.put, L1_, L2_, L3_, i64_w, i32_w]
          rfl
         refine pure_ (i := 12) (N := some 91) (v := ?_) (a' := ?_) #[tt,tt,tt,tt,tt,tt,tt,tt,tt,tt,tt,tt,tt,ff] rfl rfl (any_of HT_.out (by kernel_rfl)) (fun _ _ _ h => h) (Or.inl ⟨by rfl, ?_⟩) ?_ ?_
         rotate_left
         ·intro w'
          go_simp
          with_reducible rfl
         rotate_left
         ·simp only [Act.put, L1_, L2_, L3_, i64_w, i32_w]
          rfl
         refine last_ (i := 13) (N := none) #[tt,tt,tt,tt,tt,tt,tt,tt,tt,tt,tt,tt,tt,tt] rfl rfl (one_of HT_.out (by kernel_rfl)) (by decide) (fun K hK => ?_)
         refine skip_ (w1 := ?_) (by rfl) rfl ?_ ?_
         rotate_left
         ·go_simp
          rfl
         refine hK.out _ _ ?_
         clear hK K
         refine done_ (done_of HT_.out (by kernel_rfl)) ?_
         have n0_ : Aside0 (Kd.S (Kd.slice 129 k129) 62 (w126.setCell ⟨go125, ((ji113) : Int).toNat, none⟩ (.slice Ao129 y128.length co129)) w.heap.size (fun _ => True) (.slice (some ⟨go125, 0, none⟩) x2_1.length co118) y131) := ⟨by (with_reducible repeat (first | apply Kd.S_alloc | apply Kd.S_drewN | apply Kd.S_drew)); exact HQ127.out⟩
         have n1_ : Aside0 ((w126.setCell ⟨go125, ((ji113) : Int).toNat, none⟩ (.slice Ao129 y128.length co129)).heap[gb113]? = some (.cells #[.float .f32 x114000_1, .float .f32 x114001_1] 124 (0, 0))) := ⟨by (with_reducible repeat (first | apply b1_ | apply b2_ | apply b3_)); refine blk_far ?_ HNB113_go125.out _; (with_reducible repeat (first | apply b1_ | apply b2_ | apply b3_)); exact BK113.out⟩
         have n2_ : Aside0 ((w126.setCell ⟨go125, ((ji113) : Int).toNat, none⟩ (.slice Ao129 y128.length co129)).heap[gb114]? = some (.cells #[.float .f32 x115000_1, .float .f32 x115001_1] 124 (0, 0))) := ⟨by (with_reducible repeat (first | apply b1_ | apply b2_ | apply b3_)); refine blk_far ?_ HNB114_go125.out _; (with_reducible repeat (first | apply b1_ | apply b2_ | apply b3_)); exact BK114.out⟩
         have n3_ : Aside0 ((w126.setCell ⟨go125, ((ji113) : Int).toNat, none⟩ (.slice Ao129 y128.length co129)).heap[gb116]? = some (.cells #[.int .i64 ((rd_T127 l0 x13_1).f0), .float .f32 ((rd_T127 l0 x13_1).f1.f0), .float .f32 ((rd_T127 l0 x13_1).f1.f1), .float .f32 ((rd_T127 l0 x13_1).f1.f2), .float .f32 ((rd_T127 l0 x13_1).f2.f0), .float .f32 ((rd_T127 l0 x13_1).f2.f1), .float .f32 ((rd_T127 l0 x13_1).f2.f2)] 127 (0, 0))) := ⟨by (with_reducible repeat (first | apply b1_ | apply b2_ | apply b3_)); refine blk_far ?_ HNB116_go125.out _; (with_reducible repeat (first | apply b1_ | apply b2_ | apply b3_)); exact BK116.out⟩
         have n4_ : Aside0 ((w126.setCell ⟨go125, ((ji113) : Int).toNat, none⟩ (.slice Ao129 y128.length co129)).heap[gb117]? = some (.cells #[.float .f32 ((rd_T127 l0 x13_1).f1.f0), .float .f32 ((rd_T127 l0 x13_1).f2.f0)] 124 (0, 0))) := ⟨by (with_reducible repeat (first | apply b1_ | apply b2_ | apply b3_)); refine blk_far ?_ HNB117_go125.out _; (with_reducible repeat (first | apply b1_ | apply b2_ | apply b3_)); exact BK117.out⟩
         have n5_ : Aside0 ((w126.setCell ⟨go125, ((ji113) : Int).toNat, none⟩ (.slice Ao129 y128.length co129)).heap[gb118]? = some (.cells #[.float .f32 ((rd_T127 l0 x13_1).f1.f1), .float .f32 ((rd_T127 l0 x13_1).f2.f1)] 124 (0, 0))) := ⟨by (with_reducible repeat (first | apply b1_ | apply b2_ | apply b3_)); refine blk_far ?_ HNB118_go125.out _; (with_reducible repeat (first | apply b1_ | apply b2_ | apply b3_)); exact BK118.out⟩
         have n6_ : Aside0 (Below w.heap.size w (w126.setCell ⟨go125, ((ji113) : Int).toNat, none⟩ (.slice Ao129 y128.length co129))) := ⟨by repeat (first | (with_reducible first | exact HB.out | apply below_alloc | apply pw_below_drewN | apply below_drew1 | refine below_set ?_ GB125.out | refine below_set ?_ GE113.out | refine below_set ?_ GE114.out | refine below_set ?_ GE116.out | refine below_set ?_ GE117.out | refine below_set ?_ GE118.out) | exact HB.out)⟩
         (try clear HO_2)
         (try clear BK113)
         (try clear BK114)
         (try clear BK116)
         (try clear BK117)
         (try clear BK118)
         (try clear HB)
         generalize (w126.setCell ⟨go125, ((ji113) : Int).toNat, none⟩ (.slice Ao129 y128.length co129)) = w130 at n0_ n1_ n2_ n3_ n4_ n5_ n6_ ⊢
         have HO_2 := n0_
         have BK113 := n1_
         have BK114 := n2_
         have BK116 := n3_
         have BK117 := n4_
         have BK118 := n5_
         have HB := n6_
         clear n0_ n1_ n2_ n3_ n4_ n5_ n6_
         have hnb131 := NB118_113.out
         have hnc131 := NB113_118.out
         have hnb132 := NB118_114.out
         have hnc132 := NB114_118.out
         have hnb133 := NB118_117.out
         have hnc133 := NB117_118.out
         have hcz134_0 : w130.cell? ⟨gb118, 0, none⟩ = some (.float .f32 ((rd_T127 l0 x13_1).f1.f1)) := (blk_cell BK118.out 0).trans rfl
         have hcz134_1 : w130.cell? ⟨gb118, 1, none⟩ = some (.float .f32 ((rd_T127 l0 x13_1).f2.f1)) := (blk_cell BK118.out 1).trans rfl
         have hfz134_0 := blk_frozen BK118.out 0
         have hfz134_1 := blk_frozen BK118.out 1
         have hnb135 := NB113_114.out
         have hnc135 := NB114_113.out
         have hnb136 := NB113_117.out
         have hnc136 := NB117_113.out
         have hcz137_0 : w130.cell? ⟨gb113, 0, none⟩ = some (.float .f32 x114000_1) := (blk_cell BK113.out 0).trans rfl
         have hcz137_1 : w130.cell? ⟨gb113, 1, none⟩ = some (.float .f32 x114001_1) := (blk_cell BK113.out 1).trans rfl
         have hfz137_0 := blk_frozen BK113.out 0
         have hfz137_1 := blk_frozen BK113.out 1
         try go_wp2
         go_roundg kj44
         case measure => have := HK1.out; have := HJ44.out; omega
         case rel => exact ⟨(y131), (wrap64 (x13_1 + 1)), (((rd_T127 l0 x13_1).f1.f1)), (((rd_T127 l0 x13_1).f2.f1)), (x115000_1), (x115001_1), (by first | rfl | (simp; done) | (simp [*]; done)), H', ⟨by have := HK1.out; have := HJ44.out; omega⟩, ⟨by (with_reducible repeat (first | apply Kd.S_alloc | apply Kd.S_drewN | apply Kd.S_drew)); exact Kd.S_mono (Kd.S_far (p := ⟨gb113, 1, none⟩) (Kd.S_far (p := ⟨gb113, 0, none⟩) (Kd.S_types HO_2.out BK113.out (by decide)) (fun _ hk => hk.2) (.float .f32 ((rd_T127 l0 x13_1).f1.f1))) (fun _ hk => hk.2) (.float .f32 ((rd_T127 l0 x13_1).f2.f1))) (fun _ hk => trivial)⟩, ⟨by (with_reducible repeat (first | apply b1_ | apply b2_ | apply b3_)); refine blk_put (cs := #[.float .f32 ((rd_T127 l0 x13_1).f1.f1), .float .f32 x114001_1]) ?_ 1 _ rfl; (with_reducible repeat (first | apply b1_ | apply b2_ | apply b3_)); refine blk_put (cs := #[.float .f32 x114000_1, .float .f32 x114001_1]) ?_ 0 _ rfl; (with_reducible repeat (first | apply b1_ | apply b2_ | apply b3_)); exact BK113.out⟩, ⟨by (with_reducible repeat (first | apply b1_ | apply b2_ | apply b3_)); refine blk_far ?_ NB114_113.out _; (with_reducible repeat (first | apply b1_ | apply b2_ | apply b3_)); refine blk_far ?_ NB114_113.out _; (with_reducible repeat (first | apply b1_ | apply b2_ | apply b3_)); exact BK114.out⟩, ⟨by repeat (first | (with_reducible first | exact HB.out | apply below_alloc | apply pw_below_drewN | apply below_drew1 | refine below_set ?_ GE113.out | refine below_set ?_ GE114.out | refine below_set ?_ GE116.out | refine below_set ?_ GE117.out | refine below_set ?_ GE118.out) | exact HB.out)⟩⟩
   ·rw [if_neg c4] at H
    have c4b0 : decide (x13_1 < (l0.length : Int)) = false := decide_eq_false c4
    clear c4
    simp only [Option.some.injEq, Prod.mk.injEq] at H
    obtain ⟨rfl, rfl⟩ := H
    try go_wp2
    have n0_ := Aside0.mk (Kd.S_drew HO_2.out)
    have n1_ := Aside0.mk (blk_drew BK113.out)
    have n2_ := Aside0.mk (blk_drew BK114.out)
    have n3_ := Aside0.mk (below_drew1 HB.out)
    clear HO_2
    clear BK113
    clear BK114
    clear HB
    have HO_2 := n0_
    have BK113 := n1_
    have BK114 := n2_
    have HB := n3_
    clear n0_ n1_ n2_ n3_
    refine start_ (n := 6) (S := fun w' => w'.cell? ⟨gb113, 0, none⟩ = some (.float .f32 x114000_1) ∧ w'.cell? ⟨gb113, 1, none⟩ = some (.float .f32 x114001_1) ∧ w'.cell? ⟨gb114, 0, none⟩ = some (.float .f32 x115000_1) ∧ w'.cell? ⟨gb114, 1, none⟩ = some (.float .f32 x115001_1)) (ds := []) #[false, false, false, false, false, false] (by kernel_rfl) rfl rfl ⟨(blk_cell BK113.out 0).trans rfl, (blk_cell BK113.out 1).trans rfl, (blk_cell BK114.out 0).trans rfl, (blk_cell BK114.out 1).trans rfl⟩ (fun hHeld => ?_)
    generalize wr.drew = w138 at HO_2 BK113 BK114 HB hHeld ⊢
    refine pure_ (i := 0) (N := some 94) (v := ?_) (a' := ?_) #[true, false, false, false, false, false] rfl rfl (by kernel_rfl) (fun _ _ _ h => h) (Or.inl ⟨by rfl, ?_⟩) ?_ ?_
    rotate_left
    ·intro w'
     go_simp
     with_reducible rfl
    rotate_left
    ·simp only [Act.put, L1_, L2_, L3_, i64_w, i32_w]
     rfl
    refine pure_ (i := 4) (N := some 2) (v := ?_) (a' := ?_) #[true, false, false, false, true, false] rfl rfl (by kernel_rfl) (fun _ _ _ h => h) (Or.inl ⟨by rfl, ?_⟩) ?_ ?_
    rotate_left
    ·intro w'
     go_simp
     with_reducible rfl
    rotate_left
    ·simp only [Act.put, L1_, L2_, L3_, i64_w, i32_w]
     rfl
    refine take_ (i := 1) (N := some 95) (v := ?_) (a' := ?_) #[true, true, false, false, true, false] rfl rfl (by kernel_rfl) (fun _ _ _ h => h) (Or.inl ⟨by rfl, ?_⟩) hHeld ?_ ?_
    rotate_left
    ·rintro w' ⟨s0, s1, s2, s3⟩
     go_simp
     with_reducible rfl
    rotate_left
    ·simp only [Act.put, L1_, L2_, L3_, i64_w, i32_w]
     rfl
    refine take_ (i := 2) (N := some 96) (v := ?_) (a' := ?_) #[true, true, true, false, true, false] rfl rfl (by kernel_rfl) (fun _ _ _ h => h) (Or.inl ⟨by rfl, ?_⟩) hHeld ?_ ?_
    rotate_left
    ·rintro w' ⟨s0, s1, s2, s3⟩
     go_simp
     with_reducible rfl
    rotate_left
    ·simp only [Act.put, L1_, L2_, L3_, i64_w, i32_w]
     rfl
    refine pure_ (i := 3) (N := some 97) (v := ?_) (a' := ?_) #[true, true, true, true, true, false] rfl rfl (by kernel_rfl) (fun _ _ _ h => h) (Or.inl ⟨by rfl, ?_⟩) ?_ ?_
    rotate_left
    ·intro w'
     go_simp
     with_reducible rfl
    rotate_left
    ·(try go_ints); (try simp (disch := omega) only [n3_]); simp only [Act.put, L1_, L2_, L3_, i64_w, i32_w]
     rfl
    refine pure_ (i := 5) (N := some 3) (v := ?_) (a' := ?_) #[true, true, true, true, true, true] rfl rfl (by kernel_rfl) (fun _ _ _ h => h) (Or.inl ⟨by rfl, ?_⟩) ?_ ?_
    rotate_left
    ·intro w'
     go_simp
     with_reducible rfl
    rotate_left
    ·simp only [Act.put, L1_, L2_, L3_, i64_w, i32_w]
     rfl
    refine done_ (by kernel_rfl) ?_
    try go_wp2
    go_ret2
    exact ⟨_, by first | rfl | (simp [errW_none, errW_some] <;> rfl) | (simp [*, errW_none, errW_some] <;> rfl), by (with_reducible repeat (first | apply Kd.S_alloc | apply Kd.S_drewN | apply Kd.S_drew)); exact HO_2.out, by repeat (first | (with_reducible first | exact HB.out | apply below_alloc | apply pw_below_drewN | apply below_drew1 | refine below_set ?_ GE113.out | refine below_set ?_ GE114.out) | exact HB.out)⟩

end Go.Proofs.Ytlbmfnjhpojghaa.PFnContours
