-- Written by a program of this session (xprint) out of the translation; Lean checks it.
import Derived.Test.YtkfphiccfnfkdaaPFnBearingsx0
import Derived.Test.YtkfphiccfnfkdaaPFnBearingsx1
namespace Go.Proofs.Ytkfphiccfnfkdaa.PFnBearings
open Go.RowKit Go.Proofs.YtkfphiccfnfkdaaW.PrintWords Go.Proofs.YtkfphiccfnfkdaaW.PrintLast Go.Proofs.YtkfphiccfnfkdaaW.PrintMore
attribute [local go_sem] max2_int min2_int max_two min_two max_three min_three max_four min_four   -- for this text's walks alone
set_option linter.unusedVariables false
set_option linter.unusedSimpArgs false

/-! ### laws_someOut: function 21 -/
def laws_someOut.T7 : Bool × List (List Nat × List Nat) := (true, [([], []), ([], []), ([1], [1]), ([0, 2], [0, 2]), ([], []), ([], []), ([5], [5]), ([4, 6, 3], [4, 6]), ([], []), ([], []), ([9], [9]), ([8, 10, 7], [8, 10]), ([], []), ([], []), ([13], [13]), ([12, 14, 11], [12, 14]), ([], []), ([], []), ([17], [17]), ([16, 18, 15], [16, 18]), ([], []), ([], []), ([21], [21]), ([20, 22, 19], [20, 22]), ([], []), ([], []), ([25], [25]), ([24, 26, 23], [24, 26]), ([3, 7, 11, 15, 19, 23, 27], [3, 7, 11, 15, 19, 23, 27]), ([], []), ([29, 28, 27, 0, 1, 2, 3, 4, 5, 6, 7, 8, 9, 10, 11, 12, 13, 14, 15, 16, 17, 18, 19, 20, 21, 22, 23, 24, 25, 26, 27, 28, 29], [28, 29])])
def laws_someOut.B7 : List Nat := [0, 0, 2, 7, 0, 0, 32, 127, 0, 0, 512, 2047, 0, 0, 8192, 32767, 0, 0, 131072, 524287, 0, 0, 2097152, 8388607, 0, 0, 33554432, 134217727, 268435455, 0, 1073741823]
theorem laws_someOut.tab7 : rtab .any (opsOf Try.f21 7) = laws_someOut.T7 := by kernel_rfl
theorem laws_someOut.bits7 : waitsOk laws_someOut.T7.2 laws_someOut.B7 = true := by kernel_rfl
def laws_someOut.T8 : Bool × List (List Nat × List Nat) := (true, [([], []), ([0], [0]), ([1], [1]), ([2], [2]), ([], []), ([3, 4], [3, 4]), ([], []), ([6], [6]), ([7], [7]), ([8], [8]), ([9], [9]), ([10], [10]), ([], []), ([12], [12]), ([13], [13]), ([14], [14]), ([15], [15]), ([16], [16]), ([0, 1, 2, 3, 4, 5], []), ([18, 5, 0, 1, 2, 3, 4, 5], [5, 18]), ([0, 1, 2, 3, 4, 5, 6, 7, 8, 9, 10, 11, 18, 19], []), ([20, 11, 19, 0, 1, 2, 3, 4, 5, 6, 7, 8, 9, 10, 11, 18, 19], [11, 20]), ([0, 1, 2, 3, 4, 5, 6, 7, 8, 9, 10, 11, 12, 13, 14, 15, 16, 17, 18, 19, 20, 21], []), ([22, 17, 21, 0, 1, 2, 3, 4, 5, 6, 7, 8, 9, 10, 11, 12, 13, 14, 15, 16, 17, 18, 19, 20, 21], [17, 22])])
def laws_someOut.B8 : List Nat := [0, 1, 3, 7, 0, 31, 0, 64, 192, 448, 960, 1984, 0, 4096, 12288, 28672, 61440, 126976, 63, 262207, 790527, 1839103, 4194303, 8388607]
theorem laws_someOut.tab8 : rtab .any (opsOf Try.f21 8) = laws_someOut.T8 := by kernel_rfl
theorem laws_someOut.bits8 : waitsOk laws_someOut.T8.2 laws_someOut.B8 = true := by kernel_rfl
set_option maxHeartbeats 8000000 in
set_option maxRecDepth 100000 in
theorem laws_someOut.calls (k : Nat) (A0 : Option Addr) (c0 : Nat) (l0 : List (S36)) (a1 : Int) (a2 : Int) (r1 : Int) (r2 : Int) (r3 : Int) (r4 : Int) (r5 : Int) (r6 : List (S36)) (w : World) (hr0 : Kd.C k36 w A0 l0.length l0) (hc0 : l0.length ≤ c0) (h : laws_someOut.f k l0 a1 a2 = some (r1, r2, r3, r4, r5, r6)) :
  Calls Try.prog 21 #[.slice A0 l0.length c0, .int .u8 a1, .int .i64 a2] w fun e w' => ∃ v5_ : Value, e = .returned (.agg #[.int .i64 r1, .int .i64 r2, .int .i64 r3, .int .i64 r4, .int .i64 r5, v5_]) ∧ Kd.R k36 36 w' w.heap.size (fun _ => True) v5_ r6 ∧ Below w.heap.size w w' := by
 have hu39 := Try.underlying39
 have hu36 := Try.underlying36
 have HR0 := Aside0.mk hr0
 have HC0 := Aside0.mk hc0
 clear hr0 hc0
 have HB := Aside0.mk (Below.refl w.heap.size w)
 have H : (laws_someOut.l0 k l0 a2 0 (wrap64 (Int.tmod a1 4)) 7 8 9 10 ([] : List (S36))) = some (r1, r2, r3, r4, r5, r6) := h
 clear h
 have H' := Aside0.mk H
 clear H
 go_enter Try.func21, Try.ntmps21
 go_wp2_with (first | ((with_reducible refine gate_dst (N := 6) rfl ?_); refine box_event ?hg (N := 6) ?hd (cs := #[.int .i64 0, .int .i64 0, .int .i64 0, .int .i64 0, .int .i64 0, .slice none 0 0]) (t := 39) ?hr ?_; (case hd => rfl); (case hg => rfl); (case hr => first | (go_simp; done) | (go_simp; rfl)); intro gb101 hg w4 hbox hb; have n0_ := Aside0.mk (below_step (by repeat (first | (with_reducible first | exact HB.out | apply below_alloc | apply pw_below_drewN | apply below_drew1) | exact HB.out)) hb); have n1_ := Aside0.mk (hbox); have n2_ := Aside0.mk ((by rw [hg]; exact (below_size (by repeat (first | (with_reducible first | exact HB.out | apply below_alloc | apply pw_below_drewN | apply below_drew1) | exact HB.out))) : w.heap.size ≤ gb101)); have n3_ := Aside0.mk ((by rw [hg]; exact (below_size (by repeat (first | (with_reducible first | exact HB.out | apply below_alloc | apply pw_below_drewN | apply below_drew1) | exact HB.out))) : w.heap.size ≤ gb101)); clear HB; have HB := n0_; have BK101 := n1_; have GW101 := n2_; have GE101 := n3_; clear n0_ n1_ n2_ n3_; clear hb hbox hg) | ((with_reducible refine gate_dst (N := 7) rfl ?_); refine box_event ?hg (N := 7) ?hd (cs := #[.int .i64 0, .int .i64 0, .int .i64 0, .int .i64 0, .int .i64 0, .slice none 0 0]) (t := 39) ?hr ?_; (case hd => rfl); (case hg => rfl); (case hr => first | (go_simp; done) | (go_simp; rfl)); intro gb102 hg w5 hbox hb; have n0_ := Aside0.mk (blk_below (g := gb101) (o := .cells #[.int .i64 0, .int .i64 0, .int .i64 0, .int .i64 0, .int .i64 0, .slice none 0 0] 39 (0, 0)) (by (with_reducible repeat (first | refine b1_ ?_ _ | refine b2_ ?_ | refine b3_ ?_ _)); exact BK101.out) hb); have n1_ := Aside0.mk (below_step (by repeat (first | (with_reducible first | exact HB.out | apply below_alloc | apply pw_below_drewN | apply below_drew1 | refine below_set ?_ GE101.out) | exact HB.out)) hb); have n2_ := Aside0.mk (hbox); have n3_ := Aside0.mk ((by rw [hg]; exact (below_size (by repeat (first | (with_reducible first | exact HB.out | apply below_alloc | apply pw_below_drewN | apply below_drew1 | refine below_set ?_ GE101.out) | exact HB.out))) : w.heap.size ≤ gb102)); have n4_ := Aside0.mk ((by rw [hg]; exact (below_size (by repeat (first | (with_reducible first | exact HB.out | apply below_alloc | apply pw_below_drewN | apply below_drew1 | refine below_set ?_ GE101.out) | exact HB.out))) : w.heap.size ≤ gb102)); have n5_ := Aside0.mk ((by rw [hg]; exact Nat.ne_of_lt (blk_lt (g := gb101) (o := .cells #[.int .i64 0, .int .i64 0, .int .i64 0, .int .i64 0, .int .i64 0, .slice none 0 0] 39 (0, 0)) (by (with_reducible repeat (first | refine b1_ ?_ _ | refine b2_ ?_ | refine b3_ ?_ _)); exact BK101.out)) : gb101 ≠ gb102)); have n6_ := Aside0.mk ((by rw [hg]; exact Nat.ne_of_gt (blk_lt (g := gb101) (o := .cells #[.int .i64 0, .int .i64 0, .int .i64 0, .int .i64 0, .int .i64 0, .slice none 0 0] 39 (0, 0)) (by (with_reducible repeat (first | refine b1_ ?_ _ | refine b2_ ?_ | refine b3_ ?_ _)); exact BK101.out)) : gb102 ≠ gb101)); clear BK101; clear HB; have BK101 := n0_; have HB := n1_; have BK102 := n2_; have GW102 := n3_; have GE102 := n4_; have NB101_102 := n5_; have NB102_101 := n6_; clear n0_ n1_ n2_ n3_ n4_ n5_ n6_; clear hb hbox hg; have hnb6 := NB102_101.out; have hnc6 := NB101_102.out; have hcz7_0 : w5.cell? ⟨gb102, 0, none⟩ = some (.int .i64 0) := (blk_cell BK102.out 0).trans rfl; have hcz7_1 : w5.cell? ⟨gb102, 1, none⟩ = some (.int .i64 0) := (blk_cell BK102.out 1).trans rfl; have hcz7_2 : w5.cell? ⟨gb102, 2, none⟩ = some (.int .i64 0) := (blk_cell BK102.out 2).trans rfl; have hcz7_3 : w5.cell? ⟨gb102, 3, none⟩ = some (.int .i64 0) := (blk_cell BK102.out 3).trans rfl; have hcz7_4 : w5.cell? ⟨gb102, 4, none⟩ = some (.int .i64 0) := (blk_cell BK102.out 4).trans rfl; have hcz7_5 : w5.cell? ⟨gb102, 5, none⟩ = some (.slice none 0 0) := (blk_cell BK102.out 5).trans rfl; have hfz7_0 := blk_frozen BK102.out 0; have hfz7_1 := blk_frozen BK102.out 1; have hfz7_2 := blk_frozen BK102.out 2; have hfz7_3 := blk_frozen BK102.out 3; have hfz7_4 := blk_frozen BK102.out 4; have hfz7_5 := blk_frozen BK102.out 5))
 go_loopg [9] k (fun kq v9 w' => ∃ (x9_1 : Int) (x103005_1 : List (S36)) (u103005 : Value), v9 = .int .i64 x9_1 ∧ Aside0 (laws_someOut.l0 kq l0 a2 x9_1 (wrap64 (Int.tmod a1 4)) 7 8 9 10 x103005_1 = some (r1, r2, r3, r4, r5, r6)) ∧ Aside0 (kq ≤ k) ∧ Aside0 (Kd.R k36 36 w' w.heap.size (fun _ => True) u103005 x103005_1) ∧ Aside0 (w'.heap[gb101]? = some (.cells #[.int .i64 0, .int .i64 0, .int .i64 0, .int .i64 0, .int .i64 0, (.slice none 0 0)] 39 (0, 0))) ∧ Aside0 (w'.heap[gb102]? = some (.cells #[.int .i64 (wrap64 (Int.tmod a1 4)), .int .i64 7, .int .i64 8, .int .i64 9, .int .i64 10, u103005] 39 (0, 0))) ∧ Aside0 (Below w.heap.size w w'))
 case atStart => exact ⟨(0), (([] : List (S36))), (.slice none 0 0), (by first | rfl | (simp; done) | (simp [*]; done)), H', ⟨Nat.le_refl _⟩, ⟨by first | exact Kd.R_nil _ _ _ _ _ | exact Kd.N_nil _ _ _ _ _ | exact Kd.V_nil _ _ _ _ _ | exact Kd.Q_nil _ _ _ _ _ | exact Kd.S_nil _ _ _ _ _⟩, ⟨by (with_reducible repeat (first | refine b1_ ?_ _ | refine b2_ ?_ | refine b3_ ?_ _)); refine blk_far ?_ NB101_102.out _; (with_reducible repeat (first | refine b1_ ?_ _ | refine b2_ ?_ | refine b3_ ?_ _)); refine blk_far ?_ NB101_102.out _; (with_reducible repeat (first | refine b1_ ?_ _ | refine b2_ ?_ | refine b3_ ?_ _)); refine blk_far ?_ NB101_102.out _; (with_reducible repeat (first | refine b1_ ?_ _ | refine b2_ ?_ | refine b3_ ?_ _)); refine blk_far ?_ NB101_102.out _; (with_reducible repeat (first | refine b1_ ?_ _ | refine b2_ ?_ | refine b3_ ?_ _)); refine blk_far ?_ NB101_102.out _; (with_reducible repeat (first | refine b1_ ?_ _ | refine b2_ ?_ | refine b3_ ?_ _)); refine blk_far ?_ NB101_102.out _; (with_reducible repeat (first | refine b1_ ?_ _ | refine b2_ ?_ | refine b3_ ?_ _)); exact BK101.out⟩, ⟨by (with_reducible repeat (first | refine b1_ ?_ _ | refine b2_ ?_ | refine b3_ ?_ _)); refine blk_put (cs := #[.int .i64 (wrap64 (Int.tmod a1 4)), .int .i64 7, .int .i64 8, .int .i64 9, .int .i64 10, .slice none 0 0]) ?_ 5 _ rfl; (with_reducible repeat (first | refine b1_ ?_ _ | refine b2_ ?_ | refine b3_ ?_ _)); refine blk_put (cs := #[.int .i64 (wrap64 (Int.tmod a1 4)), .int .i64 7, .int .i64 8, .int .i64 9, .int .i64 0, .slice none 0 0]) ?_ 4 _ rfl; (with_reducible repeat (first | refine b1_ ?_ _ | refine b2_ ?_ | refine b3_ ?_ _)); refine blk_put (cs := #[.int .i64 (wrap64 (Int.tmod a1 4)), .int .i64 7, .int .i64 8, .int .i64 0, .int .i64 0, .slice none 0 0]) ?_ 3 _ rfl; (with_reducible repeat (first | refine b1_ ?_ _ | refine b2_ ?_ | refine b3_ ?_ _)); refine blk_put (cs := #[.int .i64 (wrap64 (Int.tmod a1 4)), .int .i64 7, .int .i64 0, .int .i64 0, .int .i64 0, .slice none 0 0]) ?_ 2 _ rfl; (with_reducible repeat (first | refine b1_ ?_ _ | refine b2_ ?_ | refine b3_ ?_ _)); refine blk_put (cs := #[.int .i64 (wrap64 (Int.tmod a1 4)), .int .i64 0, .int .i64 0, .int .i64 0, .int .i64 0, .slice none 0 0]) ?_ 1 _ rfl; (with_reducible repeat (first | refine b1_ ?_ _ | refine b2_ ?_ | refine b3_ ?_ _)); refine blk_put (cs := #[.int .i64 0, .int .i64 0, .int .i64 0, .int .i64 0, .int .i64 0, .slice none 0 0]) ?_ 0 _ rfl; (with_reducible repeat (first | refine b1_ ?_ _ | refine b2_ ?_ | refine b3_ ?_ _)); exact BK102.out⟩, ⟨by repeat (first | (with_reducible first | exact HB.out | apply below_alloc | apply pw_below_drewN | apply below_drew1 | refine below_set ?_ GE101.out | refine below_set ?_ GE102.out) | exact HB.out)⟩⟩
 case round =>
  clear H'
  try clear c2
  try clear p2
  try clear c6
  try clear p6
  try clear hcz7_0
  try clear hcz7_1
  try clear hcz7_2
  try clear hcz7_3
  try clear hcz7_4
  try clear hcz7_5
  try clear hfz7_0
  try clear hfz7_1
  try clear hfz7_2
  try clear hfz7_3
  try clear hfz7_4
  try clear hfz7_5
  obtain ⟨x9_1, x103005_1, u103005, rfl, HA, HK1, HO_103005, BK101, BK102, HB⟩ := hrel
  cases gk with
  | zero => exact absurd HA.out (by simp [laws_someOut.l0])
  | succ k1 =>
   have H := HA.out
   clear HA
   simp only [laws_someOut.l0] at H
   have HC8 := Aside0.mk H
   clear H
   go_upto_region 4 with (fail)
   go_cut [23] (fun v23 wc => ∃ (kq : Nat) (x23_7 : Bool), v23 = .bool x23_7 ∧ Aside0 (laws_someOut.j1 kq l0 a2 x9_1 x23_7 (wrap64 (Int.tmod a1 4)) 7 8 9 10 x103005_1 = some (r1, r2, r3, r4, r5, r6)) ∧ Aside0 (kq ≤ k1) ∧ Aside0 (Kd.R k36 36 wc w.heap.size (fun _ => True) u103005 x103005_1) ∧ Aside0 (wc.heap[gb101]? = some (.cells #[.int .i64 0, .int .i64 0, .int .i64 0, .int .i64 0, .int .i64 0, (.slice none 0 0)] 39 (0, 0))) ∧ Aside0 (wc.heap[gb102]? = some (.cells #[.int .i64 (wrap64 (Int.tmod a1 4)), .int .i64 7, .int .i64 8, .int .i64 9, .int .i64 10, u103005] 39 (0, 0))) ∧ Aside0 (Below w.heap.size w wc))
   case first =>
    have H := HC8.out
    clear HC8
    by_cases c9 : x9_1 < (l0.length : Int)
    ·rw [if_pos c9] at H
     have c9b0 : decide (x9_1 < (l0.length : Int)) = true := decide_eq_true c9
     clear c9
     (first | rw [c9b0] | (simp only [i64_w, i32_w]; rw [c9b0]) | skip)
     have H' := Aside0.mk H
     clear H
     go_wp2
     go_meet
     case rel => exact ⟨_, (decide (x9_1 < 12)), (by first | rfl | (simp; done) | (simp [*]; done)), H', ⟨by have := HK1.out; first | omega | exact Nat.le_refl _⟩, ⟨by (with_reducible repeat (first | apply Kd.R_alloc | apply Kd.R_drewN | apply Kd.R_drew)); exact HO_103005.out⟩, ⟨by (with_reducible repeat (first | refine b1_ ?_ _ | refine b2_ ?_ | refine b3_ ?_ _)); exact BK101.out⟩, ⟨by (with_reducible repeat (first | refine b1_ ?_ _ | refine b2_ ?_ | refine b3_ ?_ _)); exact BK102.out⟩, ⟨by repeat (first | (with_reducible first | exact HB.out | apply below_alloc | apply pw_below_drewN | apply below_drew1 | refine below_set ?_ GE101.out | refine below_set ?_ GE102.out) | exact HB.out)⟩⟩
    ·rw [if_neg c9] at H
     have c9b0 : decide (x9_1 < (l0.length : Int)) = false := decide_eq_false c9
     clear c9
     (first | rw [c9b0] | (simp only [i64_w, i32_w]; rw [c9b0]) | skip)
     have H' := Aside0.mk H
     clear H
     go_wp2
     go_meet
     case rel => exact ⟨_, (false), (by first | rfl | (simp; done) | (simp [*]; done)), H', ⟨by have := HK1.out; first | omega | exact Nat.le_refl _⟩, ⟨by (with_reducible repeat (first | apply Kd.R_alloc | apply Kd.R_drewN | apply Kd.R_drew)); exact HO_103005.out⟩, ⟨by (with_reducible repeat (first | refine b1_ ?_ _ | refine b2_ ?_ | refine b3_ ?_ _)); exact BK101.out⟩, ⟨by (with_reducible repeat (first | refine b1_ ?_ _ | refine b2_ ?_ | refine b3_ ?_ _)); exact BK102.out⟩, ⟨by repeat (first | (with_reducible first | exact HB.out | apply below_alloc | apply pw_below_drewN | apply below_drew1 | refine below_set ?_ GE101.out | refine below_set ?_ GE102.out) | exact HB.out)⟩⟩
   case rest =>
    clear HC8
    try clear c2
    try clear p2
    try clear c6
    try clear p6
    try clear c9
    try clear c9b0
    try clear hcz7_0
    try clear hcz7_1
    try clear hcz7_2
    try clear hcz7_3
    try clear hcz7_4
    try clear hcz7_5
    try clear hfz7_0
    try clear hfz7_1
    try clear hfz7_2
    try clear hfz7_3
    try clear hfz7_4
    try clear hfz7_5
    try clear p2
    try clear p6
    obtain ⟨kq, x23_7, rfl, HA, HJ7, HO_103005, BK101, BK102, HB⟩ := hcut
    cases kq with
    | zero => exact absurd HA.out (by simp [laws_someOut.j1])
    | succ kj7 =>
     have H := HA.out
     clear HA
     simp only [laws_someOut.j1] at H
     by_cases c10 : x23_7 = true
     ·subst c10
      have H1 : (if 0 ≤ x9_1 then (if x9_1 < (l0.length : Int) then ((laws_someOut_1.f ((rd_T36 l0 x9_1).f0)).bind fun t105 => ((laws_someOut_1.f ((rd_T36 l0 x9_1).f1)).bind fun t106 => ((laws_someOut_1.f ((rd_T36 l0 x9_1).f2)).bind fun t107 => ((laws_someOut_1.f ((rd_T36 l0 x9_1).f3)).bind fun t108 => ((laws_someOut_1.f ((rd_T36 l0 x9_1).f4)).bind fun t109 => ((laws_someOut_1.f ((rd_T36 l0 x9_1).f5)).bind fun t110 => ((laws_someOut_1.f ((rd_T36 l0 x9_1).f6)).bind fun t111 => (if a2 = 0 then (none) else (laws_someOut.l1 kj7 l0 a2 x9_1 (1 + ((((rd_T36 l0 x9_1).f9) % 256) % 3)) 0 (wrap64 (Int.tmod a1 4)) 7 8 9 10 x103005_1 t105 t106 t107 t108 t109 t110 t111 (Int.tmod (wrap64 (IntKind.u16.wrap ((rd_T36 l0 x9_1).f7))) a2) (1 + (((rd_T36 l0 x9_1).f8) % 2)) (1 + ((((rd_T36 l0 x9_1).f9) % 256) % 3))))))))))) else (none)) else (none)) = some (r1, r2, r3, r4, r5, r6) := by rw [if_pos rfl] at H; exact H
      clear H
      have H := H1
      clear H1
      by_cases c11 : 0 ≤ x9_1
      ·rw [if_pos c11] at H
       have c11b0 : decide (0 ≤ x9_1) = true := decide_eq_true c11
       clear c11
       by_cases c12 : x9_1 < (l0.length : Int)
       ·rw [if_pos c12] at H
        have c12b0 : decide (x9_1 < (l0.length : Int)) = true := decide_eq_true c12
        clear c12
        replace H := Option.bind_eq_some_iff.mp H
        obtain ⟨t105, A130, H⟩ := H
        replace H : ((laws_someOut_1.f ((rd_T36 l0 x9_1).f1)).bind fun t106 => ((laws_someOut_1.f ((rd_T36 l0 x9_1).f2)).bind fun t107 => ((laws_someOut_1.f ((rd_T36 l0 x9_1).f3)).bind fun t108 => ((laws_someOut_1.f ((rd_T36 l0 x9_1).f4)).bind fun t109 => ((laws_someOut_1.f ((rd_T36 l0 x9_1).f5)).bind fun t110 => ((laws_someOut_1.f ((rd_T36 l0 x9_1).f6)).bind fun t111 => (if a2 = 0 then (none) else (laws_someOut.l1 kj7 l0 a2 x9_1 (1 + ((((rd_T36 l0 x9_1).f9) % 256) % 3)) 0 (wrap64 (Int.tmod a1 4)) 7 8 9 10 x103005_1 t105 t106 t107 t108 t109 t110 t111 (Int.tmod (wrap64 (IntKind.u16.wrap ((rd_T36 l0 x9_1).f7))) a2) (1 + (((rd_T36 l0 x9_1).f8) % 2)) (1 + ((((rd_T36 l0 x9_1).f9) % 256) % 3)))))))))) = some (r1, r2, r3, r4, r5, r6) := H
        have A13 := Aside0.mk A130
        clear A130
        replace H := Option.bind_eq_some_iff.mp H
        obtain ⟨t106, A140, H⟩ := H
        replace H : ((laws_someOut_1.f ((rd_T36 l0 x9_1).f2)).bind fun t107 => ((laws_someOut_1.f ((rd_T36 l0 x9_1).f3)).bind fun t108 => ((laws_someOut_1.f ((rd_T36 l0 x9_1).f4)).bind fun t109 => ((laws_someOut_1.f ((rd_T36 l0 x9_1).f5)).bind fun t110 => ((laws_someOut_1.f ((rd_T36 l0 x9_1).f6)).bind fun t111 => (if a2 = 0 then (none) else (laws_someOut.l1 kj7 l0 a2 x9_1 (1 + ((((rd_T36 l0 x9_1).f9) % 256) % 3)) 0 (wrap64 (Int.tmod a1 4)) 7 8 9 10 x103005_1 t105 t106 t107 t108 t109 t110 t111 (Int.tmod (wrap64 (IntKind.u16.wrap ((rd_T36 l0 x9_1).f7))) a2) (1 + (((rd_T36 l0 x9_1).f8) % 2)) (1 + ((((rd_T36 l0 x9_1).f9) % 256) % 3))))))))) = some (r1, r2, r3, r4, r5, r6) := H
        have A14 := Aside0.mk A140
        clear A140
        replace H := Option.bind_eq_some_iff.mp H
        obtain ⟨t107, A150, H⟩ := H
        replace H : ((laws_someOut_1.f ((rd_T36 l0 x9_1).f3)).bind fun t108 => ((laws_someOut_1.f ((rd_T36 l0 x9_1).f4)).bind fun t109 => ((laws_someOut_1.f ((rd_T36 l0 x9_1).f5)).bind fun t110 => ((laws_someOut_1.f ((rd_T36 l0 x9_1).f6)).bind fun t111 => (if a2 = 0 then (none) else (laws_someOut.l1 kj7 l0 a2 x9_1 (1 + ((((rd_T36 l0 x9_1).f9) % 256) % 3)) 0 (wrap64 (Int.tmod a1 4)) 7 8 9 10 x103005_1 t105 t106 t107 t108 t109 t110 t111 (Int.tmod (wrap64 (IntKind.u16.wrap ((rd_T36 l0 x9_1).f7))) a2) (1 + (((rd_T36 l0 x9_1).f8) % 2)) (1 + ((((rd_T36 l0 x9_1).f9) % 256) % 3)))))))) = some (r1, r2, r3, r4, r5, r6) := H
        have A15 := Aside0.mk A150
        clear A150
        replace H := Option.bind_eq_some_iff.mp H
        obtain ⟨t108, A160, H⟩ := H
        replace H : ((laws_someOut_1.f ((rd_T36 l0 x9_1).f4)).bind fun t109 => ((laws_someOut_1.f ((rd_T36 l0 x9_1).f5)).bind fun t110 => ((laws_someOut_1.f ((rd_T36 l0 x9_1).f6)).bind fun t111 => (if a2 = 0 then (none) else (laws_someOut.l1 kj7 l0 a2 x9_1 (1 + ((((rd_T36 l0 x9_1).f9) % 256) % 3)) 0 (wrap64 (Int.tmod a1 4)) 7 8 9 10 x103005_1 t105 t106 t107 t108 t109 t110 t111 (Int.tmod (wrap64 (IntKind.u16.wrap ((rd_T36 l0 x9_1).f7))) a2) (1 + (((rd_T36 l0 x9_1).f8) % 2)) (1 + ((((rd_T36 l0 x9_1).f9) % 256) % 3))))))) = some (r1, r2, r3, r4, r5, r6) := H
        have A16 := Aside0.mk A160
        clear A160
        replace H := Option.bind_eq_some_iff.mp H
        obtain ⟨t109, A170, H⟩ := H
        replace H : ((laws_someOut_1.f ((rd_T36 l0 x9_1).f5)).bind fun t110 => ((laws_someOut_1.f ((rd_T36 l0 x9_1).f6)).bind fun t111 => (if a2 = 0 then (none) else (laws_someOut.l1 kj7 l0 a2 x9_1 (1 + ((((rd_T36 l0 x9_1).f9) % 256) % 3)) 0 (wrap64 (Int.tmod a1 4)) 7 8 9 10 x103005_1 t105 t106 t107 t108 t109 t110 t111 (Int.tmod (wrap64 (IntKind.u16.wrap ((rd_T36 l0 x9_1).f7))) a2) (1 + (((rd_T36 l0 x9_1).f8) % 2)) (1 + ((((rd_T36 l0 x9_1).f9) % 256) % 3)))))) = some (r1, r2, r3, r4, r5, r6) := H
        have A17 := Aside0.mk A170
        clear A170
        replace H := Option.bind_eq_some_iff.mp H
        obtain ⟨t110, A180, H⟩ := H
        replace H : ((laws_someOut_1.f ((rd_T36 l0 x9_1).f6)).bind fun t111 => (if a2 = 0 then (none) else (laws_someOut.l1 kj7 l0 a2 x9_1 (1 + ((((rd_T36 l0 x9_1).f9) % 256) % 3)) 0 (wrap64 (Int.tmod a1 4)) 7 8 9 10 x103005_1 t105 t106 t107 t108 t109 t110 t111 (Int.tmod (wrap64 (IntKind.u16.wrap ((rd_T36 l0 x9_1).f7))) a2) (1 + (((rd_T36 l0 x9_1).f8) % 2)) (1 + ((((rd_T36 l0 x9_1).f9) % 256) % 3))))) = some (r1, r2, r3, r4, r5, r6) := H
        have A18 := Aside0.mk A180
        clear A180
        replace H := Option.bind_eq_some_iff.mp H
        obtain ⟨t111, A190, H⟩ := H
        replace H : (if a2 = 0 then (none) else (laws_someOut.l1 kj7 l0 a2 x9_1 (1 + ((((rd_T36 l0 x9_1).f9) % 256) % 3)) 0 (wrap64 (Int.tmod a1 4)) 7 8 9 10 x103005_1 t105 t106 t107 t108 t109 t110 t111 (Int.tmod (wrap64 (IntKind.u16.wrap ((rd_T36 l0 x9_1).f7))) a2) (1 + (((rd_T36 l0 x9_1).f8) % 2)) (1 + ((((rd_T36 l0 x9_1).f9) % 256) % 3)))) = some (r1, r2, r3, r4, r5, r6) := H
        have A19 := Aside0.mk A190
        clear A190
        by_cases c20 : a2 = 0
        ·rw [if_pos c20] at H
         exact absurd H (by simp)
        ·rw [if_neg c20] at H
         have c20b0 : (a2 == 0) = false := beq_eq_false_iff_ne.mpr c20
         have c20b1 : (a2 != 0) = true := bne_iff_ne.mpr c20
         have H' := Aside0.mk H
         clear H
         have p103 : 0 ≤ (x9_1 : Int) := of_decide_eq_true (by first | (with_reducible assumption) | assumption)
         have q103 : x9_1 < (l0.length : Int) := of_decide_eq_true (by first | (with_reducible assumption) | assumption)
         obtain ⟨ad103, e103, hx103_0, hx103_1, hx103_2, hx103_3, hx103_4, hx103_5, hx103_6, hx103_7, hx103_8, hx103_9⟩ := at_T36 HR0.out x9_1 p103 q103
         cases e103
         replace hx103_0 := (HB.out.cell (World.block_lt_of_cell? w _ hx103_0)).trans hx103_0
         replace hx103_1 := (HB.out.cell (World.block_lt_of_cell? w _ hx103_1)).trans hx103_1
         replace hx103_2 := (HB.out.cell (World.block_lt_of_cell? w _ hx103_2)).trans hx103_2
         replace hx103_3 := (HB.out.cell (World.block_lt_of_cell? w _ hx103_3)).trans hx103_3
         replace hx103_4 := (HB.out.cell (World.block_lt_of_cell? w _ hx103_4)).trans hx103_4
         replace hx103_5 := (HB.out.cell (World.block_lt_of_cell? w _ hx103_5)).trans hx103_5
         replace hx103_6 := (HB.out.cell (World.block_lt_of_cell? w _ hx103_6)).trans hx103_6
         replace hx103_7 := (HB.out.cell (World.block_lt_of_cell? w _ hx103_7)).trans hx103_7
         replace hx103_8 := (HB.out.cell (World.block_lt_of_cell? w _ hx103_8)).trans hx103_8
         replace hx103_9 := (HB.out.cell (World.block_lt_of_cell? w _ hx103_9)).trans hx103_9
         replace p103 := eq_true p103
         replace q103 := eq_true q103
         try go_wp2_with (first | ((with_reducible refine gate_dst (N := 10) rfl ?_); refine box_event ?hg (N := 10) ?hd (cs := #[.int .i64 0, .int .i64 0, .int .i64 0, .int .i64 0, .int .i64 0, .int .i64 0, .int .i64 0, .int .i64 0, .int .i64 0, .int .i64 0]) (t := 36) ?hr ?_; (case hd => rfl); (case hg => rfl); (case hr => first | (go_simp; done) | (go_simp; rfl)); intro gb104 hg w21 hbox hb; have n0_ := Aside0.mk (Kd.R_below (Kd.R_elderB (by (with_reducible repeat (first | apply Kd.R_alloc | apply Kd.R_drewN | apply Kd.R_drew)); exact HO_103005.out) gb104 (Nat.le_of_eq hg.symm)) hb); have n1_ := Aside0.mk (blk_below (g := gb101) (o := .cells #[.int .i64 0, .int .i64 0, .int .i64 0, .int .i64 0, .int .i64 0, .slice none 0 0] 39 (0, 0)) (by (with_reducible repeat (first | refine b1_ ?_ _ | refine b2_ ?_ | refine b3_ ?_ _)); exact BK101.out) hb); have n2_ := Aside0.mk (blk_below (g := gb102) (o := .cells #[.int .i64 (wrap64 (Int.tmod a1 4)), .int .i64 7, .int .i64 8, .int .i64 9, .int .i64 10, u103005] 39 (0, 0)) (by (with_reducible repeat (first | refine b1_ ?_ _ | refine b2_ ?_ | refine b3_ ?_ _)); exact BK102.out) hb); have n3_ := Aside0.mk (below_step (by repeat (first | (with_reducible first | exact HB.out | apply below_alloc | apply pw_below_drewN | apply below_drew1 | refine below_set ?_ GE101.out | refine below_set ?_ GE102.out) | exact HB.out)) hb); have n4_ := Aside0.mk (hbox); have n5_ := Aside0.mk ((by rw [hg]; exact (below_size (by repeat (first | (with_reducible first | exact HB.out | apply below_alloc | apply pw_below_drewN | apply below_drew1 | refine below_set ?_ GE101.out | refine below_set ?_ GE102.out) | exact HB.out))) : w.heap.size ≤ gb104)); have n6_ := Aside0.mk ((by rw [hg]; exact (below_size (by repeat (first | (with_reducible first | exact HB.out | apply below_alloc | apply pw_below_drewN | apply below_drew1 | refine below_set ?_ GE101.out | refine below_set ?_ GE102.out) | exact HB.out))) : w.heap.size ≤ gb104)); have n7_ := Aside0.mk ((by rw [hg]; exact Nat.ne_of_lt (blk_lt (g := gb101) (o := .cells #[.int .i64 0, .int .i64 0, .int .i64 0, .int .i64 0, .int .i64 0, .slice none 0 0] 39 (0, 0)) (by (with_reducible repeat (first | refine b1_ ?_ _ | refine b2_ ?_ | refine b3_ ?_ _)); exact BK101.out)) : gb101 ≠ gb104)); have n8_ := Aside0.mk ((by rw [hg]; exact Nat.ne_of_gt (blk_lt (g := gb101) (o := .cells #[.int .i64 0, .int .i64 0, .int .i64 0, .int .i64 0, .int .i64 0, .slice none 0 0] 39 (0, 0)) (by (with_reducible repeat (first | refine b1_ ?_ _ | refine b2_ ?_ | refine b3_ ?_ _)); exact BK101.out)) : gb104 ≠ gb101)); have n9_ := Aside0.mk ((by rw [hg]; exact Nat.ne_of_lt (blk_lt (g := gb102) (o := .cells #[.int .i64 (wrap64 (Int.tmod a1 4)), .int .i64 7, .int .i64 8, .int .i64 9, .int .i64 10, u103005] 39 (0, 0)) (by (with_reducible repeat (first | refine b1_ ?_ _ | refine b2_ ?_ | refine b3_ ?_ _)); exact BK102.out)) : gb102 ≠ gb104)); have n10_ := Aside0.mk ((by rw [hg]; exact Nat.ne_of_gt (blk_lt (g := gb102) (o := .cells #[.int .i64 (wrap64 (Int.tmod a1 4)), .int .i64 7, .int .i64 8, .int .i64 9, .int .i64 10, u103005] 39 (0, 0)) (by (with_reducible repeat (first | refine b1_ ?_ _ | refine b2_ ?_ | refine b3_ ?_ _)); exact BK102.out)) : gb104 ≠ gb102)); clear HO_103005; clear BK101; clear BK102; clear HB; have HO_103005 := n0_; have BK101 := n1_; have BK102 := n2_; have HB := n3_; have BK104 := n4_; have GW104 := n5_; have GE104 := n6_; have NB101_104 := n7_; have NB104_101 := n8_; have NB102_104 := n9_; have NB104_102 := n10_; clear n0_ n1_ n2_ n3_ n4_ n5_ n6_ n7_ n8_ n9_ n10_; clear hb hbox hg; have hnb22 := NB104_101.out; have hnc22 := NB101_104.out; have hnb23 := NB104_102.out; have hnc23 := NB102_104.out; have hcz24_0 : w21.cell? ⟨gb104, 0, none⟩ = some (.int .i64 0) := (blk_cell BK104.out 0).trans rfl; have hcz24_1 : w21.cell? ⟨gb104, 1, none⟩ = some (.int .i64 0) := (blk_cell BK104.out 1).trans rfl; have hcz24_2 : w21.cell? ⟨gb104, 2, none⟩ = some (.int .i64 0) := (blk_cell BK104.out 2).trans rfl; have hcz24_3 : w21.cell? ⟨gb104, 3, none⟩ = some (.int .i64 0) := (blk_cell BK104.out 3).trans rfl; have hcz24_4 : w21.cell? ⟨gb104, 4, none⟩ = some (.int .i64 0) := (blk_cell BK104.out 4).trans rfl; have hcz24_5 : w21.cell? ⟨gb104, 5, none⟩ = some (.int .i64 0) := (blk_cell BK104.out 5).trans rfl; have hcz24_6 : w21.cell? ⟨gb104, 6, none⟩ = some (.int .i64 0) := (blk_cell BK104.out 6).trans rfl; have hcz24_7 : w21.cell? ⟨gb104, 7, none⟩ = some (.int .i64 0) := (blk_cell BK104.out 7).trans rfl; have hcz24_8 : w21.cell? ⟨gb104, 8, none⟩ = some (.int .i64 0) := (blk_cell BK104.out 8).trans rfl; have hcz24_9 : w21.cell? ⟨gb104, 9, none⟩ = some (.int .i64 0) := (blk_cell BK104.out 9).trans rfl; have hfz24_0 := blk_frozen BK104.out 0; have hfz24_1 := blk_frozen BK104.out 1; have hfz24_2 := blk_frozen BK104.out 2; have hfz24_3 := blk_frozen BK104.out 3; have hfz24_4 := blk_frozen BK104.out 4; have hfz24_5 := blk_frozen BK104.out 5; have hfz24_6 := blk_frozen BK104.out 6; have hfz24_7 := blk_frozen BK104.out 7; have hfz24_8 := blk_frozen BK104.out 8; have hfz24_9 := blk_frozen BK104.out 9))
         have n0_ : Aside0 (Kd.R k36 36 ((((((((((w21.setCell ⟨gb104, 0, none⟩ (.int .i64 ((rd_T36 l0 x9_1).f0))).setCell ⟨gb104, 1, none⟩ (.int .i64 ((rd_T36 l0 x9_1).f1))).setCell ⟨gb104, 2, none⟩ (.int .i64 ((rd_T36 l0 x9_1).f2))).setCell ⟨gb104, 3, none⟩ (.int .i64 ((rd_T36 l0 x9_1).f3))).setCell ⟨gb104, 4, none⟩ (.int .i64 ((rd_T36 l0 x9_1).f4))).setCell ⟨gb104, 5, none⟩ (.int .i64 ((rd_T36 l0 x9_1).f5))).setCell ⟨gb104, 6, none⟩ (.int .i64 ((rd_T36 l0 x9_1).f6))).setCell ⟨gb104, 7, none⟩ (.int .i64 ((rd_T36 l0 x9_1).f7))).setCell ⟨gb104, 8, none⟩ (.int .i64 ((rd_T36 l0 x9_1).f8))).setCell ⟨gb104, 9, none⟩ (.int .i64 ((rd_T36 l0 x9_1).f9))) w.heap.size (fun k_ => k_ ≠ gb104) u103005 x103005_1) := ⟨by (with_reducible repeat (first | apply Kd.R_alloc | apply Kd.R_drewN | apply Kd.R_drew)); exact Kd.R_mono (Kd.R_far (p := ⟨gb104, 9, none⟩) (Kd.R_far (p := ⟨gb104, 8, none⟩) (Kd.R_far (p := ⟨gb104, 7, none⟩) (Kd.R_far (p := ⟨gb104, 6, none⟩) (Kd.R_far (p := ⟨gb104, 5, none⟩) (Kd.R_far (p := ⟨gb104, 4, none⟩) (Kd.R_far (p := ⟨gb104, 3, none⟩) (Kd.R_far (p := ⟨gb104, 2, none⟩) (Kd.R_far (p := ⟨gb104, 1, none⟩) (Kd.R_far (p := ⟨gb104, 0, none⟩) (Kd.R_mono HO_103005.out (fun k_ hk => (⟨hk, hk.2⟩ : _ ∧ k_ ≠ gb104))) (fun _ hk => hk.2) (.int .i64 ((rd_T36 l0 x9_1).f0))) (fun _ hk => hk.2) (.int .i64 ((rd_T36 l0 x9_1).f1))) (fun _ hk => hk.2) (.int .i64 ((rd_T36 l0 x9_1).f2))) (fun _ hk => hk.2) (.int .i64 ((rd_T36 l0 x9_1).f3))) (fun _ hk => hk.2) (.int .i64 ((rd_T36 l0 x9_1).f4))) (fun _ hk => hk.2) (.int .i64 ((rd_T36 l0 x9_1).f5))) (fun _ hk => hk.2) (.int .i64 ((rd_T36 l0 x9_1).f6))) (fun _ hk => hk.2) (.int .i64 ((rd_T36 l0 x9_1).f7))) (fun _ hk => hk.2) (.int .i64 ((rd_T36 l0 x9_1).f8))) (fun _ hk => hk.2) (.int .i64 ((rd_T36 l0 x9_1).f9))) (fun _ hk => hk.1.2)⟩
         have n1_ : Aside0 (((((((((((w21.setCell ⟨gb104, 0, none⟩ (.int .i64 ((rd_T36 l0 x9_1).f0))).setCell ⟨gb104, 1, none⟩ (.int .i64 ((rd_T36 l0 x9_1).f1))).setCell ⟨gb104, 2, none⟩ (.int .i64 ((rd_T36 l0 x9_1).f2))).setCell ⟨gb104, 3, none⟩ (.int .i64 ((rd_T36 l0 x9_1).f3))).setCell ⟨gb104, 4, none⟩ (.int .i64 ((rd_T36 l0 x9_1).f4))).setCell ⟨gb104, 5, none⟩ (.int .i64 ((rd_T36 l0 x9_1).f5))).setCell ⟨gb104, 6, none⟩ (.int .i64 ((rd_T36 l0 x9_1).f6))).setCell ⟨gb104, 7, none⟩ (.int .i64 ((rd_T36 l0 x9_1).f7))).setCell ⟨gb104, 8, none⟩ (.int .i64 ((rd_T36 l0 x9_1).f8))).setCell ⟨gb104, 9, none⟩ (.int .i64 ((rd_T36 l0 x9_1).f9))).heap[gb101]? = some (.cells #[.int .i64 0, .int .i64 0, .int .i64 0, .int .i64 0, .int .i64 0, .slice none 0 0] 39 (0, 0))) := ⟨by (with_reducible repeat (first | refine b1_ ?_ _ | refine b2_ ?_ | refine b3_ ?_ _)); refine blk_far ?_ NB101_104.out _; (with_reducible repeat (first | refine b1_ ?_ _ | refine b2_ ?_ | refine b3_ ?_ _)); refine blk_far ?_ NB101_104.out _; (with_reducible repeat (first | refine b1_ ?_ _ | refine b2_ ?_ | refine b3_ ?_ _)); refine blk_far ?_ NB101_104.out _; (with_reducible repeat (first | refine b1_ ?_ _ | refine b2_ ?_ | refine b3_ ?_ _)); refine blk_far ?_ NB101_104.out _; (with_reducible repeat (first | refine b1_ ?_ _ | refine b2_ ?_ | refine b3_ ?_ _)); refine blk_far ?_ NB101_104.out _; (with_reducible repeat (first | refine b1_ ?_ _ | refine b2_ ?_ | refine b3_ ?_ _)); refine blk_far ?_ NB101_104.out _; (with_reducible repeat (first | refine b1_ ?_ _ | refine b2_ ?_ | refine b3_ ?_ _)); refine blk_far ?_ NB101_104.out _; (with_reducible repeat (first | refine b1_ ?_ _ | refine b2_ ?_ | refine b3_ ?_ _)); refine blk_far ?_ NB101_104.out _; (with_reducible repeat (first | refine b1_ ?_ _ | refine b2_ ?_ | refine b3_ ?_ _)); refine blk_far ?_ NB101_104.out _; (with_reducible repeat (first | refine b1_ ?_ _ | refine b2_ ?_ | refine b3_ ?_ _)); refine blk_far ?_ NB101_104.out _; (with_reducible repeat (first | refine b1_ ?_ _ | refine b2_ ?_ | refine b3_ ?_ _)); exact BK101.out⟩
         have n2_ : Aside0 (((((((((((w21.setCell ⟨gb104, 0, none⟩ (.int .i64 ((rd_T36 l0 x9_1).f0))).setCell ⟨gb104, 1, none⟩ (.int .i64 ((rd_T36 l0 x9_1).f1))).setCell ⟨gb104, 2, none⟩ (.int .i64 ((rd_T36 l0 x9_1).f2))).setCell ⟨gb104, 3, none⟩ (.int .i64 ((rd_T36 l0 x9_1).f3))).setCell ⟨gb104, 4, none⟩ (.int .i64 ((rd_T36 l0 x9_1).f4))).setCell ⟨gb104, 5, none⟩ (.int .i64 ((rd_T36 l0 x9_1).f5))).setCell ⟨gb104, 6, none⟩ (.int .i64 ((rd_T36 l0 x9_1).f6))).setCell ⟨gb104, 7, none⟩ (.int .i64 ((rd_T36 l0 x9_1).f7))).setCell ⟨gb104, 8, none⟩ (.int .i64 ((rd_T36 l0 x9_1).f8))).setCell ⟨gb104, 9, none⟩ (.int .i64 ((rd_T36 l0 x9_1).f9))).heap[gb102]? = some (.cells #[.int .i64 (wrap64 (Int.tmod a1 4)), .int .i64 7, .int .i64 8, .int .i64 9, .int .i64 10, u103005] 39 (0, 0))) := ⟨by (with_reducible repeat (first | refine b1_ ?_ _ | refine b2_ ?_ | refine b3_ ?_ _)); refine blk_far ?_ NB102_104.out _; (with_reducible repeat (first | refine b1_ ?_ _ | refine b2_ ?_ | refine b3_ ?_ _)); refine blk_far ?_ NB102_104.out _; (with_reducible repeat (first | refine b1_ ?_ _ | refine b2_ ?_ | refine b3_ ?_ _)); refine blk_far ?_ NB102_104.out _; (with_reducible repeat (first | refine b1_ ?_ _ | refine b2_ ?_ | refine b3_ ?_ _)); refine blk_far ?_ NB102_104.out _; (with_reducible repeat (first | refine b1_ ?_ _ | refine b2_ ?_ | refine b3_ ?_ _)); refine blk_far ?_ NB102_104.out _; (with_reducible repeat (first | refine b1_ ?_ _ | refine b2_ ?_ | refine b3_ ?_ _)); refine blk_far ?_ NB102_104.out _; (with_reducible repeat (first | refine b1_ ?_ _ | refine b2_ ?_ | refine b3_ ?_ _)); refine blk_far ?_ NB102_104.out _; (with_reducible repeat (first | refine b1_ ?_ _ | refine b2_ ?_ | refine b3_ ?_ _)); refine blk_far ?_ NB102_104.out _; (with_reducible repeat (first | refine b1_ ?_ _ | refine b2_ ?_ | refine b3_ ?_ _)); refine blk_far ?_ NB102_104.out _; (with_reducible repeat (first | refine b1_ ?_ _ | refine b2_ ?_ | refine b3_ ?_ _)); refine blk_far ?_ NB102_104.out _; (with_reducible repeat (first | refine b1_ ?_ _ | refine b2_ ?_ | refine b3_ ?_ _)); exact BK102.out⟩
         have n3_ : Aside0 (((((((((((w21.setCell ⟨gb104, 0, none⟩ (.int .i64 ((rd_T36 l0 x9_1).f0))).setCell ⟨gb104, 1, none⟩ (.int .i64 ((rd_T36 l0 x9_1).f1))).setCell ⟨gb104, 2, none⟩ (.int .i64 ((rd_T36 l0 x9_1).f2))).setCell ⟨gb104, 3, none⟩ (.int .i64 ((rd_T36 l0 x9_1).f3))).setCell ⟨gb104, 4, none⟩ (.int .i64 ((rd_T36 l0 x9_1).f4))).setCell ⟨gb104, 5, none⟩ (.int .i64 ((rd_T36 l0 x9_1).f5))).setCell ⟨gb104, 6, none⟩ (.int .i64 ((rd_T36 l0 x9_1).f6))).setCell ⟨gb104, 7, none⟩ (.int .i64 ((rd_T36 l0 x9_1).f7))).setCell ⟨gb104, 8, none⟩ (.int .i64 ((rd_T36 l0 x9_1).f8))).setCell ⟨gb104, 9, none⟩ (.int .i64 ((rd_T36 l0 x9_1).f9))).heap[gb104]? = some (.cells #[.int .i64 ((rd_T36 l0 x9_1).f0), .int .i64 ((rd_T36 l0 x9_1).f1), .int .i64 ((rd_T36 l0 x9_1).f2), .int .i64 ((rd_T36 l0 x9_1).f3), .int .i64 ((rd_T36 l0 x9_1).f4), .int .i64 ((rd_T36 l0 x9_1).f5), .int .i64 ((rd_T36 l0 x9_1).f6), .int .i64 ((rd_T36 l0 x9_1).f7), .int .i64 ((rd_T36 l0 x9_1).f8), .int .i64 ((rd_T36 l0 x9_1).f9)] 36 (0, 0))) := ⟨by (with_reducible repeat (first | refine b1_ ?_ _ | refine b2_ ?_ | refine b3_ ?_ _)); refine blk_put (cs := #[.int .i64 ((rd_T36 l0 x9_1).f0), .int .i64 ((rd_T36 l0 x9_1).f1), .int .i64 ((rd_T36 l0 x9_1).f2), .int .i64 ((rd_T36 l0 x9_1).f3), .int .i64 ((rd_T36 l0 x9_1).f4), .int .i64 ((rd_T36 l0 x9_1).f5), .int .i64 ((rd_T36 l0 x9_1).f6), .int .i64 ((rd_T36 l0 x9_1).f7), .int .i64 ((rd_T36 l0 x9_1).f8), .int .i64 0]) ?_ 9 _ rfl; (with_reducible repeat (first | refine b1_ ?_ _ | refine b2_ ?_ | refine b3_ ?_ _)); refine blk_put (cs := #[.int .i64 ((rd_T36 l0 x9_1).f0), .int .i64 ((rd_T36 l0 x9_1).f1), .int .i64 ((rd_T36 l0 x9_1).f2), .int .i64 ((rd_T36 l0 x9_1).f3), .int .i64 ((rd_T36 l0 x9_1).f4), .int .i64 ((rd_T36 l0 x9_1).f5), .int .i64 ((rd_T36 l0 x9_1).f6), .int .i64 ((rd_T36 l0 x9_1).f7), .int .i64 0, .int .i64 0]) ?_ 8 _ rfl; (with_reducible repeat (first | refine b1_ ?_ _ | refine b2_ ?_ | refine b3_ ?_ _)); refine blk_put (cs := #[.int .i64 ((rd_T36 l0 x9_1).f0), .int .i64 ((rd_T36 l0 x9_1).f1), .int .i64 ((rd_T36 l0 x9_1).f2), .int .i64 ((rd_T36 l0 x9_1).f3), .int .i64 ((rd_T36 l0 x9_1).f4), .int .i64 ((rd_T36 l0 x9_1).f5), .int .i64 ((rd_T36 l0 x9_1).f6), .int .i64 0, .int .i64 0, .int .i64 0]) ?_ 7 _ rfl; (with_reducible repeat (first | refine b1_ ?_ _ | refine b2_ ?_ | refine b3_ ?_ _)); refine blk_put (cs := #[.int .i64 ((rd_T36 l0 x9_1).f0), .int .i64 ((rd_T36 l0 x9_1).f1), .int .i64 ((rd_T36 l0 x9_1).f2), .int .i64 ((rd_T36 l0 x9_1).f3), .int .i64 ((rd_T36 l0 x9_1).f4), .int .i64 ((rd_T36 l0 x9_1).f5), .int .i64 0, .int .i64 0, .int .i64 0, .int .i64 0]) ?_ 6 _ rfl; (with_reducible repeat (first | refine b1_ ?_ _ | refine b2_ ?_ | refine b3_ ?_ _)); refine blk_put (cs := #[.int .i64 ((rd_T36 l0 x9_1).f0), .int .i64 ((rd_T36 l0 x9_1).f1), .int .i64 ((rd_T36 l0 x9_1).f2), .int .i64 ((rd_T36 l0 x9_1).f3), .int .i64 ((rd_T36 l0 x9_1).f4), .int .i64 0, .int .i64 0, .int .i64 0, .int .i64 0, .int .i64 0]) ?_ 5 _ rfl; (with_reducible repeat (first | refine b1_ ?_ _ | refine b2_ ?_ | refine b3_ ?_ _)); refine blk_put (cs := #[.int .i64 ((rd_T36 l0 x9_1).f0), .int .i64 ((rd_T36 l0 x9_1).f1), .int .i64 ((rd_T36 l0 x9_1).f2), .int .i64 ((rd_T36 l0 x9_1).f3), .int .i64 0, .int .i64 0, .int .i64 0, .int .i64 0, .int .i64 0, .int .i64 0]) ?_ 4 _ rfl; (with_reducible repeat (first | refine b1_ ?_ _ | refine b2_ ?_ | refine b3_ ?_ _)); refine blk_put (cs := #[.int .i64 ((rd_T36 l0 x9_1).f0), .int .i64 ((rd_T36 l0 x9_1).f1), .int .i64 ((rd_T36 l0 x9_1).f2), .int .i64 0, .int .i64 0, .int .i64 0, .int .i64 0, .int .i64 0, .int .i64 0, .int .i64 0]) ?_ 3 _ rfl; (with_reducible repeat (first | refine b1_ ?_ _ | refine b2_ ?_ | refine b3_ ?_ _)); refine blk_put (cs := #[.int .i64 ((rd_T36 l0 x9_1).f0), .int .i64 ((rd_T36 l0 x9_1).f1), .int .i64 0, .int .i64 0, .int .i64 0, .int .i64 0, .int .i64 0, .int .i64 0, .int .i64 0, .int .i64 0]) ?_ 2 _ rfl; (with_reducible repeat (first | refine b1_ ?_ _ | refine b2_ ?_ | refine b3_ ?_ _)); refine blk_put (cs := #[.int .i64 ((rd_T36 l0 x9_1).f0), .int .i64 0, .int .i64 0, .int .i64 0, .int .i64 0, .int .i64 0, .int .i64 0, .int .i64 0, .int .i64 0, .int .i64 0]) ?_ 1 _ rfl; (with_reducible repeat (first | refine b1_ ?_ _ | refine b2_ ?_ | refine b3_ ?_ _)); refine blk_put (cs := #[.int .i64 0, .int .i64 0, .int .i64 0, .int .i64 0, .int .i64 0, .int .i64 0, .int .i64 0, .int .i64 0, .int .i64 0, .int .i64 0]) ?_ 0 _ rfl; (with_reducible repeat (first | refine b1_ ?_ _ | refine b2_ ?_ | refine b3_ ?_ _)); exact BK104.out⟩
         have n4_ : Aside0 (Below w.heap.size w ((((((((((w21.setCell ⟨gb104, 0, none⟩ (.int .i64 ((rd_T36 l0 x9_1).f0))).setCell ⟨gb104, 1, none⟩ (.int .i64 ((rd_T36 l0 x9_1).f1))).setCell ⟨gb104, 2, none⟩ (.int .i64 ((rd_T36 l0 x9_1).f2))).setCell ⟨gb104, 3, none⟩ (.int .i64 ((rd_T36 l0 x9_1).f3))).setCell ⟨gb104, 4, none⟩ (.int .i64 ((rd_T36 l0 x9_1).f4))).setCell ⟨gb104, 5, none⟩ (.int .i64 ((rd_T36 l0 x9_1).f5))).setCell ⟨gb104, 6, none⟩ (.int .i64 ((rd_T36 l0 x9_1).f6))).setCell ⟨gb104, 7, none⟩ (.int .i64 ((rd_T36 l0 x9_1).f7))).setCell ⟨gb104, 8, none⟩ (.int .i64 ((rd_T36 l0 x9_1).f8))).setCell ⟨gb104, 9, none⟩ (.int .i64 ((rd_T36 l0 x9_1).f9)))) := ⟨by repeat (first | (with_reducible first | exact HB.out | apply below_alloc | apply pw_below_drewN | apply below_drew1 | refine below_set ?_ GE101.out | refine below_set ?_ GE102.out | refine below_set ?_ GE104.out) | exact HB.out)⟩
         (try clear HO_103005)
         (try clear BK101)
         (try clear BK102)
         (try clear BK104)
         (try clear HB)
         generalize ((((((((((w21.setCell ⟨gb104, 0, none⟩ (.int .i64 ((rd_T36 l0 x9_1).f0))).setCell ⟨gb104, 1, none⟩ (.int .i64 ((rd_T36 l0 x9_1).f1))).setCell ⟨gb104, 2, none⟩ (.int .i64 ((rd_T36 l0 x9_1).f2))).setCell ⟨gb104, 3, none⟩ (.int .i64 ((rd_T36 l0 x9_1).f3))).setCell ⟨gb104, 4, none⟩ (.int .i64 ((rd_T36 l0 x9_1).f4))).setCell ⟨gb104, 5, none⟩ (.int .i64 ((rd_T36 l0 x9_1).f5))).setCell ⟨gb104, 6, none⟩ (.int .i64 ((rd_T36 l0 x9_1).f6))).setCell ⟨gb104, 7, none⟩ (.int .i64 ((rd_T36 l0 x9_1).f7))).setCell ⟨gb104, 8, none⟩ (.int .i64 ((rd_T36 l0 x9_1).f8))).setCell ⟨gb104, 9, none⟩ (.int .i64 ((rd_T36 l0 x9_1).f9))) = w25 at n0_ n1_ n2_ n3_ n4_ ⊢
         have HO_103005 := n0_
         have BK101 := n1_
         have BK102 := n2_
         have BK104 := n3_
         have HB := n4_
         clear n0_ n1_ n2_ n3_ n4_
         have n0_ := Aside0.mk (Kd.R_drew HO_103005.out)
         have n1_ := Aside0.mk (blk_drew BK101.out)
         have n2_ := Aside0.mk (blk_drew BK102.out)
         have n3_ := Aside0.mk (blk_drew BK104.out)
         have n4_ := Aside0.mk (below_drew1 HB.out)
         clear HO_103005
         clear BK101
         clear BK102
         clear BK104
         clear HB
         have HO_103005 := n0_
         have BK101 := n1_
         have BK102 := n2_
         have BK104 := n3_
         have HB := n4_
         clear n0_ n1_ n2_ n3_ n4_
         refine start_ (n := 31) (S := fun w' => w'.cell? ⟨gb104, 0, none⟩ = some (.int .i64 ((rd_T36 l0 x9_1).f0)) ∧ w'.cell? ⟨gb104, 1, none⟩ = some (.int .i64 ((rd_T36 l0 x9_1).f1)) ∧ w'.cell? ⟨gb104, 2, none⟩ = some (.int .i64 ((rd_T36 l0 x9_1).f2)) ∧ w'.cell? ⟨gb104, 3, none⟩ = some (.int .i64 ((rd_T36 l0 x9_1).f3)) ∧ w'.cell? ⟨gb104, 4, none⟩ = some (.int .i64 ((rd_T36 l0 x9_1).f4)) ∧ w'.cell? ⟨gb104, 5, none⟩ = some (.int .i64 ((rd_T36 l0 x9_1).f5)) ∧ w'.cell? ⟨gb104, 6, none⟩ = some (.int .i64 ((rd_T36 l0 x9_1).f6)) ∧ w'.cell? ⟨gb104, 7, none⟩ = some (.int .i64 ((rd_T36 l0 x9_1).f7)) ∧ w'.cell? ⟨gb104, 8, none⟩ = some (.int .i64 ((rd_T36 l0 x9_1).f8)) ∧ w'.cell? ⟨gb104, 9, none⟩ = some (.int .i64 ((rd_T36 l0 x9_1).f9))) (ds := []) #[ff,ff,ff,ff,ff,ff,ff,ff,ff,ff,ff,ff,ff,ff,ff,ff,ff,ff,ff,ff,ff,ff,ff,ff,ff,ff,ff,ff,ff,ff,ff] (by kernel_rfl) rfl rfl ⟨(blk_cell BK104.out 0).trans rfl, (blk_cell BK104.out 1).trans rfl, (blk_cell BK104.out 2).trans rfl, (blk_cell BK104.out 3).trans rfl, (blk_cell BK104.out 4).trans rfl, (blk_cell BK104.out 5).trans rfl, (blk_cell BK104.out 6).trans rfl, (blk_cell BK104.out 7).trans rfl, (blk_cell BK104.out 8).trans rfl, (blk_cell BK104.out 9).trans rfl⟩ (fun hHeld => ?_); refine with_tabW laws_someOut.tab7 laws_someOut.bits7 (fun HT_ HW_ => ?_)
         generalize w25.drew = w26 at HO_103005 BK101 BK102 BK104 HB hHeld ⊢
         refine pure_ (i := 0) (N := some 30) (v := ?_) (a' := ?_) #[tt,ff,ff,ff,ff,ff,ff,ff,ff,ff,ff,ff,ff,ff,ff,ff,ff,ff,ff,ff,ff,ff,ff,ff,ff,ff,ff,ff,ff,ff,ff] rfl rfl (any_of HT_.out (by kernel_rfl)) (fun _ _ _ h => h) (Or.inl ⟨by rfl, ?_⟩) ?_ ?_
         rotate_left
         ·intro w'
          go_simp
          with_reducible rfl
         rotate_left
         ·simp only [Act.put, L1_, L2_, L3_, i64_w, i32_w]
          rfl
         refine pure_ (i := 1) (N := some 31) (v := ?_) (a' := ?_) #[tt,tt,ff,ff,ff,ff,ff,ff,ff,ff,ff,ff,ff,ff,ff,ff,ff,ff,ff,ff,ff,ff,ff,ff,ff,ff,ff,ff,ff,ff,ff] rfl rfl (any_of HT_.out (by kernel_rfl)) (fun _ _ _ h => h) (Or.inl ⟨by rfl, ?_⟩) ?_ ?_
         rotate_left
         ·intro w'
          go_simp
          with_reducible rfl
         rotate_left
         ·simp only [Act.put, L1_, L2_, L3_, i64_w, i32_w]
          rfl
         refine pure_ (i := 4) (N := some 34) (v := ?_) (a' := ?_) #[tt,tt,ff,ff,tt,ff,ff,ff,ff,ff,ff,ff,ff,ff,ff,ff,ff,ff,ff,ff,ff,ff,ff,ff,ff,ff,ff,ff,ff,ff,ff] rfl rfl (any_of HT_.out (by kernel_rfl)) (fun _ _ _ h => h) (Or.inl ⟨by rfl, ?_⟩) ?_ ?_
         rotate_left
         ·intro w'
          go_simp
          with_reducible rfl
         rotate_left
         ·simp only [Act.put, L1_, L2_, L3_, i64_w, i32_w]
          rfl
         refine pure_ (i := 5) (N := some 35) (v := ?_) (a' := ?_) #[tt,tt,ff,ff,tt,tt,ff,ff,ff,ff,ff,ff,ff,ff,ff,ff,ff,ff,ff,ff,ff,ff,ff,ff,ff,ff,ff,ff,ff,ff,ff] rfl rfl (any_of HT_.out (by kernel_rfl)) (fun _ _ _ h => h) (Or.inl ⟨by rfl, ?_⟩) ?_ ?_
         rotate_left
         ·intro w'
          go_simp
          with_reducible rfl
         rotate_left
         ·simp only [Act.put, L1_, L2_, L3_, i64_w, i32_w]
          rfl
         refine pure_ (i := 8) (N := some 38) (v := ?_) (a' := ?_) #[tt,tt,ff,ff,tt,tt,ff,ff,tt,ff,ff,ff,ff,ff,ff,ff,ff,ff,ff,ff,ff,ff,ff,ff,ff,ff,ff,ff,ff,ff,ff] rfl rfl (any_of HT_.out (by kernel_rfl)) (fun _ _ _ h => h) (Or.inl ⟨by rfl, ?_⟩) ?_ ?_
         rotate_left
         ·intro w'
          go_simp
          with_reducible rfl
         rotate_left
         ·simp only [Act.put, L1_, L2_, L3_, i64_w, i32_w]
          rfl
         refine pure_ (i := 9) (N := some 39) (v := ?_) (a' := ?_) #[tt,tt,ff,ff,tt,tt,ff,ff,tt,tt,ff,ff,ff,ff,ff,ff,ff,ff,ff,ff,ff,ff,ff,ff,ff,ff,ff,ff,ff,ff,ff] rfl rfl (any_of HT_.out (by kernel_rfl)) (fun _ _ _ h => h) (Or.inl ⟨by rfl, ?_⟩) ?_ ?_
         rotate_left
         ·intro w'
          go_simp
          with_reducible rfl
         rotate_left
         ·simp only [Act.put, L1_, L2_, L3_, i64_w, i32_w]
          rfl
         refine pure_ (i := 12) (N := some 42) (v := ?_) (a' := ?_) #[tt,tt,ff,ff,tt,tt,ff,ff,tt,tt,ff,ff,tt,ff,ff,ff,ff,ff,ff,ff,ff,ff,ff,ff,ff,ff,ff,ff,ff,ff,ff] rfl rfl (any_of HT_.out (by kernel_rfl)) (fun _ _ _ h => h) (Or.inl ⟨by rfl, ?_⟩) ?_ ?_
         rotate_left
         ·intro w'
          go_simp
          with_reducible rfl
         rotate_left
         ·simp only [Act.put, L1_, L2_, L3_, i64_w, i32_w]
          rfl
         refine pure_ (i := 13) (N := some 43) (v := ?_) (a' := ?_) #[tt,tt,ff,ff,tt,tt,ff,ff,tt,tt,ff,ff,tt,tt,ff,ff,ff,ff,ff,ff,ff,ff,ff,ff,ff,ff,ff,ff,ff,ff,ff] rfl rfl (any_of HT_.out (by kernel_rfl)) (fun _ _ _ h => h) (Or.inl ⟨by rfl, ?_⟩) ?_ ?_
         rotate_left
         ·intro w'
          go_simp
          with_reducible rfl
         rotate_left
         ·simp only [Act.put, L1_, L2_, L3_, i64_w, i32_w]
          rfl
         refine pure_ (i := 16) (N := some 46) (v := ?_) (a' := ?_) #[tt,tt,ff,ff,tt,tt,ff,ff,tt,tt,ff,ff,tt,tt,ff,ff,tt,ff,ff,ff,ff,ff,ff,ff,ff,ff,ff,ff,ff,ff,ff] rfl rfl (any_of HT_.out (by kernel_rfl)) (fun _ _ _ h => h) (Or.inl ⟨by rfl, ?_⟩) ?_ ?_
         rotate_left
         ·intro w'
          go_simp
          with_reducible rfl
         rotate_left
         ·simp only [Act.put, L1_, L2_, L3_, i64_w, i32_w]
          rfl
         refine pure_ (i := 17) (N := some 47) (v := ?_) (a' := ?_) #[tt,tt,ff,ff,tt,tt,ff,ff,tt,tt,ff,ff,tt,tt,ff,ff,tt,tt,ff,ff,ff,ff,ff,ff,ff,ff,ff,ff,ff,ff,ff] rfl rfl (any_of HT_.out (by kernel_rfl)) (fun _ _ _ h => h) (Or.inl ⟨by rfl, ?_⟩) ?_ ?_
         rotate_left
         ·intro w'
          go_simp
          with_reducible rfl
         rotate_left
         ·simp only [Act.put, L1_, L2_, L3_, i64_w, i32_w]
          rfl
         refine pure_ (i := 20) (N := some 50) (v := ?_) (a' := ?_) #[tt,tt,ff,ff,tt,tt,ff,ff,tt,tt,ff,ff,tt,tt,ff,ff,tt,tt,ff,ff,tt,ff,ff,ff,ff,ff,ff,ff,ff,ff,ff] rfl rfl (any_of HT_.out (by kernel_rfl)) (fun _ _ _ h => h) (Or.inl ⟨by rfl, ?_⟩) ?_ ?_
         rotate_left
         ·intro w'
          go_simp
          with_reducible rfl
         rotate_left
         ·simp only [Act.put, L1_, L2_, L3_, i64_w, i32_w]
          rfl
         refine pure_ (i := 21) (N := some 51) (v := ?_) (a' := ?_) #[tt,tt,ff,ff,tt,tt,ff,ff,tt,tt,ff,ff,tt,tt,ff,ff,tt,tt,ff,ff,tt,tt,ff,ff,ff,ff,ff,ff,ff,ff,ff] rfl rfl (any_of HT_.out (by kernel_rfl)) (fun _ _ _ h => h) (Or.inl ⟨by rfl, ?_⟩) ?_ ?_
         rotate_left
         ·intro w'
          go_simp
          with_reducible rfl
         rotate_left
         ·simp only [Act.put, L1_, L2_, L3_, i64_w, i32_w]
          rfl
         refine pure_ (i := 24) (N := some 54) (v := ?_) (a' := ?_) #[tt,tt,ff,ff,tt,tt,ff,ff,tt,tt,ff,ff,tt,tt,ff,ff,tt,tt,ff,ff,tt,tt,ff,ff,tt,ff,ff,ff,ff,ff,ff] rfl rfl (any_of HT_.out (by kernel_rfl)) (fun _ _ _ h => h) (Or.inl ⟨by rfl, ?_⟩) ?_ ?_
         rotate_left
         ·intro w'
          go_simp
          with_reducible rfl
         rotate_left
         ·simp only [Act.put, L1_, L2_, L3_, i64_w, i32_w]
          rfl
         refine pure_ (i := 25) (N := some 55) (v := ?_) (a' := ?_) #[tt,tt,ff,ff,tt,tt,ff,ff,tt,tt,ff,ff,tt,tt,ff,ff,tt,tt,ff,ff,tt,tt,ff,ff,tt,tt,ff,ff,ff,ff,ff] rfl rfl (any_of HT_.out (by kernel_rfl)) (fun _ _ _ h => h) (Or.inl ⟨by rfl, ?_⟩) ?_ ?_
         rotate_left
         ·intro w'
          go_simp
          with_reducible rfl
         rotate_left
         ·simp only [Act.put, L1_, L2_, L3_, i64_w, i32_w]
          rfl
         refine take_ (i := 2) (N := some 32) (v := ?_) (a' := ?_) #[tt,tt,tt,ff,tt,tt,ff,ff,tt,tt,ff,ff,tt,tt,ff,ff,tt,tt,ff,ff,tt,tt,ff,ff,tt,tt,ff,ff,ff,ff,ff] rfl rfl (take_ofW HT_.out HW_.out (by kernel_rfl)) (fun _ _ _ h => h) (Or.inl ⟨by rfl, ?_⟩) hHeld ?_ ?_
         rotate_left
         ·rintro w' ⟨s0, s1, s2, s3, s4, s5, s6, s7, s8, s9⟩
          go_simp
          with_reducible rfl
         rotate_left
         ·simp only [Act.put, L1_, L2_, L3_, i64_w, i32_w]
          rfl
         refine take_ (i := 6) (N := some 36) (v := ?_) (a' := ?_) #[tt,tt,tt,ff,tt,tt,tt,ff,tt,tt,ff,ff,tt,tt,ff,ff,tt,tt,ff,ff,tt,tt,ff,ff,tt,tt,ff,ff,ff,ff,ff] rfl rfl (take_ofW HT_.out HW_.out (by kernel_rfl)) (fun _ _ _ h => h) (Or.inl ⟨by rfl, ?_⟩) hHeld ?_ ?_
         rotate_left
         ·rintro w' ⟨s0, s1, s2, s3, s4, s5, s6, s7, s8, s9⟩
          go_simp
          with_reducible rfl
         rotate_left
         ·simp only [Act.put, L1_, L2_, L3_, i64_w, i32_w]
          rfl
         refine take_ (i := 10) (N := some 40) (v := ?_) (a' := ?_) #[tt,tt,tt,ff,tt,tt,tt,ff,tt,tt,tt,ff,tt,tt,ff,ff,tt,tt,ff,ff,tt,tt,ff,ff,tt,tt,ff,ff,ff,ff,ff] rfl rfl (take_ofW HT_.out HW_.out (by kernel_rfl)) (fun _ _ _ h => h) (Or.inl ⟨by rfl, ?_⟩) hHeld ?_ ?_
         rotate_left
         ·rintro w' ⟨s0, s1, s2, s3, s4, s5, s6, s7, s8, s9⟩
          go_simp
          with_reducible rfl
         rotate_left
         ·simp only [Act.put, L1_, L2_, L3_, i64_w, i32_w]
          rfl
         refine take_ (i := 14) (N := some 44) (v := ?_) (a' := ?_) #[tt,tt,tt,ff,tt,tt,tt,ff,tt,tt,tt,ff,tt,tt,tt,ff,tt,tt,ff,ff,tt,tt,ff,ff,tt,tt,ff,ff,ff,ff,ff] rfl rfl (take_ofW HT_.out HW_.out (by kernel_rfl)) (fun _ _ _ h => h) (Or.inl ⟨by rfl, ?_⟩) hHeld ?_ ?_
         rotate_left
         ·rintro w' ⟨s0, s1, s2, s3, s4, s5, s6, s7, s8, s9⟩
          go_simp
          with_reducible rfl
         rotate_left
         ·simp only [Act.put, L1_, L2_, L3_, i64_w, i32_w]
          rfl
         refine take_ (i := 18) (N := some 48) (v := ?_) (a' := ?_) #[tt,tt,tt,ff,tt,tt,tt,ff,tt,tt,tt,ff,tt,tt,tt,ff,tt,tt,tt,ff,tt,tt,ff,ff,tt,tt,ff,ff,ff,ff,ff] rfl rfl (take_ofW HT_.out HW_.out (by kernel_rfl)) (fun _ _ _ h => h) (Or.inl ⟨by rfl, ?_⟩) hHeld ?_ ?_
         rotate_left
         ·rintro w' ⟨s0, s1, s2, s3, s4, s5, s6, s7, s8, s9⟩
          go_simp
          with_reducible rfl
         rotate_left
         ·simp only [Act.put, L1_, L2_, L3_, i64_w, i32_w]
          rfl
         refine take_ (i := 22) (N := some 52) (v := ?_) (a' := ?_) #[tt,tt,tt,ff,tt,tt,tt,ff,tt,tt,tt,ff,tt,tt,tt,ff,tt,tt,tt,ff,tt,tt,tt,ff,tt,tt,ff,ff,ff,ff,ff] rfl rfl (take_ofW HT_.out HW_.out (by kernel_rfl)) (fun _ _ _ h => h) (Or.inl ⟨by rfl, ?_⟩) hHeld ?_ ?_
         rotate_left
         ·rintro w' ⟨s0, s1, s2, s3, s4, s5, s6, s7, s8, s9⟩
          go_simp
          with_reducible rfl
         rotate_left
         ·simp only [Act.put, L1_, L2_, L3_, i64_w, i32_w]
          rfl
         refine take_ (i := 26) (N := some 56) (v := ?_) (a' := ?_) #[tt,tt,tt,ff,tt,tt,tt,ff,tt,tt,tt,ff,tt,tt,tt,ff,tt,tt,tt,ff,tt,tt,tt,ff,tt,tt,tt,ff,ff,ff,ff] rfl rfl (take_ofW HT_.out HW_.out (by kernel_rfl)) (fun _ _ _ h => h) (Or.inl ⟨by rfl, ?_⟩) hHeld ?_ ?_
         rotate_left
         ·rintro w' ⟨s0, s1, s2, s3, s4, s5, s6, s7, s8, s9⟩
          go_simp
          with_reducible rfl
         rotate_left
         ·simp only [Act.put, L1_, L2_, L3_, i64_w, i32_w]
          rfl
         refine join_ (σ := Nat) 1 #[tt,tt,tt,tt,tt,tt,tt,tt,tt,tt,tt,tt,tt,tt,tt,tt,tt,tt,tt,tt,tt,tt,tt,tt,tt,tt,tt,tt,tt,tt,ff] (fun s_ => [(33, .int .i64 t105), (37, .int .i64 t106), (41, .int .i64 t107), (45, .int .i64 t108), (49, .int .i64 t109), (53, .int .i64 t110), (57, .int .i64 t111), (11, .pointer (some ⟨s_, 0, none⟩)), (58, .agg #[.int .i64 t105, .int .i64 t106, .int .i64 t107, .int .i64 t108, .int .i64 t109, .int .i64 t110, .int .i64 t111, .int .i64 0, .int .i64 0, .int .i64 0])]) (fun s_ w' => (w'.cell? ⟨gb104, 0, none⟩ = some (.int .i64 ((rd_T36 l0 x9_1).f0)) ∧ w'.cell? ⟨gb104, 1, none⟩ = some (.int .i64 ((rd_T36 l0 x9_1).f1)) ∧ w'.cell? ⟨gb104, 2, none⟩ = some (.int .i64 ((rd_T36 l0 x9_1).f2)) ∧ w'.cell? ⟨gb104, 3, none⟩ = some (.int .i64 ((rd_T36 l0 x9_1).f3)) ∧ w'.cell? ⟨gb104, 4, none⟩ = some (.int .i64 ((rd_T36 l0 x9_1).f4)) ∧ w'.cell? ⟨gb104, 5, none⟩ = some (.int .i64 ((rd_T36 l0 x9_1).f5)) ∧ w'.cell? ⟨gb104, 6, none⟩ = some (.int .i64 ((rd_T36 l0 x9_1).f6)) ∧ w'.cell? ⟨gb104, 7, none⟩ = some (.int .i64 ((rd_T36 l0 x9_1).f7)) ∧ w'.cell? ⟨gb104, 8, none⟩ = some (.int .i64 ((rd_T36 l0 x9_1).f8)) ∧ w'.cell? ⟨gb104, 9, none⟩ = some (.int .i64 ((rd_T36 l0 x9_1).f9))) ∧ (Kd.R k36 36 w' w.heap.size (fun k_ => k_ ≠ gb104 ∧ k_ ≠ s_) u103005 x103005_1) ∧ (w'.heap[gb101]? = some (.cells #[.int .i64 0, .int .i64 0, .int .i64 0, .int .i64 0, .int .i64 0, .slice none 0 0] 39 (0, 0))) ∧ (w'.heap[gb102]? = some (.cells #[.int .i64 (wrap64 (Int.tmod a1 4)), .int .i64 7, .int .i64 8, .int .i64 9, .int .i64 10, u103005] 39 (0, 0))) ∧ (w'.heap[gb104]? = some (.cells #[.int .i64 ((rd_T36 l0 x9_1).f0), .int .i64 ((rd_T36 l0 x9_1).f1), .int .i64 ((rd_T36 l0 x9_1).f2), .int .i64 ((rd_T36 l0 x9_1).f3), .int .i64 ((rd_T36 l0 x9_1).f4), .int .i64 ((rd_T36 l0 x9_1).f5), .int .i64 ((rd_T36 l0 x9_1).f6), .int .i64 ((rd_T36 l0 x9_1).f7), .int .i64 ((rd_T36 l0 x9_1).f8), .int .i64 ((rd_T36 l0 x9_1).f9)] 36 (0, 0))) ∧ (w'.heap[s_]? = some (.cells #[.int .i64 0, .int .i64 0, .int .i64 0, .int .i64 0, .int .i64 0, .int .i64 0, .int .i64 0, .int .i64 0, .int .i64 0, .int .i64 0] 36 (0, 0))) ∧ (w.heap.size ≤ s_) ∧ (w.heap.size ≤ s_) ∧ (gb101 ≠ s_) ∧ (s_ ≠ gb101) ∧ (gb102 ≠ s_) ∧ (s_ ≠ gb102) ∧ (gb104 ≠ s_) ∧ (s_ ≠ gb104) ∧ (Below w.heap.size w w')) ?_ ?_
         rotate_left
         ·intro hJ3_7_11_15_19_23_27_29
          refine join_ (σ := Unit) 2 #[tt,tt,tt,tt,tt,tt,tt,tt,tt,tt,tt,tt,tt,tt,tt,tt,tt,tt,tt,tt,tt,tt,tt,tt,tt,tt,tt,tt,tt,ff,ff] (fun s_ => [(33, .int .i64 t105), (37, .int .i64 t106), (41, .int .i64 t107), (45, .int .i64 t108), (49, .int .i64 t109), (53, .int .i64 t110), (57, .int .i64 t111), (58, .agg #[.int .i64 t105, .int .i64 t106, .int .i64 t107, .int .i64 t108, .int .i64 t109, .int .i64 t110, .int .i64 t111, .int .i64 0, .int .i64 0, .int .i64 0])]) (fun s_ w' => (w'.cell? ⟨gb104, 0, none⟩ = some (.int .i64 ((rd_T36 l0 x9_1).f0)) ∧ w'.cell? ⟨gb104, 1, none⟩ = some (.int .i64 ((rd_T36 l0 x9_1).f1)) ∧ w'.cell? ⟨gb104, 2, none⟩ = some (.int .i64 ((rd_T36 l0 x9_1).f2)) ∧ w'.cell? ⟨gb104, 3, none⟩ = some (.int .i64 ((rd_T36 l0 x9_1).f3)) ∧ w'.cell? ⟨gb104, 4, none⟩ = some (.int .i64 ((rd_T36 l0 x9_1).f4)) ∧ w'.cell? ⟨gb104, 5, none⟩ = some (.int .i64 ((rd_T36 l0 x9_1).f5)) ∧ w'.cell? ⟨gb104, 6, none⟩ = some (.int .i64 ((rd_T36 l0 x9_1).f6)) ∧ w'.cell? ⟨gb104, 7, none⟩ = some (.int .i64 ((rd_T36 l0 x9_1).f7)) ∧ w'.cell? ⟨gb104, 8, none⟩ = some (.int .i64 ((rd_T36 l0 x9_1).f8)) ∧ w'.cell? ⟨gb104, 9, none⟩ = some (.int .i64 ((rd_T36 l0 x9_1).f9))) ∧ (Kd.R k36 36 w' w.heap.size (fun k_ => k_ ≠ gb104) u103005 x103005_1) ∧ (w'.heap[gb101]? = some (.cells #[.int .i64 0, .int .i64 0, .int .i64 0, .int .i64 0, .int .i64 0, .slice none 0 0] 39 (0, 0))) ∧ (w'.heap[gb102]? = some (.cells #[.int .i64 (wrap64 (Int.tmod a1 4)), .int .i64 7, .int .i64 8, .int .i64 9, .int .i64 10, u103005] 39 (0, 0))) ∧ (w'.heap[gb104]? = some (.cells #[.int .i64 ((rd_T36 l0 x9_1).f0), .int .i64 ((rd_T36 l0 x9_1).f1), .int .i64 ((rd_T36 l0 x9_1).f2), .int .i64 ((rd_T36 l0 x9_1).f3), .int .i64 ((rd_T36 l0 x9_1).f4), .int .i64 ((rd_T36 l0 x9_1).f5), .int .i64 ((rd_T36 l0 x9_1).f6), .int .i64 ((rd_T36 l0 x9_1).f7), .int .i64 ((rd_T36 l0 x9_1).f8), .int .i64 ((rd_T36 l0 x9_1).f9)] 36 (0, 0))) ∧ (Below w.heap.size w w')) ?_ ?_
          rotate_left
          ·intro hJ3_7_11_15_19_23_27
           refine join_ (σ := Nat) 3 #[tt,tt,tt,tt,tt,tt,tt,tt,tt,tt,tt,tt,tt,tt,tt,tt,tt,tt,tt,tt,tt,tt,tt,tt,tt,tt,tt,ff,ff,tt,ff] (fun s_ => [(33, .int .i64 t105), (37, .int .i64 t106), (41, .int .i64 t107), (45, .int .i64 t108), (49, .int .i64 t109), (53, .int .i64 t110), (11, .pointer (some ⟨s_, 0, none⟩))]) (fun s_ w' => (w'.cell? ⟨gb104, 0, none⟩ = some (.int .i64 ((rd_T36 l0 x9_1).f0)) ∧ w'.cell? ⟨gb104, 1, none⟩ = some (.int .i64 ((rd_T36 l0 x9_1).f1)) ∧ w'.cell? ⟨gb104, 2, none⟩ = some (.int .i64 ((rd_T36 l0 x9_1).f2)) ∧ w'.cell? ⟨gb104, 3, none⟩ = some (.int .i64 ((rd_T36 l0 x9_1).f3)) ∧ w'.cell? ⟨gb104, 4, none⟩ = some (.int .i64 ((rd_T36 l0 x9_1).f4)) ∧ w'.cell? ⟨gb104, 5, none⟩ = some (.int .i64 ((rd_T36 l0 x9_1).f5)) ∧ w'.cell? ⟨gb104, 6, none⟩ = some (.int .i64 ((rd_T36 l0 x9_1).f6)) ∧ w'.cell? ⟨gb104, 7, none⟩ = some (.int .i64 ((rd_T36 l0 x9_1).f7)) ∧ w'.cell? ⟨gb104, 8, none⟩ = some (.int .i64 ((rd_T36 l0 x9_1).f8)) ∧ w'.cell? ⟨gb104, 9, none⟩ = some (.int .i64 ((rd_T36 l0 x9_1).f9))) ∧ (Kd.R k36 36 w' w.heap.size (fun k_ => k_ ≠ gb104 ∧ k_ ≠ s_) u103005 x103005_1) ∧ (w'.heap[gb101]? = some (.cells #[.int .i64 0, .int .i64 0, .int .i64 0, .int .i64 0, .int .i64 0, .slice none 0 0] 39 (0, 0))) ∧ (w'.heap[gb102]? = some (.cells #[.int .i64 (wrap64 (Int.tmod a1 4)), .int .i64 7, .int .i64 8, .int .i64 9, .int .i64 10, u103005] 39 (0, 0))) ∧ (w'.heap[gb104]? = some (.cells #[.int .i64 ((rd_T36 l0 x9_1).f0), .int .i64 ((rd_T36 l0 x9_1).f1), .int .i64 ((rd_T36 l0 x9_1).f2), .int .i64 ((rd_T36 l0 x9_1).f3), .int .i64 ((rd_T36 l0 x9_1).f4), .int .i64 ((rd_T36 l0 x9_1).f5), .int .i64 ((rd_T36 l0 x9_1).f6), .int .i64 ((rd_T36 l0 x9_1).f7), .int .i64 ((rd_T36 l0 x9_1).f8), .int .i64 ((rd_T36 l0 x9_1).f9)] 36 (0, 0))) ∧ (w'.heap[s_]? = some (.cells #[.int .i64 0, .int .i64 0, .int .i64 0, .int .i64 0, .int .i64 0, .int .i64 0, .int .i64 0, .int .i64 0, .int .i64 0, .int .i64 0] 36 (0, 0))) ∧ (w.heap.size ≤ s_) ∧ (w.heap.size ≤ s_) ∧ (gb101 ≠ s_) ∧ (s_ ≠ gb101) ∧ (gb102 ≠ s_) ∧ (s_ ≠ gb102) ∧ (gb104 ≠ s_) ∧ (s_ ≠ gb104) ∧ (Below w.heap.size w w')) ?_ ?_
           rotate_left
           ·intro hJ3_7_11_15_19_23_29
            refine join_ (σ := Unit) 4 #[tt,tt,tt,tt,tt,tt,tt,tt,tt,tt,tt,tt,tt,tt,tt,tt,tt,tt,tt,tt,tt,tt,tt,tt,tt,tt,tt,ff,ff,ff,ff] (fun s_ => [(33, .int .i64 t105), (37, .int .i64 t106), (41, .int .i64 t107), (45, .int .i64 t108), (49, .int .i64 t109), (53, .int .i64 t110)]) (fun s_ w' => (w'.cell? ⟨gb104, 0, none⟩ = some (.int .i64 ((rd_T36 l0 x9_1).f0)) ∧ w'.cell? ⟨gb104, 1, none⟩ = some (.int .i64 ((rd_T36 l0 x9_1).f1)) ∧ w'.cell? ⟨gb104, 2, none⟩ = some (.int .i64 ((rd_T36 l0 x9_1).f2)) ∧ w'.cell? ⟨gb104, 3, none⟩ = some (.int .i64 ((rd_T36 l0 x9_1).f3)) ∧ w'.cell? ⟨gb104, 4, none⟩ = some (.int .i64 ((rd_T36 l0 x9_1).f4)) ∧ w'.cell? ⟨gb104, 5, none⟩ = some (.int .i64 ((rd_T36 l0 x9_1).f5)) ∧ w'.cell? ⟨gb104, 6, none⟩ = some (.int .i64 ((rd_T36 l0 x9_1).f6)) ∧ w'.cell? ⟨gb104, 7, none⟩ = some (.int .i64 ((rd_T36 l0 x9_1).f7)) ∧ w'.cell? ⟨gb104, 8, none⟩ = some (.int .i64 ((rd_T36 l0 x9_1).f8)) ∧ w'.cell? ⟨gb104, 9, none⟩ = some (.int .i64 ((rd_T36 l0 x9_1).f9))) ∧ (Kd.R k36 36 w' w.heap.size (fun k_ => k_ ≠ gb104) u103005 x103005_1) ∧ (w'.heap[gb101]? = some (.cells #[.int .i64 0, .int .i64 0, .int .i64 0, .int .i64 0, .int .i64 0, .slice none 0 0] 39 (0, 0))) ∧ (w'.heap[gb102]? = some (.cells #[.int .i64 (wrap64 (Int.tmod a1 4)), .int .i64 7, .int .i64 8, .int .i64 9, .int .i64 10, u103005] 39 (0, 0))) ∧ (w'.heap[gb104]? = some (.cells #[.int .i64 ((rd_T36 l0 x9_1).f0), .int .i64 ((rd_T36 l0 x9_1).f1), .int .i64 ((rd_T36 l0 x9_1).f2), .int .i64 ((rd_T36 l0 x9_1).f3), .int .i64 ((rd_T36 l0 x9_1).f4), .int .i64 ((rd_T36 l0 x9_1).f5), .int .i64 ((rd_T36 l0 x9_1).f6), .int .i64 ((rd_T36 l0 x9_1).f7), .int .i64 ((rd_T36 l0 x9_1).f8), .int .i64 ((rd_T36 l0 x9_1).f9)] 36 (0, 0))) ∧ (Below w.heap.size w w')) ?_ ?_
            rotate_left
            ·intro hJ3_7_11_15_19_23
             refine join_ (σ := Nat) 4 #[tt,tt,tt,tt,tt,tt,tt,tt,tt,tt,tt,tt,tt,tt,tt,tt,tt,tt,tt,tt,tt,tt,tt,ff,tt,tt,tt,ff,ff,tt,ff] (fun s_ => [(33, .int .i64 t105), (37, .int .i64 t106), (41, .int .i64 t107), (45, .int .i64 t108), (49, .int .i64 t109), (11, .pointer (some ⟨s_, 0, none⟩))]) (fun s_ w' => (w'.cell? ⟨gb104, 0, none⟩ = some (.int .i64 ((rd_T36 l0 x9_1).f0)) ∧ w'.cell? ⟨gb104, 1, none⟩ = some (.int .i64 ((rd_T36 l0 x9_1).f1)) ∧ w'.cell? ⟨gb104, 2, none⟩ = some (.int .i64 ((rd_T36 l0 x9_1).f2)) ∧ w'.cell? ⟨gb104, 3, none⟩ = some (.int .i64 ((rd_T36 l0 x9_1).f3)) ∧ w'.cell? ⟨gb104, 4, none⟩ = some (.int .i64 ((rd_T36 l0 x9_1).f4)) ∧ w'.cell? ⟨gb104, 5, none⟩ = some (.int .i64 ((rd_T36 l0 x9_1).f5)) ∧ w'.cell? ⟨gb104, 6, none⟩ = some (.int .i64 ((rd_T36 l0 x9_1).f6)) ∧ w'.cell? ⟨gb104, 7, none⟩ = some (.int .i64 ((rd_T36 l0 x9_1).f7)) ∧ w'.cell? ⟨gb104, 8, none⟩ = some (.int .i64 ((rd_T36 l0 x9_1).f8)) ∧ w'.cell? ⟨gb104, 9, none⟩ = some (.int .i64 ((rd_T36 l0 x9_1).f9))) ∧ (Kd.R k36 36 w' w.heap.size (fun k_ => k_ ≠ gb104 ∧ k_ ≠ s_) u103005 x103005_1) ∧ (w'.heap[gb101]? = some (.cells #[.int .i64 0, .int .i64 0, .int .i64 0, .int .i64 0, .int .i64 0, .slice none 0 0] 39 (0, 0))) ∧ (w'.heap[gb102]? = some (.cells #[.int .i64 (wrap64 (Int.tmod a1 4)), .int .i64 7, .int .i64 8, .int .i64 9, .int .i64 10, u103005] 39 (0, 0))) ∧ (w'.heap[gb104]? = some (.cells #[.int .i64 ((rd_T36 l0 x9_1).f0), .int .i64 ((rd_T36 l0 x9_1).f1), .int .i64 ((rd_T36 l0 x9_1).f2), .int .i64 ((rd_T36 l0 x9_1).f3), .int .i64 ((rd_T36 l0 x9_1).f4), .int .i64 ((rd_T36 l0 x9_1).f5), .int .i64 ((rd_T36 l0 x9_1).f6), .int .i64 ((rd_T36 l0 x9_1).f7), .int .i64 ((rd_T36 l0 x9_1).f8), .int .i64 ((rd_T36 l0 x9_1).f9)] 36 (0, 0))) ∧ (w'.heap[s_]? = some (.cells #[.int .i64 0, .int .i64 0, .int .i64 0, .int .i64 0, .int .i64 0, .int .i64 0, .int .i64 0, .int .i64 0, .int .i64 0, .int .i64 0] 36 (0, 0))) ∧ (w.heap.size ≤ s_) ∧ (w.heap.size ≤ s_) ∧ (gb101 ≠ s_) ∧ (s_ ≠ gb101) ∧ (gb102 ≠ s_) ∧ (s_ ≠ gb102) ∧ (gb104 ≠ s_) ∧ (s_ ≠ gb104) ∧ (Below w.heap.size w w')) ?_ ?_
             rotate_left
             ·intro hJ3_7_11_15_19_29
              refine join_ (σ := Unit) 5 #[tt,tt,tt,tt,tt,tt,tt,tt,tt,tt,tt,tt,tt,tt,tt,tt,tt,tt,tt,tt,tt,tt,tt,ff,tt,tt,tt,ff,ff,ff,ff] (fun s_ => [(33, .int .i64 t105), (37, .int .i64 t106), (41, .int .i64 t107), (45, .int .i64 t108), (49, .int .i64 t109)]) (fun s_ w' => (w'.cell? ⟨gb104, 0, none⟩ = some (.int .i64 ((rd_T36 l0 x9_1).f0)) ∧ w'.cell? ⟨gb104, 1, none⟩ = some (.int .i64 ((rd_T36 l0 x9_1).f1)) ∧ w'.cell? ⟨gb104, 2, none⟩ = some (.int .i64 ((rd_T36 l0 x9_1).f2)) ∧ w'.cell? ⟨gb104, 3, none⟩ = some (.int .i64 ((rd_T36 l0 x9_1).f3)) ∧ w'.cell? ⟨gb104, 4, none⟩ = some (.int .i64 ((rd_T36 l0 x9_1).f4)) ∧ w'.cell? ⟨gb104, 5, none⟩ = some (.int .i64 ((rd_T36 l0 x9_1).f5)) ∧ w'.cell? ⟨gb104, 6, none⟩ = some (.int .i64 ((rd_T36 l0 x9_1).f6)) ∧ w'.cell? ⟨gb104, 7, none⟩ = some (.int .i64 ((rd_T36 l0 x9_1).f7)) ∧ w'.cell? ⟨gb104, 8, none⟩ = some (.int .i64 ((rd_T36 l0 x9_1).f8)) ∧ w'.cell? ⟨gb104, 9, none⟩ = some (.int .i64 ((rd_T36 l0 x9_1).f9))) ∧ (Kd.R k36 36 w' w.heap.size (fun k_ => k_ ≠ gb104) u103005 x103005_1) ∧ (w'.heap[gb101]? = some (.cells #[.int .i64 0, .int .i64 0, .int .i64 0, .int .i64 0, .int .i64 0, .slice none 0 0] 39 (0, 0))) ∧ (w'.heap[gb102]? = some (.cells #[.int .i64 (wrap64 (Int.tmod a1 4)), .int .i64 7, .int .i64 8, .int .i64 9, .int .i64 10, u103005] 39 (0, 0))) ∧ (w'.heap[gb104]? = some (.cells #[.int .i64 ((rd_T36 l0 x9_1).f0), .int .i64 ((rd_T36 l0 x9_1).f1), .int .i64 ((rd_T36 l0 x9_1).f2), .int .i64 ((rd_T36 l0 x9_1).f3), .int .i64 ((rd_T36 l0 x9_1).f4), .int .i64 ((rd_T36 l0 x9_1).f5), .int .i64 ((rd_T36 l0 x9_1).f6), .int .i64 ((rd_T36 l0 x9_1).f7), .int .i64 ((rd_T36 l0 x9_1).f8), .int .i64 ((rd_T36 l0 x9_1).f9)] 36 (0, 0))) ∧ (Below w.heap.size w w')) ?_ ?_
              rotate_left
              ·intro hJ3_7_11_15_19
               refine join_ (σ := Nat) 5 #[tt,tt,tt,tt,tt,tt,tt,tt,tt,tt,tt,tt,tt,tt,tt,tt,tt,tt,tt,ff,tt,tt,tt,ff,tt,tt,tt,ff,ff,tt,ff] (fun s_ => [(33, .int .i64 t105), (37, .int .i64 t106), (41, .int .i64 t107), (45, .int .i64 t108), (11, .pointer (some ⟨s_, 0, none⟩))]) (fun s_ w' => (w'.cell? ⟨gb104, 0, none⟩ = some (.int .i64 ((rd_T36 l0 x9_1).f0)) ∧ w'.cell? ⟨gb104, 1, none⟩ = some (.int .i64 ((rd_T36 l0 x9_1).f1)) ∧ w'.cell? ⟨gb104, 2, none⟩ = some (.int .i64 ((rd_T36 l0 x9_1).f2)) ∧ w'.cell? ⟨gb104, 3, none⟩ = some (.int .i64 ((rd_T36 l0 x9_1).f3)) ∧ w'.cell? ⟨gb104, 4, none⟩ = some (.int .i64 ((rd_T36 l0 x9_1).f4)) ∧ w'.cell? ⟨gb104, 5, none⟩ = some (.int .i64 ((rd_T36 l0 x9_1).f5)) ∧ w'.cell? ⟨gb104, 6, none⟩ = some (.int .i64 ((rd_T36 l0 x9_1).f6)) ∧ w'.cell? ⟨gb104, 7, none⟩ = some (.int .i64 ((rd_T36 l0 x9_1).f7)) ∧ w'.cell? ⟨gb104, 8, none⟩ = some (.int .i64 ((rd_T36 l0 x9_1).f8)) ∧ w'.cell? ⟨gb104, 9, none⟩ = some (.int .i64 ((rd_T36 l0 x9_1).f9))) ∧ (Kd.R k36 36 w' w.heap.size (fun k_ => k_ ≠ gb104 ∧ k_ ≠ s_) u103005 x103005_1) ∧ (w'.heap[gb101]? = some (.cells #[.int .i64 0, .int .i64 0, .int .i64 0, .int .i64 0, .int .i64 0, .slice none 0 0] 39 (0, 0))) ∧ (w'.heap[gb102]? = some (.cells #[.int .i64 (wrap64 (Int.tmod a1 4)), .int .i64 7, .int .i64 8, .int .i64 9, .int .i64 10, u103005] 39 (0, 0))) ∧ (w'.heap[gb104]? = some (.cells #[.int .i64 ((rd_T36 l0 x9_1).f0), .int .i64 ((rd_T36 l0 x9_1).f1), .int .i64 ((rd_T36 l0 x9_1).f2), .int .i64 ((rd_T36 l0 x9_1).f3), .int .i64 ((rd_T36 l0 x9_1).f4), .int .i64 ((rd_T36 l0 x9_1).f5), .int .i64 ((rd_T36 l0 x9_1).f6), .int .i64 ((rd_T36 l0 x9_1).f7), .int .i64 ((rd_T36 l0 x9_1).f8), .int .i64 ((rd_T36 l0 x9_1).f9)] 36 (0, 0))) ∧ (w'.heap[s_]? = some (.cells #[.int .i64 0, .int .i64 0, .int .i64 0, .int .i64 0, .int .i64 0, .int .i64 0, .int .i64 0, .int .i64 0, .int .i64 0, .int .i64 0] 36 (0, 0))) ∧ (w.heap.size ≤ s_) ∧ (w.heap.size ≤ s_) ∧ (gb101 ≠ s_) ∧ (s_ ≠ gb101) ∧ (gb102 ≠ s_) ∧ (s_ ≠ gb102) ∧ (gb104 ≠ s_) ∧ (s_ ≠ gb104) ∧ (Below w.heap.size w w')) ?_ ?_
               rotate_left
               ·intro hJ3_7_11_15_29
                refine join_ (σ := Unit) 6 #[tt,tt,tt,tt,tt,tt,tt,tt,tt,tt,tt,tt,tt,tt,tt,tt,tt,tt,tt,ff,tt,tt,tt,ff,tt,tt,tt,ff,ff,ff,ff] (fun s_ => [(33, .int .i64 t105), (37, .int .i64 t106), (41, .int .i64 t107), (45, .int .i64 t108)]) (fun s_ w' => (w'.cell? ⟨gb104, 0, none⟩ = some (.int .i64 ((rd_T36 l0 x9_1).f0)) ∧ w'.cell? ⟨gb104, 1, none⟩ = some (.int .i64 ((rd_T36 l0 x9_1).f1)) ∧ w'.cell? ⟨gb104, 2, none⟩ = some (.int .i64 ((rd_T36 l0 x9_1).f2)) ∧ w'.cell? ⟨gb104, 3, none⟩ = some (.int .i64 ((rd_T36 l0 x9_1).f3)) ∧ w'.cell? ⟨gb104, 4, none⟩ = some (.int .i64 ((rd_T36 l0 x9_1).f4)) ∧ w'.cell? ⟨gb104, 5, none⟩ = some (.int .i64 ((rd_T36 l0 x9_1).f5)) ∧ w'.cell? ⟨gb104, 6, none⟩ = some (.int .i64 ((rd_T36 l0 x9_1).f6)) ∧ w'.cell? ⟨gb104, 7, none⟩ = some (.int .i64 ((rd_T36 l0 x9_1).f7)) ∧ w'.cell? ⟨gb104, 8, none⟩ = some (.int .i64 ((rd_T36 l0 x9_1).f8)) ∧ w'.cell? ⟨gb104, 9, none⟩ = some (.int .i64 ((rd_T36 l0 x9_1).f9))) ∧ (Kd.R k36 36 w' w.heap.size (fun k_ => k_ ≠ gb104) u103005 x103005_1) ∧ (w'.heap[gb101]? = some (.cells #[.int .i64 0, .int .i64 0, .int .i64 0, .int .i64 0, .int .i64 0, .slice none 0 0] 39 (0, 0))) ∧ (w'.heap[gb102]? = some (.cells #[.int .i64 (wrap64 (Int.tmod a1 4)), .int .i64 7, .int .i64 8, .int .i64 9, .int .i64 10, u103005] 39 (0, 0))) ∧ (w'.heap[gb104]? = some (.cells #[.int .i64 ((rd_T36 l0 x9_1).f0), .int .i64 ((rd_T36 l0 x9_1).f1), .int .i64 ((rd_T36 l0 x9_1).f2), .int .i64 ((rd_T36 l0 x9_1).f3), .int .i64 ((rd_T36 l0 x9_1).f4), .int .i64 ((rd_T36 l0 x9_1).f5), .int .i64 ((rd_T36 l0 x9_1).f6), .int .i64 ((rd_T36 l0 x9_1).f7), .int .i64 ((rd_T36 l0 x9_1).f8), .int .i64 ((rd_T36 l0 x9_1).f9)] 36 (0, 0))) ∧ (Below w.heap.size w w')) ?_ ?_
                rotate_left
                ·intro hJ3_7_11_15
                 refine join_ (σ := Nat) 6 #[tt,tt,tt,tt,tt,tt,tt,tt,tt,tt,tt,tt,tt,tt,tt,ff,tt,tt,tt,ff,tt,tt,tt,ff,tt,tt,tt,ff,ff,tt,ff] (fun s_ => [(33, .int .i64 t105), (37, .int .i64 t106), (41, .int .i64 t107), (11, .pointer (some ⟨s_, 0, none⟩))]) (fun s_ w' => (w'.cell? ⟨gb104, 0, none⟩ = some (.int .i64 ((rd_T36 l0 x9_1).f0)) ∧ w'.cell? ⟨gb104, 1, none⟩ = some (.int .i64 ((rd_T36 l0 x9_1).f1)) ∧ w'.cell? ⟨gb104, 2, none⟩ = some (.int .i64 ((rd_T36 l0 x9_1).f2)) ∧ w'.cell? ⟨gb104, 3, none⟩ = some (.int .i64 ((rd_T36 l0 x9_1).f3)) ∧ w'.cell? ⟨gb104, 4, none⟩ = some (.int .i64 ((rd_T36 l0 x9_1).f4)) ∧ w'.cell? ⟨gb104, 5, none⟩ = some (.int .i64 ((rd_T36 l0 x9_1).f5)) ∧ w'.cell? ⟨gb104, 6, none⟩ = some (.int .i64 ((rd_T36 l0 x9_1).f6)) ∧ w'.cell? ⟨gb104, 7, none⟩ = some (.int .i64 ((rd_T36 l0 x9_1).f7)) ∧ w'.cell? ⟨gb104, 8, none⟩ = some (.int .i64 ((rd_T36 l0 x9_1).f8)) ∧ w'.cell? ⟨gb104, 9, none⟩ = some (.int .i64 ((rd_T36 l0 x9_1).f9))) ∧ (Kd.R k36 36 w' w.heap.size (fun k_ => k_ ≠ gb104 ∧ k_ ≠ s_) u103005 x103005_1) ∧ (w'.heap[gb101]? = some (.cells #[.int .i64 0, .int .i64 0, .int .i64 0, .int .i64 0, .int .i64 0, .slice none 0 0] 39 (0, 0))) ∧ (w'.heap[gb102]? = some (.cells #[.int .i64 (wrap64 (Int.tmod a1 4)), .int .i64 7, .int .i64 8, .int .i64 9, .int .i64 10, u103005] 39 (0, 0))) ∧ (w'.heap[gb104]? = some (.cells #[.int .i64 ((rd_T36 l0 x9_1).f0), .int .i64 ((rd_T36 l0 x9_1).f1), .int .i64 ((rd_T36 l0 x9_1).f2), .int .i64 ((rd_T36 l0 x9_1).f3), .int .i64 ((rd_T36 l0 x9_1).f4), .int .i64 ((rd_T36 l0 x9_1).f5), .int .i64 ((rd_T36 l0 x9_1).f6), .int .i64 ((rd_T36 l0 x9_1).f7), .int .i64 ((rd_T36 l0 x9_1).f8), .int .i64 ((rd_T36 l0 x9_1).f9)] 36 (0, 0))) ∧ (w'.heap[s_]? = some (.cells #[.int .i64 0, .int .i64 0, .int .i64 0, .int .i64 0, .int .i64 0, .int .i64 0, .int .i64 0, .int .i64 0, .int .i64 0, .int .i64 0] 36 (0, 0))) ∧ (w.heap.size ≤ s_) ∧ (w.heap.size ≤ s_) ∧ (gb101 ≠ s_) ∧ (s_ ≠ gb101) ∧ (gb102 ≠ s_) ∧ (s_ ≠ gb102) ∧ (gb104 ≠ s_) ∧ (s_ ≠ gb104) ∧ (Below w.heap.size w w')) ?_ ?_
                 rotate_left
                 ·intro hJ3_7_11_29
                  refine join_ (σ := Unit) 7 #[tt,tt,tt,tt,tt,tt,tt,tt,tt,tt,tt,tt,tt,tt,tt,ff,tt,tt,tt,ff,tt,tt,tt,ff,tt,tt,tt,ff,ff,ff,ff] (fun s_ => [(33, .int .i64 t105), (37, .int .i64 t106), (41, .int .i64 t107)]) (fun s_ w' => (w'.cell? ⟨gb104, 0, none⟩ = some (.int .i64 ((rd_T36 l0 x9_1).f0)) ∧ w'.cell? ⟨gb104, 1, none⟩ = some (.int .i64 ((rd_T36 l0 x9_1).f1)) ∧ w'.cell? ⟨gb104, 2, none⟩ = some (.int .i64 ((rd_T36 l0 x9_1).f2)) ∧ w'.cell? ⟨gb104, 3, none⟩ = some (.int .i64 ((rd_T36 l0 x9_1).f3)) ∧ w'.cell? ⟨gb104, 4, none⟩ = some (.int .i64 ((rd_T36 l0 x9_1).f4)) ∧ w'.cell? ⟨gb104, 5, none⟩ = some (.int .i64 ((rd_T36 l0 x9_1).f5)) ∧ w'.cell? ⟨gb104, 6, none⟩ = some (.int .i64 ((rd_T36 l0 x9_1).f6)) ∧ w'.cell? ⟨gb104, 7, none⟩ = some (.int .i64 ((rd_T36 l0 x9_1).f7)) ∧ w'.cell? ⟨gb104, 8, none⟩ = some (.int .i64 ((rd_T36 l0 x9_1).f8)) ∧ w'.cell? ⟨gb104, 9, none⟩ = some (.int .i64 ((rd_T36 l0 x9_1).f9))) ∧ (Kd.R k36 36 w' w.heap.size (fun k_ => k_ ≠ gb104) u103005 x103005_1) ∧ (w'.heap[gb101]? = some (.cells #[.int .i64 0, .int .i64 0, .int .i64 0, .int .i64 0, .int .i64 0, .slice none 0 0] 39 (0, 0))) ∧ (w'.heap[gb102]? = some (.cells #[.int .i64 (wrap64 (Int.tmod a1 4)), .int .i64 7, .int .i64 8, .int .i64 9, .int .i64 10, u103005] 39 (0, 0))) ∧ (w'.heap[gb104]? = some (.cells #[.int .i64 ((rd_T36 l0 x9_1).f0), .int .i64 ((rd_T36 l0 x9_1).f1), .int .i64 ((rd_T36 l0 x9_1).f2), .int .i64 ((rd_T36 l0 x9_1).f3), .int .i64 ((rd_T36 l0 x9_1).f4), .int .i64 ((rd_T36 l0 x9_1).f5), .int .i64 ((rd_T36 l0 x9_1).f6), .int .i64 ((rd_T36 l0 x9_1).f7), .int .i64 ((rd_T36 l0 x9_1).f8), .int .i64 ((rd_T36 l0 x9_1).f9)] 36 (0, 0))) ∧ (Below w.heap.size w w')) ?_ ?_
                  rotate_left
                  ·intro hJ3_7_11
                   refine join_ (σ := Nat) 7 #[tt,tt,tt,tt,tt,tt,tt,tt,tt,tt,tt,ff,tt,tt,tt,ff,tt,tt,tt,ff,tt,tt,tt,ff,tt,tt,tt,ff,ff,tt,ff] (fun s_ => [(33, .int .i64 t105), (37, .int .i64 t106), (11, .pointer (some ⟨s_, 0, none⟩))]) (fun s_ w' => (w'.cell? ⟨gb104, 0, none⟩ = some (.int .i64 ((rd_T36 l0 x9_1).f0)) ∧ w'.cell? ⟨gb104, 1, none⟩ = some (.int .i64 ((rd_T36 l0 x9_1).f1)) ∧ w'.cell? ⟨gb104, 2, none⟩ = some (.int .i64 ((rd_T36 l0 x9_1).f2)) ∧ w'.cell? ⟨gb104, 3, none⟩ = some (.int .i64 ((rd_T36 l0 x9_1).f3)) ∧ w'.cell? ⟨gb104, 4, none⟩ = some (.int .i64 ((rd_T36 l0 x9_1).f4)) ∧ w'.cell? ⟨gb104, 5, none⟩ = some (.int .i64 ((rd_T36 l0 x9_1).f5)) ∧ w'.cell? ⟨gb104, 6, none⟩ = some (.int .i64 ((rd_T36 l0 x9_1).f6)) ∧ w'.cell? ⟨gb104, 7, none⟩ = some (.int .i64 ((rd_T36 l0 x9_1).f7)) ∧ w'.cell? ⟨gb104, 8, none⟩ = some (.int .i64 ((rd_T36 l0 x9_1).f8)) ∧ w'.cell? ⟨gb104, 9, none⟩ = some (.int .i64 ((rd_T36 l0 x9_1).f9))) ∧ (Kd.R k36 36 w' w.heap.size (fun k_ => k_ ≠ gb104 ∧ k_ ≠ s_) u103005 x103005_1) ∧ (w'.heap[gb101]? = some (.cells #[.int .i64 0, .int .i64 0, .int .i64 0, .int .i64 0, .int .i64 0, .slice none 0 0] 39 (0, 0))) ∧ (w'.heap[gb102]? = some (.cells #[.int .i64 (wrap64 (Int.tmod a1 4)), .int .i64 7, .int .i64 8, .int .i64 9, .int .i64 10, u103005] 39 (0, 0))) ∧ (w'.heap[gb104]? = some (.cells #[.int .i64 ((rd_T36 l0 x9_1).f0), .int .i64 ((rd_T36 l0 x9_1).f1), .int .i64 ((rd_T36 l0 x9_1).f2), .int .i64 ((rd_T36 l0 x9_1).f3), .int .i64 ((rd_T36 l0 x9_1).f4), .int .i64 ((rd_T36 l0 x9_1).f5), .int .i64 ((rd_T36 l0 x9_1).f6), .int .i64 ((rd_T36 l0 x9_1).f7), .int .i64 ((rd_T36 l0 x9_1).f8), .int .i64 ((rd_T36 l0 x9_1).f9)] 36 (0, 0))) ∧ (w'.heap[s_]? = some (.cells #[.int .i64 0, .int .i64 0, .int .i64 0, .int .i64 0, .int .i64 0, .int .i64 0, .int .i64 0, .int .i64 0, .int .i64 0, .int .i64 0] 36 (0, 0))) ∧ (w.heap.size ≤ s_) ∧ (w.heap.size ≤ s_) ∧ (gb101 ≠ s_) ∧ (s_ ≠ gb101) ∧ (gb102 ≠ s_) ∧ (s_ ≠ gb102) ∧ (gb104 ≠ s_) ∧ (s_ ≠ gb104) ∧ (Below w.heap.size w w')) ?_ ?_
                   rotate_left
                   ·intro hJ3_7_29
                    refine join_ (σ := Unit) 8 #[tt,tt,tt,tt,tt,tt,tt,tt,tt,tt,tt,ff,tt,tt,tt,ff,tt,tt,tt,ff,tt,tt,tt,ff,tt,tt,tt,ff,ff,ff,ff] (fun s_ => [(33, .int .i64 t105), (37, .int .i64 t106)]) (fun s_ w' => (w'.cell? ⟨gb104, 0, none⟩ = some (.int .i64 ((rd_T36 l0 x9_1).f0)) ∧ w'.cell? ⟨gb104, 1, none⟩ = some (.int .i64 ((rd_T36 l0 x9_1).f1)) ∧ w'.cell? ⟨gb104, 2, none⟩ = some (.int .i64 ((rd_T36 l0 x9_1).f2)) ∧ w'.cell? ⟨gb104, 3, none⟩ = some (.int .i64 ((rd_T36 l0 x9_1).f3)) ∧ w'.cell? ⟨gb104, 4, none⟩ = some (.int .i64 ((rd_T36 l0 x9_1).f4)) ∧ w'.cell? ⟨gb104, 5, none⟩ = some (.int .i64 ((rd_T36 l0 x9_1).f5)) ∧ w'.cell? ⟨gb104, 6, none⟩ = some (.int .i64 ((rd_T36 l0 x9_1).f6)) ∧ w'.cell? ⟨gb104, 7, none⟩ = some (.int .i64 ((rd_T36 l0 x9_1).f7)) ∧ w'.cell? ⟨gb104, 8, none⟩ = some (.int .i64 ((rd_T36 l0 x9_1).f8)) ∧ w'.cell? ⟨gb104, 9, none⟩ = some (.int .i64 ((rd_T36 l0 x9_1).f9))) ∧ (Kd.R k36 36 w' w.heap.size (fun k_ => k_ ≠ gb104) u103005 x103005_1) ∧ (w'.heap[gb101]? = some (.cells #[.int .i64 0, .int .i64 0, .int .i64 0, .int .i64 0, .int .i64 0, .slice none 0 0] 39 (0, 0))) ∧ (w'.heap[gb102]? = some (.cells #[.int .i64 (wrap64 (Int.tmod a1 4)), .int .i64 7, .int .i64 8, .int .i64 9, .int .i64 10, u103005] 39 (0, 0))) ∧ (w'.heap[gb104]? = some (.cells #[.int .i64 ((rd_T36 l0 x9_1).f0), .int .i64 ((rd_T36 l0 x9_1).f1), .int .i64 ((rd_T36 l0 x9_1).f2), .int .i64 ((rd_T36 l0 x9_1).f3), .int .i64 ((rd_T36 l0 x9_1).f4), .int .i64 ((rd_T36 l0 x9_1).f5), .int .i64 ((rd_T36 l0 x9_1).f6), .int .i64 ((rd_T36 l0 x9_1).f7), .int .i64 ((rd_T36 l0 x9_1).f8), .int .i64 ((rd_T36 l0 x9_1).f9)] 36 (0, 0))) ∧ (Below w.heap.size w w')) ?_ ?_
                    rotate_left
                    ·intro hJ3_7
                     refine join_ (σ := Nat) 8 #[tt,tt,tt,tt,tt,tt,tt,ff,tt,tt,tt,ff,tt,tt,tt,ff,tt,tt,tt,ff,tt,tt,tt,ff,tt,tt,tt,ff,ff,tt,ff] (fun s_ => [(33, .int .i64 t105), (11, .pointer (some ⟨s_, 0, none⟩))]) (fun s_ w' => (w'.cell? ⟨gb104, 0, none⟩ = some (.int .i64 ((rd_T36 l0 x9_1).f0)) ∧ w'.cell? ⟨gb104, 1, none⟩ = some (.int .i64 ((rd_T36 l0 x9_1).f1)) ∧ w'.cell? ⟨gb104, 2, none⟩ = some (.int .i64 ((rd_T36 l0 x9_1).f2)) ∧ w'.cell? ⟨gb104, 3, none⟩ = some (.int .i64 ((rd_T36 l0 x9_1).f3)) ∧ w'.cell? ⟨gb104, 4, none⟩ = some (.int .i64 ((rd_T36 l0 x9_1).f4)) ∧ w'.cell? ⟨gb104, 5, none⟩ = some (.int .i64 ((rd_T36 l0 x9_1).f5)) ∧ w'.cell? ⟨gb104, 6, none⟩ = some (.int .i64 ((rd_T36 l0 x9_1).f6)) ∧ w'.cell? ⟨gb104, 7, none⟩ = some (.int .i64 ((rd_T36 l0 x9_1).f7)) ∧ w'.cell? ⟨gb104, 8, none⟩ = some (.int .i64 ((rd_T36 l0 x9_1).f8)) ∧ w'.cell? ⟨gb104, 9, none⟩ = some (.int .i64 ((rd_T36 l0 x9_1).f9))) ∧ (Kd.R k36 36 w' w.heap.size (fun k_ => k_ ≠ gb104 ∧ k_ ≠ s_) u103005 x103005_1) ∧ (w'.heap[gb101]? = some (.cells #[.int .i64 0, .int .i64 0, .int .i64 0, .int .i64 0, .int .i64 0, .slice none 0 0] 39 (0, 0))) ∧ (w'.heap[gb102]? = some (.cells #[.int .i64 (wrap64 (Int.tmod a1 4)), .int .i64 7, .int .i64 8, .int .i64 9, .int .i64 10, u103005] 39 (0, 0))) ∧ (w'.heap[gb104]? = some (.cells #[.int .i64 ((rd_T36 l0 x9_1).f0), .int .i64 ((rd_T36 l0 x9_1).f1), .int .i64 ((rd_T36 l0 x9_1).f2), .int .i64 ((rd_T36 l0 x9_1).f3), .int .i64 ((rd_T36 l0 x9_1).f4), .int .i64 ((rd_T36 l0 x9_1).f5), .int .i64 ((rd_T36 l0 x9_1).f6), .int .i64 ((rd_T36 l0 x9_1).f7), .int .i64 ((rd_T36 l0 x9_1).f8), .int .i64 ((rd_T36 l0 x9_1).f9)] 36 (0, 0))) ∧ (w'.heap[s_]? = some (.cells #[.int .i64 0, .int .i64 0, .int .i64 0, .int .i64 0, .int .i64 0, .int .i64 0, .int .i64 0, .int .i64 0, .int .i64 0, .int .i64 0] 36 (0, 0))) ∧ (w.heap.size ≤ s_) ∧ (w.heap.size ≤ s_) ∧ (gb101 ≠ s_) ∧ (s_ ≠ gb101) ∧ (gb102 ≠ s_) ∧ (s_ ≠ gb102) ∧ (gb104 ≠ s_) ∧ (s_ ≠ gb104) ∧ (Below w.heap.size w w')) ?_ ?_
                     rotate_left
                     ·intro hJ3_29
                      refine join_ (σ := Unit) 9 #[tt,tt,tt,tt,tt,tt,tt,ff,tt,tt,tt,ff,tt,tt,tt,ff,tt,tt,tt,ff,tt,tt,tt,ff,tt,tt,tt,ff,ff,ff,ff] (fun s_ => [(33, .int .i64 t105)]) (fun s_ w' => (w'.cell? ⟨gb104, 0, none⟩ = some (.int .i64 ((rd_T36 l0 x9_1).f0)) ∧ w'.cell? ⟨gb104, 1, none⟩ = some (.int .i64 ((rd_T36 l0 x9_1).f1)) ∧ w'.cell? ⟨gb104, 2, none⟩ = some (.int .i64 ((rd_T36 l0 x9_1).f2)) ∧ w'.cell? ⟨gb104, 3, none⟩ = some (.int .i64 ((rd_T36 l0 x9_1).f3)) ∧ w'.cell? ⟨gb104, 4, none⟩ = some (.int .i64 ((rd_T36 l0 x9_1).f4)) ∧ w'.cell? ⟨gb104, 5, none⟩ = some (.int .i64 ((rd_T36 l0 x9_1).f5)) ∧ w'.cell? ⟨gb104, 6, none⟩ = some (.int .i64 ((rd_T36 l0 x9_1).f6)) ∧ w'.cell? ⟨gb104, 7, none⟩ = some (.int .i64 ((rd_T36 l0 x9_1).f7)) ∧ w'.cell? ⟨gb104, 8, none⟩ = some (.int .i64 ((rd_T36 l0 x9_1).f8)) ∧ w'.cell? ⟨gb104, 9, none⟩ = some (.int .i64 ((rd_T36 l0 x9_1).f9))) ∧ (Kd.R k36 36 w' w.heap.size (fun k_ => k_ ≠ gb104) u103005 x103005_1) ∧ (w'.heap[gb101]? = some (.cells #[.int .i64 0, .int .i64 0, .int .i64 0, .int .i64 0, .int .i64 0, .slice none 0 0] 39 (0, 0))) ∧ (w'.heap[gb102]? = some (.cells #[.int .i64 (wrap64 (Int.tmod a1 4)), .int .i64 7, .int .i64 8, .int .i64 9, .int .i64 10, u103005] 39 (0, 0))) ∧ (w'.heap[gb104]? = some (.cells #[.int .i64 ((rd_T36 l0 x9_1).f0), .int .i64 ((rd_T36 l0 x9_1).f1), .int .i64 ((rd_T36 l0 x9_1).f2), .int .i64 ((rd_T36 l0 x9_1).f3), .int .i64 ((rd_T36 l0 x9_1).f4), .int .i64 ((rd_T36 l0 x9_1).f5), .int .i64 ((rd_T36 l0 x9_1).f6), .int .i64 ((rd_T36 l0 x9_1).f7), .int .i64 ((rd_T36 l0 x9_1).f8), .int .i64 ((rd_T36 l0 x9_1).f9)] 36 (0, 0))) ∧ (Below w.heap.size w w')) ?_ ?_
                      rotate_left
                      ·intro hJ3
                       refine join_ (σ := Nat) 9 #[tt,tt,tt,ff,tt,tt,tt,ff,tt,tt,tt,ff,tt,tt,tt,ff,tt,tt,tt,ff,tt,tt,tt,ff,tt,tt,tt,ff,ff,tt,ff] (fun s_ => [(11, .pointer (some ⟨s_, 0, none⟩))]) (fun s_ w' => (w'.cell? ⟨gb104, 0, none⟩ = some (.int .i64 ((rd_T36 l0 x9_1).f0)) ∧ w'.cell? ⟨gb104, 1, none⟩ = some (.int .i64 ((rd_T36 l0 x9_1).f1)) ∧ w'.cell? ⟨gb104, 2, none⟩ = some (.int .i64 ((rd_T36 l0 x9_1).f2)) ∧ w'.cell? ⟨gb104, 3, none⟩ = some (.int .i64 ((rd_T36 l0 x9_1).f3)) ∧ w'.cell? ⟨gb104, 4, none⟩ = some (.int .i64 ((rd_T36 l0 x9_1).f4)) ∧ w'.cell? ⟨gb104, 5, none⟩ = some (.int .i64 ((rd_T36 l0 x9_1).f5)) ∧ w'.cell? ⟨gb104, 6, none⟩ = some (.int .i64 ((rd_T36 l0 x9_1).f6)) ∧ w'.cell? ⟨gb104, 7, none⟩ = some (.int .i64 ((rd_T36 l0 x9_1).f7)) ∧ w'.cell? ⟨gb104, 8, none⟩ = some (.int .i64 ((rd_T36 l0 x9_1).f8)) ∧ w'.cell? ⟨gb104, 9, none⟩ = some (.int .i64 ((rd_T36 l0 x9_1).f9))) ∧ (Kd.R k36 36 w' w.heap.size (fun k_ => k_ ≠ gb104 ∧ k_ ≠ s_) u103005 x103005_1) ∧ (w'.heap[gb101]? = some (.cells #[.int .i64 0, .int .i64 0, .int .i64 0, .int .i64 0, .int .i64 0, .slice none 0 0] 39 (0, 0))) ∧ (w'.heap[gb102]? = some (.cells #[.int .i64 (wrap64 (Int.tmod a1 4)), .int .i64 7, .int .i64 8, .int .i64 9, .int .i64 10, u103005] 39 (0, 0))) ∧ (w'.heap[gb104]? = some (.cells #[.int .i64 ((rd_T36 l0 x9_1).f0), .int .i64 ((rd_T36 l0 x9_1).f1), .int .i64 ((rd_T36 l0 x9_1).f2), .int .i64 ((rd_T36 l0 x9_1).f3), .int .i64 ((rd_T36 l0 x9_1).f4), .int .i64 ((rd_T36 l0 x9_1).f5), .int .i64 ((rd_T36 l0 x9_1).f6), .int .i64 ((rd_T36 l0 x9_1).f7), .int .i64 ((rd_T36 l0 x9_1).f8), .int .i64 ((rd_T36 l0 x9_1).f9)] 36 (0, 0))) ∧ (w'.heap[s_]? = some (.cells #[.int .i64 0, .int .i64 0, .int .i64 0, .int .i64 0, .int .i64 0, .int .i64 0, .int .i64 0, .int .i64 0, .int .i64 0, .int .i64 0] 36 (0, 0))) ∧ (w.heap.size ≤ s_) ∧ (w.heap.size ≤ s_) ∧ (gb101 ≠ s_) ∧ (s_ ≠ gb101) ∧ (gb102 ≠ s_) ∧ (s_ ≠ gb102) ∧ (gb104 ≠ s_) ∧ (s_ ≠ gb104) ∧ (Below w.heap.size w w')) ?_ ?_
                       rotate_left
                       ·intro hJ29
                        refine two_ (i := 3) (j := 29) (Ni := some 33) (Nj := some 11) #[tt,tt,tt,tt,tt,tt,tt,ff,tt,tt,tt,ff,tt,tt,tt,ff,tt,tt,tt,ff,tt,tt,tt,ff,tt,tt,tt,ff,ff,ff,ff] #[tt,tt,tt,ff,tt,tt,tt,ff,tt,tt,tt,ff,tt,tt,tt,ff,tt,tt,tt,ff,tt,tt,tt,ff,tt,tt,tt,ff,ff,tt,ff] rfl rfl rfl rfl (two_of HT_.out (by kernel_rfl)) (by decide) (by decide) (fun K hK => ?_) (fun K hK => ?_)
                        ·skip
                         refine goesT_ Try.func45 (by kernel_rfl) rfl #[.int .i64 ((rd_T36 l0 x9_1).f0)] (by rfl) rfl rfl (by rfl) (by (try simp only [List.map_toArray, List.map_cons, List.map_nil]); first | done | rfl | (simp only [List.length_drop, List.length_take]; rfl)) ?_
                         with_reducible refine (laws_someOut_1.calls ((rd_T36 l0 x9_1).f0) t105 _ A13.out).mono ?_
                         rintro e w' ⟨rfl, ⟨nd, rfl⟩⟩
                         refine ⟨_, rfl, ?_⟩
                         refine hK.out _ _ ⟨(blk_cell BK104.out 0).trans rfl, (blk_cell BK104.out 1).trans rfl, (blk_cell BK104.out 2).trans rfl, (blk_cell BK104.out 3).trans rfl, (blk_cell BK104.out 4).trans rfl, (blk_cell BK104.out 5).trans rfl, (blk_cell BK104.out 6).trans rfl, (blk_cell BK104.out 7).trans rfl, (blk_cell BK104.out 8).trans rfl, (blk_cell BK104.out 9).trans rfl⟩ (fun hHeld => ?_)
                         clear hK K
                         refine norm_ (a' := ?_) ?_ ?_
                         rotate_left
                         ·show Act.put _ (some 33) _ = _
                          simp only [Act.put, L1_, L2_, L3_, i64_w, i32_w]
                          rfl
                         exact norm_ (by simp only [putAll, Act.put, L1_, L2_, L3_] <;> rfl) (hJ3 () _ ⟨hHeld, (by (with_reducible repeat (first | apply Kd.R_alloc | apply Kd.R_drewN | apply Kd.R_drew)); exact HO_103005.out), (by (with_reducible repeat (first | refine b1_ ?_ _ | refine b2_ ?_ | refine b3_ ?_ _)); exact BK101.out), (by (with_reducible repeat (first | refine b1_ ?_ _ | refine b2_ ?_ | refine b3_ ?_ _)); exact BK102.out), (by (with_reducible repeat (first | refine b1_ ?_ _ | refine b2_ ?_ | refine b3_ ?_ _)); exact BK104.out), (by repeat (first | (with_reducible first | exact HB.out | apply below_alloc | apply pw_below_drewN | apply below_drew1 | refine below_set ?_ GE101.out | refine below_set ?_ GE102.out | refine below_set ?_ GE104.out) | exact HB.out))⟩)
                        ·skip
                         refine box_step ?hg (N := 11) ?hd (cs := #[.int .i64 0, .int .i64 0, .int .i64 0, .int .i64 0, .int .i64 0, .int .i64 0, .int .i64 0, .int .i64 0, .int .i64 0, .int .i64 0]) (t := 36) ?hr ?_; (case hd => rfl); (case hg => rfl); (case hr => first | (go_simp; done) | (go_simp; rfl))
                         intro gb112 hg w27 hbox hb
                         have n0_ := Aside0.mk (Kd.R_below (Kd.R_elderB (by (with_reducible repeat (first | apply Kd.R_alloc | apply Kd.R_drewN | apply Kd.R_drew)); exact HO_103005.out) gb112 (Nat.le_of_eq hg.symm)) hb)
                         have n1_ := Aside0.mk (blk_below (g := gb101) (o := .cells #[.int .i64 0, .int .i64 0, .int .i64 0, .int .i64 0, .int .i64 0, .slice none 0 0] 39 (0, 0)) (by (with_reducible repeat (first | refine b1_ ?_ _ | refine b2_ ?_ | refine b3_ ?_ _)); exact BK101.out) hb)
                         have n2_ := Aside0.mk (blk_below (g := gb102) (o := .cells #[.int .i64 (wrap64 (Int.tmod a1 4)), .int .i64 7, .int .i64 8, .int .i64 9, .int .i64 10, u103005] 39 (0, 0)) (by (with_reducible repeat (first | refine b1_ ?_ _ | refine b2_ ?_ | refine b3_ ?_ _)); exact BK102.out) hb)
                         have n3_ := Aside0.mk (blk_below (g := gb104) (o := .cells #[.int .i64 ((rd_T36 l0 x9_1).f0), .int .i64 ((rd_T36 l0 x9_1).f1), .int .i64 ((rd_T36 l0 x9_1).f2), .int .i64 ((rd_T36 l0 x9_1).f3), .int .i64 ((rd_T36 l0 x9_1).f4), .int .i64 ((rd_T36 l0 x9_1).f5), .int .i64 ((rd_T36 l0 x9_1).f6), .int .i64 ((rd_T36 l0 x9_1).f7), .int .i64 ((rd_T36 l0 x9_1).f8), .int .i64 ((rd_T36 l0 x9_1).f9)] 36 (0, 0)) (by (with_reducible repeat (first | refine b1_ ?_ _ | refine b2_ ?_ | refine b3_ ?_ _)); exact BK104.out) hb)
                         have n4_ := Aside0.mk (below_step (by repeat (first | (with_reducible first | exact HB.out | apply below_alloc | apply pw_below_drewN | apply below_drew1 | refine below_set ?_ GE101.out | refine below_set ?_ GE102.out | refine below_set ?_ GE104.out) | exact HB.out)) hb)
                         have n5_ := Aside0.mk (hbox)
                         have n6_ := Aside0.mk ((by rw [hg]; exact (below_size (by repeat (first | (with_reducible first | exact HB.out | apply below_alloc | apply pw_below_drewN | apply below_drew1 | refine below_set ?_ GE101.out | refine below_set ?_ GE102.out | refine below_set ?_ GE104.out) | exact HB.out))) : w.heap.size ≤ gb112))
                         have n7_ := Aside0.mk ((by rw [hg]; exact (below_size (by repeat (first | (with_reducible first | exact HB.out | apply below_alloc | apply pw_below_drewN | apply below_drew1 | refine below_set ?_ GE101.out | refine below_set ?_ GE102.out | refine below_set ?_ GE104.out) | exact HB.out))) : w.heap.size ≤ gb112))
                         have n8_ := Aside0.mk ((by rw [hg]; exact Nat.ne_of_lt (blk_lt (g := gb101) (o := .cells #[.int .i64 0, .int .i64 0, .int .i64 0, .int .i64 0, .int .i64 0, .slice none 0 0] 39 (0, 0)) (by (with_reducible repeat (first | refine b1_ ?_ _ | refine b2_ ?_ | refine b3_ ?_ _)); exact BK101.out)) : gb101 ≠ gb112))
                         have n9_ := Aside0.mk ((by rw [hg]; exact Nat.ne_of_gt (blk_lt (g := gb101) (o := .cells #[.int .i64 0, .int .i64 0, .int .i64 0, .int .i64 0, .int .i64 0, .slice none 0 0] 39 (0, 0)) (by (with_reducible repeat (first | refine b1_ ?_ _ | refine b2_ ?_ | refine b3_ ?_ _)); exact BK101.out)) : gb112 ≠ gb101))
                         have n10_ := Aside0.mk ((by rw [hg]; exact Nat.ne_of_lt (blk_lt (g := gb102) (o := .cells #[.int .i64 (wrap64 (Int.tmod a1 4)), .int .i64 7, .int .i64 8, .int .i64 9, .int .i64 10, u103005] 39 (0, 0)) (by (with_reducible repeat (first | refine b1_ ?_ _ | refine b2_ ?_ | refine b3_ ?_ _)); exact BK102.out)) : gb102 ≠ gb112))
                         have n11_ := Aside0.mk ((by rw [hg]; exact Nat.ne_of_gt (blk_lt (g := gb102) (o := .cells #[.int .i64 (wrap64 (Int.tmod a1 4)), .int .i64 7, .int .i64 8, .int .i64 9, .int .i64 10, u103005] 39 (0, 0)) (by (with_reducible repeat (first | refine b1_ ?_ _ | refine b2_ ?_ | refine b3_ ?_ _)); exact BK102.out)) : gb112 ≠ gb102))
                         have n12_ := Aside0.mk ((by rw [hg]; exact Nat.ne_of_lt (blk_lt (g := gb104) (o := .cells #[.int .i64 ((rd_T36 l0 x9_1).f0), .int .i64 ((rd_T36 l0 x9_1).f1), .int .i64 ((rd_T36 l0 x9_1).f2), .int .i64 ((rd_T36 l0 x9_1).f3), .int .i64 ((rd_T36 l0 x9_1).f4), .int .i64 ((rd_T36 l0 x9_1).f5), .int .i64 ((rd_T36 l0 x9_1).f6), .int .i64 ((rd_T36 l0 x9_1).f7), .int .i64 ((rd_T36 l0 x9_1).f8), .int .i64 ((rd_T36 l0 x9_1).f9)] 36 (0, 0)) (by (with_reducible repeat (first | refine b1_ ?_ _ | refine b2_ ?_ | refine b3_ ?_ _)); exact BK104.out)) : gb104 ≠ gb112))
                         have n13_ := Aside0.mk ((by rw [hg]; exact Nat.ne_of_gt (blk_lt (g := gb104) (o := .cells #[.int .i64 ((rd_T36 l0 x9_1).f0), .int .i64 ((rd_T36 l0 x9_1).f1), .int .i64 ((rd_T36 l0 x9_1).f2), .int .i64 ((rd_T36 l0 x9_1).f3), .int .i64 ((rd_T36 l0 x9_1).f4), .int .i64 ((rd_T36 l0 x9_1).f5), .int .i64 ((rd_T36 l0 x9_1).f6), .int .i64 ((rd_T36 l0 x9_1).f7), .int .i64 ((rd_T36 l0 x9_1).f8), .int .i64 ((rd_T36 l0 x9_1).f9)] 36 (0, 0)) (by (with_reducible repeat (first | refine b1_ ?_ _ | refine b2_ ?_ | refine b3_ ?_ _)); exact BK104.out)) : gb112 ≠ gb104))
                         clear HO_103005
                         clear BK101
                         clear BK102
                         clear BK104
                         clear HB
                         have HO_103005 := n0_
                         have BK101 := n1_
                         have BK102 := n2_
                         have BK104 := n3_
                         have HB := n4_
                         have BK112 := n5_
                         have GW112 := n6_
                         have GE112 := n7_
                         have NB101_112 := n8_
                         have NB112_101 := n9_
                         have NB102_112 := n10_
                         have NB112_102 := n11_
                         have NB104_112 := n12_
                         have NB112_104 := n13_
                         clear n0_ n1_ n2_ n3_ n4_ n5_ n6_ n7_ n8_ n9_ n10_ n11_ n12_ n13_
                         clear hb hbox hg
                         refine hK.out _ _ ⟨(blk_cell BK104.out 0).trans rfl, (blk_cell BK104.out 1).trans rfl, (blk_cell BK104.out 2).trans rfl, (blk_cell BK104.out 3).trans rfl, (blk_cell BK104.out 4).trans rfl, (blk_cell BK104.out 5).trans rfl, (blk_cell BK104.out 6).trans rfl, (blk_cell BK104.out 7).trans rfl, (blk_cell BK104.out 8).trans rfl, (blk_cell BK104.out 9).trans rfl⟩ (fun hHeld => ?_)
                         clear hK K
                         refine norm_ (a' := ?_) ?_ ?_
                         rotate_left
                         ·show Act.put _ (some 11) _ = _
                          simp only [Act.put, L1_, L2_, L3_, i64_w, i32_w]
                          rfl
                         exact norm_ (by simp only [putAll, Act.put, L1_, L2_, L3_] <;> rfl) (hJ29 (gb112) _ ⟨hHeld, (by (with_reducible repeat (first | apply Kd.R_alloc | apply Kd.R_drewN | apply Kd.R_drew)); exact HO_103005.out), (by (with_reducible repeat (first | refine b1_ ?_ _ | refine b2_ ?_ | refine b3_ ?_ _)); exact BK101.out), (by (with_reducible repeat (first | refine b1_ ?_ _ | refine b2_ ?_ | refine b3_ ?_ _)); exact BK102.out), (by (with_reducible repeat (first | refine b1_ ?_ _ | refine b2_ ?_ | refine b3_ ?_ _)); exact BK104.out), (by (with_reducible repeat (first | refine b1_ ?_ _ | refine b2_ ?_ | refine b3_ ?_ _)); exact BK112.out), GW112.out, GE112.out, NB101_112.out, NB112_101.out, NB102_112.out, NB112_102.out, NB104_112.out, NB112_104.out, (by repeat (first | (with_reducible first | exact HB.out | apply below_alloc | apply pw_below_drewN | apply below_drew1 | refine below_set ?_ GE101.out | refine below_set ?_ GE102.out | refine below_set ?_ GE104.out | refine below_set ?_ GE112.out) | exact HB.out))⟩)
                       ·skip
                        rintro gb112 w28 ⟨hS_, h0_, h1_, h2_, h3_, h4_, h5_, h6_, h7_, h8_, h9_, h10_, h11_, h12_, h13_⟩
                        have n0_ : Aside0 (Kd.R k36 36 w28 w.heap.size (fun k_ => k_ ≠ gb104 ∧ k_ ≠ gb112) u103005 x103005_1) := ⟨h0_⟩
                        have n1_ : Aside0 (w28.heap[gb101]? = some (.cells #[.int .i64 0, .int .i64 0, .int .i64 0, .int .i64 0, .int .i64 0, .slice none 0 0] 39 (0, 0))) := ⟨h1_⟩
                        have n2_ : Aside0 (w28.heap[gb102]? = some (.cells #[.int .i64 (wrap64 (Int.tmod a1 4)), .int .i64 7, .int .i64 8, .int .i64 9, .int .i64 10, u103005] 39 (0, 0))) := ⟨h2_⟩
                        have n3_ : Aside0 (w28.heap[gb104]? = some (.cells #[.int .i64 ((rd_T36 l0 x9_1).f0), .int .i64 ((rd_T36 l0 x9_1).f1), .int .i64 ((rd_T36 l0 x9_1).f2), .int .i64 ((rd_T36 l0 x9_1).f3), .int .i64 ((rd_T36 l0 x9_1).f4), .int .i64 ((rd_T36 l0 x9_1).f5), .int .i64 ((rd_T36 l0 x9_1).f6), .int .i64 ((rd_T36 l0 x9_1).f7), .int .i64 ((rd_T36 l0 x9_1).f8), .int .i64 ((rd_T36 l0 x9_1).f9)] 36 (0, 0))) := ⟨h3_⟩
                        have n4_ : Aside0 (w28.heap[gb112]? = some (.cells #[.int .i64 0, .int .i64 0, .int .i64 0, .int .i64 0, .int .i64 0, .int .i64 0, .int .i64 0, .int .i64 0, .int .i64 0, .int .i64 0] 36 (0, 0))) := ⟨h4_⟩
                        have n5_ : Aside0 (w.heap.size ≤ gb112) := ⟨h5_⟩
                        have n6_ : Aside0 (w.heap.size ≤ gb112) := ⟨h6_⟩
                        have n7_ : Aside0 (gb101 ≠ gb112) := ⟨h7_⟩
                        have n8_ : Aside0 (gb112 ≠ gb101) := ⟨h8_⟩
                        have n9_ : Aside0 (gb102 ≠ gb112) := ⟨h9_⟩
                        have n10_ : Aside0 (gb112 ≠ gb102) := ⟨h10_⟩
                        have n11_ : Aside0 (gb104 ≠ gb112) := ⟨h11_⟩
                        have n12_ : Aside0 (gb112 ≠ gb104) := ⟨h12_⟩
                        have n13_ : Aside0 (Below w.heap.size w w28) := ⟨h13_⟩
                        clear HO_103005
                        clear BK101
                        clear BK102
                        clear BK104
                        clear HB
                        clear h0_ h1_ h2_ h3_ h4_ h5_ h6_ h7_ h8_ h9_ h10_ h11_ h12_ h13_
                        have HO_103005 := n0_
                        have BK101 := n1_
                        have BK102 := n2_
                        have BK104 := n3_
                        have BK112 := n4_
                        have GW112 := n5_
                        have GE112 := n6_
                        have NB101_112 := n7_
                        have NB112_101 := n8_
                        have NB102_112 := n9_
                        have NB112_102 := n10_
                        have NB104_112 := n11_
                        have NB112_104 := n12_
                        have HB := n13_
                        clear n0_ n1_ n2_ n3_ n4_ n5_ n6_ n7_ n8_ n9_ n10_ n11_ n12_ n13_
                        have hHeld : w28.cell? ⟨gb104, 0, none⟩ = some (.int .i64 ((rd_T36 l0 x9_1).f0)) ∧ w28.cell? ⟨gb104, 1, none⟩ = some (.int .i64 ((rd_T36 l0 x9_1).f1)) ∧ w28.cell? ⟨gb104, 2, none⟩ = some (.int .i64 ((rd_T36 l0 x9_1).f2)) ∧ w28.cell? ⟨gb104, 3, none⟩ = some (.int .i64 ((rd_T36 l0 x9_1).f3)) ∧ w28.cell? ⟨gb104, 4, none⟩ = some (.int .i64 ((rd_T36 l0 x9_1).f4)) ∧ w28.cell? ⟨gb104, 5, none⟩ = some (.int .i64 ((rd_T36 l0 x9_1).f5)) ∧ w28.cell? ⟨gb104, 6, none⟩ = some (.int .i64 ((rd_T36 l0 x9_1).f6)) ∧ w28.cell? ⟨gb104, 7, none⟩ = some (.int .i64 ((rd_T36 l0 x9_1).f7)) ∧ w28.cell? ⟨gb104, 8, none⟩ = some (.int .i64 ((rd_T36 l0 x9_1).f8)) ∧ w28.cell? ⟨gb104, 9, none⟩ = some (.int .i64 ((rd_T36 l0 x9_1).f9)) := hS_
                        refine norm_ (a' := ?_) ?_ ?_
                        rotate_left
                        ·simp only [putAll, Act.put, L1_, L2_, L3_]
                         rfl
                        refine one_ (i := 3) (N := some 33) #[tt,tt,tt,tt,tt,tt,tt,ff,tt,tt,tt,ff,tt,tt,tt,ff,tt,tt,tt,ff,tt,tt,tt,ff,tt,tt,tt,ff,ff,tt,ff] rfl rfl (one_of HT_.out (by kernel_rfl)) (by decide) (fun K hK => ?_)
                        refine goesT_ Try.func45 (by kernel_rfl) rfl #[.int .i64 ((rd_T36 l0 x9_1).f0)] (by rfl) rfl rfl (by rfl) (by (try simp only [List.map_toArray, List.map_cons, List.map_nil]); first | done | rfl | (simp only [List.length_drop, List.length_take]; rfl)) ?_
                        with_reducible refine (laws_someOut_1.calls ((rd_T36 l0 x9_1).f0) t105 _ A13.out).mono ?_
                        rintro e w' ⟨rfl, ⟨nd, rfl⟩⟩
                        refine ⟨_, rfl, ?_⟩
                        refine hK.out _ _ ⟨(blk_cell BK104.out 0).trans rfl, (blk_cell BK104.out 1).trans rfl, (blk_cell BK104.out 2).trans rfl, (blk_cell BK104.out 3).trans rfl, (blk_cell BK104.out 4).trans rfl, (blk_cell BK104.out 5).trans rfl, (blk_cell BK104.out 6).trans rfl, (blk_cell BK104.out 7).trans rfl, (blk_cell BK104.out 8).trans rfl, (blk_cell BK104.out 9).trans rfl⟩ (fun hHeld => ?_)
                        clear hK K
                        refine norm_ (a' := ?_) ?_ ?_
                        rotate_left
                        ·show Act.put _ (some 33) _ = _
                         simp only [Act.put, L1_, L2_, L3_, i64_w, i32_w]
                         rfl
                        exact norm_ (by simp only [putAll, Act.put, L1_, L2_, L3_] <;> rfl) (hJ3_29 (gb112) _ ⟨hHeld, (by (with_reducible repeat (first | apply Kd.R_alloc | apply Kd.R_drewN | apply Kd.R_drew)); exact HO_103005.out), (by (with_reducible repeat (first | refine b1_ ?_ _ | refine b2_ ?_ | refine b3_ ?_ _)); exact BK101.out), (by (with_reducible repeat (first | refine b1_ ?_ _ | refine b2_ ?_ | refine b3_ ?_ _)); exact BK102.out), (by (with_reducible repeat (first | refine b1_ ?_ _ | refine b2_ ?_ | refine b3_ ?_ _)); exact BK104.out), (by (with_reducible repeat (first | refine b1_ ?_ _ | refine b2_ ?_ | refine b3_ ?_ _)); exact BK112.out), GW112.out, GE112.out, NB101_112.out, NB112_101.out, NB102_112.out, NB112_102.out, NB104_112.out, NB112_104.out, (by repeat (first | (with_reducible first | exact HB.out | apply below_alloc | apply pw_below_drewN | apply below_drew1 | refine below_set ?_ GE101.out | refine below_set ?_ GE102.out | refine below_set ?_ GE104.out | refine below_set ?_ GE112.out) | exact HB.out))⟩)
                      ·skip
                       rintro _ w27 ⟨hS_, h0_, h1_, h2_, h3_, h4_⟩
                       have n0_ : Aside0 (Kd.R k36 36 w27 w.heap.size (fun k_ => k_ ≠ gb104) u103005 x103005_1) := ⟨h0_⟩
                       have n1_ : Aside0 (w27.heap[gb101]? = some (.cells #[.int .i64 0, .int .i64 0, .int .i64 0, .int .i64 0, .int .i64 0, .slice none 0 0] 39 (0, 0))) := ⟨h1_⟩
                       have n2_ : Aside0 (w27.heap[gb102]? = some (.cells #[.int .i64 (wrap64 (Int.tmod a1 4)), .int .i64 7, .int .i64 8, .int .i64 9, .int .i64 10, u103005] 39 (0, 0))) := ⟨h2_⟩
                       have n3_ : Aside0 (w27.heap[gb104]? = some (.cells #[.int .i64 ((rd_T36 l0 x9_1).f0), .int .i64 ((rd_T36 l0 x9_1).f1), .int .i64 ((rd_T36 l0 x9_1).f2), .int .i64 ((rd_T36 l0 x9_1).f3), .int .i64 ((rd_T36 l0 x9_1).f4), .int .i64 ((rd_T36 l0 x9_1).f5), .int .i64 ((rd_T36 l0 x9_1).f6), .int .i64 ((rd_T36 l0 x9_1).f7), .int .i64 ((rd_T36 l0 x9_1).f8), .int .i64 ((rd_T36 l0 x9_1).f9)] 36 (0, 0))) := ⟨h3_⟩
                       have n4_ : Aside0 (Below w.heap.size w w27) := ⟨h4_⟩
                       clear HO_103005
                       clear BK101
                       clear BK102
                       clear BK104
                       clear HB
                       clear h0_ h1_ h2_ h3_ h4_
                       have HO_103005 := n0_
                       have BK101 := n1_
                       have BK102 := n2_
                       have BK104 := n3_
                       have HB := n4_
                       clear n0_ n1_ n2_ n3_ n4_
                       have hHeld : w27.cell? ⟨gb104, 0, none⟩ = some (.int .i64 ((rd_T36 l0 x9_1).f0)) ∧ w27.cell? ⟨gb104, 1, none⟩ = some (.int .i64 ((rd_T36 l0 x9_1).f1)) ∧ w27.cell? ⟨gb104, 2, none⟩ = some (.int .i64 ((rd_T36 l0 x9_1).f2)) ∧ w27.cell? ⟨gb104, 3, none⟩ = some (.int .i64 ((rd_T36 l0 x9_1).f3)) ∧ w27.cell? ⟨gb104, 4, none⟩ = some (.int .i64 ((rd_T36 l0 x9_1).f4)) ∧ w27.cell? ⟨gb104, 5, none⟩ = some (.int .i64 ((rd_T36 l0 x9_1).f5)) ∧ w27.cell? ⟨gb104, 6, none⟩ = some (.int .i64 ((rd_T36 l0 x9_1).f6)) ∧ w27.cell? ⟨gb104, 7, none⟩ = some (.int .i64 ((rd_T36 l0 x9_1).f7)) ∧ w27.cell? ⟨gb104, 8, none⟩ = some (.int .i64 ((rd_T36 l0 x9_1).f8)) ∧ w27.cell? ⟨gb104, 9, none⟩ = some (.int .i64 ((rd_T36 l0 x9_1).f9)) := hS_
                       refine norm_ (a' := ?_) ?_ ?_
                       rotate_left
                       ·simp only [putAll, Act.put, L1_, L2_, L3_]
                        rfl
                       refine two_ (i := 7) (j := 29) (Ni := some 37) (Nj := some 11) #[tt,tt,tt,tt,tt,tt,tt,tt,tt,tt,tt,ff,tt,tt,tt,ff,tt,tt,tt,ff,tt,tt,tt,ff,tt,tt,tt,ff,ff,ff,ff] #[tt,tt,tt,tt,tt,tt,tt,ff,tt,tt,tt,ff,tt,tt,tt,ff,tt,tt,tt,ff,tt,tt,tt,ff,tt,tt,tt,ff,ff,tt,ff] rfl rfl rfl rfl (two_of HT_.out (by kernel_rfl)) (by decide) (by decide) (fun K hK => ?_) (fun K hK => ?_)
                       ·skip
                        refine goesT_ Try.func45 (by kernel_rfl) rfl #[.int .i64 ((rd_T36 l0 x9_1).f1)] (by rfl) rfl rfl (by rfl) (by (try simp only [List.map_toArray, List.map_cons, List.map_nil]); first | done | rfl | (simp only [List.length_drop, List.length_take]; rfl)) ?_
                        with_reducible refine (laws_someOut_1.calls ((rd_T36 l0 x9_1).f1) t106 _ A14.out).mono ?_
                        rintro e w' ⟨rfl, ⟨nd, rfl⟩⟩
                        refine ⟨_, rfl, ?_⟩
                        refine hK.out _ _ ⟨(blk_cell BK104.out 0).trans rfl, (blk_cell BK104.out 1).trans rfl, (blk_cell BK104.out 2).trans rfl, (blk_cell BK104.out 3).trans rfl, (blk_cell BK104.out 4).trans rfl, (blk_cell BK104.out 5).trans rfl, (blk_cell BK104.out 6).trans rfl, (blk_cell BK104.out 7).trans rfl, (blk_cell BK104.out 8).trans rfl, (blk_cell BK104.out 9).trans rfl⟩ (fun hHeld => ?_)
                        clear hK K
                        refine norm_ (a' := ?_) ?_ ?_
                        rotate_left
                        ·show Act.put _ (some 37) _ = _
                         simp only [Act.put, L1_, L2_, L3_, i64_w, i32_w]
                         rfl
                        exact norm_ (by simp only [putAll, Act.put, L1_, L2_, L3_] <;> rfl) (hJ3_7 () _ ⟨hHeld, (by (with_reducible repeat (first | apply Kd.R_alloc | apply Kd.R_drewN | apply Kd.R_drew)); exact HO_103005.out), (by (with_reducible repeat (first | refine b1_ ?_ _ | refine b2_ ?_ | refine b3_ ?_ _)); exact BK101.out), (by (with_reducible repeat (first | refine b1_ ?_ _ | refine b2_ ?_ | refine b3_ ?_ _)); exact BK102.out), (by (with_reducible repeat (first | refine b1_ ?_ _ | refine b2_ ?_ | refine b3_ ?_ _)); exact BK104.out), (by repeat (first | (with_reducible first | exact HB.out | apply below_alloc | apply pw_below_drewN | apply below_drew1 | refine below_set ?_ GE101.out | refine below_set ?_ GE102.out | refine below_set ?_ GE104.out) | exact HB.out))⟩)
                       ·skip
                        refine box_step ?hg (N := 11) ?hd (cs := #[.int .i64 0, .int .i64 0, .int .i64 0, .int .i64 0, .int .i64 0, .int .i64 0, .int .i64 0, .int .i64 0, .int .i64 0, .int .i64 0]) (t := 36) ?hr ?_; (case hd => rfl); (case hg => rfl); (case hr => first | (go_simp; done) | (go_simp; rfl))
                        intro gb112 hg w28 hbox hb
                        have n0_ := Aside0.mk (Kd.R_below (Kd.R_elderB (by (with_reducible repeat (first | apply Kd.R_alloc | apply Kd.R_drewN | apply Kd.R_drew)); exact HO_103005.out) gb112 (Nat.le_of_eq hg.symm)) hb)
                        have n1_ := Aside0.mk (blk_below (g := gb101) (o := .cells #[.int .i64 0, .int .i64 0, .int .i64 0, .int .i64 0, .int .i64 0, .slice none 0 0] 39 (0, 0)) (by (with_reducible repeat (first | refine b1_ ?_ _ | refine b2_ ?_ | refine b3_ ?_ _)); exact BK101.out) hb)
                        have n2_ := Aside0.mk (blk_below (g := gb102) (o := .cells #[.int .i64 (wrap64 (Int.tmod a1 4)), .int .i64 7, .int .i64 8, .int .i64 9, .int .i64 10, u103005] 39 (0, 0)) (by (with_reducible repeat (first | refine b1_ ?_ _ | refine b2_ ?_ | refine b3_ ?_ _)); exact BK102.out) hb)
                        have n3_ := Aside0.mk (blk_below (g := gb104) (o := .cells #[.int .i64 ((rd_T36 l0 x9_1).f0), .int .i64 ((rd_T36 l0 x9_1).f1), .int .i64 ((rd_T36 l0 x9_1).f2), .int .i64 ((rd_T36 l0 x9_1).f3), .int .i64 ((rd_T36 l0 x9_1).f4), .int .i64 ((rd_T36 l0 x9_1).f5), .int .i64 ((rd_T36 l0 x9_1).f6), .int .i64 ((rd_T36 l0 x9_1).f7), .int .i64 ((rd_T36 l0 x9_1).f8), .int .i64 ((rd_T36 l0 x9_1).f9)] 36 (0, 0)) (by (with_reducible repeat (first | refine b1_ ?_ _ | refine b2_ ?_ | refine b3_ ?_ _)); exact BK104.out) hb)
                        have n4_ := Aside0.mk (below_step (by repeat (first | (with_reducible first | exact HB.out | apply below_alloc | apply pw_below_drewN | apply below_drew1 | refine below_set ?_ GE101.out | refine below_set ?_ GE102.out | refine below_set ?_ GE104.out) | exact HB.out)) hb)
                        have n5_ := Aside0.mk (hbox)
                        have n6_ := Aside0.mk ((by rw [hg]; exact (below_size (by repeat (first | (with_reducible first | exact HB.out | apply below_alloc | apply pw_below_drewN | apply below_drew1 | refine below_set ?_ GE101.out | refine below_set ?_ GE102.out | refine below_set ?_ GE104.out) | exact HB.out))) : w.heap.size ≤ gb112))
                        have n7_ := Aside0.mk ((by rw [hg]; exact (below_size (by repeat (first | (with_reducible first | exact HB.out | apply below_alloc | apply pw_below_drewN | apply below_drew1 | refine below_set ?_ GE101.out | refine below_set ?_ GE102.out | refine below_set ?_ GE104.out) | exact HB.out))) : w.heap.size ≤ gb112))
                        have n8_ := Aside0.mk ((by rw [hg]; exact Nat.ne_of_lt (blk_lt (g := gb101) (o := .cells #[.int .i64 0, .int .i64 0, .int .i64 0, .int .i64 0, .int .i64 0, .slice none 0 0] 39 (0, 0)) (by (with_reducible repeat (first | refine b1_ ?_ _ | refine b2_ ?_ | refine b3_ ?_ _)); exact BK101.out)) : gb101 ≠ gb112))
                        have n9_ := Aside0.mk ((by rw [hg]; exact Nat.ne_of_gt (blk_lt (g := gb101) (o := .cells #[.int .i64 0, .int .i64 0, .int .i64 0, .int .i64 0, .int .i64 0, .slice none 0 0] 39 (0, 0)) (by (with_reducible repeat (first | refine b1_ ?_ _ | refine b2_ ?_ | refine b3_ ?_ _)); exact BK101.out)) : gb112 ≠ gb101))
                        have n10_ := Aside0.mk ((by rw [hg]; exact Nat.ne_of_lt (blk_lt (g := gb102) (o := .cells #[.int .i64 (wrap64 (Int.tmod a1 4)), .int .i64 7, .int .i64 8, .int .i64 9, .int .i64 10, u103005] 39 (0, 0)) (by (with_reducible repeat (first | refine b1_ ?_ _ | refine b2_ ?_ | refine b3_ ?_ _)); exact BK102.out)) : gb102 ≠ gb112))
                        have n11_ := Aside0.mk ((by rw [hg]; exact Nat.ne_of_gt (blk_lt (g := gb102) (o := .cells #[.int .i64 (wrap64 (Int.tmod a1 4)), .int .i64 7, .int .i64 8, .int .i64 9, .int .i64 10, u103005] 39 (0, 0)) (by (with_reducible repeat (first | refine b1_ ?_ _ | refine b2_ ?_ | refine b3_ ?_ _)); exact BK102.out)) : gb112 ≠ gb102))
                        have n12_ := Aside0.mk ((by rw [hg]; exact Nat.ne_of_lt (blk_lt (g := gb104) (o := .cells #[.int .i64 ((rd_T36 l0 x9_1).f0), .int .i64 ((rd_T36 l0 x9_1).f1), .int .i64 ((rd_T36 l0 x9_1).f2), .int .i64 ((rd_T36 l0 x9_1).f3), .int .i64 ((rd_T36 l0 x9_1).f4), .int .i64 ((rd_T36 l0 x9_1).f5), .int .i64 ((rd_T36 l0 x9_1).f6), .int .i64 ((rd_T36 l0 x9_1).f7), .int .i64 ((rd_T36 l0 x9_1).f8), .int .i64 ((rd_T36 l0 x9_1).f9)] 36 (0, 0)) (by (with_reducible repeat (first | refine b1_ ?_ _ | refine b2_ ?_ | refine b3_ ?_ _)); exact BK104.out)) : gb104 ≠ gb112))
                        have n13_ := Aside0.mk ((by rw [hg]; exact Nat.ne_of_gt (blk_lt (g := gb104) (o := .cells #[.int .i64 ((rd_T36 l0 x9_1).f0), .int .i64 ((rd_T36 l0 x9_1).f1), .int .i64 ((rd_T36 l0 x9_1).f2), .int .i64 ((rd_T36 l0 x9_1).f3), .int .i64 ((rd_T36 l0 x9_1).f4), .int .i64 ((rd_T36 l0 x9_1).f5), .int .i64 ((rd_T36 l0 x9_1).f6), .int .i64 ((rd_T36 l0 x9_1).f7), .int .i64 ((rd_T36 l0 x9_1).f8), .int .i64 ((rd_T36 l0 x9_1).f9)] 36 (0, 0)) (by (with_reducible repeat (first | refine b1_ ?_ _ | refine b2_ ?_ | refine b3_ ?_ _)); exact BK104.out)) : gb112 ≠ gb104))
                        clear HO_103005
                        clear BK101
                        clear BK102
                        clear BK104
                        clear HB
                        have HO_103005 := n0_
                        have BK101 := n1_
                        have BK102 := n2_
                        have BK104 := n3_
                        have HB := n4_
                        have BK112 := n5_
                        have GW112 := n6_
                        have GE112 := n7_
                        have NB101_112 := n8_
                        have NB112_101 := n9_
                        have NB102_112 := n10_
                        have NB112_102 := n11_
                        have NB104_112 := n12_
                        have NB112_104 := n13_
                        clear n0_ n1_ n2_ n3_ n4_ n5_ n6_ n7_ n8_ n9_ n10_ n11_ n12_ n13_
                        clear hb hbox hg
                        refine hK.out _ _ ⟨(blk_cell BK104.out 0).trans rfl, (blk_cell BK104.out 1).trans rfl, (blk_cell BK104.out 2).trans rfl, (blk_cell BK104.out 3).trans rfl, (blk_cell BK104.out 4).trans rfl, (blk_cell BK104.out 5).trans rfl, (blk_cell BK104.out 6).trans rfl, (blk_cell BK104.out 7).trans rfl, (blk_cell BK104.out 8).trans rfl, (blk_cell BK104.out 9).trans rfl⟩ (fun hHeld => ?_)
                        clear hK K
                        refine norm_ (a' := ?_) ?_ ?_
                        rotate_left
                        ·show Act.put _ (some 11) _ = _
                         simp only [Act.put, L1_, L2_, L3_, i64_w, i32_w]
                         rfl
                        exact norm_ (by simp only [putAll, Act.put, L1_, L2_, L3_] <;> rfl) (hJ3_29 (gb112) _ ⟨hHeld, (by (with_reducible repeat (first | apply Kd.R_alloc | apply Kd.R_drewN | apply Kd.R_drew)); exact HO_103005.out), (by (with_reducible repeat (first | refine b1_ ?_ _ | refine b2_ ?_ | refine b3_ ?_ _)); exact BK101.out), (by (with_reducible repeat (first | refine b1_ ?_ _ | refine b2_ ?_ | refine b3_ ?_ _)); exact BK102.out), (by (with_reducible repeat (first | refine b1_ ?_ _ | refine b2_ ?_ | refine b3_ ?_ _)); exact BK104.out), (by (with_reducible repeat (first | refine b1_ ?_ _ | refine b2_ ?_ | refine b3_ ?_ _)); exact BK112.out), GW112.out, GE112.out, NB101_112.out, NB112_101.out, NB102_112.out, NB112_102.out, NB104_112.out, NB112_104.out, (by repeat (first | (with_reducible first | exact HB.out | apply below_alloc | apply pw_below_drewN | apply below_drew1 | refine below_set ?_ GE101.out | refine below_set ?_ GE102.out | refine below_set ?_ GE104.out | refine below_set ?_ GE112.out) | exact HB.out))⟩)
                     ·skip
                      rintro gb112 w28 ⟨hS_, h0_, h1_, h2_, h3_, h4_, h5_, h6_, h7_, h8_, h9_, h10_, h11_, h12_, h13_⟩
                      have n0_ : Aside0 (Kd.R k36 36 w28 w.heap.size (fun k_ => k_ ≠ gb104 ∧ k_ ≠ gb112) u103005 x103005_1) := ⟨h0_⟩
                      have n1_ : Aside0 (w28.heap[gb101]? = some (.cells #[.int .i64 0, .int .i64 0, .int .i64 0, .int .i64 0, .int .i64 0, .slice none 0 0] 39 (0, 0))) := ⟨h1_⟩
                      have n2_ : Aside0 (w28.heap[gb102]? = some (.cells #[.int .i64 (wrap64 (Int.tmod a1 4)), .int .i64 7, .int .i64 8, .int .i64 9, .int .i64 10, u103005] 39 (0, 0))) := ⟨h2_⟩
                      have n3_ : Aside0 (w28.heap[gb104]? = some (.cells #[.int .i64 ((rd_T36 l0 x9_1).f0), .int .i64 ((rd_T36 l0 x9_1).f1), .int .i64 ((rd_T36 l0 x9_1).f2), .int .i64 ((rd_T36 l0 x9_1).f3), .int .i64 ((rd_T36 l0 x9_1).f4), .int .i64 ((rd_T36 l0 x9_1).f5), .int .i64 ((rd_T36 l0 x9_1).f6), .int .i64 ((rd_T36 l0 x9_1).f7), .int .i64 ((rd_T36 l0 x9_1).f8), .int .i64 ((rd_T36 l0 x9_1).f9)] 36 (0, 0))) := ⟨h3_⟩
                      have n4_ : Aside0 (w28.heap[gb112]? = some (.cells #[.int .i64 0, .int .i64 0, .int .i64 0, .int .i64 0, .int .i64 0, .int .i64 0, .int .i64 0, .int .i64 0, .int .i64 0, .int .i64 0] 36 (0, 0))) := ⟨h4_⟩
                      have n5_ : Aside0 (w.heap.size ≤ gb112) := ⟨h5_⟩
                      have n6_ : Aside0 (w.heap.size ≤ gb112) := ⟨h6_⟩
                      have n7_ : Aside0 (gb101 ≠ gb112) := ⟨h7_⟩
                      have n8_ : Aside0 (gb112 ≠ gb101) := ⟨h8_⟩
                      have n9_ : Aside0 (gb102 ≠ gb112) := ⟨h9_⟩
                      have n10_ : Aside0 (gb112 ≠ gb102) := ⟨h10_⟩
                      have n11_ : Aside0 (gb104 ≠ gb112) := ⟨h11_⟩
                      have n12_ : Aside0 (gb112 ≠ gb104) := ⟨h12_⟩
                      have n13_ : Aside0 (Below w.heap.size w w28) := ⟨h13_⟩
                      clear HO_103005
                      clear BK101
                      clear BK102
                      clear BK104
                      clear HB
                      clear h0_ h1_ h2_ h3_ h4_ h5_ h6_ h7_ h8_ h9_ h10_ h11_ h12_ h13_
                      have HO_103005 := n0_
                      have BK101 := n1_
                      have BK102 := n2_
                      have BK104 := n3_
                      have BK112 := n4_
                      have GW112 := n5_
                      have GE112 := n6_
                      have NB101_112 := n7_
                      have NB112_101 := n8_
                      have NB102_112 := n9_
                      have NB112_102 := n10_
                      have NB104_112 := n11_
                      have NB112_104 := n12_
                      have HB := n13_
                      clear n0_ n1_ n2_ n3_ n4_ n5_ n6_ n7_ n8_ n9_ n10_ n11_ n12_ n13_
                      have hHeld : w28.cell? ⟨gb104, 0, none⟩ = some (.int .i64 ((rd_T36 l0 x9_1).f0)) ∧ w28.cell? ⟨gb104, 1, none⟩ = some (.int .i64 ((rd_T36 l0 x9_1).f1)) ∧ w28.cell? ⟨gb104, 2, none⟩ = some (.int .i64 ((rd_T36 l0 x9_1).f2)) ∧ w28.cell? ⟨gb104, 3, none⟩ = some (.int .i64 ((rd_T36 l0 x9_1).f3)) ∧ w28.cell? ⟨gb104, 4, none⟩ = some (.int .i64 ((rd_T36 l0 x9_1).f4)) ∧ w28.cell? ⟨gb104, 5, none⟩ = some (.int .i64 ((rd_T36 l0 x9_1).f5)) ∧ w28.cell? ⟨gb104, 6, none⟩ = some (.int .i64 ((rd_T36 l0 x9_1).f6)) ∧ w28.cell? ⟨gb104, 7, none⟩ = some (.int .i64 ((rd_T36 l0 x9_1).f7)) ∧ w28.cell? ⟨gb104, 8, none⟩ = some (.int .i64 ((rd_T36 l0 x9_1).f8)) ∧ w28.cell? ⟨gb104, 9, none⟩ = some (.int .i64 ((rd_T36 l0 x9_1).f9)) := hS_
                      refine norm_ (a' := ?_) ?_ ?_
                      rotate_left
                      ·simp only [putAll, Act.put, L1_, L2_, L3_]
                       rfl
                      refine one_ (i := 7) (N := some 37) #[tt,tt,tt,tt,tt,tt,tt,tt,tt,tt,tt,ff,tt,tt,tt,ff,tt,tt,tt,ff,tt,tt,tt,ff,tt,tt,tt,ff,ff,tt,ff] rfl rfl (one_of HT_.out (by kernel_rfl)) (by decide) (fun K hK => ?_)
                      refine goesT_ Try.func45 (by kernel_rfl) rfl #[.int .i64 ((rd_T36 l0 x9_1).f1)] (by rfl) rfl rfl (by rfl) (by (try simp only [List.map_toArray, List.map_cons, List.map_nil]); first | done | rfl | (simp only [List.length_drop, List.length_take]; rfl)) ?_
                      with_reducible refine (laws_someOut_1.calls ((rd_T36 l0 x9_1).f1) t106 _ A14.out).mono ?_
                      rintro e w' ⟨rfl, ⟨nd, rfl⟩⟩
                      refine ⟨_, rfl, ?_⟩
                      refine hK.out _ _ ⟨(blk_cell BK104.out 0).trans rfl, (blk_cell BK104.out 1).trans rfl, (blk_cell BK104.out 2).trans rfl, (blk_cell BK104.out 3).trans rfl, (blk_cell BK104.out 4).trans rfl, (blk_cell BK104.out 5).trans rfl, (blk_cell BK104.out 6).trans rfl, (blk_cell BK104.out 7).trans rfl, (blk_cell BK104.out 8).trans rfl, (blk_cell BK104.out 9).trans rfl⟩ (fun hHeld => ?_)
                      clear hK K
                      refine norm_ (a' := ?_) ?_ ?_
                      rotate_left
                      ·show Act.put _ (some 37) _ = _
                       simp only [Act.put, L1_, L2_, L3_, i64_w, i32_w]
                       rfl
                      exact norm_ (by simp only [putAll, Act.put, L1_, L2_, L3_] <;> rfl) (hJ3_7_29 (gb112) _ ⟨hHeld, (by (with_reducible repeat (first | apply Kd.R_alloc | apply Kd.R_drewN | apply Kd.R_drew)); exact HO_103005.out), (by (with_reducible repeat (first | refine b1_ ?_ _ | refine b2_ ?_ | refine b3_ ?_ _)); exact BK101.out), (by (with_reducible repeat (first | refine b1_ ?_ _ | refine b2_ ?_ | refine b3_ ?_ _)); exact BK102.out), (by (with_reducible repeat (first | refine b1_ ?_ _ | refine b2_ ?_ | refine b3_ ?_ _)); exact BK104.out), (by (with_reducible repeat (first | refine b1_ ?_ _ | refine b2_ ?_ | refine b3_ ?_ _)); exact BK112.out), GW112.out, GE112.out, NB101_112.out, NB112_101.out, NB102_112.out, NB112_102.out, NB104_112.out, NB112_104.out, (by repeat (first | (with_reducible first | exact HB.out | apply below_alloc | apply pw_below_drewN | apply below_drew1 | refine below_set ?_ GE101.out | refine below_set ?_ GE102.out | refine below_set ?_ GE104.out | refine below_set ?_ GE112.out) | exact HB.out))⟩)
                    ·skip
                     rintro _ w27 ⟨hS_, h0_, h1_, h2_, h3_, h4_⟩
                     have n0_ : Aside0 (Kd.R k36 36 w27 w.heap.size (fun k_ => k_ ≠ gb104) u103005 x103005_1) := ⟨h0_⟩
                     have n1_ : Aside0 (w27.heap[gb101]? = some (.cells #[.int .i64 0, .int .i64 0, .int .i64 0, .int .i64 0, .int .i64 0, .slice none 0 0] 39 (0, 0))) := ⟨h1_⟩
                     have n2_ : Aside0 (w27.heap[gb102]? = some (.cells #[.int .i64 (wrap64 (Int.tmod a1 4)), .int .i64 7, .int .i64 8, .int .i64 9, .int .i64 10, u103005] 39 (0, 0))) := ⟨h2_⟩
                     have n3_ : Aside0 (w27.heap[gb104]? = some (.cells #[.int .i64 ((rd_T36 l0 x9_1).f0), .int .i64 ((rd_T36 l0 x9_1).f1), .int .i64 ((rd_T36 l0 x9_1).f2), .int .i64 ((rd_T36 l0 x9_1).f3), .int .i64 ((rd_T36 l0 x9_1).f4), .int .i64 ((rd_T36 l0 x9_1).f5), .int .i64 ((rd_T36 l0 x9_1).f6), .int .i64 ((rd_T36 l0 x9_1).f7), .int .i64 ((rd_T36 l0 x9_1).f8), .int .i64 ((rd_T36 l0 x9_1).f9)] 36 (0, 0))) := ⟨h3_⟩
                     have n4_ : Aside0 (Below w.heap.size w w27) := ⟨h4_⟩
                     clear HO_103005
                     clear BK101
                     clear BK102
                     clear BK104
                     clear HB
                     clear h0_ h1_ h2_ h3_ h4_
                     have HO_103005 := n0_
                     have BK101 := n1_
                     have BK102 := n2_
                     have BK104 := n3_
                     have HB := n4_
                     clear n0_ n1_ n2_ n3_ n4_
                     have hHeld : w27.cell? ⟨gb104, 0, none⟩ = some (.int .i64 ((rd_T36 l0 x9_1).f0)) ∧ w27.cell? ⟨gb104, 1, none⟩ = some (.int .i64 ((rd_T36 l0 x9_1).f1)) ∧ w27.cell? ⟨gb104, 2, none⟩ = some (.int .i64 ((rd_T36 l0 x9_1).f2)) ∧ w27.cell? ⟨gb104, 3, none⟩ = some (.int .i64 ((rd_T36 l0 x9_1).f3)) ∧ w27.cell? ⟨gb104, 4, none⟩ = some (.int .i64 ((rd_T36 l0 x9_1).f4)) ∧ w27.cell? ⟨gb104, 5, none⟩ = some (.int .i64 ((rd_T36 l0 x9_1).f5)) ∧ w27.cell? ⟨gb104, 6, none⟩ = some (.int .i64 ((rd_T36 l0 x9_1).f6)) ∧ w27.cell? ⟨gb104, 7, none⟩ = some (.int .i64 ((rd_T36 l0 x9_1).f7)) ∧ w27.cell? ⟨gb104, 8, none⟩ = some (.int .i64 ((rd_T36 l0 x9_1).f8)) ∧ w27.cell? ⟨gb104, 9, none⟩ = some (.int .i64 ((rd_T36 l0 x9_1).f9)) := hS_
                     refine norm_ (a' := ?_) ?_ ?_
                     rotate_left
                     ·simp only [putAll, Act.put, L1_, L2_, L3_]
                      rfl
                     refine two_ (i := 11) (j := 29) (Ni := some 41) (Nj := some 11) #[tt,tt,tt,tt,tt,tt,tt,tt,tt,tt,tt,tt,tt,tt,tt,ff,tt,tt,tt,ff,tt,tt,tt,ff,tt,tt,tt,ff,ff,ff,ff] #[tt,tt,tt,tt,tt,tt,tt,tt,tt,tt,tt,ff,tt,tt,tt,ff,tt,tt,tt,ff,tt,tt,tt,ff,tt,tt,tt,ff,ff,tt,ff] rfl rfl rfl rfl (two_of HT_.out (by kernel_rfl)) (by decide) (by decide) (fun K hK => ?_) (fun K hK => ?_)
                     ·skip
                      refine goesT_ Try.func45 (by kernel_rfl) rfl #[.int .i64 ((rd_T36 l0 x9_1).f2)] (by rfl) rfl rfl (by rfl) (by (try simp only [List.map_toArray, List.map_cons, List.map_nil]); first | done | rfl | (simp only [List.length_drop, List.length_take]; rfl)) ?_
                      with_reducible refine (laws_someOut_1.calls ((rd_T36 l0 x9_1).f2) t107 _ A15.out).mono ?_
                      rintro e w' ⟨rfl, ⟨nd, rfl⟩⟩
                      refine ⟨_, rfl, ?_⟩
                      refine hK.out _ _ ⟨(blk_cell BK104.out 0).trans rfl, (blk_cell BK104.out 1).trans rfl, (blk_cell BK104.out 2).trans rfl, (blk_cell BK104.out 3).trans rfl, (blk_cell BK104.out 4).trans rfl, (blk_cell BK104.out 5).trans rfl, (blk_cell BK104.out 6).trans rfl, (blk_cell BK104.out 7).trans rfl, (blk_cell BK104.out 8).trans rfl, (blk_cell BK104.out 9).trans rfl⟩ (fun hHeld => ?_)
                      clear hK K
                      refine norm_ (a' := ?_) ?_ ?_
                      rotate_left
                      ·show Act.put _ (some 41) _ = _
                       simp only [Act.put, L1_, L2_, L3_, i64_w, i32_w]
                       rfl
                      exact norm_ (by simp only [putAll, Act.put, L1_, L2_, L3_] <;> rfl) (hJ3_7_11 () _ ⟨hHeld, (by (with_reducible repeat (first | apply Kd.R_alloc | apply Kd.R_drewN | apply Kd.R_drew)); exact HO_103005.out), (by (with_reducible repeat (first | refine b1_ ?_ _ | refine b2_ ?_ | refine b3_ ?_ _)); exact BK101.out), (by (with_reducible repeat (first | refine b1_ ?_ _ | refine b2_ ?_ | refine b3_ ?_ _)); exact BK102.out), (by (with_reducible repeat (first | refine b1_ ?_ _ | refine b2_ ?_ | refine b3_ ?_ _)); exact BK104.out), (by repeat (first | (with_reducible first | exact HB.out | apply below_alloc | apply pw_below_drewN | apply below_drew1 | refine below_set ?_ GE101.out | refine below_set ?_ GE102.out | refine below_set ?_ GE104.out) | exact HB.out))⟩)
                     ·skip
                      refine box_step ?hg (N := 11) ?hd (cs := #[.int .i64 0, .int .i64 0, .int .i64 0, .int .i64 0, .int .i64 0, .int .i64 0, .int .i64 0, .int .i64 0, .int .i64 0, .int .i64 0]) (t := 36) ?hr ?_; (case hd => rfl); (case hg => rfl); (case hr => first | (go_simp; done) | (go_simp; rfl))
                      intro gb112 hg w28 hbox hb
                      have n0_ := Aside0.mk (Kd.R_below (Kd.R_elderB (by (with_reducible repeat (first | apply Kd.R_alloc | apply Kd.R_drewN | apply Kd.R_drew)); exact HO_103005.out) gb112 (Nat.le_of_eq hg.symm)) hb)
                      have n1_ := Aside0.mk (blk_below (g := gb101) (o := .cells #[.int .i64 0, .int .i64 0, .int .i64 0, .int .i64 0, .int .i64 0, .slice none 0 0] 39 (0, 0)) (by (with_reducible repeat (first | refine b1_ ?_ _ | refine b2_ ?_ | refine b3_ ?_ _)); exact BK101.out) hb)
                      have n2_ := Aside0.mk (blk_below (g := gb102) (o := .cells #[.int .i64 (wrap64 (Int.tmod a1 4)), .int .i64 7, .int .i64 8, .int .i64 9, .int .i64 10, u103005] 39 (0, 0)) (by (with_reducible repeat (first | refine b1_ ?_ _ | refine b2_ ?_ | refine b3_ ?_ _)); exact BK102.out) hb)
                      have n3_ := Aside0.mk (blk_below (g := gb104) (o := .cells #[.int .i64 ((rd_T36 l0 x9_1).f0), .int .i64 ((rd_T36 l0 x9_1).f1), .int .i64 ((rd_T36 l0 x9_1).f2), .int .i64 ((rd_T36 l0 x9_1).f3), .int .i64 ((rd_T36 l0 x9_1).f4), .int .i64 ((rd_T36 l0 x9_1).f5), .int .i64 ((rd_T36 l0 x9_1).f6), .int .i64 ((rd_T36 l0 x9_1).f7), .int .i64 ((rd_T36 l0 x9_1).f8), .int .i64 ((rd_T36 l0 x9_1).f9)] 36 (0, 0)) (by (with_reducible repeat (first | refine b1_ ?_ _ | refine b2_ ?_ | refine b3_ ?_ _)); exact BK104.out) hb)
                      have n4_ := Aside0.mk (below_step (by repeat (first | (with_reducible first | exact HB.out | apply below_alloc | apply pw_below_drewN | apply below_drew1 | refine below_set ?_ GE101.out | refine below_set ?_ GE102.out | refine below_set ?_ GE104.out) | exact HB.out)) hb)
                      have n5_ := Aside0.mk (hbox)
                      have n6_ := Aside0.mk ((by rw [hg]; exact (below_size (by repeat (first | (with_reducible first | exact HB.out | apply below_alloc | apply pw_below_drewN | apply below_drew1 | refine below_set ?_ GE101.out | refine below_set ?_ GE102.out | refine below_set ?_ GE104.out) | exact HB.out))) : w.heap.size ≤ gb112))
                      have n7_ := Aside0.mk ((by rw [hg]; exact (below_size (by repeat (first | (with_reducible first | exact HB.out | apply below_alloc | apply pw_below_drewN | apply below_drew1 | refine below_set ?_ GE101.out | refine below_set ?_ GE102.out | refine below_set ?_ GE104.out) | exact HB.out))) : w.heap.size ≤ gb112))
                      have n8_ := Aside0.mk ((by rw [hg]; exact Nat.ne_of_lt (blk_lt (g := gb101) (o := .cells #[.int .i64 0, .int .i64 0, .int .i64 0, .int .i64 0, .int .i64 0, .slice none 0 0] 39 (0, 0)) (by (with_reducible repeat (first | refine b1_ ?_ _ | refine b2_ ?_ | refine b3_ ?_ _)); exact BK101.out)) : gb101 ≠ gb112))
                      have n9_ := Aside0.mk ((by rw [hg]; exact Nat.ne_of_gt (blk_lt (g := gb101) (o := .cells #[.int .i64 0, .int .i64 0, .int .i64 0, .int .i64 0, .int .i64 0, .slice none 0 0] 39 (0, 0)) (by (with_reducible repeat (first | refine b1_ ?_ _ | refine b2_ ?_ | refine b3_ ?_ _)); exact BK101.out)) : gb112 ≠ gb101))
                      have n10_ := Aside0.mk ((by rw [hg]; exact Nat.ne_of_lt (blk_lt (g := gb102) (o := .cells #[.int .i64 (wrap64 (Int.tmod a1 4)), .int .i64 7, .int .i64 8, .int .i64 9, .int .i64 10, u103005] 39 (0, 0)) (by (with_reducible repeat (first | refine b1_ ?_ _ | refine b2_ ?_ | refine b3_ ?_ _)); exact BK102.out)) : gb102 ≠ gb112))
                      have n11_ := Aside0.mk ((by rw [hg]; exact Nat.ne_of_gt (blk_lt (g := gb102) (o := .cells #[.int .i64 (wrap64 (Int.tmod a1 4)), .int .i64 7, .int .i64 8, .int .i64 9, .int .i64 10, u103005] 39 (0, 0)) (by (with_reducible repeat (first | refine b1_ ?_ _ | refine b2_ ?_ | refine b3_ ?_ _)); exact BK102.out)) : gb112 ≠ gb102))
                      have n12_ := Aside0.mk ((by rw [hg]; exact Nat.ne_of_lt (blk_lt (g := gb104) (o := .cells #[.int .i64 ((rd_T36 l0 x9_1).f0), .int .i64 ((rd_T36 l0 x9_1).f1), .int .i64 ((rd_T36 l0 x9_1).f2), .int .i64 ((rd_T36 l0 x9_1).f3), .int .i64 ((rd_T36 l0 x9_1).f4), .int .i64 ((rd_T36 l0 x9_1).f5), .int .i64 ((rd_T36 l0 x9_1).f6), .int .i64 ((rd_T36 l0 x9_1).f7), .int .i64 ((rd_T36 l0 x9_1).f8), .int .i64 ((rd_T36 l0 x9_1).f9)] 36 (0, 0)) (by (with_reducible repeat (first | refine b1_ ?_ _ | refine b2_ ?_ | refine b3_ ?_ _)); exact BK104.out)) : gb104 ≠ gb112))
                      have n13_ := Aside0.mk ((by rw [hg]; exact Nat.ne_of_gt (blk_lt (g := gb104) (o := .cells #[.int .i64 ((rd_T36 l0 x9_1).f0), .int .i64 ((rd_T36 l0 x9_1).f1), .int .i64 ((rd_T36 l0 x9_1).f2), .int .i64 ((rd_T36 l0 x9_1).f3), .int .i64 ((rd_T36 l0 x9_1).f4), .int .i64 ((rd_T36 l0 x9_1).f5), .int .i64 ((rd_T36 l0 x9_1).f6), .int .i64 ((rd_T36 l0 x9_1).f7), .int .i64 ((rd_T36 l0 x9_1).f8), .int .i64 ((rd_T36 l0 x9_1).f9)] 36 (0, 0)) (by (with_reducible repeat (first | refine b1_ ?_ _ | refine b2_ ?_ | refine b3_ ?_ _)); exact BK104.out)) : gb112 ≠ gb104))
                      clear HO_103005
                      clear BK101
                      clear BK102
                      clear BK104
                      clear HB
                      have HO_103005 := n0_
                      have BK101 := n1_
                      have BK102 := n2_
                      have BK104 := n3_
                      have HB := n4_
                      have BK112 := n5_
                      have GW112 := n6_
                      have GE112 := n7_
                      have NB101_112 := n8_
                      have NB112_101 := n9_
                      have NB102_112 := n10_
                      have NB112_102 := n11_
                      have NB104_112 := n12_
                      have NB112_104 := n13_
                      clear n0_ n1_ n2_ n3_ n4_ n5_ n6_ n7_ n8_ n9_ n10_ n11_ n12_ n13_
                      clear hb hbox hg
                      refine hK.out _ _ ⟨(blk_cell BK104.out 0).trans rfl, (blk_cell BK104.out 1).trans rfl, (blk_cell BK104.out 2).trans rfl, (blk_cell BK104.out 3).trans rfl, (blk_cell BK104.out 4).trans rfl, (blk_cell BK104.out 5).trans rfl, (blk_cell BK104.out 6).trans rfl, (blk_cell BK104.out 7).trans rfl, (blk_cell BK104.out 8).trans rfl, (blk_cell BK104.out 9).trans rfl⟩ (fun hHeld => ?_)
                      clear hK K
                      refine norm_ (a' := ?_) ?_ ?_
                      rotate_left
                      ·show Act.put _ (some 11) _ = _
                       simp only [Act.put, L1_, L2_, L3_, i64_w, i32_w]
                       rfl
                      exact norm_ (by simp only [putAll, Act.put, L1_, L2_, L3_] <;> rfl) (hJ3_7_29 (gb112) _ ⟨hHeld, (by (with_reducible repeat (first | apply Kd.R_alloc | apply Kd.R_drewN | apply Kd.R_drew)); exact HO_103005.out), (by (with_reducible repeat (first | refine b1_ ?_ _ | refine b2_ ?_ | refine b3_ ?_ _)); exact BK101.out), (by (with_reducible repeat (first | refine b1_ ?_ _ | refine b2_ ?_ | refine b3_ ?_ _)); exact BK102.out), (by (with_reducible repeat (first | refine b1_ ?_ _ | refine b2_ ?_ | refine b3_ ?_ _)); exact BK104.out), (by (with_reducible repeat (first | refine b1_ ?_ _ | refine b2_ ?_ | refine b3_ ?_ _)); exact BK112.out), GW112.out, GE112.out, NB101_112.out, NB112_101.out, NB102_112.out, NB112_102.out, NB104_112.out, NB112_104.out, (by repeat (first | (with_reducible first | exact HB.out | apply below_alloc | apply pw_below_drewN | apply below_drew1 | refine below_set ?_ GE101.out | refine below_set ?_ GE102.out | refine below_set ?_ GE104.out | refine below_set ?_ GE112.out) | exact HB.out))⟩)
                   ·skip
                    rintro gb112 w28 ⟨hS_, h0_, h1_, h2_, h3_, h4_, h5_, h6_, h7_, h8_, h9_, h10_, h11_, h12_, h13_⟩
                    have n0_ : Aside0 (Kd.R k36 36 w28 w.heap.size (fun k_ => k_ ≠ gb104 ∧ k_ ≠ gb112) u103005 x103005_1) := ⟨h0_⟩
                    have n1_ : Aside0 (w28.heap[gb101]? = some (.cells #[.int .i64 0, .int .i64 0, .int .i64 0, .int .i64 0, .int .i64 0, .slice none 0 0] 39 (0, 0))) := ⟨h1_⟩
                    have n2_ : Aside0 (w28.heap[gb102]? = some (.cells #[.int .i64 (wrap64 (Int.tmod a1 4)), .int .i64 7, .int .i64 8, .int .i64 9, .int .i64 10, u103005] 39 (0, 0))) := ⟨h2_⟩
                    have n3_ : Aside0 (w28.heap[gb104]? = some (.cells #[.int .i64 ((rd_T36 l0 x9_1).f0), .int .i64 ((rd_T36 l0 x9_1).f1), .int .i64 ((rd_T36 l0 x9_1).f2), .int .i64 ((rd_T36 l0 x9_1).f3), .int .i64 ((rd_T36 l0 x9_1).f4), .int .i64 ((rd_T36 l0 x9_1).f5), .int .i64 ((rd_T36 l0 x9_1).f6), .int .i64 ((rd_T36 l0 x9_1).f7), .int .i64 ((rd_T36 l0 x9_1).f8), .int .i64 ((rd_T36 l0 x9_1).f9)] 36 (0, 0))) := ⟨h3_⟩
                    have n4_ : Aside0 (w28.heap[gb112]? = some (.cells #[.int .i64 0, .int .i64 0, .int .i64 0, .int .i64 0, .int .i64 0, .int .i64 0, .int .i64 0, .int .i64 0, .int .i64 0, .int .i64 0] 36 (0, 0))) := ⟨h4_⟩
                    have n5_ : Aside0 (w.heap.size ≤ gb112) := ⟨h5_⟩
                    have n6_ : Aside0 (w.heap.size ≤ gb112) := ⟨h6_⟩
                    have n7_ : Aside0 (gb101 ≠ gb112) := ⟨h7_⟩
                    have n8_ : Aside0 (gb112 ≠ gb101) := ⟨h8_⟩
                    have n9_ : Aside0 (gb102 ≠ gb112) := ⟨h9_⟩
                    have n10_ : Aside0 (gb112 ≠ gb102) := ⟨h10_⟩
                    have n11_ : Aside0 (gb104 ≠ gb112) := ⟨h11_⟩
                    have n12_ : Aside0 (gb112 ≠ gb104) := ⟨h12_⟩
                    have n13_ : Aside0 (Below w.heap.size w w28) := ⟨h13_⟩
                    clear HO_103005
                    clear BK101
                    clear BK102
                    clear BK104
                    clear HB
                    clear h0_ h1_ h2_ h3_ h4_ h5_ h6_ h7_ h8_ h9_ h10_ h11_ h12_ h13_
                    have HO_103005 := n0_
                    have BK101 := n1_
                    have BK102 := n2_
                    have BK104 := n3_
                    have BK112 := n4_
                    have GW112 := n5_
                    have GE112 := n6_
                    have NB101_112 := n7_
                    have NB112_101 := n8_
                    have NB102_112 := n9_
                    have NB112_102 := n10_
                    have NB104_112 := n11_
                    have NB112_104 := n12_
                    have HB := n13_
                    clear n0_ n1_ n2_ n3_ n4_ n5_ n6_ n7_ n8_ n9_ n10_ n11_ n12_ n13_
                    have hHeld : w28.cell? ⟨gb104, 0, none⟩ = some (.int .i64 ((rd_T36 l0 x9_1).f0)) ∧ w28.cell? ⟨gb104, 1, none⟩ = some (.int .i64 ((rd_T36 l0 x9_1).f1)) ∧ w28.cell? ⟨gb104, 2, none⟩ = some (.int .i64 ((rd_T36 l0 x9_1).f2)) ∧ w28.cell? ⟨gb104, 3, none⟩ = some (.int .i64 ((rd_T36 l0 x9_1).f3)) ∧ w28.cell? ⟨gb104, 4, none⟩ = some (.int .i64 ((rd_T36 l0 x9_1).f4)) ∧ w28.cell? ⟨gb104, 5, none⟩ = some (.int .i64 ((rd_T36 l0 x9_1).f5)) ∧ w28.cell? ⟨gb104, 6, none⟩ = some (.int .i64 ((rd_T36 l0 x9_1).f6)) ∧ w28.cell? ⟨gb104, 7, none⟩ = some (.int .i64 ((rd_T36 l0 x9_1).f7)) ∧ w28.cell? ⟨gb104, 8, none⟩ = some (.int .i64 ((rd_T36 l0 x9_1).f8)) ∧ w28.cell? ⟨gb104, 9, none⟩ = some (.int .i64 ((rd_T36 l0 x9_1).f9)) := hS_
                    refine norm_ (a' := ?_) ?_ ?_
                    rotate_left
                    ·simp only [putAll, Act.put, L1_, L2_, L3_]
                     rfl
                    refine one_ (i := 11) (N := some 41) #[tt,tt,tt,tt,tt,tt,tt,tt,tt,tt,tt,tt,tt,tt,tt,ff,tt,tt,tt,ff,tt,tt,tt,ff,tt,tt,tt,ff,ff,tt,ff] rfl rfl (one_of HT_.out (by kernel_rfl)) (by decide) (fun K hK => ?_)
                    refine goesT_ Try.func45 (by kernel_rfl) rfl #[.int .i64 ((rd_T36 l0 x9_1).f2)] (by rfl) rfl rfl (by rfl) (by (try simp only [List.map_toArray, List.map_cons, List.map_nil]); first | done | rfl | (simp only [List.length_drop, List.length_take]; rfl)) ?_
                    with_reducible refine (laws_someOut_1.calls ((rd_T36 l0 x9_1).f2) t107 _ A15.out).mono ?_
                    rintro e w' ⟨rfl, ⟨nd, rfl⟩⟩
                    refine ⟨_, rfl, ?_⟩
                    refine hK.out _ _ ⟨(blk_cell BK104.out 0).trans rfl, (blk_cell BK104.out 1).trans rfl, (blk_cell BK104.out 2).trans rfl, (blk_cell BK104.out 3).trans rfl, (blk_cell BK104.out 4).trans rfl, (blk_cell BK104.out 5).trans rfl, (blk_cell BK104.out 6).trans rfl, (blk_cell BK104.out 7).trans rfl, (blk_cell BK104.out 8).trans rfl, (blk_cell BK104.out 9).trans rfl⟩ (fun hHeld => ?_)
                    clear hK K
                    refine norm_ (a' := ?_) ?_ ?_
                    rotate_left
                    ·show Act.put _ (some 41) _ = _
                     simp only [Act.put, L1_, L2_, L3_, i64_w, i32_w]
                     rfl
                    exact norm_ (by simp only [putAll, Act.put, L1_, L2_, L3_] <;> rfl) (hJ3_7_11_29 (gb112) _ ⟨hHeld, (by (with_reducible repeat (first | apply Kd.R_alloc | apply Kd.R_drewN | apply Kd.R_drew)); exact HO_103005.out), (by (with_reducible repeat (first | refine b1_ ?_ _ | refine b2_ ?_ | refine b3_ ?_ _)); exact BK101.out), (by (with_reducible repeat (first | refine b1_ ?_ _ | refine b2_ ?_ | refine b3_ ?_ _)); exact BK102.out), (by (with_reducible repeat (first | refine b1_ ?_ _ | refine b2_ ?_ | refine b3_ ?_ _)); exact BK104.out), (by (with_reducible repeat (first | refine b1_ ?_ _ | refine b2_ ?_ | refine b3_ ?_ _)); exact BK112.out), GW112.out, GE112.out, NB101_112.out, NB112_101.out, NB102_112.out, NB112_102.out, NB104_112.out, NB112_104.out, (by repeat (first | (with_reducible first | exact HB.out | apply below_alloc | apply pw_below_drewN | apply below_drew1 | refine below_set ?_ GE101.out | refine below_set ?_ GE102.out | refine below_set ?_ GE104.out | refine below_set ?_ GE112.out) | exact HB.out))⟩)
                  ·skip
                   rintro _ w27 ⟨hS_, h0_, h1_, h2_, h3_, h4_⟩
                   have n0_ : Aside0 (Kd.R k36 36 w27 w.heap.size (fun k_ => k_ ≠ gb104) u103005 x103005_1) := ⟨h0_⟩
                   have n1_ : Aside0 (w27.heap[gb101]? = some (.cells #[.int .i64 0, .int .i64 0, .int .i64 0, .int .i64 0, .int .i64 0, .slice none 0 0] 39 (0, 0))) := ⟨h1_⟩
                   have n2_ : Aside0 (w27.heap[gb102]? = some (.cells #[.int .i64 (wrap64 (Int.tmod a1 4)), .int .i64 7, .int .i64 8, .int .i64 9, .int .i64 10, u103005] 39 (0, 0))) := ⟨h2_⟩
                   have n3_ : Aside0 (w27.heap[gb104]? = some (.cells #[.int .i64 ((rd_T36 l0 x9_1).f0), .int .i64 ((rd_T36 l0 x9_1).f1), .int .i64 ((rd_T36 l0 x9_1).f2), .int .i64 ((rd_T36 l0 x9_1).f3), .int .i64 ((rd_T36 l0 x9_1).f4), .int .i64 ((rd_T36 l0 x9_1).f5), .int .i64 ((rd_T36 l0 x9_1).f6), .int .i64 ((rd_T36 l0 x9_1).f7), .int .i64 ((rd_T36 l0 x9_1).f8), .int .i64 ((rd_T36 l0 x9_1).f9)] 36 (0, 0))) := ⟨h3_⟩
                   have n4_ : Aside0 (Below w.heap.size w w27) := ⟨h4_⟩
                   clear HO_103005
                   clear BK101
                   clear BK102
                   clear BK104
                   clear HB
                   clear h0_ h1_ h2_ h3_ h4_
                   have HO_103005 := n0_
                   have BK101 := n1_
                   have BK102 := n2_
                   have BK104 := n3_
                   have HB := n4_
                   clear n0_ n1_ n2_ n3_ n4_
                   have hHeld : w27.cell? ⟨gb104, 0, none⟩ = some (.int .i64 ((rd_T36 l0 x9_1).f0)) ∧ w27.cell? ⟨gb104, 1, none⟩ = some (.int .i64 ((rd_T36 l0 x9_1).f1)) ∧ w27.cell? ⟨gb104, 2, none⟩ = some (.int .i64 ((rd_T36 l0 x9_1).f2)) ∧ w27.cell? ⟨gb104, 3, none⟩ = some (.int .i64 ((rd_T36 l0 x9_1).f3)) ∧ w27.cell? ⟨gb104, 4, none⟩ = some (.int .i64 ((rd_T36 l0 x9_1).f4)) ∧ w27.cell? ⟨gb104, 5, none⟩ = some (.int .i64 ((rd_T36 l0 x9_1).f5)) ∧ w27.cell? ⟨gb104, 6, none⟩ = some (.int .i64 ((rd_T36 l0 x9_1).f6)) ∧ w27.cell? ⟨gb104, 7, none⟩ = some (.int .i64 ((rd_T36 l0 x9_1).f7)) ∧ w27.cell? ⟨gb104, 8, none⟩ = some (.int .i64 ((rd_T36 l0 x9_1).f8)) ∧ w27.cell? ⟨gb104, 9, none⟩ = some (.int .i64 ((rd_T36 l0 x9_1).f9)) := hS_
                   refine norm_ (a' := ?_) ?_ ?_
                   rotate_left
                   ·simp only [putAll, Act.put, L1_, L2_, L3_]
                    rfl
                   refine two_ (i := 15) (j := 29) (Ni := some 45) (Nj := some 11) #[tt,tt,tt,tt,tt,tt,tt,tt,tt,tt,tt,tt,tt,tt,tt,tt,tt,tt,tt,ff,tt,tt,tt,ff,tt,tt,tt,ff,ff,ff,ff] #[tt,tt,tt,tt,tt,tt,tt,tt,tt,tt,tt,tt,tt,tt,tt,ff,tt,tt,tt,ff,tt,tt,tt,ff,tt,tt,tt,ff,ff,tt,ff] rfl rfl rfl rfl (two_of HT_.out (by kernel_rfl)) (by decide) (by decide) (fun K hK => ?_) (fun K hK => ?_)
                   ·skip
                    refine goesT_ Try.func45 (by kernel_rfl) rfl #[.int .i64 ((rd_T36 l0 x9_1).f3)] (by rfl) rfl rfl (by rfl) (by (try simp only [List.map_toArray, List.map_cons, List.map_nil]); first | done | rfl | (simp only [List.length_drop, List.length_take]; rfl)) ?_
                    with_reducible refine (laws_someOut_1.calls ((rd_T36 l0 x9_1).f3) t108 _ A16.out).mono ?_
                    rintro e w' ⟨rfl, ⟨nd, rfl⟩⟩
                    refine ⟨_, rfl, ?_⟩
                    refine hK.out _ _ ⟨(blk_cell BK104.out 0).trans rfl, (blk_cell BK104.out 1).trans rfl, (blk_cell BK104.out 2).trans rfl, (blk_cell BK104.out 3).trans rfl, (blk_cell BK104.out 4).trans rfl, (blk_cell BK104.out 5).trans rfl, (blk_cell BK104.out 6).trans rfl, (blk_cell BK104.out 7).trans rfl, (blk_cell BK104.out 8).trans rfl, (blk_cell BK104.out 9).trans rfl⟩ (fun hHeld => ?_)
                    clear hK K
                    refine norm_ (a' := ?_) ?_ ?_
                    rotate_left
                    ·show Act.put _ (some 45) _ = _
                     simp only [Act.put, L1_, L2_, L3_, i64_w, i32_w]
                     rfl
                    exact norm_ (by simp only [putAll, Act.put, L1_, L2_, L3_] <;> rfl) (hJ3_7_11_15 () _ ⟨hHeld, (by (with_reducible repeat (first | apply Kd.R_alloc | apply Kd.R_drewN | apply Kd.R_drew)); exact HO_103005.out), (by (with_reducible repeat (first | refine b1_ ?_ _ | refine b2_ ?_ | refine b3_ ?_ _)); exact BK101.out), (by (with_reducible repeat (first | refine b1_ ?_ _ | refine b2_ ?_ | refine b3_ ?_ _)); exact BK102.out), (by (with_reducible repeat (first | refine b1_ ?_ _ | refine b2_ ?_ | refine b3_ ?_ _)); exact BK104.out), (by repeat (first | (with_reducible first | exact HB.out | apply below_alloc | apply pw_below_drewN | apply below_drew1 | refine below_set ?_ GE101.out | refine below_set ?_ GE102.out | refine below_set ?_ GE104.out) | exact HB.out))⟩)
                   ·skip
                    refine box_step ?hg (N := 11) ?hd (cs := #[.int .i64 0, .int .i64 0, .int .i64 0, .int .i64 0, .int .i64 0, .int .i64 0, .int .i64 0, .int .i64 0, .int .i64 0, .int .i64 0]) (t := 36) ?hr ?_; (case hd => rfl); (case hg => rfl); (case hr => first | (go_simp; done) | (go_simp; rfl))
                    intro gb112 hg w28 hbox hb
                    have n0_ := Aside0.mk (Kd.R_below (Kd.R_elderB (by (with_reducible repeat (first | apply Kd.R_alloc | apply Kd.R_drewN | apply Kd.R_drew)); exact HO_103005.out) gb112 (Nat.le_of_eq hg.symm)) hb)
                    have n1_ := Aside0.mk (blk_below (g := gb101) (o := .cells #[.int .i64 0, .int .i64 0, .int .i64 0, .int .i64 0, .int .i64 0, .slice none 0 0] 39 (0, 0)) (by (with_reducible repeat (first | refine b1_ ?_ _ | refine b2_ ?_ | refine b3_ ?_ _)); exact BK101.out) hb)
                    have n2_ := Aside0.mk (blk_below (g := gb102) (o := .cells #[.int .i64 (wrap64 (Int.tmod a1 4)), .int .i64 7, .int .i64 8, .int .i64 9, .int .i64 10, u103005] 39 (0, 0)) (by (with_reducible repeat (first | refine b1_ ?_ _ | refine b2_ ?_ | refine b3_ ?_ _)); exact BK102.out) hb)
                    have n3_ := Aside0.mk (blk_below (g := gb104) (o := .cells #[.int .i64 ((rd_T36 l0 x9_1).f0), .int .i64 ((rd_T36 l0 x9_1).f1), .int .i64 ((rd_T36 l0 x9_1).f2), .int .i64 ((rd_T36 l0 x9_1).f3), .int .i64 ((rd_T36 l0 x9_1).f4), .int .i64 ((rd_T36 l0 x9_1).f5), .int .i64 ((rd_T36 l0 x9_1).f6), .int .i64 ((rd_T36 l0 x9_1).f7), .int .i64 ((rd_T36 l0 x9_1).f8), .int .i64 ((rd_T36 l0 x9_1).f9)] 36 (0, 0)) (by (with_reducible repeat (first | refine b1_ ?_ _ | refine b2_ ?_ | refine b3_ ?_ _)); exact BK104.out) hb)
                    have n4_ := Aside0.mk (below_step (by repeat (first | (with_reducible first | exact HB.out | apply below_alloc | apply pw_below_drewN | apply below_drew1 | refine below_set ?_ GE101.out | refine below_set ?_ GE102.out | refine below_set ?_ GE104.out) | exact HB.out)) hb)
                    have n5_ := Aside0.mk (hbox)
                    have n6_ := Aside0.mk ((by rw [hg]; exact (below_size (by repeat (first | (with_reducible first | exact HB.out | apply below_alloc | apply pw_below_drewN | apply below_drew1 | refine below_set ?_ GE101.out | refine below_set ?_ GE102.out | refine below_set ?_ GE104.out) | exact HB.out))) : w.heap.size ≤ gb112))
                    have n7_ := Aside0.mk ((by rw [hg]; exact (below_size (by repeat (first | (with_reducible first | exact HB.out | apply below_alloc | apply pw_below_drewN | apply below_drew1 | refine below_set ?_ GE101.out | refine below_set ?_ GE102.out | refine below_set ?_ GE104.out) | exact HB.out))) : w.heap.size ≤ gb112))
                    have n8_ := Aside0.mk ((by rw [hg]; exact Nat.ne_of_lt (blk_lt (g := gb101) (o := .cells #[.int .i64 0, .int .i64 0, .int .i64 0, .int .i64 0, .int .i64 0, .slice none 0 0] 39 (0, 0)) (by (with_reducible repeat (first | refine b1_ ?_ _ | refine b2_ ?_ | refine b3_ ?_ _)); exact BK101.out)) : gb101 ≠ gb112))
                    have n9_ := Aside0.mk ((by rw [hg]; exact Nat.ne_of_gt (blk_lt (g := gb101) (o := .cells #[.int .i64 0, .int .i64 0, .int .i64 0, .int .i64 0, .int .i64 0, .slice none 0 0] 39 (0, 0)) (by (with_reducible repeat (first | refine b1_ ?_ _ | refine b2_ ?_ | refine b3_ ?_ _)); exact BK101.out)) : gb112 ≠ gb101))
                    have n10_ := Aside0.mk ((by rw [hg]; exact Nat.ne_of_lt (blk_lt (g := gb102) (o := .cells #[.int .i64 (wrap64 (Int.tmod a1 4)), .int .i64 7, .int .i64 8, .int .i64 9, .int .i64 10, u103005] 39 (0, 0)) (by (with_reducible repeat (first | refine b1_ ?_ _ | refine b2_ ?_ | refine b3_ ?_ _)); exact BK102.out)) : gb102 ≠ gb112))
                    have n11_ := Aside0.mk ((by rw [hg]; exact Nat.ne_of_gt (blk_lt (g := gb102) (o := .cells #[.int .i64 (wrap64 (Int.tmod a1 4)), .int .i64 7, .int .i64 8, .int .i64 9, .int .i64 10, u103005] 39 (0, 0)) (by (with_reducible repeat (first | refine b1_ ?_ _ | refine b2_ ?_ | refine b3_ ?_ _)); exact BK102.out)) : gb112 ≠ gb102))
                    have n12_ := Aside0.mk ((by rw [hg]; exact Nat.ne_of_lt (blk_lt (g := gb104) (o := .cells #[.int .i64 ((rd_T36 l0 x9_1).f0), .int .i64 ((rd_T36 l0 x9_1).f1), .int .i64 ((rd_T36 l0 x9_1).f2), .int .i64 ((rd_T36 l0 x9_1).f3), .int .i64 ((rd_T36 l0 x9_1).f4), .int .i64 ((rd_T36 l0 x9_1).f5), .int .i64 ((rd_T36 l0 x9_1).f6), .int .i64 ((rd_T36 l0 x9_1).f7), .int .i64 ((rd_T36 l0 x9_1).f8), .int .i64 ((rd_T36 l0 x9_1).f9)] 36 (0, 0)) (by (with_reducible repeat (first | refine b1_ ?_ _ | refine b2_ ?_ | refine b3_ ?_ _)); exact BK104.out)) : gb104 ≠ gb112))
                    have n13_ := Aside0.mk ((by rw [hg]; exact Nat.ne_of_gt (blk_lt (g := gb104) (o := .cells #[.int .i64 ((rd_T36 l0 x9_1).f0), .int .i64 ((rd_T36 l0 x9_1).f1), .int .i64 ((rd_T36 l0 x9_1).f2), .int .i64 ((rd_T36 l0 x9_1).f3), .int .i64 ((rd_T36 l0 x9_1).f4), .int .i64 ((rd_T36 l0 x9_1).f5), .int .i64 ((rd_T36 l0 x9_1).f6), .int .i64 ((rd_T36 l0 x9_1).f7), .int .i64 ((rd_T36 l0 x9_1).f8), .int .i64 ((rd_T36 l0 x9_1).f9)] 36 (0, 0)) (by (with_reducible repeat (first | refine b1_ ?_ _ | refine b2_ ?_ | refine b3_ ?_ _)); exact BK104.out)) : gb112 ≠ gb104))
                    clear HO_103005
                    clear BK101
                    clear BK102
                    clear BK104
                    clear HB
                    have HO_103005 := n0_
                    have BK101 := n1_
                    have BK102 := n2_
                    have BK104 := n3_
                    have HB := n4_
                    have BK112 := n5_
                    have GW112 := n6_
                    have GE112 := n7_
                    have NB101_112 := n8_
                    have NB112_101 := n9_
                    have NB102_112 := n10_
                    have NB112_102 := n11_
                    have NB104_112 := n12_
                    have NB112_104 := n13_
                    clear n0_ n1_ n2_ n3_ n4_ n5_ n6_ n7_ n8_ n9_ n10_ n11_ n12_ n13_
                    clear hb hbox hg
                    refine hK.out _ _ ⟨(blk_cell BK104.out 0).trans rfl, (blk_cell BK104.out 1).trans rfl, (blk_cell BK104.out 2).trans rfl, (blk_cell BK104.out 3).trans rfl, (blk_cell BK104.out 4).trans rfl, (blk_cell BK104.out 5).trans rfl, (blk_cell BK104.out 6).trans rfl, (blk_cell BK104.out 7).trans rfl, (blk_cell BK104.out 8).trans rfl, (blk_cell BK104.out 9).trans rfl⟩ (fun hHeld => ?_)
                    clear hK K
                    refine norm_ (a' := ?_) ?_ ?_
                    rotate_left
                    ·show Act.put _ (some 11) _ = _
                     simp only [Act.put, L1_, L2_, L3_, i64_w, i32_w]
                     rfl
                    exact norm_ (by simp only [putAll, Act.put, L1_, L2_, L3_] <;> rfl) (hJ3_7_11_29 (gb112) _ ⟨hHeld, (by (with_reducible repeat (first | apply Kd.R_alloc | apply Kd.R_drewN | apply Kd.R_drew)); exact HO_103005.out), (by (with_reducible repeat (first | refine b1_ ?_ _ | refine b2_ ?_ | refine b3_ ?_ _)); exact BK101.out), (by (with_reducible repeat (first | refine b1_ ?_ _ | refine b2_ ?_ | refine b3_ ?_ _)); exact BK102.out), (by (with_reducible repeat (first | refine b1_ ?_ _ | refine b2_ ?_ | refine b3_ ?_ _)); exact BK104.out), (by (with_reducible repeat (first | refine b1_ ?_ _ | refine b2_ ?_ | refine b3_ ?_ _)); exact BK112.out), GW112.out, GE112.out, NB101_112.out, NB112_101.out, NB102_112.out, NB112_102.out, NB104_112.out, NB112_104.out, (by repeat (first | (with_reducible first | exact HB.out | apply below_alloc | apply pw_below_drewN | apply below_drew1 | refine below_set ?_ GE101.out | refine below_set ?_ GE102.out | refine below_set ?_ GE104.out | refine below_set ?_ GE112.out) | exact HB.out))⟩)
                 ·skip
                  rintro gb112 w28 ⟨hS_, h0_, h1_, h2_, h3_, h4_, h5_, h6_, h7_, h8_, h9_, h10_, h11_, h12_, h13_⟩
                  have n0_ : Aside0 (Kd.R k36 36 w28 w.heap.size (fun k_ => k_ ≠ gb104 ∧ k_ ≠ gb112) u103005 x103005_1) := ⟨h0_⟩
                  have n1_ : Aside0 (w28.heap[gb101]? = some (.cells #[.int .i64 0, .int .i64 0, .int .i64 0, .int .i64 0, .int .i64 0, .slice none 0 0] 39 (0, 0))) := ⟨h1_⟩
                  have n2_ : Aside0 (w28.heap[gb102]? = some (.cells #[.int .i64 (wrap64 (Int.tmod a1 4)), .int .i64 7, .int .i64 8, .int .i64 9, .int .i64 10, u103005] 39 (0, 0))) := ⟨h2_⟩
                  have n3_ : Aside0 (w28.heap[gb104]? = some (.cells #[.int .i64 ((rd_T36 l0 x9_1).f0), .int .i64 ((rd_T36 l0 x9_1).f1), .int .i64 ((rd_T36 l0 x9_1).f2), .int .i64 ((rd_T36 l0 x9_1).f3), .int .i64 ((rd_T36 l0 x9_1).f4), .int .i64 ((rd_T36 l0 x9_1).f5), .int .i64 ((rd_T36 l0 x9_1).f6), .int .i64 ((rd_T36 l0 x9_1).f7), .int .i64 ((rd_T36 l0 x9_1).f8), .int .i64 ((rd_T36 l0 x9_1).f9)] 36 (0, 0))) := ⟨h3_⟩
                  have n4_ : Aside0 (w28.heap[gb112]? = some (.cells #[.int .i64 0, .int .i64 0, .int .i64 0, .int .i64 0, .int .i64 0, .int .i64 0, .int .i64 0, .int .i64 0, .int .i64 0, .int .i64 0] 36 (0, 0))) := ⟨h4_⟩
                  have n5_ : Aside0 (w.heap.size ≤ gb112) := ⟨h5_⟩
                  have n6_ : Aside0 (w.heap.size ≤ gb112) := ⟨h6_⟩
                  have n7_ : Aside0 (gb101 ≠ gb112) := ⟨h7_⟩
                  have n8_ : Aside0 (gb112 ≠ gb101) := ⟨h8_⟩
                  have n9_ : Aside0 (gb102 ≠ gb112) := ⟨h9_⟩
                  have n10_ : Aside0 (gb112 ≠ gb102) := ⟨h10_⟩
                  have n11_ : Aside0 (gb104 ≠ gb112) := ⟨h11_⟩
                  have n12_ : Aside0 (gb112 ≠ gb104) := ⟨h12_⟩
                  have n13_ : Aside0 (Below w.heap.size w w28) := ⟨h13_⟩
                  clear HO_103005
                  clear BK101
                  clear BK102
                  clear BK104
                  clear HB
                  clear h0_ h1_ h2_ h3_ h4_ h5_ h6_ h7_ h8_ h9_ h10_ h11_ h12_ h13_
                  have HO_103005 := n0_
                  have BK101 := n1_
                  have BK102 := n2_
                  have BK104 := n3_
                  have BK112 := n4_
                  have GW112 := n5_
                  have GE112 := n6_
                  have NB101_112 := n7_
                  have NB112_101 := n8_
                  have NB102_112 := n9_
                  have NB112_102 := n10_
                  have NB104_112 := n11_
                  have NB112_104 := n12_
                  have HB := n13_
                  clear n0_ n1_ n2_ n3_ n4_ n5_ n6_ n7_ n8_ n9_ n10_ n11_ n12_ n13_
                  have hHeld : w28.cell? ⟨gb104, 0, none⟩ = some (.int .i64 ((rd_T36 l0 x9_1).f0)) ∧ w28.cell? ⟨gb104, 1, none⟩ = some (.int .i64 ((rd_T36 l0 x9_1).f1)) ∧ w28.cell? ⟨gb104, 2, none⟩ = some (.int .i64 ((rd_T36 l0 x9_1).f2)) ∧ w28.cell? ⟨gb104, 3, none⟩ = some (.int .i64 ((rd_T36 l0 x9_1).f3)) ∧ w28.cell? ⟨gb104, 4, none⟩ = some (.int .i64 ((rd_T36 l0 x9_1).f4)) ∧ w28.cell? ⟨gb104, 5, none⟩ = some (.int .i64 ((rd_T36 l0 x9_1).f5)) ∧ w28.cell? ⟨gb104, 6, none⟩ = some (.int .i64 ((rd_T36 l0 x9_1).f6)) ∧ w28.cell? ⟨gb104, 7, none⟩ = some (.int .i64 ((rd_T36 l0 x9_1).f7)) ∧ w28.cell? ⟨gb104, 8, none⟩ = some (.int .i64 ((rd_T36 l0 x9_1).f8)) ∧ w28.cell? ⟨gb104, 9, none⟩ = some (.int .i64 ((rd_T36 l0 x9_1).f9)) := hS_
                  refine norm_ (a' := ?_) ?_ ?_
                  rotate_left
                  ·simp only [putAll, Act.put, L1_, L2_, L3_]
                   rfl
                  refine one_ (i := 15) (N := some 45) #[tt,tt,tt,tt,tt,tt,tt,tt,tt,tt,tt,tt,tt,tt,tt,tt,tt,tt,tt,ff,tt,tt,tt,ff,tt,tt,tt,ff,ff,tt,ff] rfl rfl (one_of HT_.out (by kernel_rfl)) (by decide) (fun K hK => ?_)
                  refine goesT_ Try.func45 (by kernel_rfl) rfl #[.int .i64 ((rd_T36 l0 x9_1).f3)] (by rfl) rfl rfl (by rfl) (by (try simp only [List.map_toArray, List.map_cons, List.map_nil]); first | done | rfl | (simp only [List.length_drop, List.length_take]; rfl)) ?_
                  with_reducible refine (laws_someOut_1.calls ((rd_T36 l0 x9_1).f3) t108 _ A16.out).mono ?_
                  rintro e w' ⟨rfl, ⟨nd, rfl⟩⟩
                  refine ⟨_, rfl, ?_⟩
                  refine hK.out _ _ ⟨(blk_cell BK104.out 0).trans rfl, (blk_cell BK104.out 1).trans rfl, (blk_cell BK104.out 2).trans rfl, (blk_cell BK104.out 3).trans rfl, (blk_cell BK104.out 4).trans rfl, (blk_cell BK104.out 5).trans rfl, (blk_cell BK104.out 6).trans rfl, (blk_cell BK104.out 7).trans rfl, (blk_cell BK104.out 8).trans rfl, (blk_cell BK104.out 9).trans rfl⟩ (fun hHeld => ?_)
                  clear hK K
                  refine norm_ (a' := ?_) ?_ ?_
                  rotate_left
                  ·show Act.put _ (some 45) _ = _
                   simp only [Act.put, L1_, L2_, L3_, i64_w, i32_w]
                   rfl
                  exact norm_ (by simp only [putAll, Act.put, L1_, L2_, L3_] <;> rfl) (hJ3_7_11_15_29 (gb112) _ ⟨hHeld, (by (with_reducible repeat (first | apply Kd.R_alloc | apply Kd.R_drewN | apply Kd.R_drew)); exact HO_103005.out), (by (with_reducible repeat (first | refine b1_ ?_ _ | refine b2_ ?_ | refine b3_ ?_ _)); exact BK101.out), (by (with_reducible repeat (first | refine b1_ ?_ _ | refine b2_ ?_ | refine b3_ ?_ _)); exact BK102.out), (by (with_reducible repeat (first | refine b1_ ?_ _ | refine b2_ ?_ | refine b3_ ?_ _)); exact BK104.out), (by (with_reducible repeat (first | refine b1_ ?_ _ | refine b2_ ?_ | refine b3_ ?_ _)); exact BK112.out), GW112.out, GE112.out, NB101_112.out, NB112_101.out, NB102_112.out, NB112_102.out, NB104_112.out, NB112_104.out, (by repeat (first | (with_reducible first | exact HB.out | apply below_alloc | apply pw_below_drewN | apply below_drew1 | refine below_set ?_ GE101.out | refine below_set ?_ GE102.out | refine below_set ?_ GE104.out | refine below_set ?_ GE112.out) | exact HB.out))⟩)
                ·skip
                 rintro _ w27 ⟨hS_, h0_, h1_, h2_, h3_, h4_⟩
                 have n0_ : Aside0 (Kd.R k36 36 w27 w.heap.size (fun k_ => k_ ≠ gb104) u103005 x103005_1) := ⟨h0_⟩
                 have n1_ : Aside0 (w27.heap[gb101]? = some (.cells #[.int .i64 0, .int .i64 0, .int .i64 0, .int .i64 0, .int .i64 0, .slice none 0 0] 39 (0, 0))) := ⟨h1_⟩
                 have n2_ : Aside0 (w27.heap[gb102]? = some (.cells #[.int .i64 (wrap64 (Int.tmod a1 4)), .int .i64 7, .int .i64 8, .int .i64 9, .int .i64 10, u103005] 39 (0, 0))) := ⟨h2_⟩
                 have n3_ : Aside0 (w27.heap[gb104]? = some (.cells #[.int .i64 ((rd_T36 l0 x9_1).f0), .int .i64 ((rd_T36 l0 x9_1).f1), .int .i64 ((rd_T36 l0 x9_1).f2), .int .i64 ((rd_T36 l0 x9_1).f3), .int .i64 ((rd_T36 l0 x9_1).f4), .int .i64 ((rd_T36 l0 x9_1).f5), .int .i64 ((rd_T36 l0 x9_1).f6), .int .i64 ((rd_T36 l0 x9_1).f7), .int .i64 ((rd_T36 l0 x9_1).f8), .int .i64 ((rd_T36 l0 x9_1).f9)] 36 (0, 0))) := ⟨h3_⟩
                 have n4_ : Aside0 (Below w.heap.size w w27) := ⟨h4_⟩
                 clear HO_103005
                 clear BK101
                 clear BK102
                 clear BK104
                 clear HB
                 clear h0_ h1_ h2_ h3_ h4_
                 have HO_103005 := n0_
                 have BK101 := n1_
                 have BK102 := n2_
                 have BK104 := n3_
                 have HB := n4_
                 clear n0_ n1_ n2_ n3_ n4_
                 have hHeld : w27.cell? ⟨gb104, 0, none⟩ = some (.int .i64 ((rd_T36 l0 x9_1).f0)) ∧ w27.cell? ⟨gb104, 1, none⟩ = some (.int .i64 ((rd_T36 l0 x9_1).f1)) ∧ w27.cell? ⟨gb104, 2, none⟩ = some (.int .i64 ((rd_T36 l0 x9_1).f2)) ∧ w27.cell? ⟨gb104, 3, none⟩ = some (.int .i64 ((rd_T36 l0 x9_1).f3)) ∧ w27.cell? ⟨gb104, 4, none⟩ = some (.int .i64 ((rd_T36 l0 x9_1).f4)) ∧ w27.cell? ⟨gb104, 5, none⟩ = some (.int .i64 ((rd_T36 l0 x9_1).f5)) ∧ w27.cell? ⟨gb104, 6, none⟩ = some (.int .i64 ((rd_T36 l0 x9_1).f6)) ∧ w27.cell? ⟨gb104, 7, none⟩ = some (.int .i64 ((rd_T36 l0 x9_1).f7)) ∧ w27.cell? ⟨gb104, 8, none⟩ = some (.int .i64 ((rd_T36 l0 x9_1).f8)) ∧ w27.cell? ⟨gb104, 9, none⟩ = some (.int .i64 ((rd_T36 l0 x9_1).f9)) := hS_
                 refine norm_ (a' := ?_) ?_ ?_
                 rotate_left
                 ·simp only [putAll, Act.put, L1_, L2_, L3_]
                  rfl
                 refine two_ (i := 19) (j := 29) (Ni := some 49) (Nj := some 11) #[tt,tt,tt,tt,tt,tt,tt,tt,tt,tt,tt,tt,tt,tt,tt,tt,tt,tt,tt,tt,tt,tt,tt,ff,tt,tt,tt,ff,ff,ff,ff] #[tt,tt,tt,tt,tt,tt,tt,tt,tt,tt,tt,tt,tt,tt,tt,tt,tt,tt,tt,ff,tt,tt,tt,ff,tt,tt,tt,ff,ff,tt,ff] rfl rfl rfl rfl (two_of HT_.out (by kernel_rfl)) (by decide) (by decide) (fun K hK => ?_) (fun K hK => ?_)
                 ·skip
                  refine goesT_ Try.func45 (by kernel_rfl) rfl #[.int .i64 ((rd_T36 l0 x9_1).f4)] (by rfl) rfl rfl (by rfl) (by (try simp only [List.map_toArray, List.map_cons, List.map_nil]); first | done | rfl | (simp only [List.length_drop, List.length_take]; rfl)) ?_
                  with_reducible refine (laws_someOut_1.calls ((rd_T36 l0 x9_1).f4) t109 _ A17.out).mono ?_
                  rintro e w' ⟨rfl, ⟨nd, rfl⟩⟩
                  refine ⟨_, rfl, ?_⟩
                  refine hK.out _ _ ⟨(blk_cell BK104.out 0).trans rfl, (blk_cell BK104.out 1).trans rfl, (blk_cell BK104.out 2).trans rfl, (blk_cell BK104.out 3).trans rfl, (blk_cell BK104.out 4).trans rfl, (blk_cell BK104.out 5).trans rfl, (blk_cell BK104.out 6).trans rfl, (blk_cell BK104.out 7).trans rfl, (blk_cell BK104.out 8).trans rfl, (blk_cell BK104.out 9).trans rfl⟩ (fun hHeld => ?_)
                  clear hK K
                  refine norm_ (a' := ?_) ?_ ?_
                  rotate_left
                  ·show Act.put _ (some 49) _ = _
                   simp only [Act.put, L1_, L2_, L3_, i64_w, i32_w]
                   rfl
                  exact norm_ (by simp only [putAll, Act.put, L1_, L2_, L3_] <;> rfl) (hJ3_7_11_15_19 () _ ⟨hHeld, (by (with_reducible repeat (first | apply Kd.R_alloc | apply Kd.R_drewN | apply Kd.R_drew)); exact HO_103005.out), (by (with_reducible repeat (first | refine b1_ ?_ _ | refine b2_ ?_ | refine b3_ ?_ _)); exact BK101.out), (by (with_reducible repeat (first | refine b1_ ?_ _ | refine b2_ ?_ | refine b3_ ?_ _)); exact BK102.out), (by (with_reducible repeat (first | refine b1_ ?_ _ | refine b2_ ?_ | refine b3_ ?_ _)); exact BK104.out), (by repeat (first | (with_reducible first | exact HB.out | apply below_alloc | apply pw_below_drewN | apply below_drew1 | refine below_set ?_ GE101.out | refine below_set ?_ GE102.out | refine below_set ?_ GE104.out) | exact HB.out))⟩)
                 ·skip
                  refine box_step ?hg (N := 11) ?hd (cs := #[.int .i64 0, .int .i64 0, .int .i64 0, .int .i64 0, .int .i64 0, .int .i64 0, .int .i64 0, .int .i64 0, .int .i64 0, .int .i64 0]) (t := 36) ?hr ?_; (case hd => rfl); (case hg => rfl); (case hr => first | (go_simp; done) | (go_simp; rfl))
                  intro gb112 hg w28 hbox hb
                  have n0_ := Aside0.mk (Kd.R_below (Kd.R_elderB (by (with_reducible repeat (first | apply Kd.R_alloc | apply Kd.R_drewN | apply Kd.R_drew)); exact HO_103005.out) gb112 (Nat.le_of_eq hg.symm)) hb)
                  have n1_ := Aside0.mk (blk_below (g := gb101) (o := .cells #[.int .i64 0, .int .i64 0, .int .i64 0, .int .i64 0, .int .i64 0, .slice none 0 0] 39 (0, 0)) (by (with_reducible repeat (first | refine b1_ ?_ _ | refine b2_ ?_ | refine b3_ ?_ _)); exact BK101.out) hb)
                  have n2_ := Aside0.mk (blk_below (g := gb102) (o := .cells #[.int .i64 (wrap64 (Int.tmod a1 4)), .int .i64 7, .int .i64 8, .int .i64 9, .int .i64 10, u103005] 39 (0, 0)) (by (with_reducible repeat (first | refine b1_ ?_ _ | refine b2_ ?_ | refine b3_ ?_ _)); exact BK102.out) hb)
                  have n3_ := Aside0.mk (blk_below (g := gb104) (o := .cells #[.int .i64 ((rd_T36 l0 x9_1).f0), .int .i64 ((rd_T36 l0 x9_1).f1), .int .i64 ((rd_T36 l0 x9_1).f2), .int .i64 ((rd_T36 l0 x9_1).f3), .int .i64 ((rd_T36 l0 x9_1).f4), .int .i64 ((rd_T36 l0 x9_1).f5), .int .i64 ((rd_T36 l0 x9_1).f6), .int .i64 ((rd_T36 l0 x9_1).f7), .int .i64 ((rd_T36 l0 x9_1).f8), .int .i64 ((rd_T36 l0 x9_1).f9)] 36 (0, 0)) (by (with_reducible repeat (first | refine b1_ ?_ _ | refine b2_ ?_ | refine b3_ ?_ _)); exact BK104.out) hb)
                  have n4_ := Aside0.mk (below_step (by repeat (first | (with_reducible first | exact HB.out | apply below_alloc | apply pw_below_drewN | apply below_drew1 | refine below_set ?_ GE101.out | refine below_set ?_ GE102.out | refine below_set ?_ GE104.out) | exact HB.out)) hb)
                  have n5_ := Aside0.mk (hbox)
                  have n6_ := Aside0.mk ((by rw [hg]; exact (below_size (by repeat (first | (with_reducible first | exact HB.out | apply below_alloc | apply pw_below_drewN | apply below_drew1 | refine below_set ?_ GE101.out | refine below_set ?_ GE102.out | refine below_set ?_ GE104.out) | exact HB.out))) : w.heap.size ≤ gb112))
                  have n7_ := Aside0.mk ((by rw [hg]; exact (below_size (by repeat (first | (with_reducible first | exact HB.out | apply below_alloc | apply pw_below_drewN | apply below_drew1 | refine below_set ?_ GE101.out | refine below_set ?_ GE102.out | refine below_set ?_ GE104.out) | exact HB.out))) : w.heap.size ≤ gb112))
                  have n8_ := Aside0.mk ((by rw [hg]; exact Nat.ne_of_lt (blk_lt (g := gb101) (o := .cells #[.int .i64 0, .int .i64 0, .int .i64 0, .int .i64 0, .int .i64 0, .slice none 0 0] 39 (0, 0)) (by (with_reducible repeat (first | refine b1_ ?_ _ | refine b2_ ?_ | refine b3_ ?_ _)); exact BK101.out)) : gb101 ≠ gb112))
                  have n9_ := Aside0.mk ((by rw [hg]; exact Nat.ne_of_gt (blk_lt (g := gb101) (o := .cells #[.int .i64 0, .int .i64 0, .int .i64 0, .int .i64 0, .int .i64 0, .slice none 0 0] 39 (0, 0)) (by (with_reducible repeat (first | refine b1_ ?_ _ | refine b2_ ?_ | refine b3_ ?_ _)); exact BK101.out)) : gb112 ≠ gb101))
                  have n10_ := Aside0.mk ((by rw [hg]; exact Nat.ne_of_lt (blk_lt (g := gb102) (o := .cells #[.int .i64 (wrap64 (Int.tmod a1 4)), .int .i64 7, .int .i64 8, .int .i64 9, .int .i64 10, u103005] 39 (0, 0)) (by (with_reducible repeat (first | refine b1_ ?_ _ | refine b2_ ?_ | refine b3_ ?_ _)); exact BK102.out)) : gb102 ≠ gb112))
                  have n11_ := Aside0.mk ((by rw [hg]; exact Nat.ne_of_gt (blk_lt (g := gb102) (o := .cells #[.int .i64 (wrap64 (Int.tmod a1 4)), .int .i64 7, .int .i64 8, .int .i64 9, .int .i64 10, u103005] 39 (0, 0)) (by (with_reducible repeat (first | refine b1_ ?_ _ | refine b2_ ?_ | refine b3_ ?_ _)); exact BK102.out)) : gb112 ≠ gb102))
                  have n12_ := Aside0.mk ((by rw [hg]; exact Nat.ne_of_lt (blk_lt (g := gb104) (o := .cells #[.int .i64 ((rd_T36 l0 x9_1).f0), .int .i64 ((rd_T36 l0 x9_1).f1), .int .i64 ((rd_T36 l0 x9_1).f2), .int .i64 ((rd_T36 l0 x9_1).f3), .int .i64 ((rd_T36 l0 x9_1).f4), .int .i64 ((rd_T36 l0 x9_1).f5), .int .i64 ((rd_T36 l0 x9_1).f6), .int .i64 ((rd_T36 l0 x9_1).f7), .int .i64 ((rd_T36 l0 x9_1).f8), .int .i64 ((rd_T36 l0 x9_1).f9)] 36 (0, 0)) (by (with_reducible repeat (first | refine b1_ ?_ _ | refine b2_ ?_ | refine b3_ ?_ _)); exact BK104.out)) : gb104 ≠ gb112))
                  have n13_ := Aside0.mk ((by rw [hg]; exact Nat.ne_of_gt (blk_lt (g := gb104) (o := .cells #[.int .i64 ((rd_T36 l0 x9_1).f0), .int .i64 ((rd_T36 l0 x9_1).f1), .int .i64 ((rd_T36 l0 x9_1).f2), .int .i64 ((rd_T36 l0 x9_1).f3), .int .i64 ((rd_T36 l0 x9_1).f4), .int .i64 ((rd_T36 l0 x9_1).f5), .int .i64 ((rd_T36 l0 x9_1).f6), .int .i64 ((rd_T36 l0 x9_1).f7), .int .i64 ((rd_T36 l0 x9_1).f8), .int .i64 ((rd_T36 l0 x9_1).f9)] 36 (0, 0)) (by (with_reducible repeat (first | refine b1_ ?_ _ | refine b2_ ?_ | refine b3_ ?_ _)); exact BK104.out)) : gb112 ≠ gb104))
                  clear HO_103005
                  clear BK101
                  clear BK102
                  clear BK104
                  clear HB
                  have HO_103005 := n0_
                  have BK101 := n1_
                  have BK102 := n2_
                  have BK104 := n3_
                  have HB := n4_
                  have BK112 := n5_
                  have GW112 := n6_
                  have GE112 := n7_
                  have NB101_112 := n8_
                  have NB112_101 := n9_
                  have NB102_112 := n10_
                  have NB112_102 := n11_
                  have NB104_112 := n12_
                  have NB112_104 := n13_
                  clear n0_ n1_ n2_ n3_ n4_ n5_ n6_ n7_ n8_ n9_ n10_ n11_ n12_ n13_
                  clear hb hbox hg
                  refine hK.out _ _ ⟨(blk_cell BK104.out 0).trans rfl, (blk_cell BK104.out 1).trans rfl, (blk_cell BK104.out 2).trans rfl, (blk_cell BK104.out 3).trans rfl, (blk_cell BK104.out 4).trans rfl, (blk_cell BK104.out 5).trans rfl, (blk_cell BK104.out 6).trans rfl, (blk_cell BK104.out 7).trans rfl, (blk_cell BK104.out 8).trans rfl, (blk_cell BK104.out 9).trans rfl⟩ (fun hHeld => ?_)
                  clear hK K
                  refine norm_ (a' := ?_) ?_ ?_
                  rotate_left
                  ·show Act.put _ (some 11) _ = _
                   simp only [Act.put, L1_, L2_, L3_, i64_w, i32_w]
                   rfl
                  exact norm_ (by simp only [putAll, Act.put, L1_, L2_, L3_] <;> rfl) (hJ3_7_11_15_29 (gb112) _ ⟨hHeld, (by (with_reducible repeat (first | apply Kd.R_alloc | apply Kd.R_drewN | apply Kd.R_drew)); exact HO_103005.out), (by (with_reducible repeat (first | refine b1_ ?_ _ | refine b2_ ?_ | refine b3_ ?_ _)); exact BK101.out), (by (with_reducible repeat (first | refine b1_ ?_ _ | refine b2_ ?_ | refine b3_ ?_ _)); exact BK102.out), (by (with_reducible repeat (first | refine b1_ ?_ _ | refine b2_ ?_ | refine b3_ ?_ _)); exact BK104.out), (by (with_reducible repeat (first | refine b1_ ?_ _ | refine b2_ ?_ | refine b3_ ?_ _)); exact BK112.out), GW112.out, GE112.out, NB101_112.out, NB112_101.out, NB102_112.out, NB112_102.out, NB104_112.out, NB112_104.out, (by repeat (first | (with_reducible first | exact HB.out | apply below_alloc | apply pw_below_drewN | apply below_drew1 | refine below_set ?_ GE101.out | refine below_set ?_ GE102.out | refine below_set ?_ GE104.out | refine below_set ?_ GE112.out) | exact HB.out))⟩)
               ·skip
                rintro gb112 w28 ⟨hS_, h0_, h1_, h2_, h3_, h4_, h5_, h6_, h7_, h8_, h9_, h10_, h11_, h12_, h13_⟩
                have n0_ : Aside0 (Kd.R k36 36 w28 w.heap.size (fun k_ => k_ ≠ gb104 ∧ k_ ≠ gb112) u103005 x103005_1) := ⟨h0_⟩
                have n1_ : Aside0 (w28.heap[gb101]? = some (.cells #[.int .i64 0, .int .i64 0, .int .i64 0, .int .i64 0, .int .i64 0, .slice none 0 0] 39 (0, 0))) := ⟨h1_⟩
                have n2_ : Aside0 (w28.heap[gb102]? = some (.cells #[.int .i64 (wrap64 (Int.tmod a1 4)), .int .i64 7, .int .i64 8, .int .i64 9, .int .i64 10, u103005] 39 (0, 0))) := ⟨h2_⟩
                have n3_ : Aside0 (w28.heap[gb104]? = some (.cells #[.int .i64 ((rd_T36 l0 x9_1).f0), .int .i64 ((rd_T36 l0 x9_1).f1), .int .i64 ((rd_T36 l0 x9_1).f2), .int .i64 ((rd_T36 l0 x9_1).f3), .int .i64 ((rd_T36 l0 x9_1).f4), .int .i64 ((rd_T36 l0 x9_1).f5), .int .i64 ((rd_T36 l0 x9_1).f6), .int .i64 ((rd_T36 l0 x9_1).f7), .int .i64 ((rd_T36 l0 x9_1).f8), .int .i64 ((rd_T36 l0 x9_1).f9)] 36 (0, 0))) := ⟨h3_⟩
                have n4_ : Aside0 (w28.heap[gb112]? = some (.cells #[.int .i64 0, .int .i64 0, .int .i64 0, .int .i64 0, .int .i64 0, .int .i64 0, .int .i64 0, .int .i64 0, .int .i64 0, .int .i64 0] 36 (0, 0))) := ⟨h4_⟩
                have n5_ : Aside0 (w.heap.size ≤ gb112) := ⟨h5_⟩
                have n6_ : Aside0 (w.heap.size ≤ gb112) := ⟨h6_⟩
                have n7_ : Aside0 (gb101 ≠ gb112) := ⟨h7_⟩
                have n8_ : Aside0 (gb112 ≠ gb101) := ⟨h8_⟩
                have n9_ : Aside0 (gb102 ≠ gb112) := ⟨h9_⟩
                have n10_ : Aside0 (gb112 ≠ gb102) := ⟨h10_⟩
                have n11_ : Aside0 (gb104 ≠ gb112) := ⟨h11_⟩
                have n12_ : Aside0 (gb112 ≠ gb104) := ⟨h12_⟩
                have n13_ : Aside0 (Below w.heap.size w w28) := ⟨h13_⟩
                clear HO_103005
                clear BK101
                clear BK102
                clear BK104
                clear HB
                clear h0_ h1_ h2_ h3_ h4_ h5_ h6_ h7_ h8_ h9_ h10_ h11_ h12_ h13_
                have HO_103005 := n0_
                have BK101 := n1_
                have BK102 := n2_
                have BK104 := n3_
                have BK112 := n4_
                have GW112 := n5_
                have GE112 := n6_
                have NB101_112 := n7_
                have NB112_101 := n8_
                have NB102_112 := n9_
                have NB112_102 := n10_
                have NB104_112 := n11_
                have NB112_104 := n12_
                have HB := n13_
                clear n0_ n1_ n2_ n3_ n4_ n5_ n6_ n7_ n8_ n9_ n10_ n11_ n12_ n13_
                have hHeld : w28.cell? ⟨gb104, 0, none⟩ = some (.int .i64 ((rd_T36 l0 x9_1).f0)) ∧ w28.cell? ⟨gb104, 1, none⟩ = some (.int .i64 ((rd_T36 l0 x9_1).f1)) ∧ w28.cell? ⟨gb104, 2, none⟩ = some (.int .i64 ((rd_T36 l0 x9_1).f2)) ∧ w28.cell? ⟨gb104, 3, none⟩ = some (.int .i64 ((rd_T36 l0 x9_1).f3)) ∧ w28.cell? ⟨gb104, 4, none⟩ = some (.int .i64 ((rd_T36 l0 x9_1).f4)) ∧ w28.cell? ⟨gb104, 5, none⟩ = some (.int .i64 ((rd_T36 l0 x9_1).f5)) ∧ w28.cell? ⟨gb104, 6, none⟩ = some (.int .i64 ((rd_T36 l0 x9_1).f6)) ∧ w28.cell? ⟨gb104, 7, none⟩ = some (.int .i64 ((rd_T36 l0 x9_1).f7)) ∧ w28.cell? ⟨gb104, 8, none⟩ = some (.int .i64 ((rd_T36 l0 x9_1).f8)) ∧ w28.cell? ⟨gb104, 9, none⟩ = some (.int .i64 ((rd_T36 l0 x9_1).f9)) := hS_
                refine norm_ (a' := ?_) ?_ ?_
                rotate_left
                ·simp only [putAll, Act.put, L1_, L2_, L3_]
                 rfl
                refine one_ (i := 19) (N := some 49) #[tt,tt,tt,tt,tt,tt,tt,tt,tt,tt,tt,tt,tt,tt,tt,tt,tt,tt,tt,tt,tt,tt,tt,ff,tt,tt,tt,ff,ff,tt,ff] rfl rfl (one_of HT_.out (by kernel_rfl)) (by decide) (fun K hK => ?_)
                refine goesT_ Try.func45 (by kernel_rfl) rfl #[.int .i64 ((rd_T36 l0 x9_1).f4)] (by rfl) rfl rfl (by rfl) (by (try simp only [List.map_toArray, List.map_cons, List.map_nil]); first | done | rfl | (simp only [List.length_drop, List.length_take]; rfl)) ?_
                with_reducible refine (laws_someOut_1.calls ((rd_T36 l0 x9_1).f4) t109 _ A17.out).mono ?_
                rintro e w' ⟨rfl, ⟨nd, rfl⟩⟩
                refine ⟨_, rfl, ?_⟩
                refine hK.out _ _ ⟨(blk_cell BK104.out 0).trans rfl, (blk_cell BK104.out 1).trans rfl, (blk_cell BK104.out 2).trans rfl, (blk_cell BK104.out 3).trans rfl, (blk_cell BK104.out 4).trans rfl, (blk_cell BK104.out 5).trans rfl, (blk_cell BK104.out 6).trans rfl, (blk_cell BK104.out 7).trans rfl, (blk_cell BK104.out 8).trans rfl, (blk_cell BK104.out 9).trans rfl⟩ (fun hHeld => ?_)
                clear hK K
                refine norm_ (a' := ?_) ?_ ?_
                rotate_left
                ·show Act.put _ (some 49) _ = _
                 simp only [Act.put, L1_, L2_, L3_, i64_w, i32_w]
                 rfl
                exact norm_ (by simp only [putAll, Act.put, L1_, L2_, L3_] <;> rfl) (hJ3_7_11_15_19_29 (gb112) _ ⟨hHeld, (by (with_reducible repeat (first | apply Kd.R_alloc | apply Kd.R_drewN | apply Kd.R_drew)); exact HO_103005.out), (by (with_reducible repeat (first | refine b1_ ?_ _ | refine b2_ ?_ | refine b3_ ?_ _)); exact BK101.out), (by (with_reducible repeat (first | refine b1_ ?_ _ | refine b2_ ?_ | refine b3_ ?_ _)); exact BK102.out), (by (with_reducible repeat (first | refine b1_ ?_ _ | refine b2_ ?_ | refine b3_ ?_ _)); exact BK104.out), (by (with_reducible repeat (first | refine b1_ ?_ _ | refine b2_ ?_ | refine b3_ ?_ _)); exact BK112.out), GW112.out, GE112.out, NB101_112.out, NB112_101.out, NB102_112.out, NB112_102.out, NB104_112.out, NB112_104.out, (by repeat (first | (with_reducible first | exact HB.out | apply below_alloc | apply pw_below_drewN | apply below_drew1 | refine below_set ?_ GE101.out | refine below_set ?_ GE102.out | refine below_set ?_ GE104.out | refine below_set ?_ GE112.out) | exact HB.out))⟩)
              ·skip
               rintro _ w27 ⟨hS_, h0_, h1_, h2_, h3_, h4_⟩
               have n0_ : Aside0 (Kd.R k36 36 w27 w.heap.size (fun k_ => k_ ≠ gb104) u103005 x103005_1) := ⟨h0_⟩
               have n1_ : Aside0 (w27.heap[gb101]? = some (.cells #[.int .i64 0, .int .i64 0, .int .i64 0, .int .i64 0, .int .i64 0, .slice none 0 0] 39 (0, 0))) := ⟨h1_⟩
               have n2_ : Aside0 (w27.heap[gb102]? = some (.cells #[.int .i64 (wrap64 (Int.tmod a1 4)), .int .i64 7, .int .i64 8, .int .i64 9, .int .i64 10, u103005] 39 (0, 0))) := ⟨h2_⟩
               have n3_ : Aside0 (w27.heap[gb104]? = some (.cells #[.int .i64 ((rd_T36 l0 x9_1).f0), .int .i64 ((rd_T36 l0 x9_1).f1), .int .i64 ((rd_T36 l0 x9_1).f2), .int .i64 ((rd_T36 l0 x9_1).f3), .int .i64 ((rd_T36 l0 x9_1).f4), .int .i64 ((rd_T36 l0 x9_1).f5), .int .i64 ((rd_T36 l0 x9_1).f6), .int .i64 ((rd_T36 l0 x9_1).f7), .int .i64 ((rd_T36 l0 x9_1).f8), .int .i64 ((rd_T36 l0 x9_1).f9)] 36 (0, 0))) := ⟨h3_⟩
               have n4_ : Aside0 (Below w.heap.size w w27) := ⟨h4_⟩
               clear HO_103005
               clear BK101
               clear BK102
               clear BK104
               clear HB
               clear h0_ h1_ h2_ h3_ h4_
               have HO_103005 := n0_
               have BK101 := n1_
               have BK102 := n2_
               have BK104 := n3_
               have HB := n4_
               clear n0_ n1_ n2_ n3_ n4_
               have hHeld : w27.cell? ⟨gb104, 0, none⟩ = some (.int .i64 ((rd_T36 l0 x9_1).f0)) ∧ w27.cell? ⟨gb104, 1, none⟩ = some (.int .i64 ((rd_T36 l0 x9_1).f1)) ∧ w27.cell? ⟨gb104, 2, none⟩ = some (.int .i64 ((rd_T36 l0 x9_1).f2)) ∧ w27.cell? ⟨gb104, 3, none⟩ = some (.int .i64 ((rd_T36 l0 x9_1).f3)) ∧ w27.cell? ⟨gb104, 4, none⟩ = some (.int .i64 ((rd_T36 l0 x9_1).f4)) ∧ w27.cell? ⟨gb104, 5, none⟩ = some (.int .i64 ((rd_T36 l0 x9_1).f5)) ∧ w27.cell? ⟨gb104, 6, none⟩ = some (.int .i64 ((rd_T36 l0 x9_1).f6)) ∧ w27.cell? ⟨gb104, 7, none⟩ = some (.int .i64 ((rd_T36 l0 x9_1).f7)) ∧ w27.cell? ⟨gb104, 8, none⟩ = some (.int .i64 ((rd_T36 l0 x9_1).f8)) ∧ w27.cell? ⟨gb104, 9, none⟩ = some (.int .i64 ((rd_T36 l0 x9_1).f9)) := hS_
               refine norm_ (a' := ?_) ?_ ?_
               rotate_left
               ·simp only [putAll, Act.put, L1_, L2_, L3_]
                rfl
               refine two_ (i := 23) (j := 29) (Ni := some 53) (Nj := some 11) #[tt,tt,tt,tt,tt,tt,tt,tt,tt,tt,tt,tt,tt,tt,tt,tt,tt,tt,tt,tt,tt,tt,tt,tt,tt,tt,tt,ff,ff,ff,ff] #[tt,tt,tt,tt,tt,tt,tt,tt,tt,tt,tt,tt,tt,tt,tt,tt,tt,tt,tt,tt,tt,tt,tt,ff,tt,tt,tt,ff,ff,tt,ff] rfl rfl rfl rfl (two_of HT_.out (by kernel_rfl)) (by decide) (by decide) (fun K hK => ?_) (fun K hK => ?_)
               ·skip
                refine goesT_ Try.func45 (by kernel_rfl) rfl #[.int .i64 ((rd_T36 l0 x9_1).f5)] (by rfl) rfl rfl (by rfl) (by (try simp only [List.map_toArray, List.map_cons, List.map_nil]); first | done | rfl | (simp only [List.length_drop, List.length_take]; rfl)) ?_
                with_reducible refine (laws_someOut_1.calls ((rd_T36 l0 x9_1).f5) t110 _ A18.out).mono ?_
                rintro e w' ⟨rfl, ⟨nd, rfl⟩⟩
                refine ⟨_, rfl, ?_⟩
                refine hK.out _ _ ⟨(blk_cell BK104.out 0).trans rfl, (blk_cell BK104.out 1).trans rfl, (blk_cell BK104.out 2).trans rfl, (blk_cell BK104.out 3).trans rfl, (blk_cell BK104.out 4).trans rfl, (blk_cell BK104.out 5).trans rfl, (blk_cell BK104.out 6).trans rfl, (blk_cell BK104.out 7).trans rfl, (blk_cell BK104.out 8).trans rfl, (blk_cell BK104.out 9).trans rfl⟩ (fun hHeld => ?_)
                clear hK K
                refine norm_ (a' := ?_) ?_ ?_
                rotate_left
                ·show Act.put _ (some 53) _ = _
                 simp only [Act.put, L1_, L2_, L3_, i64_w, i32_w]
                 rfl
                exact norm_ (by simp only [putAll, Act.put, L1_, L2_, L3_] <;> rfl) (hJ3_7_11_15_19_23 () _ ⟨hHeld, (by (with_reducible repeat (first | apply Kd.R_alloc | apply Kd.R_drewN | apply Kd.R_drew)); exact HO_103005.out), (by (with_reducible repeat (first | refine b1_ ?_ _ | refine b2_ ?_ | refine b3_ ?_ _)); exact BK101.out), (by (with_reducible repeat (first | refine b1_ ?_ _ | refine b2_ ?_ | refine b3_ ?_ _)); exact BK102.out), (by (with_reducible repeat (first | refine b1_ ?_ _ | refine b2_ ?_ | refine b3_ ?_ _)); exact BK104.out), (by repeat (first | (with_reducible first | exact HB.out | apply below_alloc | apply pw_below_drewN | apply below_drew1 | refine below_set ?_ GE101.out | refine below_set ?_ GE102.out | refine below_set ?_ GE104.out) | exact HB.out))⟩)
               ·skip
                refine box_step ?hg (N := 11) ?hd (cs := #[.int .i64 0, .int .i64 0, .int .i64 0, .int .i64 0, .int .i64 0, .int .i64 0, .int .i64 0, .int .i64 0, .int .i64 0, .int .i64 0]) (t := 36) ?hr ?_; (case hd => rfl); (case hg => rfl); (case hr => first | (go_simp; done) | (go_simp; rfl))
                intro gb112 hg w28 hbox hb
                have n0_ := Aside0.mk (Kd.R_below (Kd.R_elderB (by (with_reducible repeat (first | apply Kd.R_alloc | apply Kd.R_drewN | apply Kd.R_drew)); exact HO_103005.out) gb112 (Nat.le_of_eq hg.symm)) hb)
                have n1_ := Aside0.mk (blk_below (g := gb101) (o := .cells #[.int .i64 0, .int .i64 0, .int .i64 0, .int .i64 0, .int .i64 0, .slice none 0 0] 39 (0, 0)) (by (with_reducible repeat (first | refine b1_ ?_ _ | refine b2_ ?_ | refine b3_ ?_ _)); exact BK101.out) hb)
                have n2_ := Aside0.mk (blk_below (g := gb102) (o := .cells #[.int .i64 (wrap64 (Int.tmod a1 4)), .int .i64 7, .int .i64 8, .int .i64 9, .int .i64 10, u103005] 39 (0, 0)) (by (with_reducible repeat (first | refine b1_ ?_ _ | refine b2_ ?_ | refine b3_ ?_ _)); exact BK102.out) hb)
                have n3_ := Aside0.mk (blk_below (g := gb104) (o := .cells #[.int .i64 ((rd_T36 l0 x9_1).f0), .int .i64 ((rd_T36 l0 x9_1).f1), .int .i64 ((rd_T36 l0 x9_1).f2), .int .i64 ((rd_T36 l0 x9_1).f3), .int .i64 ((rd_T36 l0 x9_1).f4), .int .i64 ((rd_T36 l0 x9_1).f5), .int .i64 ((rd_T36 l0 x9_1).f6), .int .i64 ((rd_T36 l0 x9_1).f7), .int .i64 ((rd_T36 l0 x9_1).f8), .int .i64 ((rd_T36 l0 x9_1).f9)] 36 (0, 0)) (by (with_reducible repeat (first | refine b1_ ?_ _ | refine b2_ ?_ | refine b3_ ?_ _)); exact BK104.out) hb)
                have n4_ := Aside0.mk (below_step (by repeat (first | (with_reducible first | exact HB.out | apply below_alloc | apply pw_below_drewN | apply below_drew1 | refine below_set ?_ GE101.out | refine below_set ?_ GE102.out | refine below_set ?_ GE104.out) | exact HB.out)) hb)
                have n5_ := Aside0.mk (hbox)
                have n6_ := Aside0.mk ((by rw [hg]; exact (below_size (by repeat (first | (with_reducible first | exact HB.out | apply below_alloc | apply pw_below_drewN | apply below_drew1 | refine below_set ?_ GE101.out | refine below_set ?_ GE102.out | refine below_set ?_ GE104.out) | exact HB.out))) : w.heap.size ≤ gb112))
                have n7_ := Aside0.mk ((by rw [hg]; exact (below_size (by repeat (first | (with_reducible first | exact HB.out | apply below_alloc | apply pw_below_drewN | apply below_drew1 | refine below_set ?_ GE101.out | refine below_set ?_ GE102.out | refine below_set ?_ GE104.out) | exact HB.out))) : w.heap.size ≤ gb112))
                have n8_ := Aside0.mk ((by rw [hg]; exact Nat.ne_of_lt (blk_lt (g := gb101) (o := .cells #[.int .i64 0, .int .i64 0, .int .i64 0, .int .i64 0, .int .i64 0, .slice none 0 0] 39 (0, 0)) (by (with_reducible repeat (first | refine b1_ ?_ _ | refine b2_ ?_ | refine b3_ ?_ _)); exact BK101.out)) : gb101 ≠ gb112))
                have n9_ := Aside0.mk ((by rw [hg]; exact Nat.ne_of_gt (blk_lt (g := gb101) (o := .cells #[.int .i64 0, .int .i64 0, .int .i64 0, .int .i64 0, .int .i64 0, .slice none 0 0] 39 (0, 0)) (by (with_reducible repeat (first | refine b1_ ?_ _ | refine b2_ ?_ | refine b3_ ?_ _)); exact BK101.out)) : gb112 ≠ gb101))
                have n10_ := Aside0.mk ((by rw [hg]; exact Nat.ne_of_lt (blk_lt (g := gb102) (o := .cells #[.int .i64 (wrap64 (Int.tmod a1 4)), .int .i64 7, .int .i64 8, .int .i64 9, .int .i64 10, u103005] 39 (0, 0)) (by (with_reducible repeat (first | refine b1_ ?_ _ | refine b2_ ?_ | refine b3_ ?_ _)); exact BK102.out)) : gb102 ≠ gb112))
                have n11_ := Aside0.mk ((by rw [hg]; exact Nat.ne_of_gt (blk_lt (g := gb102) (o := .cells #[.int .i64 (wrap64 (Int.tmod a1 4)), .int .i64 7, .int .i64 8, .int .i64 9, .int .i64 10, u103005] 39 (0, 0)) (by (with_reducible repeat (first | refine b1_ ?_ _ | refine b2_ ?_ | refine b3_ ?_ _)); exact BK102.out)) : gb112 ≠ gb102))
                have n12_ := Aside0.mk ((by rw [hg]; exact Nat.ne_of_lt (blk_lt (g := gb104) (o := .cells #[.int .i64 ((rd_T36 l0 x9_1).f0), .int .i64 ((rd_T36 l0 x9_1).f1), .int .i64 ((rd_T36 l0 x9_1).f2), .int .i64 ((rd_T36 l0 x9_1).f3), .int .i64 ((rd_T36 l0 x9_1).f4), .int .i64 ((rd_T36 l0 x9_1).f5), .int .i64 ((rd_T36 l0 x9_1).f6), .int .i64 ((rd_T36 l0 x9_1).f7), .int .i64 ((rd_T36 l0 x9_1).f8), .int .i64 ((rd_T36 l0 x9_1).f9)] 36 (0, 0)) (by (with_reducible repeat (first | refine b1_ ?_ _ | refine b2_ ?_ | refine b3_ ?_ _)); exact BK104.out)) : gb104 ≠ gb112))
                have n13_ := Aside0.mk ((by rw [hg]; exact Nat.ne_of_gt (blk_lt (g := gb104) (o := .cells #[.int .i64 ((rd_T36 l0 x9_1).f0), .int .i64 ((rd_T36 l0 x9_1).f1), .int .i64 ((rd_T36 l0 x9_1).f2), .int .i64 ((rd_T36 l0 x9_1).f3), .int .i64 ((rd_T36 l0 x9_1).f4), .int .i64 ((rd_T36 l0 x9_1).f5), .int .i64 ((rd_T36 l0 x9_1).f6), .int .i64 ((rd_T36 l0 x9_1).f7), .int .i64 ((rd_T36 l0 x9_1).f8), .int .i64 ((rd_T36 l0 x9_1).f9)] 36 (0, 0)) (by (with_reducible repeat (first | refine b1_ ?_ _ | refine b2_ ?_ | refine b3_ ?_ _)); exact BK104.out)) : gb112 ≠ gb104))
                clear HO_103005
                clear BK101
                clear BK102
                clear BK104
                clear HB
                have HO_103005 := n0_
                have BK101 := n1_
                have BK102 := n2_
                have BK104 := n3_
                have HB := n4_
                have BK112 := n5_
                have GW112 := n6_
                have GE112 := n7_
                have NB101_112 := n8_
                have NB112_101 := n9_
                have NB102_112 := n10_
                have NB112_102 := n11_
                have NB104_112 := n12_
                have NB112_104 := n13_
                clear n0_ n1_ n2_ n3_ n4_ n5_ n6_ n7_ n8_ n9_ n10_ n11_ n12_ n13_
                clear hb hbox hg
                refine hK.out _ _ ⟨(blk_cell BK104.out 0).trans rfl, (blk_cell BK104.out 1).trans rfl, (blk_cell BK104.out 2).trans rfl, (blk_cell BK104.out 3).trans rfl, (blk_cell BK104.out 4).trans rfl, (blk_cell BK104.out 5).trans rfl, (blk_cell BK104.out 6).trans rfl, (blk_cell BK104.out 7).trans rfl, (blk_cell BK104.out 8).trans rfl, (blk_cell BK104.out 9).trans rfl⟩ (fun hHeld => ?_)
                clear hK K
                refine norm_ (a' := ?_) ?_ ?_
                rotate_left
                ·show Act.put _ (some 11) _ = _
                 simp only [Act.put, L1_, L2_, L3_, i64_w, i32_w]
                 rfl
                exact norm_ (by simp only [putAll, Act.put, L1_, L2_, L3_] <;> rfl) (hJ3_7_11_15_19_29 (gb112) _ ⟨hHeld, (by (with_reducible repeat (first | apply Kd.R_alloc | apply Kd.R_drewN | apply Kd.R_drew)); exact HO_103005.out), (by (with_reducible repeat (first | refine b1_ ?_ _ | refine b2_ ?_ | refine b3_ ?_ _)); exact BK101.out), (by (with_reducible repeat (first | refine b1_ ?_ _ | refine b2_ ?_ | refine b3_ ?_ _)); exact BK102.out), (by (with_reducible repeat (first | refine b1_ ?_ _ | refine b2_ ?_ | refine b3_ ?_ _)); exact BK104.out), (by (with_reducible repeat (first | refine b1_ ?_ _ | refine b2_ ?_ | refine b3_ ?_ _)); exact BK112.out), GW112.out, GE112.out, NB101_112.out, NB112_101.out, NB102_112.out, NB112_102.out, NB104_112.out, NB112_104.out, (by repeat (first | (with_reducible first | exact HB.out | apply below_alloc | apply pw_below_drewN | apply below_drew1 | refine below_set ?_ GE101.out | refine below_set ?_ GE102.out | refine below_set ?_ GE104.out | refine below_set ?_ GE112.out) | exact HB.out))⟩)
             ·skip
              rintro gb112 w28 ⟨hS_, h0_, h1_, h2_, h3_, h4_, h5_, h6_, h7_, h8_, h9_, h10_, h11_, h12_, h13_⟩
              have n0_ : Aside0 (Kd.R k36 36 w28 w.heap.size (fun k_ => k_ ≠ gb104 ∧ k_ ≠ gb112) u103005 x103005_1) := ⟨h0_⟩
              have n1_ : Aside0 (w28.heap[gb101]? = some (.cells #[.int .i64 0, .int .i64 0, .int .i64 0, .int .i64 0, .int .i64 0, .slice none 0 0] 39 (0, 0))) := ⟨h1_⟩
              have n2_ : Aside0 (w28.heap[gb102]? = some (.cells #[.int .i64 (wrap64 (Int.tmod a1 4)), .int .i64 7, .int .i64 8, .int .i64 9, .int .i64 10, u103005] 39 (0, 0))) := ⟨h2_⟩
              have n3_ : Aside0 (w28.heap[gb104]? = some (.cells #[.int .i64 ((rd_T36 l0 x9_1).f0), .int .i64 ((rd_T36 l0 x9_1).f1), .int .i64 ((rd_T36 l0 x9_1).f2), .int .i64 ((rd_T36 l0 x9_1).f3), .int .i64 ((rd_T36 l0 x9_1).f4), .int .i64 ((rd_T36 l0 x9_1).f5), .int .i64 ((rd_T36 l0 x9_1).f6), .int .i64 ((rd_T36 l0 x9_1).f7), .int .i64 ((rd_T36 l0 x9_1).f8), .int .i64 ((rd_T36 l0 x9_1).f9)] 36 (0, 0))) := ⟨h3_⟩
              have n4_ : Aside0 (w28.heap[gb112]? = some (.cells #[.int .i64 0, .int .i64 0, .int .i64 0, .int .i64 0, .int .i64 0, .int .i64 0, .int .i64 0, .int .i64 0, .int .i64 0, .int .i64 0] 36 (0, 0))) := ⟨h4_⟩
              have n5_ : Aside0 (w.heap.size ≤ gb112) := ⟨h5_⟩
              have n6_ : Aside0 (w.heap.size ≤ gb112) := ⟨h6_⟩
              have n7_ : Aside0 (gb101 ≠ gb112) := ⟨h7_⟩
              have n8_ : Aside0 (gb112 ≠ gb101) := ⟨h8_⟩
              have n9_ : Aside0 (gb102 ≠ gb112) := ⟨h9_⟩
              have n10_ : Aside0 (gb112 ≠ gb102) := ⟨h10_⟩
              have n11_ : Aside0 (gb104 ≠ gb112) := ⟨h11_⟩
              have n12_ : Aside0 (gb112 ≠ gb104) := ⟨h12_⟩
              have n13_ : Aside0 (Below w.heap.size w w28) := ⟨h13_⟩
              clear HO_103005
              clear BK101
              clear BK102
              clear BK104
              clear HB
              clear h0_ h1_ h2_ h3_ h4_ h5_ h6_ h7_ h8_ h9_ h10_ h11_ h12_ h13_
              have HO_103005 := n0_
              have BK101 := n1_
              have BK102 := n2_
              have BK104 := n3_
              have BK112 := n4_
              have GW112 := n5_
              have GE112 := n6_
              have NB101_112 := n7_
              have NB112_101 := n8_
              have NB102_112 := n9_
              have NB112_102 := n10_
              have NB104_112 := n11_
              have NB112_104 := n12_
              have HB := n13_
              clear n0_ n1_ n2_ n3_ n4_ n5_ n6_ n7_ n8_ n9_ n10_ n11_ n12_ n13_
              have hHeld : w28.cell? ⟨gb104, 0, none⟩ = some (.int .i64 ((rd_T36 l0 x9_1).f0)) ∧ w28.cell? ⟨gb104, 1, none⟩ = some (.int .i64 ((rd_T36 l0 x9_1).f1)) ∧ w28.cell? ⟨gb104, 2, none⟩ = some (.int .i64 ((rd_T36 l0 x9_1).f2)) ∧ w28.cell? ⟨gb104, 3, none⟩ = some (.int .i64 ((rd_T36 l0 x9_1).f3)) ∧ w28.cell? ⟨gb104, 4, none⟩ = some (.int .i64 ((rd_T36 l0 x9_1).f4)) ∧ w28.cell? ⟨gb104, 5, none⟩ = some (.int .i64 ((rd_T36 l0 x9_1).f5)) ∧ w28.cell? ⟨gb104, 6, none⟩ = some (.int .i64 ((rd_T36 l0 x9_1).f6)) ∧ w28.cell? ⟨gb104, 7, none⟩ = some (.int .i64 ((rd_T36 l0 x9_1).f7)) ∧ w28.cell? ⟨gb104, 8, none⟩ = some (.int .i64 ((rd_T36 l0 x9_1).f8)) ∧ w28.cell? ⟨gb104, 9, none⟩ = some (.int .i64 ((rd_T36 l0 x9_1).f9)) := hS_
              refine norm_ (a' := ?_) ?_ ?_
              rotate_left
              ·simp only [putAll, Act.put, L1_, L2_, L3_]
               rfl
              refine one_ (i := 23) (N := some 53) #[tt,tt,tt,tt,tt,tt,tt,tt,tt,tt,tt,tt,tt,tt,tt,tt,tt,tt,tt,tt,tt,tt,tt,tt,tt,tt,tt,ff,ff,tt,ff] rfl rfl (one_of HT_.out (by kernel_rfl)) (by decide) (fun K hK => ?_)
              refine goesT_ Try.func45 (by kernel_rfl) rfl #[.int .i64 ((rd_T36 l0 x9_1).f5)] (by rfl) rfl rfl (by rfl) (by (try simp only [List.map_toArray, List.map_cons, List.map_nil]); first | done | rfl | (simp only [List.length_drop, List.length_take]; rfl)) ?_
              with_reducible refine (laws_someOut_1.calls ((rd_T36 l0 x9_1).f5) t110 _ A18.out).mono ?_
              rintro e w' ⟨rfl, ⟨nd, rfl⟩⟩
              refine ⟨_, rfl, ?_⟩
              refine hK.out _ _ ⟨(blk_cell BK104.out 0).trans rfl, (blk_cell BK104.out 1).trans rfl, (blk_cell BK104.out 2).trans rfl, (blk_cell BK104.out 3).trans rfl, (blk_cell BK104.out 4).trans rfl, (blk_cell BK104.out 5).trans rfl, (blk_cell BK104.out 6).trans rfl, (blk_cell BK104.out 7).trans rfl, (blk_cell BK104.out 8).trans rfl, (blk_cell BK104.out 9).trans rfl⟩ (fun hHeld => ?_)
              clear hK K
              refine norm_ (a' := ?_) ?_ ?_
              rotate_left
              ·show Act.put _ (some 53) _ = _
               simp only [Act.put, L1_, L2_, L3_, i64_w, i32_w]
               rfl
              exact norm_ (by simp only [putAll, Act.put, L1_, L2_, L3_] <;> rfl) (hJ3_7_11_15_19_23_29 (gb112) _ ⟨hHeld, (by (with_reducible repeat (first | apply Kd.R_alloc | apply Kd.R_drewN | apply Kd.R_drew)); exact HO_103005.out), (by (with_reducible repeat (first | refine b1_ ?_ _ | refine b2_ ?_ | refine b3_ ?_ _)); exact BK101.out), (by (with_reducible repeat (first | refine b1_ ?_ _ | refine b2_ ?_ | refine b3_ ?_ _)); exact BK102.out), (by (with_reducible repeat (first | refine b1_ ?_ _ | refine b2_ ?_ | refine b3_ ?_ _)); exact BK104.out), (by (with_reducible repeat (first | refine b1_ ?_ _ | refine b2_ ?_ | refine b3_ ?_ _)); exact BK112.out), GW112.out, GE112.out, NB101_112.out, NB112_101.out, NB102_112.out, NB112_102.out, NB104_112.out, NB112_104.out, (by repeat (first | (with_reducible first | exact HB.out | apply below_alloc | apply pw_below_drewN | apply below_drew1 | refine below_set ?_ GE101.out | refine below_set ?_ GE102.out | refine below_set ?_ GE104.out | refine below_set ?_ GE112.out) | exact HB.out))⟩)
            ·skip
             rintro _ w27 ⟨hS_, h0_, h1_, h2_, h3_, h4_⟩
             have n0_ : Aside0 (Kd.R k36 36 w27 w.heap.size (fun k_ => k_ ≠ gb104) u103005 x103005_1) := ⟨h0_⟩
             have n1_ : Aside0 (w27.heap[gb101]? = some (.cells #[.int .i64 0, .int .i64 0, .int .i64 0, .int .i64 0, .int .i64 0, .slice none 0 0] 39 (0, 0))) := ⟨h1_⟩
             have n2_ : Aside0 (w27.heap[gb102]? = some (.cells #[.int .i64 (wrap64 (Int.tmod a1 4)), .int .i64 7, .int .i64 8, .int .i64 9, .int .i64 10, u103005] 39 (0, 0))) := ⟨h2_⟩
             have n3_ : Aside0 (w27.heap[gb104]? = some (.cells #[.int .i64 ((rd_T36 l0 x9_1).f0), .int .i64 ((rd_T36 l0 x9_1).f1), .int .i64 ((rd_T36 l0 x9_1).f2), .int .i64 ((rd_T36 l0 x9_1).f3), .int .i64 ((rd_T36 l0 x9_1).f4), .int .i64 ((rd_T36 l0 x9_1).f5), .int .i64 ((rd_T36 l0 x9_1).f6), .int .i64 ((rd_T36 l0 x9_1).f7), .int .i64 ((rd_T36 l0 x9_1).f8), .int .i64 ((rd_T36 l0 x9_1).f9)] 36 (0, 0))) := ⟨h3_⟩
             have n4_ : Aside0 (Below w.heap.size w w27) := ⟨h4_⟩
             clear HO_103005
             clear BK101
             clear BK102
             clear BK104
             clear HB
             clear h0_ h1_ h2_ h3_ h4_
             have HO_103005 := n0_
             have BK101 := n1_
             have BK102 := n2_
             have BK104 := n3_
             have HB := n4_
             clear n0_ n1_ n2_ n3_ n4_
             have hHeld : w27.cell? ⟨gb104, 0, none⟩ = some (.int .i64 ((rd_T36 l0 x9_1).f0)) ∧ w27.cell? ⟨gb104, 1, none⟩ = some (.int .i64 ((rd_T36 l0 x9_1).f1)) ∧ w27.cell? ⟨gb104, 2, none⟩ = some (.int .i64 ((rd_T36 l0 x9_1).f2)) ∧ w27.cell? ⟨gb104, 3, none⟩ = some (.int .i64 ((rd_T36 l0 x9_1).f3)) ∧ w27.cell? ⟨gb104, 4, none⟩ = some (.int .i64 ((rd_T36 l0 x9_1).f4)) ∧ w27.cell? ⟨gb104, 5, none⟩ = some (.int .i64 ((rd_T36 l0 x9_1).f5)) ∧ w27.cell? ⟨gb104, 6, none⟩ = some (.int .i64 ((rd_T36 l0 x9_1).f6)) ∧ w27.cell? ⟨gb104, 7, none⟩ = some (.int .i64 ((rd_T36 l0 x9_1).f7)) ∧ w27.cell? ⟨gb104, 8, none⟩ = some (.int .i64 ((rd_T36 l0 x9_1).f8)) ∧ w27.cell? ⟨gb104, 9, none⟩ = some (.int .i64 ((rd_T36 l0 x9_1).f9)) := hS_
             refine norm_ (a' := ?_) ?_ ?_
             rotate_left
             ·simp only [putAll, Act.put, L1_, L2_, L3_]
              rfl
             refine two_ (i := 27) (j := 29) (Ni := some 57) (Nj := some 11) #[tt,tt,tt,tt,tt,tt,tt,tt,tt,tt,tt,tt,tt,tt,tt,tt,tt,tt,tt,tt,tt,tt,tt,tt,tt,tt,tt,tt,ff,ff,ff] #[tt,tt,tt,tt,tt,tt,tt,tt,tt,tt,tt,tt,tt,tt,tt,tt,tt,tt,tt,tt,tt,tt,tt,tt,tt,tt,tt,ff,ff,tt,ff] rfl rfl rfl rfl (two_of HT_.out (by kernel_rfl)) (by decide) (by decide) (fun K hK => ?_) (fun K hK => ?_)
             ·skip
              refine goesT_ Try.func45 (by kernel_rfl) rfl #[.int .i64 ((rd_T36 l0 x9_1).f6)] (by rfl) rfl rfl (by rfl) (by (try simp only [List.map_toArray, List.map_cons, List.map_nil]); first | done | rfl | (simp only [List.length_drop, List.length_take]; rfl)) ?_
              with_reducible refine (laws_someOut_1.calls ((rd_T36 l0 x9_1).f6) t111 _ A19.out).mono ?_
              rintro e w' ⟨rfl, ⟨nd, rfl⟩⟩
              refine ⟨_, rfl, ?_⟩
              refine hK.out _ _ ⟨(blk_cell BK104.out 0).trans rfl, (blk_cell BK104.out 1).trans rfl, (blk_cell BK104.out 2).trans rfl, (blk_cell BK104.out 3).trans rfl, (blk_cell BK104.out 4).trans rfl, (blk_cell BK104.out 5).trans rfl, (blk_cell BK104.out 6).trans rfl, (blk_cell BK104.out 7).trans rfl, (blk_cell BK104.out 8).trans rfl, (blk_cell BK104.out 9).trans rfl⟩ (fun hHeld => ?_)
              clear hK K
              refine norm_ (a' := ?_) ?_ ?_
              rotate_left
              ·show Act.put _ (some 57) _ = _
               simp only [Act.put, L1_, L2_, L3_, i64_w, i32_w]
               rfl
              refine pure_ (i := 28) (N := some 58) (v := ?_) (a' := ?_) #[tt,tt,tt,tt,tt,tt,tt,tt,tt,tt,tt,tt,tt,tt,tt,tt,tt,tt,tt,tt,tt,tt,tt,tt,tt,tt,tt,tt,tt,ff,ff] rfl rfl (any_of HT_.out (by kernel_rfl)) (fun _ _ _ h => h) (Or.inl ⟨by rfl, ?_⟩) ?_ ?_
              rotate_left
              ·intro w'
               go_simp
               with_reducible rfl
              rotate_left
              ·simp only [Act.put, L1_, L2_, L3_, i64_w, i32_w]
               rfl
              exact norm_ (by simp only [putAll, Act.put, L1_, L2_, L3_] <;> rfl) (hJ3_7_11_15_19_23_27 () _ ⟨hHeld, (by (with_reducible repeat (first | apply Kd.R_alloc | apply Kd.R_drewN | apply Kd.R_drew)); exact HO_103005.out), (by (with_reducible repeat (first | refine b1_ ?_ _ | refine b2_ ?_ | refine b3_ ?_ _)); exact BK101.out), (by (with_reducible repeat (first | refine b1_ ?_ _ | refine b2_ ?_ | refine b3_ ?_ _)); exact BK102.out), (by (with_reducible repeat (first | refine b1_ ?_ _ | refine b2_ ?_ | refine b3_ ?_ _)); exact BK104.out), (by repeat (first | (with_reducible first | exact HB.out | apply below_alloc | apply pw_below_drewN | apply below_drew1 | refine below_set ?_ GE101.out | refine below_set ?_ GE102.out | refine below_set ?_ GE104.out) | exact HB.out))⟩)
             ·skip
              refine box_step ?hg (N := 11) ?hd (cs := #[.int .i64 0, .int .i64 0, .int .i64 0, .int .i64 0, .int .i64 0, .int .i64 0, .int .i64 0, .int .i64 0, .int .i64 0, .int .i64 0]) (t := 36) ?hr ?_; (case hd => rfl); (case hg => rfl); (case hr => first | (go_simp; done) | (go_simp; rfl))
              intro gb112 hg w28 hbox hb
              have n0_ := Aside0.mk (Kd.R_below (Kd.R_elderB (by (with_reducible repeat (first | apply Kd.R_alloc | apply Kd.R_drewN | apply Kd.R_drew)); exact HO_103005.out) gb112 (Nat.le_of_eq hg.symm)) hb)
              have n1_ := Aside0.mk (blk_below (g := gb101) (o := .cells #[.int .i64 0, .int .i64 0, .int .i64 0, .int .i64 0, .int .i64 0, .slice none 0 0] 39 (0, 0)) (by (with_reducible repeat (first | refine b1_ ?_ _ | refine b2_ ?_ | refine b3_ ?_ _)); exact BK101.out) hb)
              have n2_ := Aside0.mk (blk_below (g := gb102) (o := .cells #[.int .i64 (wrap64 (Int.tmod a1 4)), .int .i64 7, .int .i64 8, .int .i64 9, .int .i64 10, u103005] 39 (0, 0)) (by (with_reducible repeat (first | refine b1_ ?_ _ | refine b2_ ?_ | refine b3_ ?_ _)); exact BK102.out) hb)
              have n3_ := Aside0.mk (blk_below (g := gb104) (o := .cells #[.int .i64 ((rd_T36 l0 x9_1).f0), .int .i64 ((rd_T36 l0 x9_1).f1), .int .i64 ((rd_T36 l0 x9_1).f2), .int .i64 ((rd_T36 l0 x9_1).f3), .int .i64 ((rd_T36 l0 x9_1).f4), .int .i64 ((rd_T36 l0 x9_1).f5), .int .i64 ((rd_T36 l0 x9_1).f6), .int .i64 ((rd_T36 l0 x9_1).f7), .int .i64 ((rd_T36 l0 x9_1).f8), .int .i64 ((rd_T36 l0 x9_1).f9)] 36 (0, 0)) (by (with_reducible repeat (first | refine b1_ ?_ _ | refine b2_ ?_ | refine b3_ ?_ _)); exact BK104.out) hb)
              have n4_ := Aside0.mk (below_step (by repeat (first | (with_reducible first | exact HB.out | apply below_alloc | apply pw_below_drewN | apply below_drew1 | refine below_set ?_ GE101.out | refine below_set ?_ GE102.out | refine below_set ?_ GE104.out) | exact HB.out)) hb)
              have n5_ := Aside0.mk (hbox)
              have n6_ := Aside0.mk ((by rw [hg]; exact (below_size (by repeat (first | (with_reducible first | exact HB.out | apply below_alloc | apply pw_below_drewN | apply below_drew1 | refine below_set ?_ GE101.out | refine below_set ?_ GE102.out | refine below_set ?_ GE104.out) | exact HB.out))) : w.heap.size ≤ gb112))
              have n7_ := Aside0.mk ((by rw [hg]; exact (below_size (by repeat (first | (with_reducible first | exact HB.out | apply below_alloc | apply pw_below_drewN | apply below_drew1 | refine below_set ?_ GE101.out | refine below_set ?_ GE102.out | refine below_set ?_ GE104.out) | exact HB.out))) : w.heap.size ≤ gb112))
              have n8_ := Aside0.mk ((by rw [hg]; exact Nat.ne_of_lt (blk_lt (g := gb101) (o := .cells #[.int .i64 0, .int .i64 0, .int .i64 0, .int .i64 0, .int .i64 0, .slice none 0 0] 39 (0, 0)) (by (with_reducible repeat (first | refine b1_ ?_ _ | refine b2_ ?_ | refine b3_ ?_ _)); exact BK101.out)) : gb101 ≠ gb112))
              have n9_ := Aside0.mk ((by rw [hg]; exact Nat.ne_of_gt (blk_lt (g := gb101) (o := .cells #[.int .i64 0, .int .i64 0, .int .i64 0, .int .i64 0, .int .i64 0, .slice none 0 0] 39 (0, 0)) (by (with_reducible repeat (first | refine b1_ ?_ _ | refine b2_ ?_ | refine b3_ ?_ _)); exact BK101.out)) : gb112 ≠ gb101))
              have n10_ := Aside0.mk ((by rw [hg]; exact Nat.ne_of_lt (blk_lt (g := gb102) (o := .cells #[.int .i64 (wrap64 (Int.tmod a1 4)), .int .i64 7, .int .i64 8, .int .i64 9, .int .i64 10, u103005] 39 (0, 0)) (by (with_reducible repeat (first | refine b1_ ?_ _ | refine b2_ ?_ | refine b3_ ?_ _)); exact BK102.out)) : gb102 ≠ gb112))
              have n11_ := Aside0.mk ((by rw [hg]; exact Nat.ne_of_gt (blk_lt (g := gb102) (o := .cells #[.int .i64 (wrap64 (Int.tmod a1 4)), .int .i64 7, .int .i64 8, .int .i64 9, .int .i64 10, u103005] 39 (0, 0)) (by (with_reducible repeat (first | refine b1_ ?_ _ | refine b2_ ?_ | refine b3_ ?_ _)); exact BK102.out)) : gb112 ≠ gb102))
              have n12_ := Aside0.mk ((by rw [hg]; exact Nat.ne_of_lt (blk_lt (g := gb104) (o := .cells #[.int .i64 ((rd_T36 l0 x9_1).f0), .int .i64 ((rd_T36 l0 x9_1).f1), .int .i64 ((rd_T36 l0 x9_1).f2), .int .i64 ((rd_T36 l0 x9_1).f3), .int .i64 ((rd_T36 l0 x9_1).f4), .int .i64 ((rd_T36 l0 x9_1).f5), .int .i64 ((rd_T36 l0 x9_1).f6), .int .i64 ((rd_T36 l0 x9_1).f7), .int .i64 ((rd_T36 l0 x9_1).f8), .int .i64 ((rd_T36 l0 x9_1).f9)] 36 (0, 0)) (by (with_reducible repeat (first | refine b1_ ?_ _ | refine b2_ ?_ | refine b3_ ?_ _)); exact BK104.out)) : gb104 ≠ gb112))
              have n13_ := Aside0.mk ((by rw [hg]; exact Nat.ne_of_gt (blk_lt (g := gb104) (o := .cells #[.int .i64 ((rd_T36 l0 x9_1).f0), .int .i64 ((rd_T36 l0 x9_1).f1), .int .i64 ((rd_T36 l0 x9_1).f2), .int .i64 ((rd_T36 l0 x9_1).f3), .int .i64 ((rd_T36 l0 x9_1).f4), .int .i64 ((rd_T36 l0 x9_1).f5), .int .i64 ((rd_T36 l0 x9_1).f6), .int .i64 ((rd_T36 l0 x9_1).f7), .int .i64 ((rd_T36 l0 x9_1).f8), .int .i64 ((rd_T36 l0 x9_1).f9)] 36 (0, 0)) (by (with_reducible repeat (first | refine b1_ ?_ _ | refine b2_ ?_ | refine b3_ ?_ _)); exact BK104.out)) : gb112 ≠ gb104))
              clear HO_103005
              clear BK101
              clear BK102
              clear BK104
              clear HB
              have HO_103005 := n0_
              have BK101 := n1_
              have BK102 := n2_
              have BK104 := n3_
              have HB := n4_
              have BK112 := n5_
              have GW112 := n6_
              have GE112 := n7_
              have NB101_112 := n8_
              have NB112_101 := n9_
              have NB102_112 := n10_
              have NB112_102 := n11_
              have NB104_112 := n12_
              have NB112_104 := n13_
              clear n0_ n1_ n2_ n3_ n4_ n5_ n6_ n7_ n8_ n9_ n10_ n11_ n12_ n13_
              clear hb hbox hg
              refine hK.out _ _ ⟨(blk_cell BK104.out 0).trans rfl, (blk_cell BK104.out 1).trans rfl, (blk_cell BK104.out 2).trans rfl, (blk_cell BK104.out 3).trans rfl, (blk_cell BK104.out 4).trans rfl, (blk_cell BK104.out 5).trans rfl, (blk_cell BK104.out 6).trans rfl, (blk_cell BK104.out 7).trans rfl, (blk_cell BK104.out 8).trans rfl, (blk_cell BK104.out 9).trans rfl⟩ (fun hHeld => ?_)
              clear hK K
              refine norm_ (a' := ?_) ?_ ?_
              rotate_left
              ·show Act.put _ (some 11) _ = _
               simp only [Act.put, L1_, L2_, L3_, i64_w, i32_w]
               rfl
              exact norm_ (by simp only [putAll, Act.put, L1_, L2_, L3_] <;> rfl) (hJ3_7_11_15_19_23_29 (gb112) _ ⟨hHeld, (by (with_reducible repeat (first | apply Kd.R_alloc | apply Kd.R_drewN | apply Kd.R_drew)); exact HO_103005.out), (by (with_reducible repeat (first | refine b1_ ?_ _ | refine b2_ ?_ | refine b3_ ?_ _)); exact BK101.out), (by (with_reducible repeat (first | refine b1_ ?_ _ | refine b2_ ?_ | refine b3_ ?_ _)); exact BK102.out), (by (with_reducible repeat (first | refine b1_ ?_ _ | refine b2_ ?_ | refine b3_ ?_ _)); exact BK104.out), (by (with_reducible repeat (first | refine b1_ ?_ _ | refine b2_ ?_ | refine b3_ ?_ _)); exact BK112.out), GW112.out, GE112.out, NB101_112.out, NB112_101.out, NB102_112.out, NB112_102.out, NB104_112.out, NB112_104.out, (by repeat (first | (with_reducible first | exact HB.out | apply below_alloc | apply pw_below_drewN | apply below_drew1 | refine below_set ?_ GE101.out | refine below_set ?_ GE102.out | refine below_set ?_ GE104.out | refine below_set ?_ GE112.out) | exact HB.out))⟩)
           ·skip
            rintro gb112 w28 ⟨hS_, h0_, h1_, h2_, h3_, h4_, h5_, h6_, h7_, h8_, h9_, h10_, h11_, h12_, h13_⟩
            have n0_ : Aside0 (Kd.R k36 36 w28 w.heap.size (fun k_ => k_ ≠ gb104 ∧ k_ ≠ gb112) u103005 x103005_1) := ⟨h0_⟩
            have n1_ : Aside0 (w28.heap[gb101]? = some (.cells #[.int .i64 0, .int .i64 0, .int .i64 0, .int .i64 0, .int .i64 0, .slice none 0 0] 39 (0, 0))) := ⟨h1_⟩
            have n2_ : Aside0 (w28.heap[gb102]? = some (.cells #[.int .i64 (wrap64 (Int.tmod a1 4)), .int .i64 7, .int .i64 8, .int .i64 9, .int .i64 10, u103005] 39 (0, 0))) := ⟨h2_⟩
            have n3_ : Aside0 (w28.heap[gb104]? = some (.cells #[.int .i64 ((rd_T36 l0 x9_1).f0), .int .i64 ((rd_T36 l0 x9_1).f1), .int .i64 ((rd_T36 l0 x9_1).f2), .int .i64 ((rd_T36 l0 x9_1).f3), .int .i64 ((rd_T36 l0 x9_1).f4), .int .i64 ((rd_T36 l0 x9_1).f5), .int .i64 ((rd_T36 l0 x9_1).f6), .int .i64 ((rd_T36 l0 x9_1).f7), .int .i64 ((rd_T36 l0 x9_1).f8), .int .i64 ((rd_T36 l0 x9_1).f9)] 36 (0, 0))) := ⟨h3_⟩
            have n4_ : Aside0 (w28.heap[gb112]? = some (.cells #[.int .i64 0, .int .i64 0, .int .i64 0, .int .i64 0, .int .i64 0, .int .i64 0, .int .i64 0, .int .i64 0, .int .i64 0, .int .i64 0] 36 (0, 0))) := ⟨h4_⟩
            have n5_ : Aside0 (w.heap.size ≤ gb112) := ⟨h5_⟩
            have n6_ : Aside0 (w.heap.size ≤ gb112) := ⟨h6_⟩
            have n7_ : Aside0 (gb101 ≠ gb112) := ⟨h7_⟩
            have n8_ : Aside0 (gb112 ≠ gb101) := ⟨h8_⟩
            have n9_ : Aside0 (gb102 ≠ gb112) := ⟨h9_⟩
            have n10_ : Aside0 (gb112 ≠ gb102) := ⟨h10_⟩
            have n11_ : Aside0 (gb104 ≠ gb112) := ⟨h11_⟩
            have n12_ : Aside0 (gb112 ≠ gb104) := ⟨h12_⟩
            have n13_ : Aside0 (Below w.heap.size w w28) := ⟨h13_⟩
            clear HO_103005
            clear BK101
            clear BK102
            clear BK104
            clear HB
            clear h0_ h1_ h2_ h3_ h4_ h5_ h6_ h7_ h8_ h9_ h10_ h11_ h12_ h13_
            have HO_103005 := n0_
            have BK101 := n1_
            have BK102 := n2_
            have BK104 := n3_
            have BK112 := n4_
            have GW112 := n5_
            have GE112 := n6_
            have NB101_112 := n7_
            have NB112_101 := n8_
            have NB102_112 := n9_
            have NB112_102 := n10_
            have NB104_112 := n11_
            have NB112_104 := n12_
            have HB := n13_
            clear n0_ n1_ n2_ n3_ n4_ n5_ n6_ n7_ n8_ n9_ n10_ n11_ n12_ n13_
            have hHeld : w28.cell? ⟨gb104, 0, none⟩ = some (.int .i64 ((rd_T36 l0 x9_1).f0)) ∧ w28.cell? ⟨gb104, 1, none⟩ = some (.int .i64 ((rd_T36 l0 x9_1).f1)) ∧ w28.cell? ⟨gb104, 2, none⟩ = some (.int .i64 ((rd_T36 l0 x9_1).f2)) ∧ w28.cell? ⟨gb104, 3, none⟩ = some (.int .i64 ((rd_T36 l0 x9_1).f3)) ∧ w28.cell? ⟨gb104, 4, none⟩ = some (.int .i64 ((rd_T36 l0 x9_1).f4)) ∧ w28.cell? ⟨gb104, 5, none⟩ = some (.int .i64 ((rd_T36 l0 x9_1).f5)) ∧ w28.cell? ⟨gb104, 6, none⟩ = some (.int .i64 ((rd_T36 l0 x9_1).f6)) ∧ w28.cell? ⟨gb104, 7, none⟩ = some (.int .i64 ((rd_T36 l0 x9_1).f7)) ∧ w28.cell? ⟨gb104, 8, none⟩ = some (.int .i64 ((rd_T36 l0 x9_1).f8)) ∧ w28.cell? ⟨gb104, 9, none⟩ = some (.int .i64 ((rd_T36 l0 x9_1).f9)) := hS_
            refine norm_ (a' := ?_) ?_ ?_
            rotate_left
            ·simp only [putAll, Act.put, L1_, L2_, L3_]
             rfl
            refine one_ (i := 27) (N := some 57) #[tt,tt,tt,tt,tt,tt,tt,tt,tt,tt,tt,tt,tt,tt,tt,tt,tt,tt,tt,tt,tt,tt,tt,tt,tt,tt,tt,tt,ff,tt,ff] rfl rfl (one_of HT_.out (by kernel_rfl)) (by decide) (fun K hK => ?_)
            refine goesT_ Try.func45 (by kernel_rfl) rfl #[.int .i64 ((rd_T36 l0 x9_1).f6)] (by rfl) rfl rfl (by rfl) (by (try simp only [List.map_toArray, List.map_cons, List.map_nil]); first | done | rfl | (simp only [List.length_drop, List.length_take]; rfl)) ?_
            with_reducible refine (laws_someOut_1.calls ((rd_T36 l0 x9_1).f6) t111 _ A19.out).mono ?_
            rintro e w' ⟨rfl, ⟨nd, rfl⟩⟩
            refine ⟨_, rfl, ?_⟩
            refine hK.out _ _ ⟨(blk_cell BK104.out 0).trans rfl, (blk_cell BK104.out 1).trans rfl, (blk_cell BK104.out 2).trans rfl, (blk_cell BK104.out 3).trans rfl, (blk_cell BK104.out 4).trans rfl, (blk_cell BK104.out 5).trans rfl, (blk_cell BK104.out 6).trans rfl, (blk_cell BK104.out 7).trans rfl, (blk_cell BK104.out 8).trans rfl, (blk_cell BK104.out 9).trans rfl⟩ (fun hHeld => ?_)
            clear hK K
            refine norm_ (a' := ?_) ?_ ?_
            rotate_left
            ·show Act.put _ (some 57) _ = _
             simp only [Act.put, L1_, L2_, L3_, i64_w, i32_w]
             rfl
            refine pure_ (i := 28) (N := some 58) (v := ?_) (a' := ?_) #[tt,tt,tt,tt,tt,tt,tt,tt,tt,tt,tt,tt,tt,tt,tt,tt,tt,tt,tt,tt,tt,tt,tt,tt,tt,tt,tt,tt,tt,tt,ff] rfl rfl (any_of HT_.out (by kernel_rfl)) (fun _ _ _ h => h) (Or.inl ⟨by rfl, ?_⟩) ?_ ?_
            rotate_left
            ·intro w'
             go_simp
             with_reducible rfl
            rotate_left
            ·simp only [Act.put, L1_, L2_, L3_, i64_w, i32_w]
             rfl
            exact norm_ (by simp only [putAll, Act.put, L1_, L2_, L3_] <;> rfl) (hJ3_7_11_15_19_23_27_29 (gb112) _ ⟨hHeld, (by (with_reducible repeat (first | apply Kd.R_alloc | apply Kd.R_drewN | apply Kd.R_drew)); exact HO_103005.out), (by (with_reducible repeat (first | refine b1_ ?_ _ | refine b2_ ?_ | refine b3_ ?_ _)); exact BK101.out), (by (with_reducible repeat (first | refine b1_ ?_ _ | refine b2_ ?_ | refine b3_ ?_ _)); exact BK102.out), (by (with_reducible repeat (first | refine b1_ ?_ _ | refine b2_ ?_ | refine b3_ ?_ _)); exact BK104.out), (by (with_reducible repeat (first | refine b1_ ?_ _ | refine b2_ ?_ | refine b3_ ?_ _)); exact BK112.out), GW112.out, GE112.out, NB101_112.out, NB112_101.out, NB102_112.out, NB112_102.out, NB104_112.out, NB112_104.out, (by repeat (first | (with_reducible first | exact HB.out | apply below_alloc | apply pw_below_drewN | apply below_drew1 | refine below_set ?_ GE101.out | refine below_set ?_ GE102.out | refine below_set ?_ GE104.out | refine below_set ?_ GE112.out) | exact HB.out))⟩)
          ·skip
           rintro _ w27 ⟨hS_, h0_, h1_, h2_, h3_, h4_⟩
           have n0_ : Aside0 (Kd.R k36 36 w27 w.heap.size (fun k_ => k_ ≠ gb104) u103005 x103005_1) := ⟨h0_⟩
           have n1_ : Aside0 (w27.heap[gb101]? = some (.cells #[.int .i64 0, .int .i64 0, .int .i64 0, .int .i64 0, .int .i64 0, .slice none 0 0] 39 (0, 0))) := ⟨h1_⟩
           have n2_ : Aside0 (w27.heap[gb102]? = some (.cells #[.int .i64 (wrap64 (Int.tmod a1 4)), .int .i64 7, .int .i64 8, .int .i64 9, .int .i64 10, u103005] 39 (0, 0))) := ⟨h2_⟩
           have n3_ : Aside0 (w27.heap[gb104]? = some (.cells #[.int .i64 ((rd_T36 l0 x9_1).f0), .int .i64 ((rd_T36 l0 x9_1).f1), .int .i64 ((rd_T36 l0 x9_1).f2), .int .i64 ((rd_T36 l0 x9_1).f3), .int .i64 ((rd_T36 l0 x9_1).f4), .int .i64 ((rd_T36 l0 x9_1).f5), .int .i64 ((rd_T36 l0 x9_1).f6), .int .i64 ((rd_T36 l0 x9_1).f7), .int .i64 ((rd_T36 l0 x9_1).f8), .int .i64 ((rd_T36 l0 x9_1).f9)] 36 (0, 0))) := ⟨h3_⟩
           have n4_ : Aside0 (Below w.heap.size w w27) := ⟨h4_⟩
           clear HO_103005
           clear BK101
           clear BK102
           clear BK104
           clear HB
           clear h0_ h1_ h2_ h3_ h4_
           have HO_103005 := n0_
           have BK101 := n1_
           have BK102 := n2_
           have BK104 := n3_
           have HB := n4_
           clear n0_ n1_ n2_ n3_ n4_
           have hHeld : w27.cell? ⟨gb104, 0, none⟩ = some (.int .i64 ((rd_T36 l0 x9_1).f0)) ∧ w27.cell? ⟨gb104, 1, none⟩ = some (.int .i64 ((rd_T36 l0 x9_1).f1)) ∧ w27.cell? ⟨gb104, 2, none⟩ = some (.int .i64 ((rd_T36 l0 x9_1).f2)) ∧ w27.cell? ⟨gb104, 3, none⟩ = some (.int .i64 ((rd_T36 l0 x9_1).f3)) ∧ w27.cell? ⟨gb104, 4, none⟩ = some (.int .i64 ((rd_T36 l0 x9_1).f4)) ∧ w27.cell? ⟨gb104, 5, none⟩ = some (.int .i64 ((rd_T36 l0 x9_1).f5)) ∧ w27.cell? ⟨gb104, 6, none⟩ = some (.int .i64 ((rd_T36 l0 x9_1).f6)) ∧ w27.cell? ⟨gb104, 7, none⟩ = some (.int .i64 ((rd_T36 l0 x9_1).f7)) ∧ w27.cell? ⟨gb104, 8, none⟩ = some (.int .i64 ((rd_T36 l0 x9_1).f8)) ∧ w27.cell? ⟨gb104, 9, none⟩ = some (.int .i64 ((rd_T36 l0 x9_1).f9)) := hS_
           refine norm_ (a' := ?_) ?_ ?_
           rotate_left
           ·simp only [putAll, Act.put, L1_, L2_, L3_]
            rfl
           refine one_ (i := 29) (N := some 11) #[tt,tt,tt,tt,tt,tt,tt,tt,tt,tt,tt,tt,tt,tt,tt,tt,tt,tt,tt,tt,tt,tt,tt,tt,tt,tt,tt,tt,tt,tt,ff] rfl rfl (one_of HT_.out (by kernel_rfl)) (by decide) (fun K hK => ?_)
           refine box_step ?hg (N := 11) ?hd (cs := #[.int .i64 0, .int .i64 0, .int .i64 0, .int .i64 0, .int .i64 0, .int .i64 0, .int .i64 0, .int .i64 0, .int .i64 0, .int .i64 0]) (t := 36) ?hr ?_; (case hd => rfl); (case hg => rfl); (case hr => first | (go_simp; done) | (go_simp; rfl))
           intro gb112 hg w28 hbox hb
           have n0_ := Aside0.mk (Kd.R_below (Kd.R_elderB (by (with_reducible repeat (first | apply Kd.R_alloc | apply Kd.R_drewN | apply Kd.R_drew)); exact HO_103005.out) gb112 (Nat.le_of_eq hg.symm)) hb)
           have n1_ := Aside0.mk (blk_below (g := gb101) (o := .cells #[.int .i64 0, .int .i64 0, .int .i64 0, .int .i64 0, .int .i64 0, .slice none 0 0] 39 (0, 0)) (by (with_reducible repeat (first | refine b1_ ?_ _ | refine b2_ ?_ | refine b3_ ?_ _)); exact BK101.out) hb)
           have n2_ := Aside0.mk (blk_below (g := gb102) (o := .cells #[.int .i64 (wrap64 (Int.tmod a1 4)), .int .i64 7, .int .i64 8, .int .i64 9, .int .i64 10, u103005] 39 (0, 0)) (by (with_reducible repeat (first | refine b1_ ?_ _ | refine b2_ ?_ | refine b3_ ?_ _)); exact BK102.out) hb)
           have n3_ := Aside0.mk (blk_below (g := gb104) (o := .cells #[.int .i64 ((rd_T36 l0 x9_1).f0), .int .i64 ((rd_T36 l0 x9_1).f1), .int .i64 ((rd_T36 l0 x9_1).f2), .int .i64 ((rd_T36 l0 x9_1).f3), .int .i64 ((rd_T36 l0 x9_1).f4), .int .i64 ((rd_T36 l0 x9_1).f5), .int .i64 ((rd_T36 l0 x9_1).f6), .int .i64 ((rd_T36 l0 x9_1).f7), .int .i64 ((rd_T36 l0 x9_1).f8), .int .i64 ((rd_T36 l0 x9_1).f9)] 36 (0, 0)) (by (with_reducible repeat (first | refine b1_ ?_ _ | refine b2_ ?_ | refine b3_ ?_ _)); exact BK104.out) hb)
           have n4_ := Aside0.mk (below_step (by repeat (first | (with_reducible first | exact HB.out | apply below_alloc | apply pw_below_drewN | apply below_drew1 | refine below_set ?_ GE101.out | refine below_set ?_ GE102.out | refine below_set ?_ GE104.out) | exact HB.out)) hb)
           have n5_ := Aside0.mk (hbox)
           have n6_ := Aside0.mk ((by rw [hg]; exact (below_size (by repeat (first | (with_reducible first | exact HB.out | apply below_alloc | apply pw_below_drewN | apply below_drew1 | refine below_set ?_ GE101.out | refine below_set ?_ GE102.out | refine below_set ?_ GE104.out) | exact HB.out))) : w.heap.size ≤ gb112))
           have n7_ := Aside0.mk ((by rw [hg]; exact (below_size (by repeat (first | (with_reducible first | exact HB.out | apply below_alloc | apply pw_below_drewN | apply below_drew1 | refine below_set ?_ GE101.out | refine below_set ?_ GE102.out | refine below_set ?_ GE104.out) | exact HB.out))) : w.heap.size ≤ gb112))
           have n8_ := Aside0.mk ((by rw [hg]; exact Nat.ne_of_lt (blk_lt (g := gb101) (o := .cells #[.int .i64 0, .int .i64 0, .int .i64 0, .int .i64 0, .int .i64 0, .slice none 0 0] 39 (0, 0)) (by (with_reducible repeat (first | refine b1_ ?_ _ | refine b2_ ?_ | refine b3_ ?_ _)); exact BK101.out)) : gb101 ≠ gb112))
           have n9_ := Aside0.mk ((by rw [hg]; exact Nat.ne_of_gt (blk_lt (g := gb101) (o := .cells #[.int .i64 0, .int .i64 0, .int .i64 0, .int .i64 0, .int .i64 0, .slice none 0 0] 39 (0, 0)) (by (with_reducible repeat (first | refine b1_ ?_ _ | refine b2_ ?_ | refine b3_ ?_ _)); exact BK101.out)) : gb112 ≠ gb101))
           have n10_ := Aside0.mk ((by rw [hg]; exact Nat.ne_of_lt (blk_lt (g := gb102) (o := .cells #[.int .i64 (wrap64 (Int.tmod a1 4)), .int .i64 7, .int .i64 8, .int .i64 9, .int .i64 10, u103005] 39 (0, 0)) (by (with_reducible repeat (first | refine b1_ ?_ _ | refine b2_ ?_ | refine b3_ ?_ _)); exact BK102.out)) : gb102 ≠ gb112))
           have n11_ := Aside0.mk ((by rw [hg]; exact Nat.ne_of_gt (blk_lt (g := gb102) (o := .cells #[.int .i64 (wrap64 (Int.tmod a1 4)), .int .i64 7, .int .i64 8, .int .i64 9, .int .i64 10, u103005] 39 (0, 0)) (by (with_reducible repeat (first | refine b1_ ?_ _ | refine b2_ ?_ | refine b3_ ?_ _)); exact BK102.out)) : gb112 ≠ gb102))
           have n12_ := Aside0.mk ((by rw [hg]; exact Nat.ne_of_lt (blk_lt (g := gb104) (o := .cells #[.int .i64 ((rd_T36 l0 x9_1).f0), .int .i64 ((rd_T36 l0 x9_1).f1), .int .i64 ((rd_T36 l0 x9_1).f2), .int .i64 ((rd_T36 l0 x9_1).f3), .int .i64 ((rd_T36 l0 x9_1).f4), .int .i64 ((rd_T36 l0 x9_1).f5), .int .i64 ((rd_T36 l0 x9_1).f6), .int .i64 ((rd_T36 l0 x9_1).f7), .int .i64 ((rd_T36 l0 x9_1).f8), .int .i64 ((rd_T36 l0 x9_1).f9)] 36 (0, 0)) (by (with_reducible repeat (first | refine b1_ ?_ _ | refine b2_ ?_ | refine b3_ ?_ _)); exact BK104.out)) : gb104 ≠ gb112))
           have n13_ := Aside0.mk ((by rw [hg]; exact Nat.ne_of_gt (blk_lt (g := gb104) (o := .cells #[.int .i64 ((rd_T36 l0 x9_1).f0), .int .i64 ((rd_T36 l0 x9_1).f1), .int .i64 ((rd_T36 l0 x9_1).f2), .int .i64 ((rd_T36 l0 x9_1).f3), .int .i64 ((rd_T36 l0 x9_1).f4), .int .i64 ((rd_T36 l0 x9_1).f5), .int .i64 ((rd_T36 l0 x9_1).f6), .int .i64 ((rd_T36 l0 x9_1).f7), .int .i64 ((rd_T36 l0 x9_1).f8), .int .i64 ((rd_T36 l0 x9_1).f9)] 36 (0, 0)) (by (with_reducible repeat (first | refine b1_ ?_ _ | refine b2_ ?_ | refine b3_ ?_ _)); exact BK104.out)) : gb112 ≠ gb104))
           clear HO_103005
           clear BK101
           clear BK102
           clear BK104
           clear HB
           have HO_103005 := n0_
           have BK101 := n1_
           have BK102 := n2_
           have BK104 := n3_
           have HB := n4_
           have BK112 := n5_
           have GW112 := n6_
           have GE112 := n7_
           have NB101_112 := n8_
           have NB112_101 := n9_
           have NB102_112 := n10_
           have NB112_102 := n11_
           have NB104_112 := n12_
           have NB112_104 := n13_
           clear n0_ n1_ n2_ n3_ n4_ n5_ n6_ n7_ n8_ n9_ n10_ n11_ n12_ n13_
           clear hb hbox hg
           refine hK.out _ _ ⟨(blk_cell BK104.out 0).trans rfl, (blk_cell BK104.out 1).trans rfl, (blk_cell BK104.out 2).trans rfl, (blk_cell BK104.out 3).trans rfl, (blk_cell BK104.out 4).trans rfl, (blk_cell BK104.out 5).trans rfl, (blk_cell BK104.out 6).trans rfl, (blk_cell BK104.out 7).trans rfl, (blk_cell BK104.out 8).trans rfl, (blk_cell BK104.out 9).trans rfl⟩ (fun hHeld => ?_)
           clear hK K
           refine norm_ (a' := ?_) ?_ ?_
           rotate_left
           ·show Act.put _ (some 11) _ = _
            simp only [Act.put, L1_, L2_, L3_, i64_w, i32_w]
            rfl
           exact norm_ (by simp only [putAll, Act.put, L1_, L2_, L3_] <;> rfl) (hJ3_7_11_15_19_23_27_29 (gb112) _ ⟨hHeld, (by (with_reducible repeat (first | apply Kd.R_alloc | apply Kd.R_drewN | apply Kd.R_drew)); exact HO_103005.out), (by (with_reducible repeat (first | refine b1_ ?_ _ | refine b2_ ?_ | refine b3_ ?_ _)); exact BK101.out), (by (with_reducible repeat (first | refine b1_ ?_ _ | refine b2_ ?_ | refine b3_ ?_ _)); exact BK102.out), (by (with_reducible repeat (first | refine b1_ ?_ _ | refine b2_ ?_ | refine b3_ ?_ _)); exact BK104.out), (by (with_reducible repeat (first | refine b1_ ?_ _ | refine b2_ ?_ | refine b3_ ?_ _)); exact BK112.out), GW112.out, GE112.out, NB101_112.out, NB112_101.out, NB102_112.out, NB112_102.out, NB104_112.out, NB112_104.out, (by repeat (first | (with_reducible first | exact HB.out | apply below_alloc | apply pw_below_drewN | apply below_drew1 | refine below_set ?_ GE101.out | refine below_set ?_ GE102.out | refine below_set ?_ GE104.out | refine below_set ?_ GE112.out) | exact HB.out))⟩)
         rintro gb112 w28 ⟨hS_, h0_, h1_, h2_, h3_, h4_, h5_, h6_, h7_, h8_, h9_, h10_, h11_, h12_, h13_⟩
         have n0_ : Aside0 (Kd.R k36 36 w28 w.heap.size (fun k_ => k_ ≠ gb104 ∧ k_ ≠ gb112) u103005 x103005_1) := ⟨h0_⟩
         have n1_ : Aside0 (w28.heap[gb101]? = some (.cells #[.int .i64 0, .int .i64 0, .int .i64 0, .int .i64 0, .int .i64 0, .slice none 0 0] 39 (0, 0))) := ⟨h1_⟩
         have n2_ : Aside0 (w28.heap[gb102]? = some (.cells #[.int .i64 (wrap64 (Int.tmod a1 4)), .int .i64 7, .int .i64 8, .int .i64 9, .int .i64 10, u103005] 39 (0, 0))) := ⟨h2_⟩
         have n3_ : Aside0 (w28.heap[gb104]? = some (.cells #[.int .i64 ((rd_T36 l0 x9_1).f0), .int .i64 ((rd_T36 l0 x9_1).f1), .int .i64 ((rd_T36 l0 x9_1).f2), .int .i64 ((rd_T36 l0 x9_1).f3), .int .i64 ((rd_T36 l0 x9_1).f4), .int .i64 ((rd_T36 l0 x9_1).f5), .int .i64 ((rd_T36 l0 x9_1).f6), .int .i64 ((rd_T36 l0 x9_1).f7), .int .i64 ((rd_T36 l0 x9_1).f8), .int .i64 ((rd_T36 l0 x9_1).f9)] 36 (0, 0))) := ⟨h3_⟩
         have n4_ : Aside0 (w28.heap[gb112]? = some (.cells #[.int .i64 0, .int .i64 0, .int .i64 0, .int .i64 0, .int .i64 0, .int .i64 0, .int .i64 0, .int .i64 0, .int .i64 0, .int .i64 0] 36 (0, 0))) := ⟨h4_⟩
         have n5_ : Aside0 (w.heap.size ≤ gb112) := ⟨h5_⟩
         have n6_ : Aside0 (w.heap.size ≤ gb112) := ⟨h6_⟩
         have n7_ : Aside0 (gb101 ≠ gb112) := ⟨h7_⟩
         have n8_ : Aside0 (gb112 ≠ gb101) := ⟨h8_⟩
         have n9_ : Aside0 (gb102 ≠ gb112) := ⟨h9_⟩
         have n10_ : Aside0 (gb112 ≠ gb102) := ⟨h10_⟩
         have n11_ : Aside0 (gb104 ≠ gb112) := ⟨h11_⟩
         have n12_ : Aside0 (gb112 ≠ gb104) := ⟨h12_⟩
         have n13_ : Aside0 (Below w.heap.size w w28) := ⟨h13_⟩
         clear HO_103005
         clear BK101
         clear BK102
         clear BK104
         clear HB
         clear h0_ h1_ h2_ h3_ h4_ h5_ h6_ h7_ h8_ h9_ h10_ h11_ h12_ h13_
         have HO_103005 := n0_
         have BK101 := n1_
         have BK102 := n2_
         have BK104 := n3_
         have BK112 := n4_
         have GW112 := n5_
         have GE112 := n6_
         have NB101_112 := n7_
         have NB112_101 := n8_
         have NB102_112 := n9_
         have NB112_102 := n10_
         have NB104_112 := n11_
         have NB112_104 := n12_
         have HB := n13_
         clear n0_ n1_ n2_ n3_ n4_ n5_ n6_ n7_ n8_ n9_ n10_ n11_ n12_ n13_
         have hHeld : w28.cell? ⟨gb104, 0, none⟩ = some (.int .i64 ((rd_T36 l0 x9_1).f0)) ∧ w28.cell? ⟨gb104, 1, none⟩ = some (.int .i64 ((rd_T36 l0 x9_1).f1)) ∧ w28.cell? ⟨gb104, 2, none⟩ = some (.int .i64 ((rd_T36 l0 x9_1).f2)) ∧ w28.cell? ⟨gb104, 3, none⟩ = some (.int .i64 ((rd_T36 l0 x9_1).f3)) ∧ w28.cell? ⟨gb104, 4, none⟩ = some (.int .i64 ((rd_T36 l0 x9_1).f4)) ∧ w28.cell? ⟨gb104, 5, none⟩ = some (.int .i64 ((rd_T36 l0 x9_1).f5)) ∧ w28.cell? ⟨gb104, 6, none⟩ = some (.int .i64 ((rd_T36 l0 x9_1).f6)) ∧ w28.cell? ⟨gb104, 7, none⟩ = some (.int .i64 ((rd_T36 l0 x9_1).f7)) ∧ w28.cell? ⟨gb104, 8, none⟩ = some (.int .i64 ((rd_T36 l0 x9_1).f8)) ∧ w28.cell? ⟨gb104, 9, none⟩ = some (.int .i64 ((rd_T36 l0 x9_1).f9)) := hS_
         refine norm_ (a' := ?_) ?_ ?_
         rotate_left
         ·simp only [putAll, Act.put, L1_, L2_, L3_]
          rfl
         refine one_ (i := 30) (N := none) #[tt,tt,tt,tt,tt,tt,tt,tt,tt,tt,tt,tt,tt,tt,tt,tt,tt,tt,tt,tt,tt,tt,tt,tt,tt,tt,tt,tt,tt,tt,tt] rfl rfl (one_of HT_.out (by kernel_rfl)) (by decide) (fun K hK => ?_)
         have hs29 : w28.cell? ⟨gb112, 0, none⟩ = some (.int .i64 0) := (blk_cell BK112.out 0).trans rfl
         have hfs29 := blk_frozen BK112.out 0
         have hns29_0 := NB101_112.out
         have hns29_1 := NB102_112.out
         have hns29_2 := NB104_112.out
         have hms29_0 := NB112_101.out
         have hms29_1 := NB112_102.out
         have hms29_2 := NB112_104.out
         have hs30 : w28.cell? ⟨gb112, 1, none⟩ = some (.int .i64 0) := (blk_cell BK112.out 1).trans rfl
         have hfs30 := blk_frozen BK112.out 1
         have hns30_0 := NB101_112.out
         have hns30_1 := NB102_112.out
         have hns30_2 := NB104_112.out
         have hms30_0 := NB112_101.out
         have hms30_1 := NB112_102.out
         have hms30_2 := NB112_104.out
         have hs31 : w28.cell? ⟨gb112, 2, none⟩ = some (.int .i64 0) := (blk_cell BK112.out 2).trans rfl
         have hfs31 := blk_frozen BK112.out 2
         have hns31_0 := NB101_112.out
         have hns31_1 := NB102_112.out
         have hns31_2 := NB104_112.out
         have hms31_0 := NB112_101.out
         have hms31_1 := NB112_102.out
         have hms31_2 := NB112_104.out
         have hs32 : w28.cell? ⟨gb112, 3, none⟩ = some (.int .i64 0) := (blk_cell BK112.out 3).trans rfl
         have hfs32 := blk_frozen BK112.out 3
         have hns32_0 := NB101_112.out
         have hns32_1 := NB102_112.out
         have hns32_2 := NB104_112.out
         have hms32_0 := NB112_101.out
         have hms32_1 := NB112_102.out
         have hms32_2 := NB112_104.out
         have hs33 : w28.cell? ⟨gb112, 4, none⟩ = some (.int .i64 0) := (blk_cell BK112.out 4).trans rfl
         have hfs33 := blk_frozen BK112.out 4
         have hns33_0 := NB101_112.out
         have hns33_1 := NB102_112.out
         have hns33_2 := NB104_112.out
         have hms33_0 := NB112_101.out
         have hms33_1 := NB112_102.out
         have hms33_2 := NB112_104.out
         have hs34 : w28.cell? ⟨gb112, 5, none⟩ = some (.int .i64 0) := (blk_cell BK112.out 5).trans rfl
         have hfs34 := blk_frozen BK112.out 5
         have hns34_0 := NB101_112.out
         have hns34_1 := NB102_112.out
         have hns34_2 := NB104_112.out
         have hms34_0 := NB112_101.out
         have hms34_1 := NB112_102.out
         have hms34_2 := NB112_104.out
         have hs35 : w28.cell? ⟨gb112, 6, none⟩ = some (.int .i64 0) := (blk_cell BK112.out 6).trans rfl
         have hfs35 := blk_frozen BK112.out 6
         have hns35_0 := NB101_112.out
         have hns35_1 := NB102_112.out
         have hns35_2 := NB104_112.out
         have hms35_0 := NB112_101.out
         have hms35_1 := NB112_102.out
         have hms35_2 := NB112_104.out
         have hs36 : w28.cell? ⟨gb112, 7, none⟩ = some (.int .i64 0) := (blk_cell BK112.out 7).trans rfl
         have hfs36 := blk_frozen BK112.out 7
         have hns36_0 := NB101_112.out
         have hns36_1 := NB102_112.out
         have hns36_2 := NB104_112.out
         have hms36_0 := NB112_101.out
         have hms36_1 := NB112_102.out
         have hms36_2 := NB112_104.out
         have hs37 : w28.cell? ⟨gb112, 8, none⟩ = some (.int .i64 0) := (blk_cell BK112.out 8).trans rfl
         have hfs37 := blk_frozen BK112.out 8
         have hns37_0 := NB101_112.out
         have hns37_1 := NB102_112.out
         have hns37_2 := NB104_112.out
         have hms37_0 := NB112_101.out
         have hms37_1 := NB112_102.out
         have hms37_2 := NB112_104.out
         have hs38 : w28.cell? ⟨gb112, 9, none⟩ = some (.int .i64 0) := (blk_cell BK112.out 9).trans rfl
         have hfs38 := blk_frozen BK112.out 9
         have hns38_0 := NB101_112.out
         have hns38_1 := NB102_112.out
         have hns38_2 := NB104_112.out
         have hms38_0 := NB112_101.out
         have hms38_1 := NB112_102.out
         have hms38_2 := NB112_104.out
         refine skip_ (w1 := ?_) (by rfl) rfl ?_ ?_
         rotate_left
         ·go_simp
          rfl
         refine hK.out _ _ ⟨((cell_far (p := ⟨gb112, _, none⟩) NB104_112.out _).trans (((cell_far (p := ⟨gb112, _, none⟩) NB104_112.out _).trans (((cell_far (p := ⟨gb112, _, none⟩) NB104_112.out _).trans (((cell_far (p := ⟨gb112, _, none⟩) NB104_112.out _).trans (((cell_far (p := ⟨gb112, _, none⟩) NB104_112.out _).trans (((cell_far (p := ⟨gb112, _, none⟩) NB104_112.out _).trans (((cell_far (p := ⟨gb112, _, none⟩) NB104_112.out _).trans (((cell_far (p := ⟨gb112, _, none⟩) NB104_112.out _).trans (((cell_far (p := ⟨gb112, _, none⟩) NB104_112.out _).trans (((cell_far (p := ⟨gb112, _, none⟩) NB104_112.out _).trans (hHeld.1)))))))))))))))))))), ((cell_far (p := ⟨gb112, _, none⟩) NB104_112.out _).trans (((cell_far (p := ⟨gb112, _, none⟩) NB104_112.out _).trans (((cell_far (p := ⟨gb112, _, none⟩) NB104_112.out _).trans (((cell_far (p := ⟨gb112, _, none⟩) NB104_112.out _).trans (((cell_far (p := ⟨gb112, _, none⟩) NB104_112.out _).trans (((cell_far (p := ⟨gb112, _, none⟩) NB104_112.out _).trans (((cell_far (p := ⟨gb112, _, none⟩) NB104_112.out _).trans (((cell_far (p := ⟨gb112, _, none⟩) NB104_112.out _).trans (((cell_far (p := ⟨gb112, _, none⟩) NB104_112.out _).trans (((cell_far (p := ⟨gb112, _, none⟩) NB104_112.out _).trans (hHeld.2.1)))))))))))))))))))), ((cell_far (p := ⟨gb112, _, none⟩) NB104_112.out _).trans (((cell_far (p := ⟨gb112, _, none⟩) NB104_112.out _).trans (((cell_far (p := ⟨gb112, _, none⟩) NB104_112.out _).trans (((cell_far (p := ⟨gb112, _, none⟩) NB104_112.out _).trans (((cell_far (p := ⟨gb112, _, none⟩) NB104_112.out _).trans (((cell_far (p := ⟨gb112, _, none⟩) NB104_112.out _).trans (((cell_far (p := ⟨gb112, _, none⟩) NB104_112.out _).trans (((cell_far (p := ⟨gb112, _, none⟩) NB104_112.out _).trans (((cell_far (p := ⟨gb112, _, none⟩) NB104_112.out _).trans (((cell_far (p := ⟨gb112, _, none⟩) NB104_112.out _).trans (hHeld.2.2.1)))))))))))))))))))), ((cell_far (p := ⟨gb112, _, none⟩) NB104_112.out _).trans (((cell_far (p := ⟨gb112, _, none⟩) NB104_112.out _).trans (((cell_far (p := ⟨gb112, _, none⟩) NB104_112.out _).trans (((cell_far (p := ⟨gb112, _, none⟩) NB104_112.out _).trans (((cell_far (p := ⟨gb112, _, none⟩) NB104_112.out _).trans (((cell_far (p := ⟨gb112, _, none⟩) NB104_112.out _).trans (((cell_far (p := ⟨gb112, _, none⟩) NB104_112.out _).trans (((cell_far (p := ⟨gb112, _, none⟩) NB104_112.out _).trans (((cell_far (p := ⟨gb112, _, none⟩) NB104_112.out _).trans (((cell_far (p := ⟨gb112, _, none⟩) NB104_112.out _).trans (hHeld.2.2.2.1)))))))))))))))))))), ((cell_far (p := ⟨gb112, _, none⟩) NB104_112.out _).trans (((cell_far (p := ⟨gb112, _, none⟩) NB104_112.out _).trans (((cell_far (p := ⟨gb112, _, none⟩) NB104_112.out _).trans (((cell_far (p := ⟨gb112, _, none⟩) NB104_112.out _).trans (((cell_far (p := ⟨gb112, _, none⟩) NB104_112.out _).trans (((cell_far (p := ⟨gb112, _, none⟩) NB104_112.out _).trans (((cell_far (p := ⟨gb112, _, none⟩) NB104_112.out _).trans (((cell_far (p := ⟨gb112, _, none⟩) NB104_112.out _).trans (((cell_far (p := ⟨gb112, _, none⟩) NB104_112.out _).trans (((cell_far (p := ⟨gb112, _, none⟩) NB104_112.out _).trans (hHeld.2.2.2.2.1)))))))))))))))))))), ((cell_far (p := ⟨gb112, _, none⟩) NB104_112.out _).trans (((cell_far (p := ⟨gb112, _, none⟩) NB104_112.out _).trans (((cell_far (p := ⟨gb112, _, none⟩) NB104_112.out _).trans (((cell_far (p := ⟨gb112, _, none⟩) NB104_112.out _).trans (((cell_far (p := ⟨gb112, _, none⟩) NB104_112.out _).trans (((cell_far (p := ⟨gb112, _, none⟩) NB104_112.out _).trans (((cell_far (p := ⟨gb112, _, none⟩) NB104_112.out _).trans (((cell_far (p := ⟨gb112, _, none⟩) NB104_112.out _).trans (((cell_far (p := ⟨gb112, _, none⟩) NB104_112.out _).trans (((cell_far (p := ⟨gb112, _, none⟩) NB104_112.out _).trans (hHeld.2.2.2.2.2.1)))))))))))))))))))), ((cell_far (p := ⟨gb112, _, none⟩) NB104_112.out _).trans (((cell_far (p := ⟨gb112, _, none⟩) NB104_112.out _).trans (((cell_far (p := ⟨gb112, _, none⟩) NB104_112.out _).trans (((cell_far (p := ⟨gb112, _, none⟩) NB104_112.out _).trans (((cell_far (p := ⟨gb112, _, none⟩) NB104_112.out _).trans (((cell_far (p := ⟨gb112, _, none⟩) NB104_112.out _).trans (((cell_far (p := ⟨gb112, _, none⟩) NB104_112.out _).trans (((cell_far (p := ⟨gb112, _, none⟩) NB104_112.out _).trans (((cell_far (p := ⟨gb112, _, none⟩) NB104_112.out _).trans (((cell_far (p := ⟨gb112, _, none⟩) NB104_112.out _).trans (hHeld.2.2.2.2.2.2.1)))))))))))))))))))), ((cell_far (p := ⟨gb112, _, none⟩) NB104_112.out _).trans (((cell_far (p := ⟨gb112, _, none⟩) NB104_112.out _).trans (((cell_far (p := ⟨gb112, _, none⟩) NB104_112.out _).trans (((cell_far (p := ⟨gb112, _, none⟩) NB104_112.out _).trans (((cell_far (p := ⟨gb112, _, none⟩) NB104_112.out _).trans (((cell_far (p := ⟨gb112, _, none⟩) NB104_112.out _).trans (((cell_far (p := ⟨gb112, _, none⟩) NB104_112.out _).trans (((cell_far (p := ⟨gb112, _, none⟩) NB104_112.out _).trans (((cell_far (p := ⟨gb112, _, none⟩) NB104_112.out _).trans (((cell_far (p := ⟨gb112, _, none⟩) NB104_112.out _).trans (hHeld.2.2.2.2.2.2.2.1)))))))))))))))))))), ((cell_far (p := ⟨gb112, _, none⟩) NB104_112.out _).trans (((cell_far (p := ⟨gb112, _, none⟩) NB104_112.out _).trans (((cell_far (p := ⟨gb112, _, none⟩) NB104_112.out _).trans (((cell_far (p := ⟨gb112, _, none⟩) NB104_112.out _).trans (((cell_far (p := ⟨gb112, _, none⟩) NB104_112.out _).trans (((cell_far (p := ⟨gb112, _, none⟩) NB104_112.out _).trans (((cell_far (p := ⟨gb112, _, none⟩) NB104_112.out _).trans (((cell_far (p := ⟨gb112, _, none⟩) NB104_112.out _).trans (((cell_far (p := ⟨gb112, _, none⟩) NB104_112.out _).trans (((cell_far (p := ⟨gb112, _, none⟩) NB104_112.out _).trans (hHeld.2.2.2.2.2.2.2.2.1)))))))))))))))))))), ((cell_far (p := ⟨gb112, _, none⟩) NB104_112.out _).trans (((cell_far (p := ⟨gb112, _, none⟩) NB104_112.out _).trans (((cell_far (p := ⟨gb112, _, none⟩) NB104_112.out _).trans (((cell_far (p := ⟨gb112, _, none⟩) NB104_112.out _).trans (((cell_far (p := ⟨gb112, _, none⟩) NB104_112.out _).trans (((cell_far (p := ⟨gb112, _, none⟩) NB104_112.out _).trans (((cell_far (p := ⟨gb112, _, none⟩) NB104_112.out _).trans (((cell_far (p := ⟨gb112, _, none⟩) NB104_112.out _).trans (((cell_far (p := ⟨gb112, _, none⟩) NB104_112.out _).trans (((cell_far (p := ⟨gb112, _, none⟩) NB104_112.out _).trans (hHeld.2.2.2.2.2.2.2.2.2))))))))))))))))))))⟩ (fun hHeld => ?_)
         clear hK K
         refine done_ (done_of HT_.out (by kernel_rfl)) ?_
         try go_wp2
         have n0_ : Aside0 (Kd.R k36 36 ((((((((((w28.setCell ⟨gb112, 0, none⟩ (.int .i64 t105)).setCell ⟨gb112, 1, none⟩ (.int .i64 t106)).setCell ⟨gb112, 2, none⟩ (.int .i64 t107)).setCell ⟨gb112, 3, none⟩ (.int .i64 t108)).setCell ⟨gb112, 4, none⟩ (.int .i64 t109)).setCell ⟨gb112, 5, none⟩ (.int .i64 t110)).setCell ⟨gb112, 6, none⟩ (.int .i64 t111)).setCell ⟨gb112, 7, none⟩ (.int .i64 0)).setCell ⟨gb112, 8, none⟩ (.int .i64 0)).setCell ⟨gb112, 9, none⟩ (.int .i64 0)) w.heap.size (fun k_ => k_ ≠ gb104 ∧ k_ ≠ gb112) u103005 x103005_1) := ⟨by (with_reducible repeat (first | apply Kd.R_alloc | apply Kd.R_drewN | apply Kd.R_drew)); exact Kd.R_mono (Kd.R_far (p := ⟨gb112, 9, none⟩) (Kd.R_far (p := ⟨gb112, 8, none⟩) (Kd.R_far (p := ⟨gb112, 7, none⟩) (Kd.R_far (p := ⟨gb112, 6, none⟩) (Kd.R_far (p := ⟨gb112, 5, none⟩) (Kd.R_far (p := ⟨gb112, 4, none⟩) (Kd.R_far (p := ⟨gb112, 3, none⟩) (Kd.R_far (p := ⟨gb112, 2, none⟩) (Kd.R_far (p := ⟨gb112, 1, none⟩) (Kd.R_far (p := ⟨gb112, 0, none⟩) (Kd.R_mono HO_103005.out (fun k_ hk => (⟨hk, hk.2⟩ : _ ∧ k_ ≠ gb112))) (fun _ hk => hk.2) (.int .i64 t105)) (fun _ hk => hk.2) (.int .i64 t106)) (fun _ hk => hk.2) (.int .i64 t107)) (fun _ hk => hk.2) (.int .i64 t108)) (fun _ hk => hk.2) (.int .i64 t109)) (fun _ hk => hk.2) (.int .i64 t110)) (fun _ hk => hk.2) (.int .i64 t111)) (fun _ hk => hk.2) (.int .i64 0)) (fun _ hk => hk.2) (.int .i64 0)) (fun _ hk => hk.2) (.int .i64 0)) (fun _ hk => ⟨hk.1.1, hk.1.2⟩)⟩
         have n1_ : Aside0 (((((((((((w28.setCell ⟨gb112, 0, none⟩ (.int .i64 t105)).setCell ⟨gb112, 1, none⟩ (.int .i64 t106)).setCell ⟨gb112, 2, none⟩ (.int .i64 t107)).setCell ⟨gb112, 3, none⟩ (.int .i64 t108)).setCell ⟨gb112, 4, none⟩ (.int .i64 t109)).setCell ⟨gb112, 5, none⟩ (.int .i64 t110)).setCell ⟨gb112, 6, none⟩ (.int .i64 t111)).setCell ⟨gb112, 7, none⟩ (.int .i64 0)).setCell ⟨gb112, 8, none⟩ (.int .i64 0)).setCell ⟨gb112, 9, none⟩ (.int .i64 0)).heap[gb101]? = some (.cells #[.int .i64 0, .int .i64 0, .int .i64 0, .int .i64 0, .int .i64 0, .slice none 0 0] 39 (0, 0))) := ⟨by (with_reducible repeat (first | refine b1_ ?_ _ | refine b2_ ?_ | refine b3_ ?_ _)); refine blk_far ?_ NB101_112.out _; (with_reducible repeat (first | refine b1_ ?_ _ | refine b2_ ?_ | refine b3_ ?_ _)); refine blk_far ?_ NB101_112.out _; (with_reducible repeat (first | refine b1_ ?_ _ | refine b2_ ?_ | refine b3_ ?_ _)); refine blk_far ?_ NB101_112.out _; (with_reducible repeat (first | refine b1_ ?_ _ | refine b2_ ?_ | refine b3_ ?_ _)); refine blk_far ?_ NB101_112.out _; (with_reducible repeat (first | refine b1_ ?_ _ | refine b2_ ?_ | refine b3_ ?_ _)); refine blk_far ?_ NB101_112.out _; (with_reducible repeat (first | refine b1_ ?_ _ | refine b2_ ?_ | refine b3_ ?_ _)); refine blk_far ?_ NB101_112.out _; (with_reducible repeat (first | refine b1_ ?_ _ | refine b2_ ?_ | refine b3_ ?_ _)); refine blk_far ?_ NB101_112.out _; (with_reducible repeat (first | refine b1_ ?_ _ | refine b2_ ?_ | refine b3_ ?_ _)); refine blk_far ?_ NB101_112.out _; (with_reducible repeat (first | refine b1_ ?_ _ | refine b2_ ?_ | refine b3_ ?_ _)); refine blk_far ?_ NB101_112.out _; (with_reducible repeat (first | refine b1_ ?_ _ | refine b2_ ?_ | refine b3_ ?_ _)); refine blk_far ?_ NB101_112.out _; (with_reducible repeat (first | refine b1_ ?_ _ | refine b2_ ?_ | refine b3_ ?_ _)); exact BK101.out⟩
         have n2_ : Aside0 (((((((((((w28.setCell ⟨gb112, 0, none⟩ (.int .i64 t105)).setCell ⟨gb112, 1, none⟩ (.int .i64 t106)).setCell ⟨gb112, 2, none⟩ (.int .i64 t107)).setCell ⟨gb112, 3, none⟩ (.int .i64 t108)).setCell ⟨gb112, 4, none⟩ (.int .i64 t109)).setCell ⟨gb112, 5, none⟩ (.int .i64 t110)).setCell ⟨gb112, 6, none⟩ (.int .i64 t111)).setCell ⟨gb112, 7, none⟩ (.int .i64 0)).setCell ⟨gb112, 8, none⟩ (.int .i64 0)).setCell ⟨gb112, 9, none⟩ (.int .i64 0)).heap[gb102]? = some (.cells #[.int .i64 (wrap64 (Int.tmod a1 4)), .int .i64 7, .int .i64 8, .int .i64 9, .int .i64 10, u103005] 39 (0, 0))) := ⟨by (with_reducible repeat (first | refine b1_ ?_ _ | refine b2_ ?_ | refine b3_ ?_ _)); refine blk_far ?_ NB102_112.out _; (with_reducible repeat (first | refine b1_ ?_ _ | refine b2_ ?_ | refine b3_ ?_ _)); refine blk_far ?_ NB102_112.out _; (with_reducible repeat (first | refine b1_ ?_ _ | refine b2_ ?_ | refine b3_ ?_ _)); refine blk_far ?_ NB102_112.out _; (with_reducible repeat (first | refine b1_ ?_ _ | refine b2_ ?_ | refine b3_ ?_ _)); refine blk_far ?_ NB102_112.out _; (with_reducible repeat (first | refine b1_ ?_ _ | refine b2_ ?_ | refine b3_ ?_ _)); refine blk_far ?_ NB102_112.out _; (with_reducible repeat (first | refine b1_ ?_ _ | refine b2_ ?_ | refine b3_ ?_ _)); refine blk_far ?_ NB102_112.out _; (with_reducible repeat (first | refine b1_ ?_ _ | refine b2_ ?_ | refine b3_ ?_ _)); refine blk_far ?_ NB102_112.out _; (with_reducible repeat (first | refine b1_ ?_ _ | refine b2_ ?_ | refine b3_ ?_ _)); refine blk_far ?_ NB102_112.out _; (with_reducible repeat (first | refine b1_ ?_ _ | refine b2_ ?_ | refine b3_ ?_ _)); refine blk_far ?_ NB102_112.out _; (with_reducible repeat (first | refine b1_ ?_ _ | refine b2_ ?_ | refine b3_ ?_ _)); refine blk_far ?_ NB102_112.out _; (with_reducible repeat (first | refine b1_ ?_ _ | refine b2_ ?_ | refine b3_ ?_ _)); exact BK102.out⟩
         have n3_ : Aside0 (((((((((((w28.setCell ⟨gb112, 0, none⟩ (.int .i64 t105)).setCell ⟨gb112, 1, none⟩ (.int .i64 t106)).setCell ⟨gb112, 2, none⟩ (.int .i64 t107)).setCell ⟨gb112, 3, none⟩ (.int .i64 t108)).setCell ⟨gb112, 4, none⟩ (.int .i64 t109)).setCell ⟨gb112, 5, none⟩ (.int .i64 t110)).setCell ⟨gb112, 6, none⟩ (.int .i64 t111)).setCell ⟨gb112, 7, none⟩ (.int .i64 0)).setCell ⟨gb112, 8, none⟩ (.int .i64 0)).setCell ⟨gb112, 9, none⟩ (.int .i64 0)).heap[gb104]? = some (.cells #[.int .i64 ((rd_T36 l0 x9_1).f0), .int .i64 ((rd_T36 l0 x9_1).f1), .int .i64 ((rd_T36 l0 x9_1).f2), .int .i64 ((rd_T36 l0 x9_1).f3), .int .i64 ((rd_T36 l0 x9_1).f4), .int .i64 ((rd_T36 l0 x9_1).f5), .int .i64 ((rd_T36 l0 x9_1).f6), .int .i64 ((rd_T36 l0 x9_1).f7), .int .i64 ((rd_T36 l0 x9_1).f8), .int .i64 ((rd_T36 l0 x9_1).f9)] 36 (0, 0))) := ⟨by (with_reducible repeat (first | refine b1_ ?_ _ | refine b2_ ?_ | refine b3_ ?_ _)); refine blk_far ?_ NB104_112.out _; (with_reducible repeat (first | refine b1_ ?_ _ | refine b2_ ?_ | refine b3_ ?_ _)); refine blk_far ?_ NB104_112.out _; (with_reducible repeat (first | refine b1_ ?_ _ | refine b2_ ?_ | refine b3_ ?_ _)); refine blk_far ?_ NB104_112.out _; (with_reducible repeat (first | refine b1_ ?_ _ | refine b2_ ?_ | refine b3_ ?_ _)); refine blk_far ?_ NB104_112.out _; (with_reducible repeat (first | refine b1_ ?_ _ | refine b2_ ?_ | refine b3_ ?_ _)); refine blk_far ?_ NB104_112.out _; (with_reducible repeat (first | refine b1_ ?_ _ | refine b2_ ?_ | refine b3_ ?_ _)); refine blk_far ?_ NB104_112.out _; (with_reducible repeat (first | refine b1_ ?_ _ | refine b2_ ?_ | refine b3_ ?_ _)); refine blk_far ?_ NB104_112.out _; (with_reducible repeat (first | refine b1_ ?_ _ | refine b2_ ?_ | refine b3_ ?_ _)); refine blk_far ?_ NB104_112.out _; (with_reducible repeat (first | refine b1_ ?_ _ | refine b2_ ?_ | refine b3_ ?_ _)); refine blk_far ?_ NB104_112.out _; (with_reducible repeat (first | refine b1_ ?_ _ | refine b2_ ?_ | refine b3_ ?_ _)); refine blk_far ?_ NB104_112.out _; (with_reducible repeat (first | refine b1_ ?_ _ | refine b2_ ?_ | refine b3_ ?_ _)); exact BK104.out⟩
         have n4_ : Aside0 (((((((((((w28.setCell ⟨gb112, 0, none⟩ (.int .i64 t105)).setCell ⟨gb112, 1, none⟩ (.int .i64 t106)).setCell ⟨gb112, 2, none⟩ (.int .i64 t107)).setCell ⟨gb112, 3, none⟩ (.int .i64 t108)).setCell ⟨gb112, 4, none⟩ (.int .i64 t109)).setCell ⟨gb112, 5, none⟩ (.int .i64 t110)).setCell ⟨gb112, 6, none⟩ (.int .i64 t111)).setCell ⟨gb112, 7, none⟩ (.int .i64 0)).setCell ⟨gb112, 8, none⟩ (.int .i64 0)).setCell ⟨gb112, 9, none⟩ (.int .i64 0)).heap[gb112]? = some (.cells #[.int .i64 t105, .int .i64 t106, .int .i64 t107, .int .i64 t108, .int .i64 t109, .int .i64 t110, .int .i64 t111, .int .i64 0, .int .i64 0, .int .i64 0] 36 (0, 0))) := ⟨by (with_reducible repeat (first | refine b1_ ?_ _ | refine b2_ ?_ | refine b3_ ?_ _)); refine blk_put (cs := #[.int .i64 t105, .int .i64 t106, .int .i64 t107, .int .i64 t108, .int .i64 t109, .int .i64 t110, .int .i64 t111, .int .i64 0, .int .i64 0, .int .i64 0]) ?_ 9 _ rfl; (with_reducible repeat (first | refine b1_ ?_ _ | refine b2_ ?_ | refine b3_ ?_ _)); refine blk_put (cs := #[.int .i64 t105, .int .i64 t106, .int .i64 t107, .int .i64 t108, .int .i64 t109, .int .i64 t110, .int .i64 t111, .int .i64 0, .int .i64 0, .int .i64 0]) ?_ 8 _ rfl; (with_reducible repeat (first | refine b1_ ?_ _ | refine b2_ ?_ | refine b3_ ?_ _)); refine blk_put (cs := #[.int .i64 t105, .int .i64 t106, .int .i64 t107, .int .i64 t108, .int .i64 t109, .int .i64 t110, .int .i64 t111, .int .i64 0, .int .i64 0, .int .i64 0]) ?_ 7 _ rfl; (with_reducible repeat (first | refine b1_ ?_ _ | refine b2_ ?_ | refine b3_ ?_ _)); refine blk_put (cs := #[.int .i64 t105, .int .i64 t106, .int .i64 t107, .int .i64 t108, .int .i64 t109, .int .i64 t110, .int .i64 0, .int .i64 0, .int .i64 0, .int .i64 0]) ?_ 6 _ rfl; (with_reducible repeat (first | refine b1_ ?_ _ | refine b2_ ?_ | refine b3_ ?_ _)); refine blk_put (cs := #[.int .i64 t105, .int .i64 t106, .int .i64 t107, .int .i64 t108, .int .i64 t109, .int .i64 0, .int .i64 0, .int .i64 0, .int .i64 0, .int .i64 0]) ?_ 5 _ rfl; (with_reducible repeat (first | refine b1_ ?_ _ | refine b2_ ?_ | refine b3_ ?_ _)); refine blk_put (cs := #[.int .i64 t105, .int .i64 t106, .int .i64 t107, .int .i64 t108, .int .i64 0, .int .i64 0, .int .i64 0, .int .i64 0, .int .i64 0, .int .i64 0]) ?_ 4 _ rfl; (with_reducible repeat (first | refine b1_ ?_ _ | refine b2_ ?_ | refine b3_ ?_ _)); refine blk_put (cs := #[.int .i64 t105, .int .i64 t106, .int .i64 t107, .int .i64 0, .int .i64 0, .int .i64 0, .int .i64 0, .int .i64 0, .int .i64 0, .int .i64 0]) ?_ 3 _ rfl; (with_reducible repeat (first | refine b1_ ?_ _ | refine b2_ ?_ | refine b3_ ?_ _)); refine blk_put (cs := #[.int .i64 t105, .int .i64 t106, .int .i64 0, .int .i64 0, .int .i64 0, .int .i64 0, .int .i64 0, .int .i64 0, .int .i64 0, .int .i64 0]) ?_ 2 _ rfl; (with_reducible repeat (first | refine b1_ ?_ _ | refine b2_ ?_ | refine b3_ ?_ _)); refine blk_put (cs := #[.int .i64 t105, .int .i64 0, .int .i64 0, .int .i64 0, .int .i64 0, .int .i64 0, .int .i64 0, .int .i64 0, .int .i64 0, .int .i64 0]) ?_ 1 _ rfl; (with_reducible repeat (first | refine b1_ ?_ _ | refine b2_ ?_ | refine b3_ ?_ _)); refine blk_put (cs := #[.int .i64 0, .int .i64 0, .int .i64 0, .int .i64 0, .int .i64 0, .int .i64 0, .int .i64 0, .int .i64 0, .int .i64 0, .int .i64 0]) ?_ 0 _ rfl; (with_reducible repeat (first | refine b1_ ?_ _ | refine b2_ ?_ | refine b3_ ?_ _)); exact BK112.out⟩
         have n5_ : Aside0 (Below w.heap.size w ((((((((((w28.setCell ⟨gb112, 0, none⟩ (.int .i64 t105)).setCell ⟨gb112, 1, none⟩ (.int .i64 t106)).setCell ⟨gb112, 2, none⟩ (.int .i64 t107)).setCell ⟨gb112, 3, none⟩ (.int .i64 t108)).setCell ⟨gb112, 4, none⟩ (.int .i64 t109)).setCell ⟨gb112, 5, none⟩ (.int .i64 t110)).setCell ⟨gb112, 6, none⟩ (.int .i64 t111)).setCell ⟨gb112, 7, none⟩ (.int .i64 0)).setCell ⟨gb112, 8, none⟩ (.int .i64 0)).setCell ⟨gb112, 9, none⟩ (.int .i64 0))) := ⟨by repeat (first | (with_reducible first | exact HB.out | apply below_alloc | apply pw_below_drewN | apply below_drew1 | refine below_set ?_ GE101.out | refine below_set ?_ GE102.out | refine below_set ?_ GE104.out | refine below_set ?_ GE112.out) | exact HB.out)⟩
         (try clear HO_103005)
         (try clear BK101)
         (try clear BK102)
         (try clear BK104)
         (try clear BK112)
         (try clear HB)
         generalize ((((((((((w28.setCell ⟨gb112, 0, none⟩ (.int .i64 t105)).setCell ⟨gb112, 1, none⟩ (.int .i64 t106)).setCell ⟨gb112, 2, none⟩ (.int .i64 t107)).setCell ⟨gb112, 3, none⟩ (.int .i64 t108)).setCell ⟨gb112, 4, none⟩ (.int .i64 t109)).setCell ⟨gb112, 5, none⟩ (.int .i64 t110)).setCell ⟨gb112, 6, none⟩ (.int .i64 t111)).setCell ⟨gb112, 7, none⟩ (.int .i64 0)).setCell ⟨gb112, 8, none⟩ (.int .i64 0)).setCell ⟨gb112, 9, none⟩ (.int .i64 0)) = w39 at n0_ n1_ n2_ n3_ n4_ n5_ ⊢
         have HO_103005 := n0_
         have BK101 := n1_
         have BK102 := n2_
         have BK104 := n3_
         have BK112 := n4_
         have HB := n5_
         clear n0_ n1_ n2_ n3_ n4_ n5_
         have n0_ := Aside0.mk (Kd.R_drew HO_103005.out)
         have n1_ := Aside0.mk (blk_drew BK101.out)
         have n2_ := Aside0.mk (blk_drew BK102.out)
         have n3_ := Aside0.mk (blk_drew BK104.out)
         have n4_ := Aside0.mk (blk_drew BK112.out)
         have n5_ := Aside0.mk (below_drew1 HB.out)
         clear HO_103005
         clear BK101
         clear BK102
         clear BK104
         clear BK112
         clear HB
         have HO_103005 := n0_
         have BK101 := n1_
         have BK102 := n2_
         have BK104 := n3_
         have BK112 := n4_
         have HB := n5_
         clear n0_ n1_ n2_ n3_ n4_ n5_
         refine start_ (n := 24) (S := fun w' => w'.cell? ⟨gb104, 0, none⟩ = some (.int .i64 ((rd_T36 l0 x9_1).f0)) ∧ w'.cell? ⟨gb104, 1, none⟩ = some (.int .i64 ((rd_T36 l0 x9_1).f1)) ∧ w'.cell? ⟨gb104, 2, none⟩ = some (.int .i64 ((rd_T36 l0 x9_1).f2)) ∧ w'.cell? ⟨gb104, 3, none⟩ = some (.int .i64 ((rd_T36 l0 x9_1).f3)) ∧ w'.cell? ⟨gb104, 4, none⟩ = some (.int .i64 ((rd_T36 l0 x9_1).f4)) ∧ w'.cell? ⟨gb104, 5, none⟩ = some (.int .i64 ((rd_T36 l0 x9_1).f5)) ∧ w'.cell? ⟨gb104, 6, none⟩ = some (.int .i64 ((rd_T36 l0 x9_1).f6)) ∧ w'.cell? ⟨gb104, 7, none⟩ = some (.int .i64 ((rd_T36 l0 x9_1).f7)) ∧ w'.cell? ⟨gb104, 8, none⟩ = some (.int .i64 ((rd_T36 l0 x9_1).f8)) ∧ w'.cell? ⟨gb104, 9, none⟩ = some (.int .i64 ((rd_T36 l0 x9_1).f9))) (ds := []) #[ff,ff,ff,ff,ff,ff,ff,ff,ff,ff,ff,ff,ff,ff,ff,ff,ff,ff,ff,ff,ff,ff,ff,ff] (by kernel_rfl) rfl rfl ⟨(blk_cell BK104.out 0).trans rfl, (blk_cell BK104.out 1).trans rfl, (blk_cell BK104.out 2).trans rfl, (blk_cell BK104.out 3).trans rfl, (blk_cell BK104.out 4).trans rfl, (blk_cell BK104.out 5).trans rfl, (blk_cell BK104.out 6).trans rfl, (blk_cell BK104.out 7).trans rfl, (blk_cell BK104.out 8).trans rfl, (blk_cell BK104.out 9).trans rfl⟩ (fun hHeld => ?_); refine with_tabW laws_someOut.tab8 laws_someOut.bits8 (fun HT_ HW_ => ?_)
         generalize w39.drew = w40 at HO_103005 BK101 BK102 BK104 BK112 HB hHeld ⊢
         refine pure_ (i := 0) (N := some 59) (v := ?_) (a' := ?_) #[tt,ff,ff,ff,ff,ff,ff,ff,ff,ff,ff,ff,ff,ff,ff,ff,ff,ff,ff,ff,ff,ff,ff,ff] rfl rfl (any_of HT_.out (by kernel_rfl)) (fun _ _ _ h => h) (Or.inl ⟨by rfl, ?_⟩) ?_ ?_
         rotate_left
         ·intro w'
          go_simp
          with_reducible rfl
         rotate_left
         ·simp only [Act.put, L1_, L2_, L3_, i64_w, i32_w]
          rfl
         refine pure_ (i := 4) (N := some 63) (v := ?_) (a' := ?_) #[tt,ff,ff,ff,tt,ff,ff,ff,ff,ff,ff,ff,ff,ff,ff,ff,ff,ff,ff,ff,ff,ff,ff,ff] rfl rfl (any_of HT_.out (by kernel_rfl)) (fun _ _ _ h => h) (Or.inl ⟨by rfl, ?_⟩) ?_ ?_
         rotate_left
         ·intro w'
          go_simp
          with_reducible rfl
         rotate_left
         ·simp only [Act.put, L1_, L2_, L3_, i64_w, i32_w]
          rfl
         refine pure_ (i := 6) (N := some 65) (v := ?_) (a' := ?_) #[tt,ff,ff,ff,tt,ff,tt,ff,ff,ff,ff,ff,ff,ff,ff,ff,ff,ff,ff,ff,ff,ff,ff,ff] rfl rfl (any_of HT_.out (by kernel_rfl)) (fun _ _ _ h => h) (Or.inl ⟨by rfl, ?_⟩) ?_ ?_
         rotate_left
         ·intro w'
          go_simp
          with_reducible rfl
         rotate_left
         ·simp only [Act.put, L1_, L2_, L3_, i64_w, i32_w]
          rfl
         refine pure_ (i := 12) (N := some 71) (v := ?_) (a' := ?_) #[tt,ff,ff,ff,tt,ff,tt,ff,ff,ff,ff,ff,tt,ff,ff,ff,ff,ff,ff,ff,ff,ff,ff,ff] rfl rfl (any_of HT_.out (by kernel_rfl)) (fun _ _ _ h => h) (Or.inl ⟨by rfl, ?_⟩) ?_ ?_
         rotate_left
         ·intro w'
          go_simp
          with_reducible rfl
         rotate_left
         ·simp only [Act.put, L1_, L2_, L3_, i64_w, i32_w]
          rfl
         refine take_ (i := 1) (N := some 60) (v := ?_) (a' := ?_) #[tt,tt,ff,ff,tt,ff,tt,ff,ff,ff,ff,ff,tt,ff,ff,ff,ff,ff,ff,ff,ff,ff,ff,ff] rfl rfl (take_ofW HT_.out HW_.out (by kernel_rfl)) (fun _ _ _ h => h) (Or.inl ⟨by rfl, ?_⟩) hHeld ?_ ?_
         rotate_left
         ·rintro w' ⟨s0, s1, s2, s3, s4, s5, s6, s7, s8, s9⟩
          go_simp
          with_reducible rfl
         rotate_left
         ·simp only [Act.put, L1_, L2_, L3_, i64_w, i32_w]
          rfl
         refine pure_ (i := 2) (N := some 61) (v := ?_) (a' := ?_) #[tt,tt,tt,ff,tt,ff,tt,ff,ff,ff,ff,ff,tt,ff,ff,ff,ff,ff,ff,ff,ff,ff,ff,ff] rfl rfl (any_of HT_.out (by kernel_rfl)) (fun _ _ _ h => h) (Or.inl ⟨by rfl, ?_⟩) ?_ ?_
         rotate_left
         ·intro w'
          go_simp
          with_reducible rfl
         rotate_left
         ·(try go_ints); (try simp (disch := omega) only [n3_]); simp only [Act.put, L1_, L2_, L3_, i64_w, i32_w]
          rfl
         refine pure_ (i := 3) (N := some 62) (v := ?_) (a' := ?_) #[tt,tt,tt,tt,tt,ff,tt,ff,ff,ff,ff,ff,tt,ff,ff,ff,ff,ff,ff,ff,ff,ff,ff,ff] rfl rfl (any_of HT_.out (by kernel_rfl)) (fun _ _ _ h => h) (Or.inl ⟨by rfl, ?_⟩) ?_ ?_
         rotate_left
         ·intro w'
          go_simp
          with_reducible rfl
         rotate_left
         ·(try go_ints); (try simp (disch := omega) only [n3_]); simp only [Act.put, L1_, L2_, L3_, i64_w, i32_w]
          rfl
         refine pure_ (i := 5) (N := some 64) (v := ?_) (a' := ?_) #[tt,tt,tt,tt,tt,tt,tt,ff,ff,ff,ff,ff,tt,ff,ff,ff,ff,ff,ff,ff,ff,ff,ff,ff] rfl rfl (any_of HT_.out (by kernel_rfl)) (fun _ _ _ h => h) (Or.inl ⟨by rfl, ?_⟩) ?_ ?_
         rotate_left
         ·intro w'
          go_simp
          with_reducible rfl
         rotate_left
         ·(try go_ints); (try simp (disch := omega) only [n3_]); simp only [Act.put, L1_, L2_, L3_, i64_w, i32_w]
          rfl
         refine pure_ (i := 18) (N := some 77) (v := ?_) (a' := ?_) #[tt,tt,tt,tt,tt,tt,tt,ff,ff,ff,ff,ff,tt,ff,ff,ff,ff,ff,tt,ff,ff,ff,ff,ff] rfl rfl (any_of HT_.out (by kernel_rfl)) (fun _ _ _ h => h) (Or.inl ⟨by rfl, ?_⟩) ?_ ?_
         rotate_left
         ·intro w'
          go_simp
          with_reducible rfl
         rotate_left
         ·simp only [Act.put, L1_, L2_, L3_, i64_w, i32_w]
          rfl
         refine take_ (i := 7) (N := some 66) (v := ?_) (a' := ?_) #[tt,tt,tt,tt,tt,tt,tt,tt,ff,ff,ff,ff,tt,ff,ff,ff,ff,ff,tt,ff,ff,ff,ff,ff] rfl rfl (take_ofW HT_.out HW_.out (by kernel_rfl)) (fun _ _ _ h => h) (Or.inl ⟨by rfl, ?_⟩) hHeld ?_ ?_
         rotate_left
         ·rintro w' ⟨s0, s1, s2, s3, s4, s5, s6, s7, s8, s9⟩
          go_simp
          with_reducible rfl
         rotate_left
         ·simp only [Act.put, L1_, L2_, L3_, i64_w, i32_w]
          rfl
         refine pure_ (i := 8) (N := some 67) (v := ?_) (a' := ?_) #[tt,tt,tt,tt,tt,tt,tt,tt,tt,ff,ff,ff,tt,ff,ff,ff,ff,ff,tt,ff,ff,ff,ff,ff] rfl rfl (any_of HT_.out (by kernel_rfl)) (fun _ _ _ h => h) (Or.inl ⟨by rfl, ?_⟩) ?_ ?_
         rotate_left
         ·intro w'
          go_simp
          with_reducible rfl
         rotate_left
         ·(try go_ints); (try simp (disch := omega) only [n3_]); simp only [Act.put, L1_, L2_, L3_, i64_w, i32_w]
          rfl
         refine pure_ (i := 9) (N := some 68) (v := ?_) (a' := ?_) #[tt,tt,tt,tt,tt,tt,tt,tt,tt,tt,ff,ff,tt,ff,ff,ff,ff,ff,tt,ff,ff,ff,ff,ff] rfl rfl (any_of HT_.out (by kernel_rfl)) (fun _ _ _ h => h) (Or.inl ⟨by rfl, ?_⟩) ?_ ?_
         rotate_left
         ·intro w'
          go_simp
          with_reducible rfl
         rotate_left
         ·(try go_ints); (try simp (disch := omega) only [n3_]); simp only [Act.put, L1_, L2_, L3_, i64_w, i32_w]
          rfl
         refine pure_ (i := 10) (N := some 69) (v := ?_) (a' := ?_) #[tt,tt,tt,tt,tt,tt,tt,tt,tt,tt,tt,ff,tt,ff,ff,ff,ff,ff,tt,ff,ff,ff,ff,ff] rfl rfl (any_of HT_.out (by kernel_rfl)) (fun _ _ _ h => h) (Or.inl ⟨by rfl, ?_⟩) ?_ ?_
         rotate_left
         ·intro w'
          go_simp
          with_reducible rfl
         rotate_left
         ·(try go_ints); (try simp (disch := omega) only [n3_]); simp only [Act.put, L1_, L2_, L3_, i64_w, i32_w]
          rfl
         refine pure_ (i := 11) (N := some 70) (v := ?_) (a' := ?_) #[tt,tt,tt,tt,tt,tt,tt,tt,tt,tt,tt,tt,tt,ff,ff,ff,ff,ff,tt,ff,ff,ff,ff,ff] rfl rfl (any_of HT_.out (by kernel_rfl)) (fun _ _ _ h => h) (Or.inl ⟨by rfl, ?_⟩) ?_ ?_
         rotate_left
         ·intro w'
          go_simp
          with_reducible rfl
         rotate_left
         ·(try go_ints); (try simp (disch := omega) only [n3_]); simp only [Act.put, L1_, L2_, L3_, i64_w, i32_w]
          rfl
         refine take_ (i := 13) (N := some 72) (v := ?_) (a' := ?_) #[tt,tt,tt,tt,tt,tt,tt,tt,tt,tt,tt,tt,tt,tt,ff,ff,ff,ff,tt,ff,ff,ff,ff,ff] rfl rfl (take_ofW HT_.out HW_.out (by kernel_rfl)) (fun _ _ _ h => h) (Or.inl ⟨by rfl, ?_⟩) hHeld ?_ ?_
         rotate_left
         ·rintro w' ⟨s0, s1, s2, s3, s4, s5, s6, s7, s8, s9⟩
          go_simp
          with_reducible rfl
         rotate_left
         ·simp only [Act.put, L1_, L2_, L3_, i64_w, i32_w]
          rfl
         refine pure_ (i := 14) (N := some 73) (v := ?_) (a' := ?_) #[tt,tt,tt,tt,tt,tt,tt,tt,tt,tt,tt,tt,tt,tt,tt,ff,ff,ff,tt,ff,ff,ff,ff,ff] rfl rfl (any_of HT_.out (by kernel_rfl)) (fun _ _ _ h => h) (Or.inl ⟨by rfl, ?_⟩) ?_ ?_
         rotate_left
         ·intro w'
          go_simp
          with_reducible rfl
         rotate_left
         ·(try go_ints); (try simp (disch := omega) only [n3_]); simp only [Act.put, L1_, L2_, L3_, i64_w, i32_w]
          rfl
         refine pure_ (i := 15) (N := some 74) (v := ?_) (a' := ?_) #[tt,tt,tt,tt,tt,tt,tt,tt,tt,tt,tt,tt,tt,tt,tt,tt,ff,ff,tt,ff,ff,ff,ff,ff] rfl rfl (any_of HT_.out (by kernel_rfl)) (fun _ _ _ h => h) (Or.inl ⟨by rfl, ?_⟩) ?_ ?_
         rotate_left
         ·intro w'
          go_simp
          with_reducible rfl
         rotate_left
         ·(try go_ints); (try simp (disch := omega) only [n3_]); simp only [Act.put, L1_, L2_, L3_, i64_w, i32_w]
          rfl
         refine pure_ (i := 16) (N := some 75) (v := ?_) (a' := ?_) #[tt,tt,tt,tt,tt,tt,tt,tt,tt,tt,tt,tt,tt,tt,tt,tt,tt,ff,tt,ff,ff,ff,ff,ff] rfl rfl (any_of HT_.out (by kernel_rfl)) (fun _ _ _ h => h) (Or.inl ⟨by rfl, ?_⟩) ?_ ?_
         rotate_left
         ·intro w'
          go_simp
          with_reducible rfl
         rotate_left
         ·(try go_ints); (try simp (disch := omega) only [n3_]); simp only [Act.put, L1_, L2_, L3_, i64_w, i32_w]
          rfl
         refine pure_ (i := 17) (N := some 76) (v := ?_) (a' := ?_) #[tt,tt,tt,tt,tt,tt,tt,tt,tt,tt,tt,tt,tt,tt,tt,tt,tt,tt,tt,ff,ff,ff,ff,ff] rfl rfl (any_of HT_.out (by kernel_rfl)) (fun _ _ _ h => h) (Or.inl ⟨by rfl, ?_⟩) ?_ ?_
         rotate_left
         ·intro w'
          go_simp
          with_reducible rfl
         rotate_left
         ·(try go_ints); (try simp (disch := omega) only [n3_]); simp only [Act.put, L1_, L2_, L3_, i64_w, i32_w]
          rfl
         refine one_ (i := 19) (N := none) #[tt,tt,tt,tt,tt,tt,tt,tt,tt,tt,tt,tt,tt,tt,tt,tt,tt,tt,tt,tt,ff,ff,ff,ff] rfl rfl (one_of HT_.out (by kernel_rfl)) (by decide) (fun K hK => ?_)
         have hs41 : w40.cell? ⟨gb112, 7, none⟩ = some (.int .i64 0) := (blk_cell BK112.out 7).trans rfl
         have hfs41 := blk_frozen BK112.out 7
         have hns41_0 := NB101_112.out
         have hns41_1 := NB102_112.out
         have hns41_2 := NB104_112.out
         have hms41_0 := NB112_101.out
         have hms41_1 := NB112_102.out
         have hms41_2 := NB112_104.out
         refine skip_ (w1 := ?_) (by rfl) rfl ?_ ?_
         rotate_left
         ·go_simp
          rfl
         refine hK.out _ _ ⟨((cell_far (p := ⟨gb112, _, none⟩) NB104_112.out _).trans (hHeld.1)), ((cell_far (p := ⟨gb112, _, none⟩) NB104_112.out _).trans (hHeld.2.1)), ((cell_far (p := ⟨gb112, _, none⟩) NB104_112.out _).trans (hHeld.2.2.1)), ((cell_far (p := ⟨gb112, _, none⟩) NB104_112.out _).trans (hHeld.2.2.2.1)), ((cell_far (p := ⟨gb112, _, none⟩) NB104_112.out _).trans (hHeld.2.2.2.2.1)), ((cell_far (p := ⟨gb112, _, none⟩) NB104_112.out _).trans (hHeld.2.2.2.2.2.1)), ((cell_far (p := ⟨gb112, _, none⟩) NB104_112.out _).trans (hHeld.2.2.2.2.2.2.1)), ((cell_far (p := ⟨gb112, _, none⟩) NB104_112.out _).trans (hHeld.2.2.2.2.2.2.2.1)), ((cell_far (p := ⟨gb112, _, none⟩) NB104_112.out _).trans (hHeld.2.2.2.2.2.2.2.2.1)), ((cell_far (p := ⟨gb112, _, none⟩) NB104_112.out _).trans (hHeld.2.2.2.2.2.2.2.2.2))⟩ (fun hHeld => ?_)
         clear hK K
         refine pure_ (i := 20) (N := some 78) (v := ?_) (a' := ?_) #[tt,tt,tt,tt,tt,tt,tt,tt,tt,tt,tt,tt,tt,tt,tt,tt,tt,tt,tt,tt,tt,ff,ff,ff] rfl rfl (any_of HT_.out (by kernel_rfl)) (fun _ _ _ h => h) (Or.inl ⟨by rfl, ?_⟩) ?_ ?_
         rotate_left
         ·intro w'
          go_simp
          with_reducible rfl
         rotate_left
         ·simp only [Act.put, L1_, L2_, L3_, i64_w, i32_w]
          rfl
         refine one_ (i := 21) (N := none) #[tt,tt,tt,tt,tt,tt,tt,tt,tt,tt,tt,tt,tt,tt,tt,tt,tt,tt,tt,tt,tt,tt,ff,ff] rfl rfl (one_of HT_.out (by kernel_rfl)) (by decide) (fun K hK => ?_)
         have hs42 : w40.cell? ⟨gb112, 8, none⟩ = some (.int .i64 0) := (blk_cell BK112.out 8).trans rfl
         have hfs42 := blk_frozen BK112.out 8
         have hns42_0 := NB101_112.out
         have hns42_1 := NB102_112.out
         have hns42_2 := NB104_112.out
         have hms42_0 := NB112_101.out
         have hms42_1 := NB112_102.out
         have hms42_2 := NB112_104.out
         refine skip_ (w1 := ?_) (by rfl) rfl ?_ ?_
         rotate_left
         ·go_simp
          rfl
         refine hK.out _ _ ⟨((cell_far (p := ⟨gb112, _, none⟩) NB104_112.out _).trans (hHeld.1)), ((cell_far (p := ⟨gb112, _, none⟩) NB104_112.out _).trans (hHeld.2.1)), ((cell_far (p := ⟨gb112, _, none⟩) NB104_112.out _).trans (hHeld.2.2.1)), ((cell_far (p := ⟨gb112, _, none⟩) NB104_112.out _).trans (hHeld.2.2.2.1)), ((cell_far (p := ⟨gb112, _, none⟩) NB104_112.out _).trans (hHeld.2.2.2.2.1)), ((cell_far (p := ⟨gb112, _, none⟩) NB104_112.out _).trans (hHeld.2.2.2.2.2.1)), ((cell_far (p := ⟨gb112, _, none⟩) NB104_112.out _).trans (hHeld.2.2.2.2.2.2.1)), ((cell_far (p := ⟨gb112, _, none⟩) NB104_112.out _).trans (hHeld.2.2.2.2.2.2.2.1)), ((cell_far (p := ⟨gb112, _, none⟩) NB104_112.out _).trans (hHeld.2.2.2.2.2.2.2.2.1)), ((cell_far (p := ⟨gb112, _, none⟩) NB104_112.out _).trans (hHeld.2.2.2.2.2.2.2.2.2))⟩ (fun hHeld => ?_)
         clear hK K
         refine pure_ (i := 22) (N := some 79) (v := ?_) (a' := ?_) #[tt,tt,tt,tt,tt,tt,tt,tt,tt,tt,tt,tt,tt,tt,tt,tt,tt,tt,tt,tt,tt,tt,tt,ff] rfl rfl (any_of HT_.out (by kernel_rfl)) (fun _ _ _ h => h) (Or.inl ⟨by rfl, ?_⟩) ?_ ?_
         rotate_left
         ·intro w'
          go_simp
          with_reducible rfl
         rotate_left
         ·simp only [Act.put, L1_, L2_, L3_, i64_w, i32_w]
          rfl
         refine one_ (i := 23) (N := none) #[tt,tt,tt,tt,tt,tt,tt,tt,tt,tt,tt,tt,tt,tt,tt,tt,tt,tt,tt,tt,tt,tt,tt,tt] rfl rfl (one_of HT_.out (by kernel_rfl)) (by decide) (fun K hK => ?_)
         have hs43 : w40.cell? ⟨gb112, 9, none⟩ = some (.int .i64 0) := (blk_cell BK112.out 9).trans rfl
         have hfs43 := blk_frozen BK112.out 9
         have hns43_0 := NB101_112.out
         have hns43_1 := NB102_112.out
         have hns43_2 := NB104_112.out
         have hms43_0 := NB112_101.out
         have hms43_1 := NB112_102.out
         have hms43_2 := NB112_104.out
         refine skip_ (w1 := ?_) (by rfl) rfl ?_ ?_
         rotate_left
         ·go_simp
          rfl
         refine hK.out _ _ ⟨((cell_far (p := ⟨gb112, _, none⟩) NB104_112.out _).trans (hHeld.1)), ((cell_far (p := ⟨gb112, _, none⟩) NB104_112.out _).trans (hHeld.2.1)), ((cell_far (p := ⟨gb112, _, none⟩) NB104_112.out _).trans (hHeld.2.2.1)), ((cell_far (p := ⟨gb112, _, none⟩) NB104_112.out _).trans (hHeld.2.2.2.1)), ((cell_far (p := ⟨gb112, _, none⟩) NB104_112.out _).trans (hHeld.2.2.2.2.1)), ((cell_far (p := ⟨gb112, _, none⟩) NB104_112.out _).trans (hHeld.2.2.2.2.2.1)), ((cell_far (p := ⟨gb112, _, none⟩) NB104_112.out _).trans (hHeld.2.2.2.2.2.2.1)), ((cell_far (p := ⟨gb112, _, none⟩) NB104_112.out _).trans (hHeld.2.2.2.2.2.2.2.1)), ((cell_far (p := ⟨gb112, _, none⟩) NB104_112.out _).trans (hHeld.2.2.2.2.2.2.2.2.1)), ((cell_far (p := ⟨gb112, _, none⟩) NB104_112.out _).trans (hHeld.2.2.2.2.2.2.2.2.2))⟩ (fun hHeld => ?_)
         clear hK K
         refine done_ (done_of HT_.out (by kernel_rfl)) ?_
         have hnb44 := NB112_101.out
         have hnc44 := NB101_112.out
         have hnb45 := NB112_102.out
         have hnc45 := NB102_112.out
         have hnb46 := NB112_104.out
         have hnc46 := NB104_112.out
         have hcz47_0 : w40.cell? ⟨gb112, 0, none⟩ = some (.int .i64 t105) := (blk_cell BK112.out 0).trans rfl
         have hcz47_1 : w40.cell? ⟨gb112, 1, none⟩ = some (.int .i64 t106) := (blk_cell BK112.out 1).trans rfl
         have hcz47_2 : w40.cell? ⟨gb112, 2, none⟩ = some (.int .i64 t107) := (blk_cell BK112.out 2).trans rfl
         have hcz47_3 : w40.cell? ⟨gb112, 3, none⟩ = some (.int .i64 t108) := (blk_cell BK112.out 3).trans rfl
         have hcz47_4 : w40.cell? ⟨gb112, 4, none⟩ = some (.int .i64 t109) := (blk_cell BK112.out 4).trans rfl
         have hcz47_5 : w40.cell? ⟨gb112, 5, none⟩ = some (.int .i64 t110) := (blk_cell BK112.out 5).trans rfl
         have hcz47_6 : w40.cell? ⟨gb112, 6, none⟩ = some (.int .i64 t111) := (blk_cell BK112.out 6).trans rfl
         have hcz47_7 : w40.cell? ⟨gb112, 7, none⟩ = some (.int .i64 0) := (blk_cell BK112.out 7).trans rfl
         have hcz47_8 : w40.cell? ⟨gb112, 8, none⟩ = some (.int .i64 0) := (blk_cell BK112.out 8).trans rfl
         have hcz47_9 : w40.cell? ⟨gb112, 9, none⟩ = some (.int .i64 0) := (blk_cell BK112.out 9).trans rfl
         have hfz47_0 := blk_frozen BK112.out 0
         have hfz47_1 := blk_frozen BK112.out 1
         have hfz47_2 := blk_frozen BK112.out 2
         have hfz47_3 := blk_frozen BK112.out 3
         have hfz47_4 := blk_frozen BK112.out 4
         have hfz47_5 := blk_frozen BK112.out 5
         have hfz47_6 := blk_frozen BK112.out 6
         have hfz47_7 := blk_frozen BK112.out 7
         have hfz47_8 := blk_frozen BK112.out 8
         have hfz47_9 := blk_frozen BK112.out 9
         try go_wp2
         go_loopg [82] kj7 (fun kq v82 w' => ∃ (x82_3 : Int) (x103005_3 : List (S36)) (x113004_3 : Int) (x113005_3 : Int) (u103005 : Value), v82 = .int .i64 x82_3 ∧ Aside0 (laws_someOut.l1 kq l0 a2 x9_1 (1 + ((((rd_T36 l0 x9_1).f9) % 256) % 3)) x82_3 (wrap64 (Int.tmod a1 4)) 7 8 9 10 x103005_3 t105 t106 t107 t108 x113004_3 x113005_3 t111 (Int.tmod (wrap64 (IntKind.u16.wrap ((rd_T36 l0 x9_1).f7))) a2) (1 + (((rd_T36 l0 x9_1).f8) % 2)) (1 + ((((rd_T36 l0 x9_1).f9) % 256) % 3)) = some (r1, r2, r3, r4, r5, r6)) ∧ Aside0 (kq ≤ kj7) ∧ Aside0 (Kd.R k36 36 w' w.heap.size (fun k_ => k_ ≠ gb104 ∧ k_ ≠ gb112) u103005 x103005_3) ∧ Aside0 (w'.heap[gb101]? = some (.cells #[.int .i64 0, .int .i64 0, .int .i64 0, .int .i64 0, .int .i64 0, (.slice none 0 0)] 39 (0, 0))) ∧ Aside0 (w'.heap[gb102]? = some (.cells #[.int .i64 (wrap64 (Int.tmod a1 4)), .int .i64 7, .int .i64 8, .int .i64 9, .int .i64 10, u103005] 39 (0, 0))) ∧ Aside0 (w'.heap[gb104]? = some (.cells #[.int .i64 ((rd_T36 l0 x9_1).f0), .int .i64 ((rd_T36 l0 x9_1).f1), .int .i64 ((rd_T36 l0 x9_1).f2), .int .i64 ((rd_T36 l0 x9_1).f3), .int .i64 ((rd_T36 l0 x9_1).f4), .int .i64 ((rd_T36 l0 x9_1).f5), .int .i64 ((rd_T36 l0 x9_1).f6), .int .i64 ((rd_T36 l0 x9_1).f7), .int .i64 ((rd_T36 l0 x9_1).f8), .int .i64 ((rd_T36 l0 x9_1).f9)] 36 (0, 0))) ∧ Aside0 (w'.heap[gb112]? = some (.cells #[.int .i64 t105, .int .i64 t106, .int .i64 t107, .int .i64 t108, .int .i64 x113004_3, .int .i64 x113005_3, .int .i64 t111, .int .i64 (Int.tmod (wrap64 (IntKind.u16.wrap ((rd_T36 l0 x9_1).f7))) a2), .int .i64 (1 + (((rd_T36 l0 x9_1).f8) % 2)), .int .i64 (1 + ((((rd_T36 l0 x9_1).f9) % 256) % 3))] 36 (0, 0))) ∧ Aside0 (Below w.heap.size w w'))
         case atStart => exact ⟨(0), (x103005_1), (t109), (t110), (u103005), (by first | rfl | (simp; done) | (simp [*]; done)), H', ⟨Nat.le_refl _⟩, ⟨by (with_reducible repeat (first | apply Kd.R_alloc | apply Kd.R_drewN | apply Kd.R_drew)); exact Kd.R_mono (Kd.R_far (p := ⟨gb112, 9, none⟩) (Kd.R_far (p := ⟨gb112, 8, none⟩) (Kd.R_far (p := ⟨gb112, 7, none⟩) (Kd.R_mono HO_103005.out (fun k_ hk => (⟨hk, hk.2⟩ : _ ∧ k_ ≠ gb112))) (fun _ hk => hk.2) (.int .i64 (Int.tmod (wrap64 (IntKind.u16.wrap ((rd_T36 l0 x9_1).f7))) a2))) (fun _ hk => hk.2) (.int .i64 (1 + (((rd_T36 l0 x9_1).f8) % 2)))) (fun _ hk => hk.2) (.int .i64 (1 + ((((rd_T36 l0 x9_1).f9) % 256) % 3)))) (fun _ hk => ⟨hk.1.1, hk.1.2⟩)⟩, ⟨by (with_reducible repeat (first | refine b1_ ?_ _ | refine b2_ ?_ | refine b3_ ?_ _)); refine blk_far ?_ NB101_112.out _; (with_reducible repeat (first | refine b1_ ?_ _ | refine b2_ ?_ | refine b3_ ?_ _)); refine blk_far ?_ NB101_112.out _; (with_reducible repeat (first | refine b1_ ?_ _ | refine b2_ ?_ | refine b3_ ?_ _)); refine blk_far ?_ NB101_112.out _; (with_reducible repeat (first | refine b1_ ?_ _ | refine b2_ ?_ | refine b3_ ?_ _)); exact BK101.out⟩, ⟨by (with_reducible repeat (first | refine b1_ ?_ _ | refine b2_ ?_ | refine b3_ ?_ _)); refine blk_far ?_ NB102_112.out _; (with_reducible repeat (first | refine b1_ ?_ _ | refine b2_ ?_ | refine b3_ ?_ _)); refine blk_far ?_ NB102_112.out _; (with_reducible repeat (first | refine b1_ ?_ _ | refine b2_ ?_ | refine b3_ ?_ _)); refine blk_far ?_ NB102_112.out _; (with_reducible repeat (first | refine b1_ ?_ _ | refine b2_ ?_ | refine b3_ ?_ _)); exact BK102.out⟩, ⟨by (with_reducible repeat (first | refine b1_ ?_ _ | refine b2_ ?_ | refine b3_ ?_ _)); refine blk_far ?_ NB104_112.out _; (with_reducible repeat (first | refine b1_ ?_ _ | refine b2_ ?_ | refine b3_ ?_ _)); refine blk_far ?_ NB104_112.out _; (with_reducible repeat (first | refine b1_ ?_ _ | refine b2_ ?_ | refine b3_ ?_ _)); refine blk_far ?_ NB104_112.out _; (with_reducible repeat (first | refine b1_ ?_ _ | refine b2_ ?_ | refine b3_ ?_ _)); exact BK104.out⟩, ⟨by (with_reducible repeat (first | refine b1_ ?_ _ | refine b2_ ?_ | refine b3_ ?_ _)); refine blk_put (cs := #[.int .i64 t105, .int .i64 t106, .int .i64 t107, .int .i64 t108, .int .i64 t109, .int .i64 t110, .int .i64 t111, .int .i64 (Int.tmod (wrap64 (IntKind.u16.wrap ((rd_T36 l0 x9_1).f7))) a2), .int .i64 (1 + (((rd_T36 l0 x9_1).f8) % 2)), .int .i64 0]) ?_ 9 _ rfl; (with_reducible repeat (first | refine b1_ ?_ _ | refine b2_ ?_ | refine b3_ ?_ _)); refine blk_put (cs := #[.int .i64 t105, .int .i64 t106, .int .i64 t107, .int .i64 t108, .int .i64 t109, .int .i64 t110, .int .i64 t111, .int .i64 (Int.tmod (wrap64 (IntKind.u16.wrap ((rd_T36 l0 x9_1).f7))) a2), .int .i64 0, .int .i64 0]) ?_ 8 _ rfl; (with_reducible repeat (first | refine b1_ ?_ _ | refine b2_ ?_ | refine b3_ ?_ _)); refine blk_put (cs := #[.int .i64 t105, .int .i64 t106, .int .i64 t107, .int .i64 t108, .int .i64 t109, .int .i64 t110, .int .i64 t111, .int .i64 0, .int .i64 0, .int .i64 0]) ?_ 7 _ rfl; (with_reducible repeat (first | refine b1_ ?_ _ | refine b2_ ?_ | refine b3_ ?_ _)); exact BK112.out⟩, ⟨by repeat (first | (with_reducible first | exact HB.out | apply below_alloc | apply pw_below_drewN | apply below_drew1 | refine below_set ?_ GE101.out | refine below_set ?_ GE102.out | refine below_set ?_ GE104.out | refine below_set ?_ GE112.out) | exact HB.out)⟩⟩
         case round =>
          clear H'
          try clear p2
          try clear c4
          try clear p6
          try clear c44
          try clear c45
          try clear c46
          try clear hcz47_0
          try clear hcz47_1
          try clear hcz47_2
          try clear hcz47_3
          try clear hcz47_4
          try clear hcz47_5
          try clear hcz47_6
          try clear hcz47_7
          try clear hcz47_8
          try clear hcz47_9
          try clear hfz47_0
          try clear hfz47_1
          try clear hfz47_2
          try clear hfz47_3
          try clear hfz47_4
          try clear hfz47_5
          try clear hfz47_6
          try clear hfz47_7
          try clear hfz47_8
          try clear hfz47_9
          obtain ⟨x82_3, x103005_3, x113004_3, x113005_3, u103005, rfl, HA, HK3, HO_103005, BK101, BK102, BK104, BK112, HB⟩ := hrel
          cases gk with
          | zero => exact absurd HA.out (by simp [laws_someOut.l1])
          | succ k3 =>
           have H := HA.out
           clear HA
           simp only [laws_someOut.l1] at H
           by_cases c48 : x82_3 < (1 + ((((rd_T36 l0 x9_1).f9) % 256) % 3))
           ·rw [if_pos c48] at H
            have c48b0 : decide (x82_3 < (1 + ((((rd_T36 l0 x9_1).f9) % 256) % 3))) = true := decide_eq_true c48
            clear c48
            by_cases c49 : x103005_3.length < 1759218604441
            ·rw [if_pos c49] at H
             have LMc49 := Aside0.mk c49
             clear c49
             obtain ⟨y113, hy113⟩ : ∃ y_ : List (S36), y_ = (x103005_3 ++ [(⟨t105, t106, t107, t108, x113004_3, x113005_3, t111, (Int.tmod (wrap64 (IntKind.u16.wrap ((rd_T36 l0 x9_1).f7))) a2), (1 + (((rd_T36 l0 x9_1).f8) % 2)), (1 + ((((rd_T36 l0 x9_1).f9) % 256) % 3))⟩ : S36)]) := ⟨_, rfl⟩
             replace H : (laws_someOut.l1 k3 l0 a2 x9_1 (1 + ((((rd_T36 l0 x9_1).f9) % 256) % 3)) (wrap64 (x82_3 + 1)) (wrap64 (Int.tmod a1 4)) 7 8 9 10 y113 t105 t106 t107 t108 (wrap64 (Int.tdiv t105 2)) t106 t111 (Int.tmod (wrap64 (IntKind.u16.wrap ((rd_T36 l0 x9_1).f7))) a2) (1 + (((rd_T36 l0 x9_1).f8) % 2)) (1 + ((((rd_T36 l0 x9_1).f9) % 256) % 3))) = some (r1, r2, r3, r4, r5, r6) := by first | (rw [hy113]; with_reducible exact H) | (have H2_ := (Option.bind_some _ _).symm.trans H; rw [hy113]; with_reducible exact H2_) | (have H2_ := (Option.bind_some _ _).symm.trans H; with_reducible exact H2_) | with_reducible exact H | (rw [hy113]; exact H) | exact H
             have Ny113 := Aside0.mk hy113
             clear hy113
             have H' := Aside0.mk H
             clear H
             have hnb50 := NB102_101.out
             have hnc50 := NB101_102.out
             have hnb51 := NB102_104.out
             have hnc51 := NB104_102.out
             have hnb52 := NB102_112.out
             have hnc52 := NB112_102.out
             have hcz53_0 : wr.cell? ⟨gb102, 0, none⟩ = some (.int .i64 (wrap64 (Int.tmod a1 4))) := (blk_cell BK102.out 0).trans rfl
             have hcz53_1 : wr.cell? ⟨gb102, 1, none⟩ = some (.int .i64 7) := (blk_cell BK102.out 1).trans rfl
             have hcz53_2 : wr.cell? ⟨gb102, 2, none⟩ = some (.int .i64 8) := (blk_cell BK102.out 2).trans rfl
             have hcz53_3 : wr.cell? ⟨gb102, 3, none⟩ = some (.int .i64 9) := (blk_cell BK102.out 3).trans rfl
             have hcz53_4 : wr.cell? ⟨gb102, 4, none⟩ = some (.int .i64 10) := (blk_cell BK102.out 4).trans rfl
             have hcz53_5 : wr.cell? ⟨gb102, 5, none⟩ = some (u103005) := (blk_cell BK102.out 5).trans rfl
             have hfz53_0 := blk_frozen BK102.out 0
             have hfz53_1 := blk_frozen BK102.out 1
             have hfz53_2 := blk_frozen BK102.out 2
             have hfz53_3 := blk_frozen BK102.out 3
             have hfz53_4 := blk_frozen BK102.out 4
             have hfz53_5 := blk_frozen BK102.out 5
             have hnb54 := NB112_101.out
             have hnc54 := NB101_112.out
             have hnb55 := NB112_104.out
             have hnc55 := NB104_112.out
             have hcz56_0 : wr.cell? ⟨gb112, 0, none⟩ = some (.int .i64 t105) := (blk_cell BK112.out 0).trans rfl
             have hcz56_1 : wr.cell? ⟨gb112, 1, none⟩ = some (.int .i64 t106) := (blk_cell BK112.out 1).trans rfl
             have hcz56_2 : wr.cell? ⟨gb112, 2, none⟩ = some (.int .i64 t107) := (blk_cell BK112.out 2).trans rfl
             have hcz56_3 : wr.cell? ⟨gb112, 3, none⟩ = some (.int .i64 t108) := (blk_cell BK112.out 3).trans rfl
             have hcz56_4 : wr.cell? ⟨gb112, 4, none⟩ = some (.int .i64 x113004_3) := (blk_cell BK112.out 4).trans rfl
             have hcz56_5 : wr.cell? ⟨gb112, 5, none⟩ = some (.int .i64 x113005_3) := (blk_cell BK112.out 5).trans rfl
             have hcz56_6 : wr.cell? ⟨gb112, 6, none⟩ = some (.int .i64 t111) := (blk_cell BK112.out 6).trans rfl
             have hcz56_7 : wr.cell? ⟨gb112, 7, none⟩ = some (.int .i64 (Int.tmod (wrap64 (IntKind.u16.wrap ((rd_T36 l0 x9_1).f7))) a2)) := (blk_cell BK112.out 7).trans rfl
             have hcz56_8 : wr.cell? ⟨gb112, 8, none⟩ = some (.int .i64 (1 + (((rd_T36 l0 x9_1).f8) % 2))) := (blk_cell BK112.out 8).trans rfl
             have hcz56_9 : wr.cell? ⟨gb112, 9, none⟩ = some (.int .i64 (1 + ((((rd_T36 l0 x9_1).f9) % 256) % 3))) := (blk_cell BK112.out 9).trans rfl
             have hfz56_0 := blk_frozen BK112.out 0
             have hfz56_1 := blk_frozen BK112.out 1
             have hfz56_2 := blk_frozen BK112.out 2
             have hfz56_3 := blk_frozen BK112.out 3
             have hfz56_4 := blk_frozen BK112.out 4
             have hfz56_5 := blk_frozen BK112.out 5
             have hfz56_6 := blk_frozen BK112.out 6
             have hfz56_7 := blk_frozen BK112.out 7
             have hfz56_8 := blk_frozen BK112.out 8
             have hfz56_9 := blk_frozen BK112.out 9
             go_wp2_with (first | ((with_reducible refine gate_builtin (b := .append) (xs := #[.tmp 85, .tmp 87]) rfl ?_); at_builtin; refine Kd.R_append k36 (w0 := w) w.heap.size rfl (.tmp 85) (.tmp 87) 37 36 (.agg #[(.int .i64 0), (.int .i64 0), (.int .i64 0), (.int .i64 0), (.int .i64 0), (.int .i64 0), (.int .i64 0), (.int .i64 0), (.int .i64 0), (.int .i64 0)]) 80 rfl Try.underlying37 info36 rfl (by decide) (by omega) u103005 x103005_3 (⟨t105, t106, t107, t108, x113004_3, x113005_3, t111, (Int.tmod (wrap64 (IntKind.u16.wrap ((rd_T36 l0 x9_1).f7))) a2), (1 + (((rd_T36 l0 x9_1).f8) % 2)), (1 + ((((rd_T36 l0 x9_1).f9) % 256) % 3))⟩ : S36) [.int .i64 t105, .int .i64 t106, .int .i64 t107, .int .i64 t108, .int .i64 x113004_3, .int .i64 x113005_3, .int .i64 t111, .int .i64 (Int.tmod (wrap64 (IntKind.u16.wrap ((rd_T36 l0 x9_1).f7))) a2), .int .i64 (1 + (((rd_T36 l0 x9_1).f8) % 2)), .int .i64 (1 + ((((rd_T36 l0 x9_1).f9) % 256) % 3))] (fun k_ => k_ ≠ gb104 ∧ k_ ≠ gb112) (fun _ => False) rfl rfl ?aP (fun _ hk => hk.elim) ?aF ?aO ?aB ?aS ?aL ?_; (case aP => exact k36_mkM _ _ _ (⟨t105, t106, t107, t108, x113004_3, x113005_3, t111, (Int.tmod (wrap64 (IntKind.u16.wrap ((rd_T36 l0 x9_1).f7))) a2), (1 + (((rd_T36 l0 x9_1).f8) % 2)), (1 + ((((rd_T36 l0 x9_1).f9) % 256) % 3))⟩ : S36)); (case aB => exact (by repeat (first | (with_reducible first | exact HB.out | apply below_alloc | apply pw_below_drewN | apply below_drew1 | refine below_set ?_ GE101.out | refine below_set ?_ GE102.out | refine below_set ?_ GE104.out | refine below_set ?_ GE112.out) | exact HB.out))); (case aF => exact (fun k_ hk => ⟨Kd.freshB (g := gb104) (o := .cells #[.int .i64 ((rd_T36 l0 x9_1).f0), .int .i64 ((rd_T36 l0 x9_1).f1), .int .i64 ((rd_T36 l0 x9_1).f2), .int .i64 ((rd_T36 l0 x9_1).f3), .int .i64 ((rd_T36 l0 x9_1).f4), .int .i64 ((rd_T36 l0 x9_1).f5), .int .i64 ((rd_T36 l0 x9_1).f6), .int .i64 ((rd_T36 l0 x9_1).f7), .int .i64 ((rd_T36 l0 x9_1).f8), .int .i64 ((rd_T36 l0 x9_1).f9)] 36 (0, 0)) (by (with_reducible repeat (first | refine b1_ ?_ _ | refine b2_ ?_ | refine b3_ ?_ _)); exact BK104.out) k_ hk, Kd.freshB (g := gb112) (o := .cells #[.int .i64 t105, .int .i64 t106, .int .i64 t107, .int .i64 t108, .int .i64 x113004_3, .int .i64 x113005_3, .int .i64 t111, .int .i64 (Int.tmod (wrap64 (IntKind.u16.wrap ((rd_T36 l0 x9_1).f7))) a2), .int .i64 (1 + (((rd_T36 l0 x9_1).f8) % 2)), .int .i64 (1 + ((((rd_T36 l0 x9_1).f9) % 256) % 3))] 36 (0, 0)) (by (with_reducible repeat (first | refine b1_ ?_ _ | refine b2_ ?_ | refine b3_ ?_ _)); exact BK112.out) k_ hk⟩)); (case aO => exact (by (with_reducible repeat (first | apply Kd.R_alloc | apply Kd.R_drewN | apply Kd.R_drew)); exact HO_103005.out)); (case aS => exact (below_size (by repeat (first | (with_reducible first | exact HB.out | apply below_alloc | apply pw_below_drewN | apply below_drew1 | refine below_set ?_ GE101.out | refine below_set ?_ GE102.out | refine below_set ?_ GE104.out | refine below_set ?_ GE112.out) | exact HB.out)))); (case aL => have := LMc49.out; omega); intro v114 w57 ho hb hg hat; rw [← Ny113.out] at ho; have n0_ := Aside0.mk (blk_grown (g := gb101) (o := .cells #[.int .i64 0, .int .i64 0, .int .i64 0, .int .i64 0, .int .i64 0, .slice none 0 0] 39 (0, 0)) (by (with_reducible repeat (first | refine b1_ ?_ _ | refine b2_ ?_ | refine b3_ ?_ _)); exact BK101.out) hg (Kd.R_ne HO_103005.out BK101.out (by decide))); have n1_ := Aside0.mk (blk_grown (g := gb102) (o := .cells #[.int .i64 (wrap64 (Int.tmod a1 4)), .int .i64 7, .int .i64 8, .int .i64 9, .int .i64 10, u103005] 39 (0, 0)) (by (with_reducible repeat (first | refine b1_ ?_ _ | refine b2_ ?_ | refine b3_ ?_ _)); exact BK102.out) hg (Kd.R_ne HO_103005.out BK102.out (by decide))); have n2_ := Aside0.mk (blk_grown (g := gb104) (o := .cells #[.int .i64 ((rd_T36 l0 x9_1).f0), .int .i64 ((rd_T36 l0 x9_1).f1), .int .i64 ((rd_T36 l0 x9_1).f2), .int .i64 ((rd_T36 l0 x9_1).f3), .int .i64 ((rd_T36 l0 x9_1).f4), .int .i64 ((rd_T36 l0 x9_1).f5), .int .i64 ((rd_T36 l0 x9_1).f6), .int .i64 ((rd_T36 l0 x9_1).f7), .int .i64 ((rd_T36 l0 x9_1).f8), .int .i64 ((rd_T36 l0 x9_1).f9)] 36 (0, 0)) (by (with_reducible repeat (first | refine b1_ ?_ _ | refine b2_ ?_ | refine b3_ ?_ _)); exact BK104.out) hg (Kd.R_away HO_103005.out (fun _ hk => hk.1))); have n3_ := Aside0.mk (blk_grown (g := gb112) (o := .cells #[.int .i64 t105, .int .i64 t106, .int .i64 t107, .int .i64 t108, .int .i64 x113004_3, .int .i64 x113005_3, .int .i64 t111, .int .i64 (Int.tmod (wrap64 (IntKind.u16.wrap ((rd_T36 l0 x9_1).f7))) a2), .int .i64 (1 + (((rd_T36 l0 x9_1).f8) % 2)), .int .i64 (1 + ((((rd_T36 l0 x9_1).f9) % 256) % 3))] 36 (0, 0)) (by (with_reducible repeat (first | refine b1_ ?_ _ | refine b2_ ?_ | refine b3_ ?_ _)); exact BK112.out) hg (Kd.R_away HO_103005.out (fun _ hk => hk.2))); have n4_ := Aside0.mk (hb); have n5_ := Aside0.mk (ho); clear BK101; clear BK102; clear BK104; clear BK112; clear HB; clear HO_103005; have BK101 := n0_; have BK102 := n1_; have BK104 := n2_; have BK112 := n3_; have HB := n4_; have HO115 := n5_; clear n0_ n1_ n2_ n3_ n4_ n5_; clear ho hb hg hat; obtain ⟨Ao58, co58, eo58⟩ := Kd.R_slice HO115.out; subst eo58; have hcz59_0 : w57.cell? ⟨gb102, 0, none⟩ = some (.int .i64 (wrap64 (Int.tmod a1 4))) := (blk_cell BK102.out 0).trans rfl; have hcz59_1 : w57.cell? ⟨gb102, 1, none⟩ = some (.int .i64 7) := (blk_cell BK102.out 1).trans rfl; have hcz59_2 : w57.cell? ⟨gb102, 2, none⟩ = some (.int .i64 8) := (blk_cell BK102.out 2).trans rfl; have hcz59_3 : w57.cell? ⟨gb102, 3, none⟩ = some (.int .i64 9) := (blk_cell BK102.out 3).trans rfl; have hcz59_4 : w57.cell? ⟨gb102, 4, none⟩ = some (.int .i64 10) := (blk_cell BK102.out 4).trans rfl; have hcz59_5 : w57.cell? ⟨gb102, 5, none⟩ = some (u103005) := (blk_cell BK102.out 5).trans rfl; have hfz59_0 := blk_frozen BK102.out 0; have hfz59_1 := blk_frozen BK102.out 1; have hfz59_2 := blk_frozen BK102.out 2; have hfz59_3 := blk_frozen BK102.out 3; have hfz59_4 := blk_frozen BK102.out 4; have hfz59_5 := blk_frozen BK102.out 5; have hcz60_0 : w57.cell? ⟨gb112, 0, none⟩ = some (.int .i64 t105) := (blk_cell BK112.out 0).trans rfl; have hcz60_1 : w57.cell? ⟨gb112, 1, none⟩ = some (.int .i64 t106) := (blk_cell BK112.out 1).trans rfl; have hcz60_2 : w57.cell? ⟨gb112, 2, none⟩ = some (.int .i64 t107) := (blk_cell BK112.out 2).trans rfl; have hcz60_3 : w57.cell? ⟨gb112, 3, none⟩ = some (.int .i64 t108) := (blk_cell BK112.out 3).trans rfl; have hcz60_4 : w57.cell? ⟨gb112, 4, none⟩ = some (.int .i64 x113004_3) := (blk_cell BK112.out 4).trans rfl; have hcz60_5 : w57.cell? ⟨gb112, 5, none⟩ = some (.int .i64 x113005_3) := (blk_cell BK112.out 5).trans rfl; have hcz60_6 : w57.cell? ⟨gb112, 6, none⟩ = some (.int .i64 t111) := (blk_cell BK112.out 6).trans rfl; have hcz60_7 : w57.cell? ⟨gb112, 7, none⟩ = some (.int .i64 (Int.tmod (wrap64 (IntKind.u16.wrap ((rd_T36 l0 x9_1).f7))) a2)) := (blk_cell BK112.out 7).trans rfl; have hcz60_8 : w57.cell? ⟨gb112, 8, none⟩ = some (.int .i64 (1 + (((rd_T36 l0 x9_1).f8) % 2))) := (blk_cell BK112.out 8).trans rfl; have hcz60_9 : w57.cell? ⟨gb112, 9, none⟩ = some (.int .i64 (1 + ((((rd_T36 l0 x9_1).f9) % 256) % 3))) := (blk_cell BK112.out 9).trans rfl; have hfz60_0 := blk_frozen BK112.out 0; have hfz60_1 := blk_frozen BK112.out 1; have hfz60_2 := blk_frozen BK112.out 2; have hfz60_3 := blk_frozen BK112.out 3; have hfz60_4 := blk_frozen BK112.out 4; have hfz60_5 := blk_frozen BK112.out 5; have hfz60_6 := blk_frozen BK112.out 6; have hfz60_7 := blk_frozen BK112.out 7; have hfz60_8 := blk_frozen BK112.out 8; have hfz60_9 := blk_frozen BK112.out 9))
             go_roundg k3
             case measure => have := HK1.out; have := HJ7.out; have := HK3.out; omega
             case rel => exact ⟨(wrap64 (x82_3 + 1)), (y113), (wrap64 (Int.tdiv t105 2)), (t106), (.slice Ao58 y113.length co58), (by first | rfl | (simp; done) | (simp [*]; done)), H', ⟨by have := HK1.out; have := HJ7.out; have := HK3.out; omega⟩, ⟨by (with_reducible repeat (first | apply Kd.R_alloc | apply Kd.R_drewN | apply Kd.R_drew)); exact Kd.R_mono (Kd.R_far (p := ⟨gb112, 5, none⟩) (Kd.R_far (p := ⟨gb112, 4, none⟩) (Kd.R_far (p := ⟨gb102, 5, none⟩) (Kd.R_mono (Kd.R_types HO115.out BK102.out (by decide)) (fun k_ hk => (⟨hk, hk.1.2⟩ : _ ∧ k_ ≠ gb112))) (fun _ hk => hk.1.2) (.slice Ao58 y113.length co58)) (fun _ hk => hk.2) (.int .i64 (wrap64 (Int.tdiv t105 2)))) (fun _ hk => hk.2) (.int .i64 t106)) (fun _ hk => ⟨hk.1.1.1, hk.1.1.2⟩)⟩, ⟨by (with_reducible repeat (first | refine b1_ ?_ _ | refine b2_ ?_ | refine b3_ ?_ _)); refine blk_far ?_ NB101_112.out _; (with_reducible repeat (first | refine b1_ ?_ _ | refine b2_ ?_ | refine b3_ ?_ _)); refine blk_far ?_ NB101_112.out _; (with_reducible repeat (first | refine b1_ ?_ _ | refine b2_ ?_ | refine b3_ ?_ _)); refine blk_far ?_ NB101_102.out _; (with_reducible repeat (first | refine b1_ ?_ _ | refine b2_ ?_ | refine b3_ ?_ _)); exact BK101.out⟩, ⟨by (with_reducible repeat (first | refine b1_ ?_ _ | refine b2_ ?_ | refine b3_ ?_ _)); refine blk_far ?_ NB102_112.out _; (with_reducible repeat (first | refine b1_ ?_ _ | refine b2_ ?_ | refine b3_ ?_ _)); refine blk_far ?_ NB102_112.out _; (with_reducible repeat (first | refine b1_ ?_ _ | refine b2_ ?_ | refine b3_ ?_ _)); refine blk_put (cs := #[.int .i64 (wrap64 (Int.tmod a1 4)), .int .i64 7, .int .i64 8, .int .i64 9, .int .i64 10, u103005]) ?_ 5 _ rfl; (with_reducible repeat (first | refine b1_ ?_ _ | refine b2_ ?_ | refine b3_ ?_ _)); exact BK102.out⟩, ⟨by (with_reducible repeat (first | refine b1_ ?_ _ | refine b2_ ?_ | refine b3_ ?_ _)); refine blk_far ?_ NB104_112.out _; (with_reducible repeat (first | refine b1_ ?_ _ | refine b2_ ?_ | refine b3_ ?_ _)); refine blk_far ?_ NB104_112.out _; (with_reducible repeat (first | refine b1_ ?_ _ | refine b2_ ?_ | refine b3_ ?_ _)); refine blk_far ?_ NB104_102.out _; (with_reducible repeat (first | refine b1_ ?_ _ | refine b2_ ?_ | refine b3_ ?_ _)); exact BK104.out⟩, ⟨by (with_reducible repeat (first | refine b1_ ?_ _ | refine b2_ ?_ | refine b3_ ?_ _)); refine blk_put (cs := #[.int .i64 t105, .int .i64 t106, .int .i64 t107, .int .i64 t108, .int .i64 (wrap64 (Int.tdiv t105 2)), .int .i64 x113005_3, .int .i64 t111, .int .i64 (Int.tmod (wrap64 (IntKind.u16.wrap ((rd_T36 l0 x9_1).f7))) a2), .int .i64 (1 + (((rd_T36 l0 x9_1).f8) % 2)), .int .i64 (1 + ((((rd_T36 l0 x9_1).f9) % 256) % 3))]) ?_ 5 _ rfl; (with_reducible repeat (first | refine b1_ ?_ _ | refine b2_ ?_ | refine b3_ ?_ _)); refine blk_put (cs := #[.int .i64 t105, .int .i64 t106, .int .i64 t107, .int .i64 t108, .int .i64 x113004_3, .int .i64 x113005_3, .int .i64 t111, .int .i64 (Int.tmod (wrap64 (IntKind.u16.wrap ((rd_T36 l0 x9_1).f7))) a2), .int .i64 (1 + (((rd_T36 l0 x9_1).f8) % 2)), .int .i64 (1 + ((((rd_T36 l0 x9_1).f9) % 256) % 3))]) ?_ 4 _ rfl; (with_reducible repeat (first | refine b1_ ?_ _ | refine b2_ ?_ | refine b3_ ?_ _)); refine blk_far ?_ NB112_102.out _; (with_reducible repeat (first | refine b1_ ?_ _ | refine b2_ ?_ | refine b3_ ?_ _)); exact BK112.out⟩, ⟨by repeat (first | (with_reducible first | exact HB.out | apply below_alloc | apply pw_below_drewN | apply below_drew1 | refine below_set ?_ GE101.out | refine below_set ?_ GE102.out | refine below_set ?_ GE104.out | refine below_set ?_ GE112.out) | exact HB.out)⟩⟩
            ·rw [if_neg c49] at H
             exact absurd H (by simp)
           ·rw [if_neg c48] at H
            have c48b0 : decide (x82_3 < (1 + ((((rd_T36 l0 x9_1).f9) % 256) % 3))) = false := decide_eq_false c48
            clear c48
            have H' := Aside0.mk H
            clear H
            go_wp2
            go_roundg k3
            case measure => have := HK1.out; have := HJ7.out; have := HK3.out; omega
            case rel => exact ⟨(wrap64 (x9_1 + 1)), (x103005_3), (u103005), (by first | rfl | (simp; done) | (simp [*]; done)), H', ⟨by have := HK1.out; have := HJ7.out; have := HK3.out; omega⟩, ⟨by (with_reducible repeat (first | apply Kd.R_alloc | apply Kd.R_drewN | apply Kd.R_drew)); exact Kd.R_mono HO_103005.out (fun _ hk => trivial)⟩, ⟨by (with_reducible repeat (first | refine b1_ ?_ _ | refine b2_ ?_ | refine b3_ ?_ _)); exact BK101.out⟩, ⟨by (with_reducible repeat (first | refine b1_ ?_ _ | refine b2_ ?_ | refine b3_ ?_ _)); exact BK102.out⟩, ⟨by repeat (first | (with_reducible first | exact HB.out | apply below_alloc | apply pw_below_drewN | apply below_drew1 | refine below_set ?_ GE101.out | refine below_set ?_ GE102.out | refine below_set ?_ GE104.out | refine below_set ?_ GE112.out) | exact HB.out)⟩⟩
       ·rw [if_neg c12] at H
        exact absurd H (by simp)
      ·rw [if_neg c11] at H
       exact absurd H (by simp)
     ·replace c10 := Bool.eq_false_iff.mpr c10
      subst c10
      have H1 : (some ((wrap64 (Int.tmod a1 4)), 7, 8, 9, 10, x103005_1)) = some (r1, r2, r3, r4, r5, r6) := by rw [if_neg (show ¬ (false = true) by decide)] at H; exact H
      clear H
      have H := H1
      clear H1
      simp only [Option.some.injEq, Prod.mk.injEq] at H
      obtain ⟨rfl, rfl, rfl, rfl, rfl, rfl⟩ := H
      have hnb61 := NB102_101.out
      have hnc61 := NB101_102.out
      have hcz62_0 : wc.cell? ⟨gb102, 0, none⟩ = some (.int .i64 (wrap64 (Int.tmod a1 4))) := (blk_cell BK102.out 0).trans rfl
      have hcz62_1 : wc.cell? ⟨gb102, 1, none⟩ = some (.int .i64 7) := (blk_cell BK102.out 1).trans rfl
      have hcz62_2 : wc.cell? ⟨gb102, 2, none⟩ = some (.int .i64 8) := (blk_cell BK102.out 2).trans rfl
      have hcz62_3 : wc.cell? ⟨gb102, 3, none⟩ = some (.int .i64 9) := (blk_cell BK102.out 3).trans rfl
      have hcz62_4 : wc.cell? ⟨gb102, 4, none⟩ = some (.int .i64 10) := (blk_cell BK102.out 4).trans rfl
      have hcz62_5 : wc.cell? ⟨gb102, 5, none⟩ = some (u103005) := (blk_cell BK102.out 5).trans rfl
      have hfz62_0 := blk_frozen BK102.out 0
      have hfz62_1 := blk_frozen BK102.out 1
      have hfz62_2 := blk_frozen BK102.out 2
      have hfz62_3 := blk_frozen BK102.out 3
      have hfz62_4 := blk_frozen BK102.out 4
      have hfz62_5 := blk_frozen BK102.out 5
      have hcz63_0 : wc.cell? ⟨gb101, 0, none⟩ = some (.int .i64 0) := (blk_cell BK101.out 0).trans rfl
      have hcz63_1 : wc.cell? ⟨gb101, 1, none⟩ = some (.int .i64 0) := (blk_cell BK101.out 1).trans rfl
      have hcz63_2 : wc.cell? ⟨gb101, 2, none⟩ = some (.int .i64 0) := (blk_cell BK101.out 2).trans rfl
      have hcz63_3 : wc.cell? ⟨gb101, 3, none⟩ = some (.int .i64 0) := (blk_cell BK101.out 3).trans rfl
      have hcz63_4 : wc.cell? ⟨gb101, 4, none⟩ = some (.int .i64 0) := (blk_cell BK101.out 4).trans rfl
      have hcz63_5 : wc.cell? ⟨gb101, 5, none⟩ = some (.slice none 0 0) := (blk_cell BK101.out 5).trans rfl
      have hfz63_0 := blk_frozen BK101.out 0
      have hfz63_1 := blk_frozen BK101.out 1
      have hfz63_2 := blk_frozen BK101.out 2
      have hfz63_3 := blk_frozen BK101.out 3
      have hfz63_4 := blk_frozen BK101.out 4
      have hfz63_5 := blk_frozen BK101.out 5
      obtain ⟨Ao64, co64, eo64⟩ := Kd.R_slice HO_103005.out
      subst eo64
      go_wp2
      refine bodyPost_ret (results_cell_row rfl _ _ gb101 39 #[.int .i64 (wrap64 (Int.tmod a1 4)), .int .i64 7, .int .i64 8, .int .i64 9, .int .i64 10, .slice Ao64 x103005_1.length co64] (0, 0) _ rfl (by (with_reducible repeat (first | refine b1_ ?_ _ | refine b2_ ?_ | refine b3_ ?_ _)); refine blk_put (cs := #[.int .i64 (wrap64 (Int.tmod a1 4)), .int .i64 7, .int .i64 8, .int .i64 9, .int .i64 10, .slice none 0 0]) ?_ 5 _ rfl; (with_reducible repeat (first | refine b1_ ?_ _ | refine b2_ ?_ | refine b3_ ?_ _)); refine blk_put (cs := #[.int .i64 (wrap64 (Int.tmod a1 4)), .int .i64 7, .int .i64 8, .int .i64 9, .int .i64 0, .slice none 0 0]) ?_ 4 _ rfl; (with_reducible repeat (first | refine b1_ ?_ _ | refine b2_ ?_ | refine b3_ ?_ _)); refine blk_put (cs := #[.int .i64 (wrap64 (Int.tmod a1 4)), .int .i64 7, .int .i64 8, .int .i64 0, .int .i64 0, .slice none 0 0]) ?_ 3 _ rfl; (with_reducible repeat (first | refine b1_ ?_ _ | refine b2_ ?_ | refine b3_ ?_ _)); refine blk_put (cs := #[.int .i64 (wrap64 (Int.tmod a1 4)), .int .i64 7, .int .i64 0, .int .i64 0, .int .i64 0, .slice none 0 0]) ?_ 2 _ rfl; (with_reducible repeat (first | refine b1_ ?_ _ | refine b2_ ?_ | refine b3_ ?_ _)); refine blk_put (cs := #[.int .i64 (wrap64 (Int.tmod a1 4)), .int .i64 0, .int .i64 0, .int .i64 0, .int .i64 0, .slice none 0 0]) ?_ 1 _ rfl; (with_reducible repeat (first | refine b1_ ?_ _ | refine b2_ ?_ | refine b3_ ?_ _)); refine blk_put (cs := #[.int .i64 0, .int .i64 0, .int .i64 0, .int .i64 0, .int .i64 0, .slice none 0 0]) ?_ 0 _ rfl; (with_reducible repeat (first | refine b1_ ?_ _ | refine b2_ ?_ | refine b3_ ?_ _)); exact BK101.out) Try.underlying39 rfl (by kernel_rfl)) rfl ?_
      exact ⟨_, by first | rfl | (simp [errW_none, errW_some] <;> rfl) | (simp [*, errW_none, errW_some] <;> rfl), by (with_reducible repeat (first | apply Kd.R_alloc | apply Kd.R_drewN | apply Kd.R_drew)); exact Kd.R_mono (Kd.R_far (p := ⟨gb101, 5, none⟩) (Kd.R_far (p := ⟨gb101, 4, none⟩) (Kd.R_far (p := ⟨gb101, 3, none⟩) (Kd.R_far (p := ⟨gb101, 2, none⟩) (Kd.R_far (p := ⟨gb101, 1, none⟩) (Kd.R_far (p := ⟨gb101, 0, none⟩) (Kd.R_types HO_103005.out BK101.out (by decide)) (fun _ hk => hk.2) (.int .i64 (wrap64 (Int.tmod a1 4)))) (fun _ hk => hk.2) (.int .i64 7)) (fun _ hk => hk.2) (.int .i64 8)) (fun _ hk => hk.2) (.int .i64 9)) (fun _ hk => hk.2) (.int .i64 10)) (fun _ hk => hk.2) (.slice Ao64 x103005_1.length co64)) (fun _ hk => trivial), by repeat (first | (with_reducible first | exact HB.out | apply below_alloc | apply pw_below_drewN | apply below_drew1 | refine below_set ?_ GE101.out | refine below_set ?_ GE102.out) | exact HB.out)⟩

end Go.Proofs.Ytkfphiccfnfkdaa.PFnBearings
