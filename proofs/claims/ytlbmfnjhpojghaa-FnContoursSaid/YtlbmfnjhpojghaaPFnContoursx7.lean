-- Written by a program of this session (xprint) out of the translation; Lean checks it.
import Derived.Test.YtlbmfnjhpojghaaPFnContoursx0
import Derived.Test.YtlbmfnjhpojghaaPFnContoursx5
import Derived.Test.YtlbmfnjhpojghaaPFnContoursx6
namespace Go.Proofs.Ytlbmfnjhpojghaa.PFnContours
open Go.RowKit Go.Proofs.YtlbmfnjhpojghaaW.PrintWords Go.Proofs.YtlbmfnjhpojghaaW.PrintLast Go.Proofs.YtlbmfnjhpojghaaW.PrintMore
attribute [local go_sem] max2_int min2_int max_two min_two max_three min_three max_four min_four   -- for this text's walks alone
set_option linter.unusedVariables false
set_option linter.unusedSimpArgs false

attribute [local go_sem] f_add f_sub f_mul f_quo f_conv f_same f_int f_max f_store
/-! ### font_buildSegments: function 60 -/
def font_buildSegments.T31 : Bool × List (List Nat × List Nat) := (true, [([], []), ([], []), ([], []), ([], []), ([2, 3], [2, 3]), ([1, 4], [1, 4]), ([5], [5]), ([6], [6]), ([0, 7, 4], [0, 7]), ([8, 8, 0, 1, 2, 3, 4, 5, 6, 7, 8], [0, 8])])
def font_buildSegments.B31 : List Nat := [0, 0, 0, 0, 12, 30, 62, 126, 255, 511]
theorem font_buildSegments.tab31 : rtab .any (opsOf Try.f60 31) = font_buildSegments.T31 := by kernel_rfl
theorem font_buildSegments.bits31 : waitsOk font_buildSegments.T31.2 font_buildSegments.B31 = true := by kernel_rfl
def font_buildSegments.T44 : Bool × List (List Nat × List Nat) := (true, [([], []), ([], []), ([], []), ([], []), ([2, 3], [2, 3]), ([1, 4], [1, 4]), ([5], [5]), ([], []), ([], []), ([7, 8], [7, 8]), ([9], [9]), ([6, 10], [6, 10]), ([0, 11, 4], [0, 11]), ([12, 12, 0, 1, 2, 3, 4, 5, 6, 7, 8, 9, 10, 11, 12], [0, 12])])
def font_buildSegments.B44 : List Nat := [0, 0, 0, 0, 12, 30, 62, 0, 0, 384, 896, 2046, 4095, 8191]
theorem font_buildSegments.tab44 : rtab .any (opsOf Try.f60 44) = font_buildSegments.T44 := by kernel_rfl
theorem font_buildSegments.bits44 : waitsOk font_buildSegments.T44.2 font_buildSegments.B44 = true := by kernel_rfl
set_option maxHeartbeats 8000000 in
set_option maxRecDepth 100000 in
theorem font_buildSegments.calls (k : Nat) (A0 : Option Addr) (c0 : Nat) (l0 : List (S198)) (r : List (S195)) (w : World) (hr0 : Kd.C k198 w A0 l0.length l0) (hc0 : l0.length ≤ c0) (h : font_buildSegments.f k l0 = some r) :
  Calls Try.prog 60 #[.slice A0 l0.length c0] w fun e w' => ∃ v0_ : Value, e = .returned (v0_) ∧ Kd.R k195 195 w' w.heap.size (fun _ => True) v0_ r ∧ Below w.heap.size w w' := by
 have hu192 := Try.underlying192
 have hu198 := Try.underlying198
 have hu193 := Try.underlying193
 have hu195 := Try.underlying195
 have HR0 := Aside0.mk hr0
 have HC0 := Aside0.mk hc0
 clear hr0 hc0
 have HB := Aside0.mk (Below.refl w.heap.size w)
 have H : (if (l0.length : Int) = 0 then (some ([] : List (S195))) else (if 0 ≤ (wrap64 ((l0.length : Int) + 2)) then (if (wrap64 ((l0.length : Int) + 2) : Int).toNat ≤ 10052677739666 then (font_buildSegments.l0 k false false false (([] : List (S195))) l0 (l0.length : Int) 0 0 0 0 0 0 0) else (none)) else (none))) = some r := h
 clear h
 by_cases c2 : (l0.length : Int) = 0
 ·rw [if_pos c2] at H
  have c2b0 : ((l0.length : Int) == 0) = true := beq_iff_eq.mpr c2
  have c2b1 : ((l0.length : Int) != 0) = false := bne_eq_false_iff_eq.mpr c2
  clear c2
  obtain rfl := Option.some.inj H
  go_enter Try.func60, Try.ntmps60
  go_wp2
  go_ret
  exact ⟨_, by first | rfl | (simp [errW_none, errW_some] <;> rfl) | (simp [*, errW_none, errW_some] <;> rfl), by first | exact Kd.R_nil _ _ _ _ _ | exact Kd.N_nil _ _ _ _ _ | exact Kd.V_nil _ _ _ _ _ | exact Kd.Q_nil _ _ _ _ _ | exact Kd.S_nil _ _ _ _ _, by repeat (first | (with_reducible first | exact HB.out | apply below_alloc | apply pw_below_drewN | apply below_drew1) | exact HB.out)⟩
 ·rw [if_neg c2] at H
  have c2b0 : ((l0.length : Int) == 0) = false := beq_eq_false_iff_ne.mpr c2
  have c2b1 : ((l0.length : Int) != 0) = true := bne_iff_ne.mpr c2
  have c2b2 : ¬ (l0 = []) := fun h_ => c2 (by rw [h_]; rfl)
  obtain ⟨ji3, hji3⟩ : ∃ j_ : Int, (wrap64 ((l0.length : Int) + 2)) = j_ := ⟨_, rfl⟩
  replace H : (if 0 ≤ (ji3) then (if (ji3 : Int).toNat ≤ 10052677739666 then (font_buildSegments.l0 k false false false (([] : List (S195))) l0 (l0.length : Int) 0 0 0 0 0 0 0) else (none)) else (none)) = some r := by first | (rw [hji3] at H; exact H) | (simp only [hji3] at H ⊢; exact H)
  have hji3w : (IntKind.i64.wrap ((l0.length : Int) + 2)) = ji3 := (i64_w _).trans hji3
  by_cases c4 : 0 ≤ (ji3)
  rotate_left
  ·rw [if_neg c4] at H
   exact absurd H (by simp)
  rw [if_pos c4] at H
  have c4b0 := eq_true c4
  have c4b1 : decide (0 ≤ (ji3)) = true := decide_eq_true c4
  clear c4
  by_cases c5 : (ji3 : Int).toNat ≤ 10052677739666
  rotate_left
  ·rw [if_neg c5] at H
   exact absurd H (by simp)
  rw [if_pos c5] at H
  have c5b0 := eq_true c5
  have c5b1 : decide ((ji3 : Int).toNat ≤ 10052677739666) = true := decide_eq_true c5
  clear c5
  obtain ⟨y147, hy147⟩ : ∃ y_ : List (S195), y_ = (([] : List (S195))) := ⟨_, rfl⟩
  replace H : (font_buildSegments.l0 k false false false y147 l0 (l0.length : Int) 0 0 0 0 0 0 0) = some r := by first | (rw [hy147]; with_reducible exact H) | (have H2_ := (Option.bind_some _ _).symm.trans H; rw [hy147]; with_reducible exact H2_) | (have H2_ := (Option.bind_some _ _).symm.trans H; with_reducible exact H2_) | with_reducible exact H | (rw [hy147]; exact H) | exact H
  have Ny147 := Aside0.mk hy147
  clear hy147
  have H' := Aside0.mk H
  clear H
  go_enter Try.func60, Try.ntmps60
  go_wp2_with (first | ((with_reducible refine gate_dst (N := 6) rfl ?_); refine box_event ?hg (N := 6) ?hd (cs := #[.float .f32 0, .float .f32 0]) (t := 192) ?hr ?_; (case hd => rfl); (case hg => rfl); (case hr => first | (go_simp; done) | (go_simp; rfl)); intro gb144 hg w6 hbox hb; have n0_ := Aside0.mk (below_step (by repeat (first | (with_reducible first | exact HB.out | apply below_alloc | apply pw_below_drewN | apply below_drew1) | exact HB.out)) hb); have n1_ := Aside0.mk (hbox); have n2_ := Aside0.mk ((by rw [hg]; exact (below_size (by repeat (first | (with_reducible first | exact HB.out | apply below_alloc | apply pw_below_drewN | apply below_drew1) | exact HB.out))) : w.heap.size ≤ gb144)); have n3_ := Aside0.mk ((by rw [hg]; exact (below_size (by repeat (first | (with_reducible first | exact HB.out | apply below_alloc | apply pw_below_drewN | apply below_drew1) | exact HB.out))) : w.heap.size ≤ gb144)); clear HB; have HB := n0_; have BK144 := n1_; have GW144 := n2_; have GE144 := n3_; clear n0_ n1_ n2_ n3_; clear hb hbox hg) | ((with_reducible refine gate_dst (N := 7) rfl ?_); refine box_event ?hg (N := 7) ?hd (cs := #[.float .f32 0, .float .f32 0]) (t := 192) ?hr ?_; (case hd => rfl); (case hg => rfl); (case hr => first | (go_simp; done) | (go_simp; rfl)); intro gb145 hg w7 hbox hb; have n0_ := Aside0.mk (blk_below (g := gb144) (o := .cells #[.float .f32 0, .float .f32 0] 192 (0, 0)) (by (with_reducible repeat (first | apply b1_ | apply b2_ | apply b3_)); exact BK144.out) hb); have n1_ := Aside0.mk (below_step (by repeat (first | (with_reducible first | exact HB.out | apply below_alloc | apply pw_below_drewN | apply below_drew1 | refine below_set ?_ GE144.out) | exact HB.out)) hb); have n2_ := Aside0.mk (hbox); have n3_ := Aside0.mk ((by rw [hg]; exact (below_size (by repeat (first | (with_reducible first | exact HB.out | apply below_alloc | apply pw_below_drewN | apply below_drew1 | refine below_set ?_ GE144.out) | exact HB.out))) : w.heap.size ≤ gb145)); have n4_ := Aside0.mk ((by rw [hg]; exact (below_size (by repeat (first | (with_reducible first | exact HB.out | apply below_alloc | apply pw_below_drewN | apply below_drew1 | refine below_set ?_ GE144.out) | exact HB.out))) : w.heap.size ≤ gb145)); have n5_ := Aside0.mk ((by rw [hg]; exact Nat.ne_of_lt (blk_lt (g := gb144) (o := .cells #[.float .f32 0, .float .f32 0] 192 (0, 0)) (by (with_reducible repeat (first | apply b1_ | apply b2_ | apply b3_)); exact BK144.out)) : gb144 ≠ gb145)); have n6_ := Aside0.mk ((by rw [hg]; exact Nat.ne_of_gt (blk_lt (g := gb144) (o := .cells #[.float .f32 0, .float .f32 0] 192 (0, 0)) (by (with_reducible repeat (first | apply b1_ | apply b2_ | apply b3_)); exact BK144.out)) : gb145 ≠ gb144)); clear BK144; clear HB; have BK144 := n0_; have HB := n1_; have BK145 := n2_; have GW145 := n3_; have GE145 := n4_; have NB144_145 := n5_; have NB145_144 := n6_; clear n0_ n1_ n2_ n3_ n4_ n5_ n6_; clear hb hbox hg) | ((with_reducible refine gate_dst (N := 8) rfl ?_); refine box_event ?hg (N := 8) ?hd (cs := #[.float .f32 0, .float .f32 0]) (t := 192) ?hr ?_; (case hd => rfl); (case hg => rfl); (case hr => first | (go_simp; done) | (go_simp; rfl)); intro gb146 hg w8 hbox hb; have n0_ := Aside0.mk (blk_below (g := gb144) (o := .cells #[.float .f32 0, .float .f32 0] 192 (0, 0)) (by (with_reducible repeat (first | apply b1_ | apply b2_ | apply b3_)); exact BK144.out) hb); have n1_ := Aside0.mk (blk_below (g := gb145) (o := .cells #[.float .f32 0, .float .f32 0] 192 (0, 0)) (by (with_reducible repeat (first | apply b1_ | apply b2_ | apply b3_)); exact BK145.out) hb); have n2_ := Aside0.mk (below_step (by repeat (first | (with_reducible first | exact HB.out | apply below_alloc | apply pw_below_drewN | apply below_drew1 | refine below_set ?_ GE144.out | refine below_set ?_ GE145.out) | exact HB.out)) hb); have n3_ := Aside0.mk (hbox); have n4_ := Aside0.mk ((by rw [hg]; exact (below_size (by repeat (first | (with_reducible first | exact HB.out | apply below_alloc | apply pw_below_drewN | apply below_drew1 | refine below_set ?_ GE144.out | refine below_set ?_ GE145.out) | exact HB.out))) : w.heap.size ≤ gb146)); have n5_ := Aside0.mk ((by rw [hg]; exact (below_size (by repeat (first | (with_reducible first | exact HB.out | apply below_alloc | apply pw_below_drewN | apply below_drew1 | refine below_set ?_ GE144.out | refine below_set ?_ GE145.out) | exact HB.out))) : w.heap.size ≤ gb146)); have n6_ := Aside0.mk ((by rw [hg]; exact Nat.ne_of_lt (blk_lt (g := gb144) (o := .cells #[.float .f32 0, .float .f32 0] 192 (0, 0)) (by (with_reducible repeat (first | apply b1_ | apply b2_ | apply b3_)); exact BK144.out)) : gb144 ≠ gb146)); have n7_ := Aside0.mk ((by rw [hg]; exact Nat.ne_of_gt (blk_lt (g := gb144) (o := .cells #[.float .f32 0, .float .f32 0] 192 (0, 0)) (by (with_reducible repeat (first | apply b1_ | apply b2_ | apply b3_)); exact BK144.out)) : gb146 ≠ gb144)); have n8_ := Aside0.mk ((by rw [hg]; exact Nat.ne_of_lt (blk_lt (g := gb145) (o := .cells #[.float .f32 0, .float .f32 0] 192 (0, 0)) (by (with_reducible repeat (first | apply b1_ | apply b2_ | apply b3_)); exact BK145.out)) : gb145 ≠ gb146)); have n9_ := Aside0.mk ((by rw [hg]; exact Nat.ne_of_gt (blk_lt (g := gb145) (o := .cells #[.float .f32 0, .float .f32 0] 192 (0, 0)) (by (with_reducible repeat (first | apply b1_ | apply b2_ | apply b3_)); exact BK145.out)) : gb146 ≠ gb145)); clear BK144; clear BK145; clear HB; have BK144 := n0_; have BK145 := n1_; have HB := n2_; have BK146 := n3_; have GW146 := n4_; have GE146 := n5_; have NB144_146 := n6_; have NB146_144 := n7_; have NB145_146 := n8_; have NB146_145 := n9_; clear n0_ n1_ n2_ n3_ n4_ n5_ n6_ n7_ n8_ n9_; clear hb hbox hg) | ((with_reducible refine gate_dst (N := 19) rfl ?_); refine R_make0 k195 _ 195 rfl (N := 19) rfl 135 _ _ rfl ji3 rfl rfl Try.underlying135 (.agg #[(.int .u8 0), (.float .f32 0), (.float .f32 0), (.float .f32 0), (.float .f32 0), (.float .f32 0), (.float .f32 0)]) 28 info195 (by decide) (by omega) (ok := fun _ => True) trivial (of_decide_eq_true (by first | (with_reducible assumption) | assumption)) (Nat.le_trans (Nat.mul_le_mul_right _ (of_decide_eq_true (by first | (with_reducible assumption) | assumption) : ji3.toNat ≤ 10052677739666)) (by omega)) (Below.refl _ _) (Nat.le_refl _) ?_; intro v148 w9 ho10 hb hg_ hnew_; clear hg_ hnew_; (first | rw [← Ny147.out] at ho10 | (simp only [Int.reduceToNat] at ho10; rw [← Ny147.out] at ho10)); have n0_ := Aside0.mk (Kd.R_lower ho10 (below_size (by repeat (first | (with_reducible first | exact HB.out | apply below_alloc | apply pw_below_drewN | apply below_drew1 | refine below_set ?_ GE144.out | refine below_set ?_ GE145.out | refine below_set ?_ GE146.out) | exact HB.out)))); have n1_ := Aside0.mk (blk_below (g := gb144) (o := .cells #[.float .f32 0, .float .f32 0] 192 (0, 0)) (by (with_reducible repeat (first | apply b1_ | apply b2_ | apply b3_)); exact BK144.out) hb); have n2_ := Aside0.mk (blk_below (g := gb145) (o := .cells #[.float .f32 0, .float .f32 0] 192 (0, 0)) (by (with_reducible repeat (first | apply b1_ | apply b2_ | apply b3_)); exact BK145.out) hb); have n3_ := Aside0.mk (blk_below (g := gb146) (o := .cells #[.float .f32 0, .float .f32 0] 192 (0, 0)) (by (with_reducible repeat (first | apply b1_ | apply b2_ | apply b3_)); exact BK146.out) hb); have n4_ := Aside0.mk (below_step (by repeat (first | (with_reducible first | exact HB.out | apply below_alloc | apply pw_below_drewN | apply below_drew1 | refine below_set ?_ GE144.out | refine below_set ?_ GE145.out | refine below_set ?_ GE146.out) | exact HB.out)) hb); clear BK144; clear BK145; clear BK146; clear HB; have HO149 := n0_; have BK144 := n1_; have BK145 := n2_; have BK146 := n3_; have HB := n4_; clear n0_ n1_ n2_ n3_ n4_; clear hb ho10))
  go_loopg [3, 4, 5, 9, 22] k (fun kq v3 v4 v5 v9 v22 w' => ∃ (x3_1 : Bool) (x4_1 : Bool) (x5_1 : Bool) (x9_1 : List (S195)) (x22_1 : Int) (x145000_1 : Nat) (x145001_1 : Nat) (x146000_1 : Nat) (x146001_1 : Nat) (x147000_1 : Nat) (x147001_1 : Nat), v3 = .bool x3_1 ∧ v4 = .bool x4_1 ∧ v5 = .bool x5_1 ∧ v22 = .int .i64 x22_1 ∧ Aside0 (font_buildSegments.l0 kq x3_1 x4_1 x5_1 x9_1 l0 (l0.length : Int) x22_1 x145000_1 x145001_1 x146000_1 x146001_1 x147000_1 x147001_1 = some r) ∧ Aside0 (kq ≤ k) ∧ Aside0 (Kd.R k195 195 w' w.heap.size (fun _ => True) v9 x9_1) ∧ Aside0 (w'.heap[gb144]? = some (.cells #[.float .f32 x145000_1, .float .f32 x145001_1] 192 (0, 0))) ∧ Aside0 (w'.heap[gb145]? = some (.cells #[.float .f32 x146000_1, .float .f32 x146001_1] 192 (0, 0))) ∧ Aside0 (w'.heap[gb146]? = some (.cells #[.float .f32 x147000_1, .float .f32 x147001_1] 192 (0, 0))) ∧ Aside0 (Below w.heap.size w w'))
  case atStart => exact ⟨(false), (false), (false), (y147), (0), (0), (0), (0), (0), (0), (0), (by first | rfl | (simp; done) | (simp [*]; done)), (by first | rfl | (simp; done) | (simp [*]; done)), (by first | rfl | (simp; done) | (simp [*]; done)), (by first | rfl | (simp; done) | (simp [*]; done)), H', ⟨Nat.le_refl _⟩, ⟨by (with_reducible repeat (first | apply Kd.R_alloc | apply Kd.R_drewN | apply Kd.R_drew)); exact HO149.out⟩, ⟨by (with_reducible repeat (first | apply b1_ | apply b2_ | apply b3_)); exact BK144.out⟩, ⟨by (with_reducible repeat (first | apply b1_ | apply b2_ | apply b3_)); exact BK145.out⟩, ⟨by (with_reducible repeat (first | apply b1_ | apply b2_ | apply b3_)); exact BK146.out⟩, ⟨by repeat (first | (with_reducible first | exact HB.out | apply below_alloc | apply pw_below_drewN | apply below_drew1 | refine below_set ?_ GE144.out | refine below_set ?_ GE145.out | refine below_set ?_ GE146.out) | exact HB.out)⟩⟩
  case round =>
   clear H'
   (try clear c2); (try clear c2b0); (try clear c2b1); (try clear c2b2); (try clear p2); (try clear c4); (try clear c4b0); (try clear c4b1); (try clear c5); (try clear c5b0); (try clear c5b1); (try clear c6); (try clear p6)
   obtain ⟨x3_1, x4_1, x5_1, x9_1, x22_1, x145000_1, x145001_1, x146000_1, x146001_1, x147000_1, x147001_1, rfl, rfl, rfl, rfl, HA, HK1, HO_9, BK144, BK145, BK146, HB⟩ := hrel
   cases gk with
   | zero => exact absurd HA.out (by simp [font_buildSegments.l0])
   | succ k1 =>
    have H := HA.out
    clear HA
    simp only [font_buildSegments.l0] at H
    by_cases c11 : x22_1 < (l0.length : Int)
    ·rw [if_pos c11] at H
     have c11b0 : decide (x22_1 < (l0.length : Int)) = true := decide_eq_true c11
     clear c11
     by_cases c12 : 0 ≤ x22_1
     rotate_left
     ·rw [if_neg c12] at H
      exact absurd H (by simp)
     rw [if_pos c12] at H
     have c12b0 : decide (0 ≤ x22_1) = true := decide_eq_true c12
     clear c12
     by_cases c13 : x22_1 < (l0.length : Int)
     rotate_left
     ·rw [if_neg c13] at H
      exact absurd H (by simp)
     rw [if_pos c13] at H
     have c13b0 : decide (x22_1 < (l0.length : Int)) = true := decide_eq_true c13
     clear c13
     have HC14 := Aside0.mk H
     clear H
     have p150 : 0 ≤ (x22_1 : Int) := of_decide_eq_true (by first | (with_reducible assumption) | assumption)
     have q150 : x22_1 < (l0.length : Int) := of_decide_eq_true (by first | (with_reducible assumption) | assumption)
     obtain ⟨ad150, e150, hx150_0, hx150_1, hx150_2, hx150_3, hx150_4⟩ := at_T198 HR0.out x22_1 p150 q150
     cases e150
     replace hx150_0 := (HB.out.cell (World.block_lt_of_cell? w _ hx150_0)).trans hx150_0
     replace hx150_1 := (HB.out.cell (World.block_lt_of_cell? w _ hx150_1)).trans hx150_1
     replace hx150_2 := (HB.out.cell (World.block_lt_of_cell? w _ hx150_2)).trans hx150_2
     replace hx150_3 := (HB.out.cell (World.block_lt_of_cell? w _ hx150_3)).trans hx150_3
     replace hx150_4 := (HB.out.cell (World.block_lt_of_cell? w _ hx150_4)).trans hx150_4
     replace p150 := eq_true p150
     replace q150 := eq_true q150
     go_upto_if 29 with (first | ((with_reducible refine gate_dst (N := 11) rfl ?_); refine box_event ?hg (N := 11) ?hd (cs := #[.float .f32 0, .float .f32 0, .bool false, .bool false, .bool false]) (t := 198) ?hr ?_; (case hd => rfl); (case hg => rfl); (case hr => first | (go_simp; done) | (go_simp; rfl)); intro gb151 hg w15 hbox hb; have n0_ := Aside0.mk (Kd.R_below (by (with_reducible repeat (first | apply Kd.R_alloc | apply Kd.R_drewN | apply Kd.R_drew)); exact HO_9.out) hb); have n1_ := Aside0.mk (blk_below (g := gb144) (o := .cells #[.float .f32 x145000_1, .float .f32 x145001_1] 192 (0, 0)) (by (with_reducible repeat (first | apply b1_ | apply b2_ | apply b3_)); exact BK144.out) hb); have n2_ := Aside0.mk (blk_below (g := gb145) (o := .cells #[.float .f32 x146000_1, .float .f32 x146001_1] 192 (0, 0)) (by (with_reducible repeat (first | apply b1_ | apply b2_ | apply b3_)); exact BK145.out) hb); have n3_ := Aside0.mk (blk_below (g := gb146) (o := .cells #[.float .f32 x147000_1, .float .f32 x147001_1] 192 (0, 0)) (by (with_reducible repeat (first | apply b1_ | apply b2_ | apply b3_)); exact BK146.out) hb); have n4_ := Aside0.mk (below_step (by repeat (first | (with_reducible first | exact HB.out | apply below_alloc | apply pw_below_drewN | apply below_drew1 | refine below_set ?_ GE144.out | refine below_set ?_ GE145.out | refine below_set ?_ GE146.out) | exact HB.out)) hb); have n5_ := Aside0.mk (hbox); have n6_ := Aside0.mk ((by rw [hg]; exact (below_size (by repeat (first | (with_reducible first | exact HB.out | apply below_alloc | apply pw_below_drewN | apply below_drew1 | refine below_set ?_ GE144.out | refine below_set ?_ GE145.out | refine below_set ?_ GE146.out) | exact HB.out))) : w.heap.size ≤ gb151)); have n7_ := Aside0.mk ((by rw [hg]; exact (below_size (by repeat (first | (with_reducible first | exact HB.out | apply below_alloc | apply pw_below_drewN | apply below_drew1 | refine below_set ?_ GE144.out | refine below_set ?_ GE145.out | refine below_set ?_ GE146.out) | exact HB.out))) : w.heap.size ≤ gb151)); have n8_ := Aside0.mk ((by rw [hg]; exact Nat.ne_of_lt (blk_lt (g := gb144) (o := .cells #[.float .f32 x145000_1, .float .f32 x145001_1] 192 (0, 0)) (by (with_reducible repeat (first | apply b1_ | apply b2_ | apply b3_)); exact BK144.out)) : gb144 ≠ gb151)); have n9_ := Aside0.mk ((by rw [hg]; exact Nat.ne_of_gt (blk_lt (g := gb144) (o := .cells #[.float .f32 x145000_1, .float .f32 x145001_1] 192 (0, 0)) (by (with_reducible repeat (first | apply b1_ | apply b2_ | apply b3_)); exact BK144.out)) : gb151 ≠ gb144)); have n10_ := Aside0.mk ((by rw [hg]; exact Nat.ne_of_lt (blk_lt (g := gb145) (o := .cells #[.float .f32 x146000_1, .float .f32 x146001_1] 192 (0, 0)) (by (with_reducible repeat (first | apply b1_ | apply b2_ | apply b3_)); exact BK145.out)) : gb145 ≠ gb151)); have n11_ := Aside0.mk ((by rw [hg]; exact Nat.ne_of_gt (blk_lt (g := gb145) (o := .cells #[.float .f32 x146000_1, .float .f32 x146001_1] 192 (0, 0)) (by (with_reducible repeat (first | apply b1_ | apply b2_ | apply b3_)); exact BK145.out)) : gb151 ≠ gb145)); have n12_ := Aside0.mk ((by rw [hg]; exact Nat.ne_of_lt (blk_lt (g := gb146) (o := .cells #[.float .f32 x147000_1, .float .f32 x147001_1] 192 (0, 0)) (by (with_reducible repeat (first | apply b1_ | apply b2_ | apply b3_)); exact BK146.out)) : gb146 ≠ gb151)); have n13_ := Aside0.mk ((by rw [hg]; exact Nat.ne_of_gt (blk_lt (g := gb146) (o := .cells #[.float .f32 x147000_1, .float .f32 x147001_1] 192 (0, 0)) (by (with_reducible repeat (first | apply b1_ | apply b2_ | apply b3_)); exact BK146.out)) : gb151 ≠ gb146)); clear HO_9; clear BK144; clear BK145; clear BK146; clear HB; have HO_9 := n0_; have BK144 := n1_; have BK145 := n2_; have BK146 := n3_; have HB := n4_; have BK151 := n5_; have GW151 := n6_; have GE151 := n7_; have NB144_151 := n8_; have NB151_144 := n9_; have NB145_151 := n10_; have NB151_145 := n11_; have NB146_151 := n12_; have NB151_146 := n13_; clear n0_ n1_ n2_ n3_ n4_ n5_ n6_ n7_ n8_ n9_ n10_ n11_ n12_ n13_; clear hb hbox hg; have hnb16 := NB151_144.out; have hnc16 := NB144_151.out; have hnb17 := NB151_145.out; have hnc17 := NB145_151.out; have hnb18 := NB151_146.out; have hnc18 := NB146_151.out; have hcz19_0 : w15.cell? ⟨gb151, 0, none⟩ = some (.float .f32 0) := (blk_cell BK151.out 0).trans rfl; have hcz19_1 : w15.cell? ⟨gb151, 1, none⟩ = some (.float .f32 0) := (blk_cell BK151.out 1).trans rfl; have hcz19_2 : w15.cell? ⟨gb151, 2, none⟩ = some (.bool false) := (blk_cell BK151.out 2).trans rfl; have hcz19_3 : w15.cell? ⟨gb151, 3, none⟩ = some (.bool false) := (blk_cell BK151.out 3).trans rfl; have hcz19_4 : w15.cell? ⟨gb151, 4, none⟩ = some (.bool false) := (blk_cell BK151.out 4).trans rfl; have hfz19_0 := blk_frozen BK151.out 0; have hfz19_1 := blk_frozen BK151.out 1; have hfz19_2 := blk_frozen BK151.out 2; have hfz19_3 := blk_frozen BK151.out 3; have hfz19_4 := blk_frozen BK151.out 4) | ((with_reducible refine gate_dst (N := 12) rfl ?_); refine box_event ?hg (N := 12) ?hd (cs := #[.float .f32 0, .float .f32 0]) (t := 192) ?hr ?_; (case hd => rfl); (case hg => rfl); (case hr => first | (go_simp; done) | (go_simp; rfl)); intro gb152 hg w20 hbox hb; have n0_ := Aside0.mk (Kd.R_below (by (with_reducible repeat (first | apply Kd.R_alloc | apply Kd.R_drewN | apply Kd.R_drew)); exact (Kd.R_mono (Kd.R_far (p := ⟨gb151, 4, none⟩) (Kd.R_far (p := ⟨gb151, 3, none⟩) (Kd.R_far (p := ⟨gb151, 2, none⟩) (Kd.R_far (p := ⟨gb151, 1, none⟩) (Kd.R_far (p := ⟨gb151, 0, none⟩) (Kd.R_types HO_9.out BK151.out (by decide)) (fun _ hk => hk.2) (.float .f32 ((rd_T198 l0 x22_1).f0.f0))) (fun _ hk => hk.2) (.float .f32 ((rd_T198 l0 x22_1).f0.f1))) (fun _ hk => hk.2) (.bool ((rd_T198 l0 x22_1).f1))) (fun _ hk => hk.2) (.bool ((rd_T198 l0 x22_1).f2))) (fun _ hk => hk.2) (.bool ((rd_T198 l0 x22_1).f3))) (fun _ h_ => h_.1))) hb); have n1_ := Aside0.mk (blk_below (g := gb144) (o := .cells #[.float .f32 x145000_1, .float .f32 x145001_1] 192 (0, 0)) (by (with_reducible repeat (first | apply b1_ | apply b2_ | apply b3_)); refine blk_far ?_ NB144_151.out _; (with_reducible repeat (first | apply b1_ | apply b2_ | apply b3_)); refine blk_far ?_ NB144_151.out _; (with_reducible repeat (first | apply b1_ | apply b2_ | apply b3_)); refine blk_far ?_ NB144_151.out _; (with_reducible repeat (first | apply b1_ | apply b2_ | apply b3_)); refine blk_far ?_ NB144_151.out _; (with_reducible repeat (first | apply b1_ | apply b2_ | apply b3_)); refine blk_far ?_ NB144_151.out _; (with_reducible repeat (first | apply b1_ | apply b2_ | apply b3_)); exact BK144.out) hb); have n2_ := Aside0.mk (blk_below (g := gb145) (o := .cells #[.float .f32 x146000_1, .float .f32 x146001_1] 192 (0, 0)) (by (with_reducible repeat (first | apply b1_ | apply b2_ | apply b3_)); refine blk_far ?_ NB145_151.out _; (with_reducible repeat (first | apply b1_ | apply b2_ | apply b3_)); refine blk_far ?_ NB145_151.out _; (with_reducible repeat (first | apply b1_ | apply b2_ | apply b3_)); refine blk_far ?_ NB145_151.out _; (with_reducible repeat (first | apply b1_ | apply b2_ | apply b3_)); refine blk_far ?_ NB145_151.out _; (with_reducible repeat (first | apply b1_ | apply b2_ | apply b3_)); refine blk_far ?_ NB145_151.out _; (with_reducible repeat (first | apply b1_ | apply b2_ | apply b3_)); exact BK145.out) hb); have n3_ := Aside0.mk (blk_below (g := gb146) (o := .cells #[.float .f32 x147000_1, .float .f32 x147001_1] 192 (0, 0)) (by (with_reducible repeat (first | apply b1_ | apply b2_ | apply b3_)); refine blk_far ?_ NB146_151.out _; (with_reducible repeat (first | apply b1_ | apply b2_ | apply b3_)); refine blk_far ?_ NB146_151.out _; (with_reducible repeat (first | apply b1_ | apply b2_ | apply b3_)); refine blk_far ?_ NB146_151.out _; (with_reducible repeat (first | apply b1_ | apply b2_ | apply b3_)); refine blk_far ?_ NB146_151.out _; (with_reducible repeat (first | apply b1_ | apply b2_ | apply b3_)); refine blk_far ?_ NB146_151.out _; (with_reducible repeat (first | apply b1_ | apply b2_ | apply b3_)); exact BK146.out) hb); have n4_ := Aside0.mk (blk_below (g := gb151) (o := .cells #[.float .f32 ((rd_T198 l0 x22_1).f0.f0), .float .f32 ((rd_T198 l0 x22_1).f0.f1), .bool ((rd_T198 l0 x22_1).f1), .bool ((rd_T198 l0 x22_1).f2), .bool ((rd_T198 l0 x22_1).f3)] 198 (0, 0)) (by (with_reducible repeat (first | apply b1_ | apply b2_ | apply b3_)); refine blk_put (cs := #[.float .f32 ((rd_T198 l0 x22_1).f0.f0), .float .f32 ((rd_T198 l0 x22_1).f0.f1), .bool ((rd_T198 l0 x22_1).f1), .bool ((rd_T198 l0 x22_1).f2), .bool false]) ?_ 4 _ rfl; (with_reducible repeat (first | apply b1_ | apply b2_ | apply b3_)); refine blk_put (cs := #[.float .f32 ((rd_T198 l0 x22_1).f0.f0), .float .f32 ((rd_T198 l0 x22_1).f0.f1), .bool ((rd_T198 l0 x22_1).f1), .bool false, .bool false]) ?_ 3 _ rfl; (with_reducible repeat (first | apply b1_ | apply b2_ | apply b3_)); refine blk_put (cs := #[.float .f32 ((rd_T198 l0 x22_1).f0.f0), .float .f32 ((rd_T198 l0 x22_1).f0.f1), .bool false, .bool false, .bool false]) ?_ 2 _ rfl; (with_reducible repeat (first | apply b1_ | apply b2_ | apply b3_)); refine blk_put (cs := #[.float .f32 ((rd_T198 l0 x22_1).f0.f0), .float .f32 0, .bool false, .bool false, .bool false]) ?_ 1 _ rfl; (with_reducible repeat (first | apply b1_ | apply b2_ | apply b3_)); refine blk_put (cs := #[.float .f32 0, .float .f32 0, .bool false, .bool false, .bool false]) ?_ 0 _ rfl; (with_reducible repeat (first | apply b1_ | apply b2_ | apply b3_)); exact BK151.out) hb); have n5_ := Aside0.mk (below_step (by repeat (first | (with_reducible first | exact HB.out | apply below_alloc | apply pw_below_drewN | apply below_drew1 | refine below_set ?_ GE144.out | refine below_set ?_ GE145.out | refine below_set ?_ GE146.out | refine below_set ?_ GE151.out) | exact HB.out)) hb); have n6_ := Aside0.mk (hbox); have n7_ := Aside0.mk ((by rw [hg]; exact (below_size (by repeat (first | (with_reducible first | exact HB.out | apply below_alloc | apply pw_below_drewN | apply below_drew1 | refine below_set ?_ GE144.out | refine below_set ?_ GE145.out | refine below_set ?_ GE146.out | refine below_set ?_ GE151.out) | exact HB.out))) : w.heap.size ≤ gb152)); have n8_ := Aside0.mk ((by rw [hg]; exact (below_size (by repeat (first | (with_reducible first | exact HB.out | apply below_alloc | apply pw_below_drewN | apply below_drew1 | refine below_set ?_ GE144.out | refine below_set ?_ GE145.out | refine below_set ?_ GE146.out | refine below_set ?_ GE151.out) | exact HB.out))) : w.heap.size ≤ gb152)); have n9_ := Aside0.mk ((by rw [hg]; exact Nat.ne_of_lt (blk_lt (g := gb144) (o := .cells #[.float .f32 x145000_1, .float .f32 x145001_1] 192 (0, 0)) (by (with_reducible repeat (first | apply b1_ | apply b2_ | apply b3_)); refine blk_far ?_ NB144_151.out _; (with_reducible repeat (first | apply b1_ | apply b2_ | apply b3_)); refine blk_far ?_ NB144_151.out _; (with_reducible repeat (first | apply b1_ | apply b2_ | apply b3_)); refine blk_far ?_ NB144_151.out _; (with_reducible repeat (first | apply b1_ | apply b2_ | apply b3_)); refine blk_far ?_ NB144_151.out _; (with_reducible repeat (first | apply b1_ | apply b2_ | apply b3_)); refine blk_far ?_ NB144_151.out _; (with_reducible repeat (first | apply b1_ | apply b2_ | apply b3_)); exact BK144.out)) : gb144 ≠ gb152)); have n10_ := Aside0.mk ((by rw [hg]; exact Nat.ne_of_gt (blk_lt (g := gb144) (o := .cells #[.float .f32 x145000_1, .float .f32 x145001_1] 192 (0, 0)) (by (with_reducible repeat (first | apply b1_ | apply b2_ | apply b3_)); refine blk_far ?_ NB144_151.out _; (with_reducible repeat (first | apply b1_ | apply b2_ | apply b3_)); refine blk_far ?_ NB144_151.out _; (with_reducible repeat (first | apply b1_ | apply b2_ | apply b3_)); refine blk_far ?_ NB144_151.out _; (with_reducible repeat (first | apply b1_ | apply b2_ | apply b3_)); refine blk_far ?_ NB144_151.out _; (with_reducible repeat (first | apply b1_ | apply b2_ | apply b3_)); refine blk_far ?_ NB144_151.out _; (with_reducible repeat (first | apply b1_ | apply b2_ | apply b3_)); exact BK144.out)) : gb152 ≠ gb144)); have n11_ := Aside0.mk ((by rw [hg]; exact Nat.ne_of_lt (blk_lt (g := gb145) (o := .cells #[.float .f32 x146000_1, .float .f32 x146001_1] 192 (0, 0)) (by (with_reducible repeat (first | apply b1_ | apply b2_ | apply b3_)); refine blk_far ?_ NB145_151.out _; (with_reducible repeat (first | apply b1_ | apply b2_ | apply b3_)); refine blk_far ?_ NB145_151.out _; (with_reducible repeat (first | apply b1_ | apply b2_ | apply b3_)); refine blk_far ?_ NB145_151.out _; (with_reducible repeat (first | apply b1_ | apply b2_ | apply b3_)); refine blk_far ?_ NB145_151.out _; (with_reducible repeat (first | apply b1_ | apply b2_ | apply b3_)); refine blk_far ?_ NB145_151.out _; (with_reducible repeat (first | apply b1_ | apply b2_ | apply b3_)); exact BK145.out)) : gb145 ≠ gb152)); have n12_ := Aside0.mk ((by rw [hg]; exact Nat.ne_of_gt (blk_lt (g := gb145) (o := .cells #[.float .f32 x146000_1, .float .f32 x146001_1] 192 (0, 0)) (by (with_reducible repeat (first | apply b1_ | apply b2_ | apply b3_)); refine blk_far ?_ NB145_151.out _; (with_reducible repeat (first | apply b1_ | apply b2_ | apply b3_)); refine blk_far ?_ NB145_151.out _; (with_reducible repeat (first | apply b1_ | apply b2_ | apply b3_)); refine blk_far ?_ NB145_151.out _; (with_reducible repeat (first | apply b1_ | apply b2_ | apply b3_)); refine blk_far ?_ NB145_151.out _; (with_reducible repeat (first | apply b1_ | apply b2_ | apply b3_)); refine blk_far ?_ NB145_151.out _; (with_reducible repeat (first | apply b1_ | apply b2_ | apply b3_)); exact BK145.out)) : gb152 ≠ gb145)); have n13_ := Aside0.mk ((by rw [hg]; exact Nat.ne_of_lt (blk_lt (g := gb146) (o := .cells #[.float .f32 x147000_1, .float .f32 x147001_1] 192 (0, 0)) (by (with_reducible repeat (first | apply b1_ | apply b2_ | apply b3_)); refine blk_far ?_ NB146_151.out _; (with_reducible repeat (first | apply b1_ | apply b2_ | apply b3_)); refine blk_far ?_ NB146_151.out _; (with_reducible repeat (first | apply b1_ | apply b2_ | apply b3_)); refine blk_far ?_ NB146_151.out _; (with_reducible repeat (first | apply b1_ | apply b2_ | apply b3_)); refine blk_far ?_ NB146_151.out _; (with_reducible repeat (first | apply b1_ | apply b2_ | apply b3_)); refine blk_far ?_ NB146_151.out _; (with_reducible repeat (first | apply b1_ | apply b2_ | apply b3_)); exact BK146.out)) : gb146 ≠ gb152)); have n14_ := Aside0.mk ((by rw [hg]; exact Nat.ne_of_gt (blk_lt (g := gb146) (o := .cells #[.float .f32 x147000_1, .float .f32 x147001_1] 192 (0, 0)) (by (with_reducible repeat (first | apply b1_ | apply b2_ | apply b3_)); refine blk_far ?_ NB146_151.out _; (with_reducible repeat (first | apply b1_ | apply b2_ | apply b3_)); refine blk_far ?_ NB146_151.out _; (with_reducible repeat (first | apply b1_ | apply b2_ | apply b3_)); refine blk_far ?_ NB146_151.out _; (with_reducible repeat (first | apply b1_ | apply b2_ | apply b3_)); refine blk_far ?_ NB146_151.out _; (with_reducible repeat (first | apply b1_ | apply b2_ | apply b3_)); refine blk_far ?_ NB146_151.out _; (with_reducible repeat (first | apply b1_ | apply b2_ | apply b3_)); exact BK146.out)) : gb152 ≠ gb146)); have n15_ := Aside0.mk ((by rw [hg]; exact Nat.ne_of_lt (blk_lt (g := gb151) (o := .cells #[.float .f32 ((rd_T198 l0 x22_1).f0.f0), .float .f32 ((rd_T198 l0 x22_1).f0.f1), .bool ((rd_T198 l0 x22_1).f1), .bool ((rd_T198 l0 x22_1).f2), .bool ((rd_T198 l0 x22_1).f3)] 198 (0, 0)) (by (with_reducible repeat (first | apply b1_ | apply b2_ | apply b3_)); refine blk_put (cs := #[.float .f32 ((rd_T198 l0 x22_1).f0.f0), .float .f32 ((rd_T198 l0 x22_1).f0.f1), .bool ((rd_T198 l0 x22_1).f1), .bool ((rd_T198 l0 x22_1).f2), .bool false]) ?_ 4 _ rfl; (with_reducible repeat (first | apply b1_ | apply b2_ | apply b3_)); refine blk_put (cs := #[.float .f32 ((rd_T198 l0 x22_1).f0.f0), .float .f32 ((rd_T198 l0 x22_1).f0.f1), .bool ((rd_T198 l0 x22_1).f1), .bool false, .bool false]) ?_ 3 _ rfl; (with_reducible repeat (first | apply b1_ | apply b2_ | apply b3_)); refine blk_put (cs := #[.float .f32 ((rd_T198 l0 x22_1).f0.f0), .float .f32 ((rd_T198 l0 x22_1).f0.f1), .bool false, .bool false, .bool false]) ?_ 2 _ rfl; (with_reducible repeat (first | apply b1_ | apply b2_ | apply b3_)); refine blk_put (cs := #[.float .f32 ((rd_T198 l0 x22_1).f0.f0), .float .f32 0, .bool false, .bool false, .bool false]) ?_ 1 _ rfl; (with_reducible repeat (first | apply b1_ | apply b2_ | apply b3_)); refine blk_put (cs := #[.float .f32 0, .float .f32 0, .bool false, .bool false, .bool false]) ?_ 0 _ rfl; (with_reducible repeat (first | apply b1_ | apply b2_ | apply b3_)); exact BK151.out)) : gb151 ≠ gb152)); have n16_ := Aside0.mk ((by rw [hg]; exact Nat.ne_of_gt (blk_lt (g := gb151) (o := .cells #[.float .f32 ((rd_T198 l0 x22_1).f0.f0), .float .f32 ((rd_T198 l0 x22_1).f0.f1), .bool ((rd_T198 l0 x22_1).f1), .bool ((rd_T198 l0 x22_1).f2), .bool ((rd_T198 l0 x22_1).f3)] 198 (0, 0)) (by (with_reducible repeat (first | apply b1_ | apply b2_ | apply b3_)); refine blk_put (cs := #[.float .f32 ((rd_T198 l0 x22_1).f0.f0), .float .f32 ((rd_T198 l0 x22_1).f0.f1), .bool ((rd_T198 l0 x22_1).f1), .bool ((rd_T198 l0 x22_1).f2), .bool false]) ?_ 4 _ rfl; (with_reducible repeat (first | apply b1_ | apply b2_ | apply b3_)); refine blk_put (cs := #[.float .f32 ((rd_T198 l0 x22_1).f0.f0), .float .f32 ((rd_T198 l0 x22_1).f0.f1), .bool ((rd_T198 l0 x22_1).f1), .bool false, .bool false]) ?_ 3 _ rfl; (with_reducible repeat (first | apply b1_ | apply b2_ | apply b3_)); refine blk_put (cs := #[.float .f32 ((rd_T198 l0 x22_1).f0.f0), .float .f32 ((rd_T198 l0 x22_1).f0.f1), .bool false, .bool false, .bool false]) ?_ 2 _ rfl; (with_reducible repeat (first | apply b1_ | apply b2_ | apply b3_)); refine blk_put (cs := #[.float .f32 ((rd_T198 l0 x22_1).f0.f0), .float .f32 0, .bool false, .bool false, .bool false]) ?_ 1 _ rfl; (with_reducible repeat (first | apply b1_ | apply b2_ | apply b3_)); refine blk_put (cs := #[.float .f32 0, .float .f32 0, .bool false, .bool false, .bool false]) ?_ 0 _ rfl; (with_reducible repeat (first | apply b1_ | apply b2_ | apply b3_)); exact BK151.out)) : gb152 ≠ gb151)); clear HO_9; clear BK144; clear BK145; clear BK146; clear BK151; clear HB; have HO_9 := n0_; have BK144 := n1_; have BK145 := n2_; have BK146 := n3_; have BK151 := n4_; have HB := n5_; have BK152 := n6_; have GW152 := n7_; have GE152 := n8_; have NB144_152 := n9_; have NB152_144 := n10_; have NB145_152 := n11_; have NB152_145 := n12_; have NB146_152 := n13_; have NB152_146 := n14_; have NB151_152 := n15_; have NB152_151 := n16_; clear n0_ n1_ n2_ n3_ n4_ n5_ n6_ n7_ n8_ n9_ n10_ n11_ n12_ n13_ n14_ n15_ n16_; clear hb hbox hg; have hnb21 := NB152_144.out; have hnc21 := NB144_152.out; have hnb22 := NB152_145.out; have hnc22 := NB145_152.out; have hnb23 := NB152_146.out; have hnc23 := NB146_152.out; have hnb24 := NB152_151.out; have hnc24 := NB151_152.out; have hcz25_0 : w20.cell? ⟨gb152, 0, none⟩ = some (.float .f32 0) := (blk_cell BK152.out 0).trans rfl; have hcz25_1 : w20.cell? ⟨gb152, 1, none⟩ = some (.float .f32 0) := (blk_cell BK152.out 1).trans rfl; have hfz25_0 := blk_frozen BK152.out 0; have hfz25_1 := blk_frozen BK152.out 1))
     (try simp only [Act.put, L1_, L2_, L3_])
     go_cut [3, 4, 5, 9] (fun v3 v4 v5 v9 wc => ∃ (kq : Nat) (x3_13 : Bool) (x4_13 : Bool) (x5_13 : Bool) (x9_13 : List (S195)) (x145000_13 : Nat) (x145001_13 : Nat) (x146000_13 : Nat) (x146001_13 : Nat) (x147000_13 : Nat) (x147001_13 : Nat), v3 = .bool x3_13 ∧ v4 = .bool x4_13 ∧ v5 = .bool x5_13 ∧ Aside0 (font_buildSegments.j1 kq x3_13 x4_13 x5_13 x9_13 l0 (l0.length : Int) x22_1 x145000_13 x145001_13 x146000_13 x146001_13 x147000_13 x147001_13 ((rd_T198 l0 x22_1).f0.f0) ((rd_T198 l0 x22_1).f0.f1) ((rd_T198 l0 x22_1).f1) ((rd_T198 l0 x22_1).f2) ((rd_T198 l0 x22_1).f3) = some r) ∧ Aside0 (kq ≤ k1) ∧ Aside0 (Kd.R k195 195 wc w.heap.size (fun _ => True) v9 x9_13) ∧ Aside0 (wc.heap[gb144]? = some (.cells #[.float .f32 x145000_13, .float .f32 x145001_13] 192 (0, 0))) ∧ Aside0 (wc.heap[gb145]? = some (.cells #[.float .f32 x146000_13, .float .f32 x146001_13] 192 (0, 0))) ∧ Aside0 (wc.heap[gb146]? = some (.cells #[.float .f32 x147000_13, .float .f32 x147001_13] 192 (0, 0))) ∧ Aside0 (wc.heap[gb151]? = some (.cells #[.float .f32 ((rd_T198 l0 x22_1).f0.f0), .float .f32 ((rd_T198 l0 x22_1).f0.f1), .bool ((rd_T198 l0 x22_1).f1), .bool ((rd_T198 l0 x22_1).f2), .bool ((rd_T198 l0 x22_1).f3)] 198 (0, 0))) ∧ Aside0 (wc.heap[gb152]? = some (.cells #[.float .f32 ((rd_T198 l0 x22_1).f0.f0), .float .f32 ((rd_T198 l0 x22_1).f0.f1)] 192 (0, 0))) ∧ Aside0 (Below w.heap.size w wc))
     case first =>
      have H := HC14.out
      clear HC14
      by_cases c26 : x3_1 = true
      ·subst c26
       have H1 : (if x5_1 = true then (if ((rd_T198 l0 x22_1).f1 = true) then (if x9_1.length < 5026338869833 then (font_buildSegments.j1 k1 true x4_1 false (x9_1 ++ [(⟨2, (⟨(⟨x147000_1, x147001_1⟩ : S192), (⟨(rd_T198 l0 x22_1).f0.f0, (rd_T198 l0 x22_1).f0.f1⟩ : S192), (⟨0, 0⟩ : S192)⟩ : S193)⟩ : S195)]) l0 (l0.length : Int) x22_1 x145000_1 x145001_1 x146000_1 x146001_1 x147000_1 x147001_1 ((rd_T198 l0 x22_1).f0.f0) ((rd_T198 l0 x22_1).f0.f1) ((rd_T198 l0 x22_1).f1) ((rd_T198 l0 x22_1).f2) ((rd_T198 l0 x22_1).f3)) else (none)) else ((font_midPoint.f x147000_1 x147001_1 ((rd_T198 l0 x22_1).f0.f0) ((rd_T198 l0 x22_1).f0.f1)).bind fun bt156 => (if x9_1.length < 5026338869833 then (font_buildSegments.j1 k1 true x4_1 true (x9_1 ++ [(⟨2, (⟨(⟨x147000_1, x147001_1⟩ : S192), (⟨bt156.1, bt156.2⟩ : S192), (⟨0, 0⟩ : S192)⟩ : S193)⟩ : S195)]) l0 (l0.length : Int) x22_1 x145000_1 x145001_1 x146000_1 x146001_1 ((rd_T198 l0 x22_1).f0.f0) ((rd_T198 l0 x22_1).f0.f1) ((rd_T198 l0 x22_1).f0.f0) ((rd_T198 l0 x22_1).f0.f1) ((rd_T198 l0 x22_1).f1) ((rd_T198 l0 x22_1).f2) ((rd_T198 l0 x22_1).f3)) else (none)))) else (if ((rd_T198 l0 x22_1).f1 = true) then (if x9_1.length < 5026338869833 then (font_buildSegments.j1 k1 true x4_1 x5_1 (x9_1 ++ [(⟨1, (⟨(⟨(rd_T198 l0 x22_1).f0.f0, (rd_T198 l0 x22_1).f0.f1⟩ : S192), (⟨0, 0⟩ : S192), (⟨0, 0⟩ : S192)⟩ : S193)⟩ : S195)]) l0 (l0.length : Int) x22_1 x145000_1 x145001_1 x146000_1 x146001_1 x147000_1 x147001_1 ((rd_T198 l0 x22_1).f0.f0) ((rd_T198 l0 x22_1).f0.f1) ((rd_T198 l0 x22_1).f1) ((rd_T198 l0 x22_1).f2) ((rd_T198 l0 x22_1).f3)) else (none)) else (if ((rd_T198 l0 x22_1).f2 = true) then (font_buildSegments.j1 k1 true x4_1 true x9_1 l0 (l0.length : Int) x22_1 x145000_1 x145001_1 x146000_1 x146001_1 ((rd_T198 l0 x22_1).f0.f0) ((rd_T198 l0 x22_1).f0.f1) ((rd_T198 l0 x22_1).f0.f0) ((rd_T198 l0 x22_1).f0.f1) ((rd_T198 l0 x22_1).f1) ((rd_T198 l0 x22_1).f2) ((rd_T198 l0 x22_1).f3)) else (font_buildSegments.l0 k1 true x4_1 true x9_1 l0 (l0.length : Int) (wrap64 (x22_1 + 1)) x145000_1 x145001_1 x146000_1 x146001_1 ((rd_T198 l0 x22_1).f0.f0) ((rd_T198 l0 x22_1).f0.f1))))) = some r := by rw [if_pos rfl] at H; exact H
       clear H
       have H := H1
       clear H1
       by_cases c27 : x5_1 = true
       ·subst c27
        have H1 : (if ((rd_T198 l0 x22_1).f1 = true) then (if x9_1.length < 5026338869833 then (font_buildSegments.j1 k1 true x4_1 false (x9_1 ++ [(⟨2, (⟨(⟨x147000_1, x147001_1⟩ : S192), (⟨(rd_T198 l0 x22_1).f0.f0, (rd_T198 l0 x22_1).f0.f1⟩ : S192), (⟨0, 0⟩ : S192)⟩ : S193)⟩ : S195)]) l0 (l0.length : Int) x22_1 x145000_1 x145001_1 x146000_1 x146001_1 x147000_1 x147001_1 ((rd_T198 l0 x22_1).f0.f0) ((rd_T198 l0 x22_1).f0.f1) ((rd_T198 l0 x22_1).f1) ((rd_T198 l0 x22_1).f2) ((rd_T198 l0 x22_1).f3)) else (none)) else ((font_midPoint.f x147000_1 x147001_1 ((rd_T198 l0 x22_1).f0.f0) ((rd_T198 l0 x22_1).f0.f1)).bind fun bt156 => (if x9_1.length < 5026338869833 then (font_buildSegments.j1 k1 true x4_1 true (x9_1 ++ [(⟨2, (⟨(⟨x147000_1, x147001_1⟩ : S192), (⟨bt156.1, bt156.2⟩ : S192), (⟨0, 0⟩ : S192)⟩ : S193)⟩ : S195)]) l0 (l0.length : Int) x22_1 x145000_1 x145001_1 x146000_1 x146001_1 ((rd_T198 l0 x22_1).f0.f0) ((rd_T198 l0 x22_1).f0.f1) ((rd_T198 l0 x22_1).f0.f0) ((rd_T198 l0 x22_1).f0.f1) ((rd_T198 l0 x22_1).f1) ((rd_T198 l0 x22_1).f2) ((rd_T198 l0 x22_1).f3)) else (none)))) = some r := by rw [if_pos rfl] at H; exact H
        clear H
        have H := H1
        clear H1
        obtain ⟨bq28, hbq28⟩ : ∃ b_ : Bool, b_ = ((rd_T198 l0 x22_1).f1) := ⟨_, rfl⟩
        replace H : (if (bq28 = true) then (if x9_1.length < 5026338869833 then (font_buildSegments.j1 k1 true x4_1 false (x9_1 ++ [(⟨2, (⟨(⟨x147000_1, x147001_1⟩ : S192), (⟨(rd_T198 l0 x22_1).f0.f0, (rd_T198 l0 x22_1).f0.f1⟩ : S192), (⟨0, 0⟩ : S192)⟩ : S193)⟩ : S195)]) l0 (l0.length : Int) x22_1 x145000_1 x145001_1 x146000_1 x146001_1 x147000_1 x147001_1 ((rd_T198 l0 x22_1).f0.f0) ((rd_T198 l0 x22_1).f0.f1) bq28 ((rd_T198 l0 x22_1).f2) ((rd_T198 l0 x22_1).f3)) else (none)) else ((font_midPoint.f x147000_1 x147001_1 ((rd_T198 l0 x22_1).f0.f0) ((rd_T198 l0 x22_1).f0.f1)).bind fun bt156 => (if x9_1.length < 5026338869833 then (font_buildSegments.j1 k1 true x4_1 true (x9_1 ++ [(⟨2, (⟨(⟨x147000_1, x147001_1⟩ : S192), (⟨bt156.1, bt156.2⟩ : S192), (⟨0, 0⟩ : S192)⟩ : S193)⟩ : S195)]) l0 (l0.length : Int) x22_1 x145000_1 x145001_1 x146000_1 x146001_1 ((rd_T198 l0 x22_1).f0.f0) ((rd_T198 l0 x22_1).f0.f1) ((rd_T198 l0 x22_1).f0.f0) ((rd_T198 l0 x22_1).f0.f1) bq28 ((rd_T198 l0 x22_1).f2) ((rd_T198 l0 x22_1).f3)) else (none)))) = some r := by rw [← hbq28] at H; exact H
        have Nbq28 := Aside0.mk hbq28
        try (have B0_ := BK151.out; rw [← Nbq28.out] at B0_; replace BK151 := Aside0.mk B0_; clear B0_)
        clear hbq28
        (try rw [← Nbq28.out])
        by_cases c29 : (bq28 = true)
        ·subst c29
         have H1 : (if x9_1.length < 5026338869833 then (font_buildSegments.j1 k1 true x4_1 false (x9_1 ++ [(⟨2, (⟨(⟨x147000_1, x147001_1⟩ : S192), (⟨(rd_T198 l0 x22_1).f0.f0, (rd_T198 l0 x22_1).f0.f1⟩ : S192), (⟨0, 0⟩ : S192)⟩ : S193)⟩ : S195)]) l0 (l0.length : Int) x22_1 x145000_1 x145001_1 x146000_1 x146001_1 x147000_1 x147001_1 ((rd_T198 l0 x22_1).f0.f0) ((rd_T198 l0 x22_1).f0.f1) true ((rd_T198 l0 x22_1).f2) ((rd_T198 l0 x22_1).f3)) else (none)) = some r := by rw [if_pos rfl] at H; exact H
         clear H
         have H := H1
         clear H1
         by_cases c30 : x9_1.length < 5026338869833
         rotate_left
         ·rw [if_neg c30] at H
          exact absurd H (by simp)
         rw [if_pos c30] at H
         have LMc30 := Aside0.mk c30
         clear c30
         obtain ⟨y153, hy153⟩ : ∃ y_ : List (S195), y_ = (x9_1 ++ [(⟨2, (⟨(⟨x147000_1, x147001_1⟩ : S192), (⟨(rd_T198 l0 x22_1).f0.f0, (rd_T198 l0 x22_1).f0.f1⟩ : S192), (⟨0, 0⟩ : S192)⟩ : S193)⟩ : S195)]) := ⟨_, rfl⟩
         replace H : (font_buildSegments.j1 k1 true x4_1 false y153 l0 (l0.length : Int) x22_1 x145000_1 x145001_1 x146000_1 x146001_1 x147000_1 x147001_1 ((rd_T198 l0 x22_1).f0.f0) ((rd_T198 l0 x22_1).f0.f1) true ((rd_T198 l0 x22_1).f2) ((rd_T198 l0 x22_1).f3)) = some r := by first | (rw [hy153]; with_reducible exact H) | (have H2_ := (Option.bind_some _ _).symm.trans H; rw [hy153]; with_reducible exact H2_) | (have H2_ := (Option.bind_some _ _).symm.trans H; with_reducible exact H2_) | with_reducible exact H | (rw [hy153]; exact H) | exact H
         have Ny153 := Aside0.mk hy153
         clear hy153
         have H' := Aside0.mk H
         clear H
         have hnb31 := NB151_144.out
         have hnc31 := NB144_151.out
         have hnb32 := NB151_145.out
         have hnc32 := NB145_151.out
         have hnb33 := NB151_146.out
         have hnc33 := NB146_151.out
         have hnb34 := NB151_152.out
         have hnc34 := NB152_151.out
         have hcz35_0 : w20.cell? ⟨gb151, 0, none⟩ = some (.float .f32 ((rd_T198 l0 x22_1).f0.f0)) := (blk_cell BK151.out 0).trans rfl
         have hcz35_1 : w20.cell? ⟨gb151, 1, none⟩ = some (.float .f32 ((rd_T198 l0 x22_1).f0.f1)) := (blk_cell BK151.out 1).trans rfl
         have hcz35_2 : w20.cell? ⟨gb151, 2, none⟩ = some (.bool true) := (blk_cell BK151.out 2).trans rfl
         have hcz35_3 : w20.cell? ⟨gb151, 3, none⟩ = some (.bool ((rd_T198 l0 x22_1).f2)) := (blk_cell BK151.out 3).trans rfl
         have hcz35_4 : w20.cell? ⟨gb151, 4, none⟩ = some (.bool ((rd_T198 l0 x22_1).f3)) := (blk_cell BK151.out 4).trans rfl
         have hfz35_0 := blk_frozen BK151.out 0
         have hfz35_1 := blk_frozen BK151.out 1
         have hfz35_2 := blk_frozen BK151.out 2
         have hfz35_3 := blk_frozen BK151.out 3
         have hfz35_4 := blk_frozen BK151.out 4
         have hnb36 := NB146_144.out
         have hnc36 := NB144_146.out
         have hnb37 := NB146_145.out
         have hnc37 := NB145_146.out
         have hnb38 := NB146_152.out
         have hnc38 := NB152_146.out
         have hcz39_0 : w20.cell? ⟨gb146, 0, none⟩ = some (.float .f32 x147000_1) := (blk_cell BK146.out 0).trans rfl
         have hcz39_1 : w20.cell? ⟨gb146, 1, none⟩ = some (.float .f32 x147001_1) := (blk_cell BK146.out 1).trans rfl
         have hfz39_0 := blk_frozen BK146.out 0
         have hfz39_1 := blk_frozen BK146.out 1
         have hnb40 := NB152_144.out
         have hnc40 := NB144_152.out
         have hnb41 := NB152_145.out
         have hnc41 := NB145_152.out
         have hcz42_0 : w20.cell? ⟨gb152, 0, none⟩ = some (.float .f32 0) := (blk_cell BK152.out 0).trans rfl
         have hcz42_1 : w20.cell? ⟨gb152, 1, none⟩ = some (.float .f32 0) := (blk_cell BK152.out 1).trans rfl
         have hfz42_0 := blk_frozen BK152.out 0
         have hfz42_1 := blk_frozen BK152.out 1
         go_wp2_with (first | ((with_reducible refine gate_builtin (b := .append) (xs := #[.tmp 83, .tmp 88]) rfl ?_); at_builtin; refine Kd.R_append k195 (w0 := w) w.heap.size rfl (.tmp 83) (.tmp 88) 135 195 (.agg #[(.int .u8 0), (.float .f32 0), (.float .f32 0), (.float .f32 0), (.float .f32 0), (.float .f32 0), (.float .f32 0)]) 28 rfl Try.underlying135 info195 rfl (by decide) (by omega) u9 x9_1 (⟨2, (⟨(⟨x147000_1, x147001_1⟩ : S192), (⟨(rd_T198 l0 x22_1).f0.f0, (rd_T198 l0 x22_1).f0.f1⟩ : S192), (⟨0, 0⟩ : S192)⟩ : S193)⟩ : S195) [.int .u8 2, .float .f32 x147000_1, .float .f32 x147001_1, .float .f32 ((rd_T198 l0 x22_1).f0.f0), .float .f32 ((rd_T198 l0 x22_1).f0.f1), .float .f32 0, .float .f32 0] (fun _ => True) (fun _ => False) rfl (by first | (go_simp; done) | (go_simp; rfl)) ?aP (fun _ hk => hk.elim) ?aF ?aO ?aB ?aS ?aL ?_; (case aP => exact k195_mkM _ _ _ (⟨2, (⟨(⟨x147000_1, x147001_1⟩ : S192), (⟨(rd_T198 l0 x22_1).f0.f0, (rd_T198 l0 x22_1).f0.f1⟩ : S192), (⟨0, 0⟩ : S192)⟩ : S193)⟩ : S195)); (case aB => exact (by repeat (first | (with_reducible first | exact HB.out | apply below_alloc | apply pw_below_drewN | apply below_drew1 | refine below_set ?_ GE144.out | refine below_set ?_ GE145.out | refine below_set ?_ GE146.out | refine below_set ?_ GE151.out | refine below_set ?_ GE152.out) | exact HB.out))); (case aF => exact (fun _ _ => trivial)); (case aO => exact (by (with_reducible repeat (first | apply Kd.R_alloc | apply Kd.R_drewN | apply Kd.R_drew)); exact Kd.R_mono (Kd.R_far (p := ⟨gb152, 1, none⟩) (Kd.R_far (p := ⟨gb152, 0, none⟩) (Kd.R_types HO_9.out BK152.out (by decide)) (fun _ hk => hk.2) (.float .f32 ((rd_T198 l0 x22_1).f0.f0))) (fun _ hk => hk.2) (.float .f32 ((rd_T198 l0 x22_1).f0.f1))) (fun _ hk => trivial))); (case aS => exact (below_size (by repeat (first | (with_reducible first | exact HB.out | apply below_alloc | apply pw_below_drewN | apply below_drew1 | refine below_set ?_ GE144.out | refine below_set ?_ GE145.out | refine below_set ?_ GE146.out | refine below_set ?_ GE151.out | refine below_set ?_ GE152.out) | exact HB.out)))); (case aL => have := LMc30.out; omega); intro v154 w43 ho hb hg hat; rw [← Ny153.out] at ho; have n0_ := Aside0.mk (blk_grown (g := gb144) (o := .cells #[.float .f32 x145000_1, .float .f32 x145001_1] 192 (0, 0)) (by (with_reducible repeat (first | apply b1_ | apply b2_ | apply b3_)); refine blk_far ?_ NB144_152.out _; (with_reducible repeat (first | apply b1_ | apply b2_ | apply b3_)); refine blk_far ?_ NB144_152.out _; (with_reducible repeat (first | apply b1_ | apply b2_ | apply b3_)); exact BK144.out) hg (Kd.R_ne HO_9.out BK144.out (by decide))); have n1_ := Aside0.mk (blk_grown (g := gb145) (o := .cells #[.float .f32 x146000_1, .float .f32 x146001_1] 192 (0, 0)) (by (with_reducible repeat (first | apply b1_ | apply b2_ | apply b3_)); refine blk_far ?_ NB145_152.out _; (with_reducible repeat (first | apply b1_ | apply b2_ | apply b3_)); refine blk_far ?_ NB145_152.out _; (with_reducible repeat (first | apply b1_ | apply b2_ | apply b3_)); exact BK145.out) hg (Kd.R_ne HO_9.out BK145.out (by decide))); have n2_ := Aside0.mk (blk_grown (g := gb146) (o := .cells #[.float .f32 x147000_1, .float .f32 x147001_1] 192 (0, 0)) (by (with_reducible repeat (first | apply b1_ | apply b2_ | apply b3_)); refine blk_far ?_ NB146_152.out _; (with_reducible repeat (first | apply b1_ | apply b2_ | apply b3_)); refine blk_far ?_ NB146_152.out _; (with_reducible repeat (first | apply b1_ | apply b2_ | apply b3_)); exact BK146.out) hg (Kd.R_ne HO_9.out BK146.out (by decide))); have n3_ := Aside0.mk (blk_grown (g := gb151) (o := .cells #[.float .f32 ((rd_T198 l0 x22_1).f0.f0), .float .f32 ((rd_T198 l0 x22_1).f0.f1), .bool true, .bool ((rd_T198 l0 x22_1).f2), .bool ((rd_T198 l0 x22_1).f3)] 198 (0, 0)) (by (with_reducible repeat (first | apply b1_ | apply b2_ | apply b3_)); refine blk_far ?_ NB151_152.out _; (with_reducible repeat (first | apply b1_ | apply b2_ | apply b3_)); refine blk_far ?_ NB151_152.out _; (with_reducible repeat (first | apply b1_ | apply b2_ | apply b3_)); exact BK151.out) hg (Kd.R_ne HO_9.out BK151.out (by decide))); have n4_ := Aside0.mk (blk_grown (g := gb152) (o := .cells #[.float .f32 ((rd_T198 l0 x22_1).f0.f0), .float .f32 ((rd_T198 l0 x22_1).f0.f1)] 192 (0, 0)) (by (with_reducible repeat (first | apply b1_ | apply b2_ | apply b3_)); refine blk_put (cs := #[.float .f32 ((rd_T198 l0 x22_1).f0.f0), .float .f32 0]) ?_ 1 _ rfl; (with_reducible repeat (first | apply b1_ | apply b2_ | apply b3_)); refine blk_put (cs := #[.float .f32 0, .float .f32 0]) ?_ 0 _ rfl; (with_reducible repeat (first | apply b1_ | apply b2_ | apply b3_)); exact BK152.out) hg (Kd.R_ne HO_9.out BK152.out (by decide))); have n5_ := Aside0.mk (hb); have n6_ := Aside0.mk (ho); clear BK144; clear BK145; clear BK146; clear BK151; clear BK152; clear HB; clear HO_9; have BK144 := n0_; have BK145 := n1_; have BK146 := n2_; have BK151 := n3_; have BK152 := n4_; have HB := n5_; have HO155 := n6_; clear n0_ n1_ n2_ n3_ n4_ n5_ n6_; clear ho hb hg hat))
         go_meet
         case rel => exact ⟨_, (true), (x4_1), (false), (y153), (x145000_1), (x145001_1), (x146000_1), (x146001_1), (x147000_1), (x147001_1), (by first | rfl | (simp; done) | (simp [*]; done)), (by first | rfl | (simp; done) | (simp [*]; done)), (by first | rfl | (simp; done) | (simp [*]; done)), (by (try rw [← Nbq28.out]); exact H'), ⟨by have := HK1.out; first | omega | exact Nat.le_refl _⟩, ⟨by (with_reducible repeat (first | apply Kd.R_alloc | apply Kd.R_drewN | apply Kd.R_drew)); exact HO155.out⟩, ⟨by (with_reducible repeat (first | apply b1_ | apply b2_ | apply b3_)); exact BK144.out⟩, ⟨by (with_reducible repeat (first | apply b1_ | apply b2_ | apply b3_)); exact BK145.out⟩, ⟨by (with_reducible repeat (first | apply b1_ | apply b2_ | apply b3_)); exact BK146.out⟩, ⟨by (try rw [← Nbq28.out]); (with_reducible repeat (first | apply b1_ | apply b2_ | apply b3_)); exact BK151.out⟩, ⟨by (with_reducible repeat (first | apply b1_ | apply b2_ | apply b3_)); exact BK152.out⟩, ⟨by repeat (first | (with_reducible first | exact HB.out | apply below_alloc | apply pw_below_drewN | apply below_drew1 | refine below_set ?_ GE144.out | refine below_set ?_ GE145.out | refine below_set ?_ GE146.out | refine below_set ?_ GE151.out | refine below_set ?_ GE152.out) | exact HB.out)⟩⟩
        ·replace c29 := Bool.eq_false_iff.mpr c29
         subst c29
         have H1 : ((font_midPoint.f x147000_1 x147001_1 ((rd_T198 l0 x22_1).f0.f0) ((rd_T198 l0 x22_1).f0.f1)).bind fun bt156 => (if x9_1.length < 5026338869833 then (font_buildSegments.j1 k1 true x4_1 true (x9_1 ++ [(⟨2, (⟨(⟨x147000_1, x147001_1⟩ : S192), (⟨bt156.1, bt156.2⟩ : S192), (⟨0, 0⟩ : S192)⟩ : S193)⟩ : S195)]) l0 (l0.length : Int) x22_1 x145000_1 x145001_1 x146000_1 x146001_1 ((rd_T198 l0 x22_1).f0.f0) ((rd_T198 l0 x22_1).f0.f1) ((rd_T198 l0 x22_1).f0.f0) ((rd_T198 l0 x22_1).f0.f1) false ((rd_T198 l0 x22_1).f2) ((rd_T198 l0 x22_1).f3)) else (none))) = some r := by rw [if_neg (show ¬ (false = true) by decide)] at H; exact H
         clear H
         have H := H1
         clear H1
         replace H := Option.bind_eq_some_iff.mp H
         obtain ⟨⟨t156, t157⟩, A440, H⟩ := H
         replace H : (if x9_1.length < 5026338869833 then (font_buildSegments.j1 k1 true x4_1 true (x9_1 ++ [(⟨2, (⟨(⟨x147000_1, x147001_1⟩ : S192), (⟨t156, t157⟩ : S192), (⟨0, 0⟩ : S192)⟩ : S193)⟩ : S195)]) l0 (l0.length : Int) x22_1 x145000_1 x145001_1 x146000_1 x146001_1 ((rd_T198 l0 x22_1).f0.f0) ((rd_T198 l0 x22_1).f0.f1) ((rd_T198 l0 x22_1).f0.f0) ((rd_T198 l0 x22_1).f0.f1) false ((rd_T198 l0 x22_1).f2) ((rd_T198 l0 x22_1).f3)) else (none)) = some r := H
         have A44 := Aside0.mk A440
         clear A440
         by_cases c45 : x9_1.length < 5026338869833
         rotate_left
         ·rw [if_neg c45] at H
          exact absurd H (by simp)
         rw [if_pos c45] at H
         have LMc45 := Aside0.mk c45
         clear c45
         obtain ⟨y158, hy158⟩ : ∃ y_ : List (S195), y_ = (x9_1 ++ [(⟨2, (⟨(⟨x147000_1, x147001_1⟩ : S192), (⟨t156, t157⟩ : S192), (⟨0, 0⟩ : S192)⟩ : S193)⟩ : S195)]) := ⟨_, rfl⟩
         replace H : (font_buildSegments.j1 k1 true x4_1 true y158 l0 (l0.length : Int) x22_1 x145000_1 x145001_1 x146000_1 x146001_1 ((rd_T198 l0 x22_1).f0.f0) ((rd_T198 l0 x22_1).f0.f1) ((rd_T198 l0 x22_1).f0.f0) ((rd_T198 l0 x22_1).f0.f1) false ((rd_T198 l0 x22_1).f2) ((rd_T198 l0 x22_1).f3)) = some r := by first | (rw [hy158]; with_reducible exact H) | (have H2_ := (Option.bind_some _ _).symm.trans H; rw [hy158]; with_reducible exact H2_) | (have H2_ := (Option.bind_some _ _).symm.trans H; with_reducible exact H2_) | with_reducible exact H | (rw [hy158]; exact H) | exact H
         have Ny158 := Aside0.mk hy158
         clear hy158
         have H' := Aside0.mk H
         clear H
         have hnb46 := NB151_144.out
         have hnc46 := NB144_151.out
         have hnb47 := NB151_145.out
         have hnc47 := NB145_151.out
         have hnb48 := NB151_146.out
         have hnc48 := NB146_151.out
         have hnb49 := NB151_152.out
         have hnc49 := NB152_151.out
         have hcz50_0 : w20.cell? ⟨gb151, 0, none⟩ = some (.float .f32 ((rd_T198 l0 x22_1).f0.f0)) := (blk_cell BK151.out 0).trans rfl
         have hcz50_1 : w20.cell? ⟨gb151, 1, none⟩ = some (.float .f32 ((rd_T198 l0 x22_1).f0.f1)) := (blk_cell BK151.out 1).trans rfl
         have hcz50_2 : w20.cell? ⟨gb151, 2, none⟩ = some (.bool false) := (blk_cell BK151.out 2).trans rfl
         have hcz50_3 : w20.cell? ⟨gb151, 3, none⟩ = some (.bool ((rd_T198 l0 x22_1).f2)) := (blk_cell BK151.out 3).trans rfl
         have hcz50_4 : w20.cell? ⟨gb151, 4, none⟩ = some (.bool ((rd_T198 l0 x22_1).f3)) := (blk_cell BK151.out 4).trans rfl
         have hfz50_0 := blk_frozen BK151.out 0
         have hfz50_1 := blk_frozen BK151.out 1
         have hfz50_2 := blk_frozen BK151.out 2
         have hfz50_3 := blk_frozen BK151.out 3
         have hfz50_4 := blk_frozen BK151.out 4
         try go_wp2
         have n0_ : Aside0 (Kd.R k195 195 ((w20.setCell ⟨gb152, 0, none⟩ (.float .f32 ((rd_T198 l0 x22_1).f0.f0))).setCell ⟨gb152, 1, none⟩ (.float .f32 ((rd_T198 l0 x22_1).f0.f1))) w.heap.size (fun _ => True) u9 x9_1) := ⟨by (with_reducible repeat (first | apply Kd.R_alloc | apply Kd.R_drewN | apply Kd.R_drew)); exact Kd.R_mono (Kd.R_far (p := ⟨gb152, 1, none⟩) (Kd.R_far (p := ⟨gb152, 0, none⟩) (Kd.R_types HO_9.out BK152.out (by decide)) (fun _ hk => hk.2) (.float .f32 ((rd_T198 l0 x22_1).f0.f0))) (fun _ hk => hk.2) (.float .f32 ((rd_T198 l0 x22_1).f0.f1))) (fun _ hk => trivial)⟩
         have n1_ : Aside0 (((w20.setCell ⟨gb152, 0, none⟩ (.float .f32 ((rd_T198 l0 x22_1).f0.f0))).setCell ⟨gb152, 1, none⟩ (.float .f32 ((rd_T198 l0 x22_1).f0.f1))).heap[gb144]? = some (.cells #[.float .f32 x145000_1, .float .f32 x145001_1] 192 (0, 0))) := ⟨by (with_reducible repeat (first | apply b1_ | apply b2_ | apply b3_)); refine blk_far ?_ NB144_152.out _; (with_reducible repeat (first | apply b1_ | apply b2_ | apply b3_)); refine blk_far ?_ NB144_152.out _; (with_reducible repeat (first | apply b1_ | apply b2_ | apply b3_)); exact BK144.out⟩
         have n2_ : Aside0 (((w20.setCell ⟨gb152, 0, none⟩ (.float .f32 ((rd_T198 l0 x22_1).f0.f0))).setCell ⟨gb152, 1, none⟩ (.float .f32 ((rd_T198 l0 x22_1).f0.f1))).heap[gb145]? = some (.cells #[.float .f32 x146000_1, .float .f32 x146001_1] 192 (0, 0))) := ⟨by (with_reducible repeat (first | apply b1_ | apply b2_ | apply b3_)); refine blk_far ?_ NB145_152.out _; (with_reducible repeat (first | apply b1_ | apply b2_ | apply b3_)); refine blk_far ?_ NB145_152.out _; (with_reducible repeat (first | apply b1_ | apply b2_ | apply b3_)); exact BK145.out⟩
         have n3_ : Aside0 (((w20.setCell ⟨gb152, 0, none⟩ (.float .f32 ((rd_T198 l0 x22_1).f0.f0))).setCell ⟨gb152, 1, none⟩ (.float .f32 ((rd_T198 l0 x22_1).f0.f1))).heap[gb146]? = some (.cells #[.float .f32 x147000_1, .float .f32 x147001_1] 192 (0, 0))) := ⟨by (with_reducible repeat (first | apply b1_ | apply b2_ | apply b3_)); refine blk_far ?_ NB146_152.out _; (with_reducible repeat (first | apply b1_ | apply b2_ | apply b3_)); refine blk_far ?_ NB146_152.out _; (with_reducible repeat (first | apply b1_ | apply b2_ | apply b3_)); exact BK146.out⟩
         have n4_ : Aside0 (((w20.setCell ⟨gb152, 0, none⟩ (.float .f32 ((rd_T198 l0 x22_1).f0.f0))).setCell ⟨gb152, 1, none⟩ (.float .f32 ((rd_T198 l0 x22_1).f0.f1))).heap[gb151]? = some (.cells #[.float .f32 ((rd_T198 l0 x22_1).f0.f0), .float .f32 ((rd_T198 l0 x22_1).f0.f1), .bool false, .bool ((rd_T198 l0 x22_1).f2), .bool ((rd_T198 l0 x22_1).f3)] 198 (0, 0))) := ⟨by (with_reducible repeat (first | apply b1_ | apply b2_ | apply b3_)); refine blk_far ?_ NB151_152.out _; (with_reducible repeat (first | apply b1_ | apply b2_ | apply b3_)); refine blk_far ?_ NB151_152.out _; (with_reducible repeat (first | apply b1_ | apply b2_ | apply b3_)); exact BK151.out⟩
         have n5_ : Aside0 (((w20.setCell ⟨gb152, 0, none⟩ (.float .f32 ((rd_T198 l0 x22_1).f0.f0))).setCell ⟨gb152, 1, none⟩ (.float .f32 ((rd_T198 l0 x22_1).f0.f1))).heap[gb152]? = some (.cells #[.float .f32 ((rd_T198 l0 x22_1).f0.f0), .float .f32 ((rd_T198 l0 x22_1).f0.f1)] 192 (0, 0))) := ⟨by (with_reducible repeat (first | apply b1_ | apply b2_ | apply b3_)); refine blk_put (cs := #[.float .f32 ((rd_T198 l0 x22_1).f0.f0), .float .f32 0]) ?_ 1 _ rfl; (with_reducible repeat (first | apply b1_ | apply b2_ | apply b3_)); refine blk_put (cs := #[.float .f32 0, .float .f32 0]) ?_ 0 _ rfl; (with_reducible repeat (first | apply b1_ | apply b2_ | apply b3_)); exact BK152.out⟩
         have n6_ : Aside0 (Below w.heap.size w ((w20.setCell ⟨gb152, 0, none⟩ (.float .f32 ((rd_T198 l0 x22_1).f0.f0))).setCell ⟨gb152, 1, none⟩ (.float .f32 ((rd_T198 l0 x22_1).f0.f1)))) := ⟨by repeat (first | (with_reducible first | exact HB.out | apply below_alloc | apply pw_below_drewN | apply below_drew1 | refine below_set ?_ GE144.out | refine below_set ?_ GE145.out | refine below_set ?_ GE146.out | refine below_set ?_ GE151.out | refine below_set ?_ GE152.out) | exact HB.out)⟩
         (try clear HO_9)
         (try clear BK144)
         (try clear BK145)
         (try clear BK146)
         (try clear BK151)
         (try clear BK152)
         (try clear HB)
         generalize ((w20.setCell ⟨gb152, 0, none⟩ (.float .f32 ((rd_T198 l0 x22_1).f0.f0))).setCell ⟨gb152, 1, none⟩ (.float .f32 ((rd_T198 l0 x22_1).f0.f1))) = w51 at n0_ n1_ n2_ n3_ n4_ n5_ n6_ ⊢
         have HO_9 := n0_
         have BK144 := n1_
         have BK145 := n2_
         have BK146 := n3_
         have BK151 := n4_
         have BK152 := n5_
         have HB := n6_
         clear n0_ n1_ n2_ n3_ n4_ n5_ n6_
         have n0_ := Aside0.mk (Kd.R_drew HO_9.out)
         have n1_ := Aside0.mk (blk_drew BK144.out)
         have n2_ := Aside0.mk (blk_drew BK145.out)
         have n3_ := Aside0.mk (blk_drew BK146.out)
         have n4_ := Aside0.mk (blk_drew BK151.out)
         have n5_ := Aside0.mk (blk_drew BK152.out)
         have n6_ := Aside0.mk (below_drew1 HB.out)
         clear HO_9
         clear BK144
         clear BK145
         clear BK146
         clear BK151
         clear BK152
         clear HB
         have HO_9 := n0_
         have BK144 := n1_
         have BK145 := n2_
         have BK146 := n3_
         have BK151 := n4_
         have BK152 := n5_
         have HB := n6_
         clear n0_ n1_ n2_ n3_ n4_ n5_ n6_
         refine start_ (n := 10) (S := fun w' => w'.cell? ⟨gb146, 0, none⟩ = some (.float .f32 x147000_1) ∧ w'.cell? ⟨gb146, 1, none⟩ = some (.float .f32 x147001_1) ∧ w'.cell? ⟨gb152, 0, none⟩ = some (.float .f32 ((rd_T198 l0 x22_1).f0.f0)) ∧ w'.cell? ⟨gb152, 1, none⟩ = some (.float .f32 ((rd_T198 l0 x22_1).f0.f1))) (ds := []) #[ff,ff,ff,ff,ff,ff,ff,ff,ff,ff] (by kernel_rfl) rfl rfl ⟨(blk_cell BK146.out 0).trans rfl, (blk_cell BK146.out 1).trans rfl, (blk_cell BK152.out 0).trans rfl, (blk_cell BK152.out 1).trans rfl⟩ (fun hHeld => ?_); refine with_tabW font_buildSegments.tab31 font_buildSegments.bits31 (fun HT_ HW_ => ?_)
         generalize w51.drew = w52 at HO_9 BK144 BK145 BK146 BK151 BK152 HB hHeld ⊢
         refine pure_ (i := 0) (N := some 73) (v := ?_) (a' := ?_) #[tt,ff,ff,ff,ff,ff,ff,ff,ff,ff] rfl rfl (any_of HT_.out (by kernel_rfl)) (fun _ _ _ h => h) (Or.inl ⟨by rfl, ?_⟩) ?_ ?_
         rotate_left
         ·intro w'
          go_simp
          with_reducible rfl
         rotate_left
         ·simp only [Act.put, L1_, L2_, L3_, i64_w, i32_w]
          rfl
         refine take_ (i := 1) (N := some 74) (v := ?_) (a' := ?_) #[tt,tt,ff,ff,ff,ff,ff,ff,ff,ff] rfl rfl (take_ofW HT_.out HW_.out (by kernel_rfl)) (fun _ _ _ h => h) (Or.inl ⟨by rfl, ?_⟩) hHeld ?_ ?_
         rotate_left
         ·rintro w' ⟨s0, s1, s2, s3⟩
          go_simp
          with_reducible rfl
         rotate_left
         ·simp only [Act.put, L1_, L2_, L3_, i64_w, i32_w]
          rfl
         refine take_ (i := 2) (N := some 75) (v := ?_) (a' := ?_) #[tt,tt,tt,ff,ff,ff,ff,ff,ff,ff] rfl rfl (take_ofW HT_.out HW_.out (by kernel_rfl)) (fun _ _ _ h => h) (Or.inl ⟨by rfl, ?_⟩) hHeld ?_ ?_
         rotate_left
         ·rintro w' ⟨s0, s1, s2, s3⟩
          go_simp
          with_reducible rfl
         rotate_left
         ·simp only [Act.put, L1_, L2_, L3_, i64_w, i32_w]
          rfl
         refine take_ (i := 3) (N := some 76) (v := ?_) (a' := ?_) #[tt,tt,tt,tt,ff,ff,ff,ff,ff,ff] rfl rfl (take_ofW HT_.out HW_.out (by kernel_rfl)) (fun _ _ _ h => h) (Or.inl ⟨by rfl, ?_⟩) hHeld ?_ ?_
         rotate_left
         ·rintro w' ⟨s0, s1, s2, s3⟩
          go_simp
          with_reducible rfl
         rotate_left
         ·simp only [Act.put, L1_, L2_, L3_, i64_w, i32_w]
          rfl
         refine one_ (i := 4) (N := some 77) #[tt,tt,tt,tt,tt,ff,ff,ff,ff,ff] rfl rfl (one_of HT_.out (by kernel_rfl)) (by decide) (fun K hK => ?_)
         refine goes_ Try.func70 (by kernel_rfl) rfl #[.agg #[.float .f32 x147000_1, .float .f32 x147001_1], .agg #[.float .f32 ((rd_T198 l0 x22_1).f0.f0), .float .f32 ((rd_T198 l0 x22_1).f0.f1)]] (by rfl) rfl rfl (by (try simp only [List.map_toArray, List.map_cons, List.map_nil]); first | done | rfl | (simp only [List.length_drop, List.length_take]; rfl)) ?_
         with_reducible refine (font_midPoint.calls x147000_1 x147001_1 ((rd_T198 l0 x22_1).f0.f0) ((rd_T198 l0 x22_1).f0.f1) t156 t157 _ A44.out).mono ?_
         rintro e w53 ⟨rfl, hb⟩
         refine ⟨_, rfl, ?_⟩
         have n0_ := Aside0.mk (Kd.R_below (by (with_reducible repeat (first | apply Kd.R_alloc | apply Kd.R_drewN | apply Kd.R_drew)); exact HO_9.out) hb)
         have n1_ := Aside0.mk (blk_below (g := gb144) (o := .cells #[.float .f32 x145000_1, .float .f32 x145001_1] 192 (0, 0)) (by (with_reducible repeat (first | apply b1_ | apply b2_ | apply b3_)); exact BK144.out) hb)
         have n2_ := Aside0.mk (blk_below (g := gb145) (o := .cells #[.float .f32 x146000_1, .float .f32 x146001_1] 192 (0, 0)) (by (with_reducible repeat (first | apply b1_ | apply b2_ | apply b3_)); exact BK145.out) hb)
         have n3_ := Aside0.mk (blk_below (g := gb146) (o := .cells #[.float .f32 x147000_1, .float .f32 x147001_1] 192 (0, 0)) (by (with_reducible repeat (first | apply b1_ | apply b2_ | apply b3_)); exact BK146.out) hb)
         have n4_ := Aside0.mk (blk_below (g := gb151) (o := .cells #[.float .f32 ((rd_T198 l0 x22_1).f0.f0), .float .f32 ((rd_T198 l0 x22_1).f0.f1), .bool false, .bool ((rd_T198 l0 x22_1).f2), .bool ((rd_T198 l0 x22_1).f3)] 198 (0, 0)) (by (with_reducible repeat (first | apply b1_ | apply b2_ | apply b3_)); exact BK151.out) hb)
         have n5_ := Aside0.mk (blk_below (g := gb152) (o := .cells #[.float .f32 ((rd_T198 l0 x22_1).f0.f0), .float .f32 ((rd_T198 l0 x22_1).f0.f1)] 192 (0, 0)) (by (with_reducible repeat (first | apply b1_ | apply b2_ | apply b3_)); exact BK152.out) hb)
         have n6_ := Aside0.mk (below_step (by repeat (first | (with_reducible first | exact HB.out | apply below_alloc | apply pw_below_drewN | apply below_drew1 | refine below_set ?_ GE144.out | refine below_set ?_ GE145.out | refine below_set ?_ GE146.out | refine below_set ?_ GE151.out | refine below_set ?_ GE152.out) | exact HB.out)) hb)
         clear HO_9
         clear BK144
         clear BK145
         clear BK146
         clear BK151
         clear BK152
         clear HB
         have HO_9 := n0_
         have BK144 := n1_
         have BK145 := n2_
         have BK146 := n3_
         have BK151 := n4_
         have BK152 := n5_
         have HB := n6_
         clear n0_ n1_ n2_ n3_ n4_ n5_ n6_
         (try clear hb)
         (try clear hb2)
         (try clear hk)
         (try clear hi)
         refine hK.out _ _ ⟨(blk_cell BK146.out 0).trans rfl, (blk_cell BK146.out 1).trans rfl, (blk_cell BK152.out 0).trans rfl, (blk_cell BK152.out 1).trans rfl⟩ (fun hHeld => ?_)
         clear hK K
         refine norm_ (a' := ?_) ?_ ?_
         rotate_left
         ·show Act.put _ (some 77) _ = _
          simp only [Act.put, L1_, L2_, L3_, i64_w, i32_w]
          rfl
         refine pure_ (i := 5) (N := some 78) (v := ?_) (a' := ?_) #[tt,tt,tt,tt,tt,tt,ff,ff,ff,ff] rfl rfl (any_of HT_.out (by kernel_rfl)) (fun _ _ _ h => h) (Or.inl ⟨by rfl, ?_⟩) ?_ ?_
         rotate_left
         ·intro w'
          go_simp
          with_reducible rfl
         rotate_left
         ·simp only [Act.put, L1_, L2_, L3_, i64_w, i32_w]
          rfl
         refine pure_ (i := 6) (N := some 79) (v := ?_) (a' := ?_) #[tt,tt,tt,tt,tt,tt,tt,ff,ff,ff] rfl rfl (any_of HT_.out (by kernel_rfl)) (fun _ _ _ h => h) (Or.inl ⟨by rfl, ?_⟩) ?_ ?_
         rotate_left
         ·intro w'
          go_simp
          with_reducible rfl
         rotate_left
         ·simp only [Act.put, L1_, L2_, L3_, i64_w, i32_w]
          rfl
         refine one_ (i := 7) (N := some 80) #[true, true, true, true, true, true, true, true, false, false] rfl rfl (one_of HT_.out (by kernel_rfl)) (by decide) (fun K hK => ?_)
         refine value_ (w1 := ?_) (v := ?_) (by rfl) rfl ?_ ?_
         rotate_left 2
         ·go_simp
          constructor
          ·rfl
          ·rfl
         refine hK.out _ _ ⟨(blk_cell (blk_alloc BK146.out _) 0).trans rfl, (blk_cell (blk_alloc BK146.out _) 1).trans rfl, (blk_cell (blk_alloc BK152.out _) 0).trans rfl, (blk_cell (blk_alloc BK152.out _) 1).trans rfl⟩ (fun hHeld => ?_)
         clear hK K
         refine norm_ (a' := ?_) ?_ ?_
         rotate_left
         ·show Act.put _ (some 80) _ = _
          simp only [Act.put, L1_, L2_, L3_, i64_w, i32_w]
          rfl
         refine one_ (i := 8) (N := some 81) #[true, true, true, true, true, true, true, true, true, false] rfl rfl (one_of HT_.out (by kernel_rfl)) (by decide) (fun K hK => ?_)
         refine Kd.R_append_step k195 (w0 := w) w.heap.size (by rfl) (.tmp 73) (.tmp 80) 135 195 (.agg #[(.int .u8 0), (.float .f32 0), (.float .f32 0), (.float .f32 0), (.float .f32 0), (.float .f32 0), (.float .f32 0)]) 28 rfl Try.underlying135 info195 rfl (by decide) (by omega) u9 x9_1 (⟨2, (⟨(⟨x147000_1, x147001_1⟩ : S192), (⟨t156, t157⟩ : S192), (⟨0, 0⟩ : S192)⟩ : S193)⟩ : S195) [.int .u8 2, .float .f32 x147000_1, .float .f32 x147001_1, .float .f32 t156, .float .f32 t157, .float .f32 0, .float .f32 0] (fun _ => True) (fun _ => False) rfl rfl ?aP (fun _ hk => hk.elim) ?aF ?aO ?aB ?aS ?aL ?_
         (case aP => exact k195_mkM _ _ _ (⟨2, (⟨(⟨x147000_1, x147001_1⟩ : S192), (⟨t156, t157⟩ : S192), (⟨0, 0⟩ : S192)⟩ : S193)⟩ : S195))
         (case aB => exact (by repeat (first | (with_reducible first | exact HB.out | apply below_alloc | apply pw_below_drewN | apply below_drew1 | refine below_set ?_ GE144.out | refine below_set ?_ GE145.out | refine below_set ?_ GE146.out | refine below_set ?_ GE151.out | refine below_set ?_ GE152.out) | exact HB.out)))
         (case aF => exact (fun _ _ => trivial))
         (case aO => exact (by (with_reducible repeat (first | apply Kd.R_alloc | apply Kd.R_drewN | apply Kd.R_drew)); exact HO_9.out))
         (case aS => exact (below_size (by repeat (first | (with_reducible first | exact HB.out | apply below_alloc | apply pw_below_drewN | apply below_drew1 | refine below_set ?_ GE144.out | refine below_set ?_ GE145.out | refine below_set ?_ GE146.out | refine below_set ?_ GE151.out | refine below_set ?_ GE152.out) | exact HB.out))))
         (case aL => have := LMc45.out; omega)
         intro v159 w54 ho hb hg hat
         rw [← Ny158.out] at ho
         have n0_ := Aside0.mk (blk_grown (g := gb144) (o := .cells #[.float .f32 x145000_1, .float .f32 x145001_1] 192 (0, 0)) (by (with_reducible repeat (first | apply b1_ | apply b2_ | apply b3_)); exact BK144.out) hg (Kd.R_ne HO_9.out BK144.out (by decide)))
         have n1_ := Aside0.mk (blk_grown (g := gb145) (o := .cells #[.float .f32 x146000_1, .float .f32 x146001_1] 192 (0, 0)) (by (with_reducible repeat (first | apply b1_ | apply b2_ | apply b3_)); exact BK145.out) hg (Kd.R_ne HO_9.out BK145.out (by decide)))
         have n2_ := Aside0.mk (blk_grown (g := gb146) (o := .cells #[.float .f32 x147000_1, .float .f32 x147001_1] 192 (0, 0)) (by (with_reducible repeat (first | apply b1_ | apply b2_ | apply b3_)); exact BK146.out) hg (Kd.R_ne HO_9.out BK146.out (by decide)))
         have n3_ := Aside0.mk (blk_grown (g := gb151) (o := .cells #[.float .f32 ((rd_T198 l0 x22_1).f0.f0), .float .f32 ((rd_T198 l0 x22_1).f0.f1), .bool false, .bool ((rd_T198 l0 x22_1).f2), .bool ((rd_T198 l0 x22_1).f3)] 198 (0, 0)) (by (with_reducible repeat (first | apply b1_ | apply b2_ | apply b3_)); exact BK151.out) hg (Kd.R_ne HO_9.out BK151.out (by decide)))
         have n4_ := Aside0.mk (blk_grown (g := gb152) (o := .cells #[.float .f32 ((rd_T198 l0 x22_1).f0.f0), .float .f32 ((rd_T198 l0 x22_1).f0.f1)] 192 (0, 0)) (by (with_reducible repeat (first | apply b1_ | apply b2_ | apply b3_)); exact BK152.out) hg (Kd.R_ne HO_9.out BK152.out (by decide)))
         have n5_ := Aside0.mk (hb)
         have n6_ := Aside0.mk (ho)
         clear BK144
         clear BK145
         clear BK146
         clear BK151
         clear BK152
         clear HB
         clear HO_9
         have BK144 := n0_
         have BK145 := n1_
         have BK146 := n2_
         have BK151 := n3_
         have BK152 := n4_
         have HB := n5_
         have HO160 := n6_
         clear n0_ n1_ n2_ n3_ n4_ n5_ n6_
         clear ho hb hg hat
         refine hK.out _ _ ⟨(blk_cell BK146.out 0).trans rfl, (blk_cell BK146.out 1).trans rfl, (blk_cell BK152.out 0).trans rfl, (blk_cell BK152.out 1).trans rfl⟩ (fun hHeld => ?_)
         clear hK K
         refine norm_ (a' := ?_) ?_ ?_
         rotate_left
         ·show Act.put _ (some 81) _ = _
          simp only [Act.put, L1_, L2_, L3_, i64_w, i32_w]
          rfl
         refine pure_ (i := 9) (N := some 9) (v := ?_) (a' := ?_) #[true, true, true, true, true, true, true, true, true, true] rfl rfl (any_of HT_.out (by kernel_rfl)) (fun _ _ _ h => h) (Or.inl ⟨by rfl, ?_⟩) ?_ ?_
         rotate_left
         ·intro w'
          go_simp
          with_reducible rfl
         rotate_left
         ·simp only [Act.put, L1_, L2_, L3_, i64_w, i32_w]
          rfl
         refine done_ (done_of HT_.out (by kernel_rfl)) ?_
         have hnb55 := NB152_144.out
         have hnc55 := NB144_152.out
         have hnb56 := NB152_145.out
         have hnc56 := NB145_152.out
         have hnb57 := NB152_146.out
         have hnc57 := NB146_152.out
         have hcz58_0 : w54.cell? ⟨gb152, 0, none⟩ = some (.float .f32 ((rd_T198 l0 x22_1).f0.f0)) := (blk_cell BK152.out 0).trans rfl
         have hcz58_1 : w54.cell? ⟨gb152, 1, none⟩ = some (.float .f32 ((rd_T198 l0 x22_1).f0.f1)) := (blk_cell BK152.out 1).trans rfl
         have hfz58_0 := blk_frozen BK152.out 0
         have hfz58_1 := blk_frozen BK152.out 1
         have hnb59 := NB146_144.out
         have hnc59 := NB144_146.out
         have hnb60 := NB146_145.out
         have hnc60 := NB145_146.out
         have hcz61_0 : w54.cell? ⟨gb146, 0, none⟩ = some (.float .f32 x147000_1) := (blk_cell BK146.out 0).trans rfl
         have hcz61_1 : w54.cell? ⟨gb146, 1, none⟩ = some (.float .f32 x147001_1) := (blk_cell BK146.out 1).trans rfl
         have hfz61_0 := blk_frozen BK146.out 0
         have hfz61_1 := blk_frozen BK146.out 1
         try go_wp2
         go_meet
         case rel => exact ⟨_, (true), (x4_1), (true), (y158), (x145000_1), (x145001_1), (x146000_1), (x146001_1), ((rd_T198 l0 x22_1).f0.f0), ((rd_T198 l0 x22_1).f0.f1), (by first | rfl | (simp; done) | (simp [*]; done)), (by first | rfl | (simp; done) | (simp [*]; done)), (by first | rfl | (simp; done) | (simp [*]; done)), (by (try rw [← Nbq28.out]); exact H'), ⟨by have := HK1.out; first | omega | exact Nat.le_refl _⟩, ⟨by (with_reducible repeat (first | apply Kd.R_alloc | apply Kd.R_drewN | apply Kd.R_drew)); exact Kd.R_mono (Kd.R_far (p := ⟨gb146, 1, none⟩) (Kd.R_far (p := ⟨gb146, 0, none⟩) (Kd.R_types HO160.out BK146.out (by decide)) (fun _ hk => hk.2) (.float .f32 ((rd_T198 l0 x22_1).f0.f0))) (fun _ hk => hk.2) (.float .f32 ((rd_T198 l0 x22_1).f0.f1))) (fun _ hk => trivial)⟩, ⟨by (with_reducible repeat (first | apply b1_ | apply b2_ | apply b3_)); refine blk_far ?_ NB144_146.out _; (with_reducible repeat (first | apply b1_ | apply b2_ | apply b3_)); refine blk_far ?_ NB144_146.out _; (with_reducible repeat (first | apply b1_ | apply b2_ | apply b3_)); exact BK144.out⟩, ⟨by (with_reducible repeat (first | apply b1_ | apply b2_ | apply b3_)); refine blk_far ?_ NB145_146.out _; (with_reducible repeat (first | apply b1_ | apply b2_ | apply b3_)); refine blk_far ?_ NB145_146.out _; (with_reducible repeat (first | apply b1_ | apply b2_ | apply b3_)); exact BK145.out⟩, ⟨by (with_reducible repeat (first | apply b1_ | apply b2_ | apply b3_)); refine blk_put (cs := #[.float .f32 ((rd_T198 l0 x22_1).f0.f0), .float .f32 x147001_1]) ?_ 1 _ rfl; (with_reducible repeat (first | apply b1_ | apply b2_ | apply b3_)); refine blk_put (cs := #[.float .f32 x147000_1, .float .f32 x147001_1]) ?_ 0 _ rfl; (with_reducible repeat (first | apply b1_ | apply b2_ | apply b3_)); exact BK146.out⟩, ⟨by (try rw [← Nbq28.out]); (with_reducible repeat (first | apply b1_ | apply b2_ | apply b3_)); refine blk_far ?_ NB151_146.out _; (with_reducible repeat (first | apply b1_ | apply b2_ | apply b3_)); refine blk_far ?_ NB151_146.out _; (with_reducible repeat (first | apply b1_ | apply b2_ | apply b3_)); exact BK151.out⟩, ⟨by (with_reducible repeat (first | apply b1_ | apply b2_ | apply b3_)); refine blk_far ?_ NB152_146.out _; (with_reducible repeat (first | apply b1_ | apply b2_ | apply b3_)); refine blk_far ?_ NB152_146.out _; (with_reducible repeat (first | apply b1_ | apply b2_ | apply b3_)); exact BK152.out⟩, ⟨by repeat (first | (with_reducible first | exact HB.out | apply below_alloc | apply pw_below_drewN | apply below_drew1 | refine below_set ?_ GE144.out | refine below_set ?_ GE145.out | refine below_set ?_ GE146.out | refine below_set ?_ GE151.out | refine below_set ?_ GE152.out) | exact HB.out)⟩⟩
       ·replace c27 := Bool.eq_false_iff.mpr c27
        subst c27
        have H1 : (if ((rd_T198 l0 x22_1).f1 = true) then (if x9_1.length < 5026338869833 then (font_buildSegments.j1 k1 true x4_1 false (x9_1 ++ [(⟨1, (⟨(⟨(rd_T198 l0 x22_1).f0.f0, (rd_T198 l0 x22_1).f0.f1⟩ : S192), (⟨0, 0⟩ : S192), (⟨0, 0⟩ : S192)⟩ : S193)⟩ : S195)]) l0 (l0.length : Int) x22_1 x145000_1 x145001_1 x146000_1 x146001_1 x147000_1 x147001_1 ((rd_T198 l0 x22_1).f0.f0) ((rd_T198 l0 x22_1).f0.f1) ((rd_T198 l0 x22_1).f1) ((rd_T198 l0 x22_1).f2) ((rd_T198 l0 x22_1).f3)) else (none)) else (if ((rd_T198 l0 x22_1).f2 = true) then (font_buildSegments.j1 k1 true x4_1 true x9_1 l0 (l0.length : Int) x22_1 x145000_1 x145001_1 x146000_1 x146001_1 ((rd_T198 l0 x22_1).f0.f0) ((rd_T198 l0 x22_1).f0.f1) ((rd_T198 l0 x22_1).f0.f0) ((rd_T198 l0 x22_1).f0.f1) ((rd_T198 l0 x22_1).f1) ((rd_T198 l0 x22_1).f2) ((rd_T198 l0 x22_1).f3)) else (font_buildSegments.l0 k1 true x4_1 true x9_1 l0 (l0.length : Int) (wrap64 (x22_1 + 1)) x145000_1 x145001_1 x146000_1 x146001_1 ((rd_T198 l0 x22_1).f0.f0) ((rd_T198 l0 x22_1).f0.f1)))) = some r := by rw [if_neg (show ¬ (false = true) by decide)] at H; exact H
        clear H
        have H := H1
        clear H1
        obtain ⟨bq62, hbq62⟩ : ∃ b_ : Bool, b_ = ((rd_T198 l0 x22_1).f1) := ⟨_, rfl⟩
        replace H : (if (bq62 = true) then (if x9_1.length < 5026338869833 then (font_buildSegments.j1 k1 true x4_1 false (x9_1 ++ [(⟨1, (⟨(⟨(rd_T198 l0 x22_1).f0.f0, (rd_T198 l0 x22_1).f0.f1⟩ : S192), (⟨0, 0⟩ : S192), (⟨0, 0⟩ : S192)⟩ : S193)⟩ : S195)]) l0 (l0.length : Int) x22_1 x145000_1 x145001_1 x146000_1 x146001_1 x147000_1 x147001_1 ((rd_T198 l0 x22_1).f0.f0) ((rd_T198 l0 x22_1).f0.f1) bq62 ((rd_T198 l0 x22_1).f2) ((rd_T198 l0 x22_1).f3)) else (none)) else (if ((rd_T198 l0 x22_1).f2 = true) then (font_buildSegments.j1 k1 true x4_1 true x9_1 l0 (l0.length : Int) x22_1 x145000_1 x145001_1 x146000_1 x146001_1 ((rd_T198 l0 x22_1).f0.f0) ((rd_T198 l0 x22_1).f0.f1) ((rd_T198 l0 x22_1).f0.f0) ((rd_T198 l0 x22_1).f0.f1) bq62 ((rd_T198 l0 x22_1).f2) ((rd_T198 l0 x22_1).f3)) else (font_buildSegments.l0 k1 true x4_1 true x9_1 l0 (l0.length : Int) (wrap64 (x22_1 + 1)) x145000_1 x145001_1 x146000_1 x146001_1 ((rd_T198 l0 x22_1).f0.f0) ((rd_T198 l0 x22_1).f0.f1)))) = some r := by rw [← hbq62] at H; exact H
        have Nbq62 := Aside0.mk hbq62
        try (have B0_ := BK151.out; rw [← Nbq62.out] at B0_; replace BK151 := Aside0.mk B0_; clear B0_)
        clear hbq62
        by_cases c63 : (bq62 = true)
        ·subst c63
         have H1 : (if x9_1.length < 5026338869833 then (font_buildSegments.j1 k1 true x4_1 false (x9_1 ++ [(⟨1, (⟨(⟨(rd_T198 l0 x22_1).f0.f0, (rd_T198 l0 x22_1).f0.f1⟩ : S192), (⟨0, 0⟩ : S192), (⟨0, 0⟩ : S192)⟩ : S193)⟩ : S195)]) l0 (l0.length : Int) x22_1 x145000_1 x145001_1 x146000_1 x146001_1 x147000_1 x147001_1 ((rd_T198 l0 x22_1).f0.f0) ((rd_T198 l0 x22_1).f0.f1) true ((rd_T198 l0 x22_1).f2) ((rd_T198 l0 x22_1).f3)) else (none)) = some r := by rw [if_pos rfl] at H; exact H
         clear H
         have H := H1
         clear H1
         by_cases c64 : x9_1.length < 5026338869833
         rotate_left
         ·rw [if_neg c64] at H
          exact absurd H (by simp)
         rw [if_pos c64] at H
         have LMc64 := Aside0.mk c64
         clear c64
         obtain ⟨y161, hy161⟩ : ∃ y_ : List (S195), y_ = (x9_1 ++ [(⟨1, (⟨(⟨(rd_T198 l0 x22_1).f0.f0, (rd_T198 l0 x22_1).f0.f1⟩ : S192), (⟨0, 0⟩ : S192), (⟨0, 0⟩ : S192)⟩ : S193)⟩ : S195)]) := ⟨_, rfl⟩
         replace H : (font_buildSegments.j1 k1 true x4_1 false y161 l0 (l0.length : Int) x22_1 x145000_1 x145001_1 x146000_1 x146001_1 x147000_1 x147001_1 ((rd_T198 l0 x22_1).f0.f0) ((rd_T198 l0 x22_1).f0.f1) true ((rd_T198 l0 x22_1).f2) ((rd_T198 l0 x22_1).f3)) = some r := by first | (rw [hy161]; with_reducible exact H) | (have H2_ := (Option.bind_some _ _).symm.trans H; rw [hy161]; with_reducible exact H2_) | (have H2_ := (Option.bind_some _ _).symm.trans H; with_reducible exact H2_) | with_reducible exact H | (rw [hy161]; exact H) | exact H
         have Ny161 := Aside0.mk hy161
         clear hy161
         have H' := Aside0.mk H
         clear H
         have hnb65 := NB151_144.out
         have hnc65 := NB144_151.out
         have hnb66 := NB151_145.out
         have hnc66 := NB145_151.out
         have hnb67 := NB151_146.out
         have hnc67 := NB146_151.out
         have hnb68 := NB151_152.out
         have hnc68 := NB152_151.out
         have hcz69_0 : w20.cell? ⟨gb151, 0, none⟩ = some (.float .f32 ((rd_T198 l0 x22_1).f0.f0)) := (blk_cell BK151.out 0).trans rfl
         have hcz69_1 : w20.cell? ⟨gb151, 1, none⟩ = some (.float .f32 ((rd_T198 l0 x22_1).f0.f1)) := (blk_cell BK151.out 1).trans rfl
         have hcz69_2 : w20.cell? ⟨gb151, 2, none⟩ = some (.bool true) := (blk_cell BK151.out 2).trans rfl
         have hcz69_3 : w20.cell? ⟨gb151, 3, none⟩ = some (.bool ((rd_T198 l0 x22_1).f2)) := (blk_cell BK151.out 3).trans rfl
         have hcz69_4 : w20.cell? ⟨gb151, 4, none⟩ = some (.bool ((rd_T198 l0 x22_1).f3)) := (blk_cell BK151.out 4).trans rfl
         have hfz69_0 := blk_frozen BK151.out 0
         have hfz69_1 := blk_frozen BK151.out 1
         have hfz69_2 := blk_frozen BK151.out 2
         have hfz69_3 := blk_frozen BK151.out 3
         have hfz69_4 := blk_frozen BK151.out 4
         have hnb70 := NB152_144.out
         have hnc70 := NB144_152.out
         have hnb71 := NB152_145.out
         have hnc71 := NB145_152.out
         have hnb72 := NB152_146.out
         have hnc72 := NB146_152.out
         have hcz73_0 : w20.cell? ⟨gb152, 0, none⟩ = some (.float .f32 0) := (blk_cell BK152.out 0).trans rfl
         have hcz73_1 : w20.cell? ⟨gb152, 1, none⟩ = some (.float .f32 0) := (blk_cell BK152.out 1).trans rfl
         have hfz73_0 := blk_frozen BK152.out 0
         have hfz73_1 := blk_frozen BK152.out 1
         go_wp2_with (first | ((with_reducible refine gate_builtin (b := .append) (xs := #[.tmp 64, .tmp 68]) rfl ?_); at_builtin; refine Kd.R_append k195 (w0 := w) w.heap.size rfl (.tmp 64) (.tmp 68) 135 195 (.agg #[(.int .u8 0), (.float .f32 0), (.float .f32 0), (.float .f32 0), (.float .f32 0), (.float .f32 0), (.float .f32 0)]) 28 rfl Try.underlying135 info195 rfl (by decide) (by omega) u9 x9_1 (⟨1, (⟨(⟨(rd_T198 l0 x22_1).f0.f0, (rd_T198 l0 x22_1).f0.f1⟩ : S192), (⟨0, 0⟩ : S192), (⟨0, 0⟩ : S192)⟩ : S193)⟩ : S195) [.int .u8 1, .float .f32 ((rd_T198 l0 x22_1).f0.f0), .float .f32 ((rd_T198 l0 x22_1).f0.f1), .float .f32 0, .float .f32 0, .float .f32 0, .float .f32 0] (fun _ => True) (fun _ => False) rfl (by first | (go_simp; done) | (go_simp; rfl)) ?aP (fun _ hk => hk.elim) ?aF ?aO ?aB ?aS ?aL ?_; (case aP => exact k195_mkM _ _ _ (⟨1, (⟨(⟨(rd_T198 l0 x22_1).f0.f0, (rd_T198 l0 x22_1).f0.f1⟩ : S192), (⟨0, 0⟩ : S192), (⟨0, 0⟩ : S192)⟩ : S193)⟩ : S195)); (case aB => exact (by repeat (first | (with_reducible first | exact HB.out | apply below_alloc | apply pw_below_drewN | apply below_drew1 | refine below_set ?_ GE144.out | refine below_set ?_ GE145.out | refine below_set ?_ GE146.out | refine below_set ?_ GE151.out | refine below_set ?_ GE152.out) | exact HB.out))); (case aF => exact (fun _ _ => trivial)); (case aO => exact (by (with_reducible repeat (first | apply Kd.R_alloc | apply Kd.R_drewN | apply Kd.R_drew)); exact Kd.R_mono (Kd.R_far (p := ⟨gb152, 1, none⟩) (Kd.R_far (p := ⟨gb152, 0, none⟩) (Kd.R_types HO_9.out BK152.out (by decide)) (fun _ hk => hk.2) (.float .f32 ((rd_T198 l0 x22_1).f0.f0))) (fun _ hk => hk.2) (.float .f32 ((rd_T198 l0 x22_1).f0.f1))) (fun _ hk => trivial))); (case aS => exact (below_size (by repeat (first | (with_reducible first | exact HB.out | apply below_alloc | apply pw_below_drewN | apply below_drew1 | refine below_set ?_ GE144.out | refine below_set ?_ GE145.out | refine below_set ?_ GE146.out | refine below_set ?_ GE151.out | refine below_set ?_ GE152.out) | exact HB.out)))); (case aL => have := LMc64.out; omega); intro v162 w74 ho hb hg hat; rw [← Ny161.out] at ho; have n0_ := Aside0.mk (blk_grown (g := gb144) (o := .cells #[.float .f32 x145000_1, .float .f32 x145001_1] 192 (0, 0)) (by (with_reducible repeat (first | apply b1_ | apply b2_ | apply b3_)); refine blk_far ?_ NB144_152.out _; (with_reducible repeat (first | apply b1_ | apply b2_ | apply b3_)); refine blk_far ?_ NB144_152.out _; (with_reducible repeat (first | apply b1_ | apply b2_ | apply b3_)); exact BK144.out) hg (Kd.R_ne HO_9.out BK144.out (by decide))); have n1_ := Aside0.mk (blk_grown (g := gb145) (o := .cells #[.float .f32 x146000_1, .float .f32 x146001_1] 192 (0, 0)) (by (with_reducible repeat (first | apply b1_ | apply b2_ | apply b3_)); refine blk_far ?_ NB145_152.out _; (with_reducible repeat (first | apply b1_ | apply b2_ | apply b3_)); refine blk_far ?_ NB145_152.out _; (with_reducible repeat (first | apply b1_ | apply b2_ | apply b3_)); exact BK145.out) hg (Kd.R_ne HO_9.out BK145.out (by decide))); have n2_ := Aside0.mk (blk_grown (g := gb146) (o := .cells #[.float .f32 x147000_1, .float .f32 x147001_1] 192 (0, 0)) (by (with_reducible repeat (first | apply b1_ | apply b2_ | apply b3_)); refine blk_far ?_ NB146_152.out _; (with_reducible repeat (first | apply b1_ | apply b2_ | apply b3_)); refine blk_far ?_ NB146_152.out _; (with_reducible repeat (first | apply b1_ | apply b2_ | apply b3_)); exact BK146.out) hg (Kd.R_ne HO_9.out BK146.out (by decide))); have n3_ := Aside0.mk (blk_grown (g := gb151) (o := .cells #[.float .f32 ((rd_T198 l0 x22_1).f0.f0), .float .f32 ((rd_T198 l0 x22_1).f0.f1), .bool true, .bool ((rd_T198 l0 x22_1).f2), .bool ((rd_T198 l0 x22_1).f3)] 198 (0, 0)) (by (with_reducible repeat (first | apply b1_ | apply b2_ | apply b3_)); refine blk_far ?_ NB151_152.out _; (with_reducible repeat (first | apply b1_ | apply b2_ | apply b3_)); refine blk_far ?_ NB151_152.out _; (with_reducible repeat (first | apply b1_ | apply b2_ | apply b3_)); exact BK151.out) hg (Kd.R_ne HO_9.out BK151.out (by decide))); have n4_ := Aside0.mk (blk_grown (g := gb152) (o := .cells #[.float .f32 ((rd_T198 l0 x22_1).f0.f0), .float .f32 ((rd_T198 l0 x22_1).f0.f1)] 192 (0, 0)) (by (with_reducible repeat (first | apply b1_ | apply b2_ | apply b3_)); refine blk_put (cs := #[.float .f32 ((rd_T198 l0 x22_1).f0.f0), .float .f32 0]) ?_ 1 _ rfl; (with_reducible repeat (first | apply b1_ | apply b2_ | apply b3_)); refine blk_put (cs := #[.float .f32 0, .float .f32 0]) ?_ 0 _ rfl; (with_reducible repeat (first | apply b1_ | apply b2_ | apply b3_)); exact BK152.out) hg (Kd.R_ne HO_9.out BK152.out (by decide))); have n5_ := Aside0.mk (hb); have n6_ := Aside0.mk (ho); clear BK144; clear BK145; clear BK146; clear BK151; clear BK152; clear HB; clear HO_9; have BK144 := n0_; have BK145 := n1_; have BK146 := n2_; have BK151 := n3_; have BK152 := n4_; have HB := n5_; have HO163 := n6_; clear n0_ n1_ n2_ n3_ n4_ n5_ n6_; clear ho hb hg hat))
         go_meet
         case rel => exact ⟨_, (true), (x4_1), (false), (y161), (x145000_1), (x145001_1), (x146000_1), (x146001_1), (x147000_1), (x147001_1), (by first | rfl | (simp; done) | (simp [*]; done)), (by first | rfl | (simp; done) | (simp [*]; done)), (by first | rfl | (simp; done) | (simp [*]; done)), (by (try rw [← Nbq62.out]); exact H'), ⟨by have := HK1.out; first | omega | exact Nat.le_refl _⟩, ⟨by (with_reducible repeat (first | apply Kd.R_alloc | apply Kd.R_drewN | apply Kd.R_drew)); exact HO163.out⟩, ⟨by (with_reducible repeat (first | apply b1_ | apply b2_ | apply b3_)); exact BK144.out⟩, ⟨by (with_reducible repeat (first | apply b1_ | apply b2_ | apply b3_)); exact BK145.out⟩, ⟨by (with_reducible repeat (first | apply b1_ | apply b2_ | apply b3_)); exact BK146.out⟩, ⟨by (try rw [← Nbq62.out]); (with_reducible repeat (first | apply b1_ | apply b2_ | apply b3_)); exact BK151.out⟩, ⟨by (with_reducible repeat (first | apply b1_ | apply b2_ | apply b3_)); exact BK152.out⟩, ⟨by repeat (first | (with_reducible first | exact HB.out | apply below_alloc | apply pw_below_drewN | apply below_drew1 | refine below_set ?_ GE144.out | refine below_set ?_ GE145.out | refine below_set ?_ GE146.out | refine below_set ?_ GE151.out | refine below_set ?_ GE152.out) | exact HB.out)⟩⟩
        ·replace c63 := Bool.eq_false_iff.mpr c63
         subst c63
         have H1 : (if ((rd_T198 l0 x22_1).f2 = true) then (font_buildSegments.j1 k1 true x4_1 true x9_1 l0 (l0.length : Int) x22_1 x145000_1 x145001_1 x146000_1 x146001_1 ((rd_T198 l0 x22_1).f0.f0) ((rd_T198 l0 x22_1).f0.f1) ((rd_T198 l0 x22_1).f0.f0) ((rd_T198 l0 x22_1).f0.f1) false ((rd_T198 l0 x22_1).f2) ((rd_T198 l0 x22_1).f3)) else (font_buildSegments.l0 k1 true x4_1 true x9_1 l0 (l0.length : Int) (wrap64 (x22_1 + 1)) x145000_1 x145001_1 x146000_1 x146001_1 ((rd_T198 l0 x22_1).f0.f0) ((rd_T198 l0 x22_1).f0.f1))) = some r := by rw [if_neg (show ¬ (false = true) by decide)] at H; exact H
         clear H
         have H := H1
         clear H1
         obtain ⟨bq75, hbq75⟩ : ∃ b_ : Bool, b_ = ((rd_T198 l0 x22_1).f2) := ⟨_, rfl⟩
         replace H : (if (bq75 = true) then (font_buildSegments.j1 k1 true x4_1 true x9_1 l0 (l0.length : Int) x22_1 x145000_1 x145001_1 x146000_1 x146001_1 ((rd_T198 l0 x22_1).f0.f0) ((rd_T198 l0 x22_1).f0.f1) ((rd_T198 l0 x22_1).f0.f0) ((rd_T198 l0 x22_1).f0.f1) false bq75 ((rd_T198 l0 x22_1).f3)) else (font_buildSegments.l0 k1 true x4_1 true x9_1 l0 (l0.length : Int) (wrap64 (x22_1 + 1)) x145000_1 x145001_1 x146000_1 x146001_1 ((rd_T198 l0 x22_1).f0.f0) ((rd_T198 l0 x22_1).f0.f1))) = some r := by rw [← hbq75] at H; exact H
         have Nbq75 := Aside0.mk hbq75
         try (have B0_ := BK151.out; rw [← Nbq75.out] at B0_; replace BK151 := Aside0.mk B0_; clear B0_)
         clear hbq75
         by_cases c76 : (bq75 = true)
         ·subst c76
          have H1 : (font_buildSegments.j1 k1 true x4_1 true x9_1 l0 (l0.length : Int) x22_1 x145000_1 x145001_1 x146000_1 x146001_1 ((rd_T198 l0 x22_1).f0.f0) ((rd_T198 l0 x22_1).f0.f1) ((rd_T198 l0 x22_1).f0.f0) ((rd_T198 l0 x22_1).f0.f1) false true ((rd_T198 l0 x22_1).f3)) = some r := by rw [if_pos rfl] at H; exact H
          clear H
          have H := H1
          clear H1
          have H' := Aside0.mk H
          clear H
          have hnb77 := NB151_144.out
          have hnc77 := NB144_151.out
          have hnb78 := NB151_145.out
          have hnc78 := NB145_151.out
          have hnb79 := NB151_146.out
          have hnc79 := NB146_151.out
          have hnb80 := NB151_152.out
          have hnc80 := NB152_151.out
          have hcz81_0 : w20.cell? ⟨gb151, 0, none⟩ = some (.float .f32 ((rd_T198 l0 x22_1).f0.f0)) := (blk_cell BK151.out 0).trans rfl
          have hcz81_1 : w20.cell? ⟨gb151, 1, none⟩ = some (.float .f32 ((rd_T198 l0 x22_1).f0.f1)) := (blk_cell BK151.out 1).trans rfl
          have hcz81_2 : w20.cell? ⟨gb151, 2, none⟩ = some (.bool false) := (blk_cell BK151.out 2).trans rfl
          have hcz81_3 : w20.cell? ⟨gb151, 3, none⟩ = some (.bool true) := (blk_cell BK151.out 3).trans rfl
          have hcz81_4 : w20.cell? ⟨gb151, 4, none⟩ = some (.bool ((rd_T198 l0 x22_1).f3)) := (blk_cell BK151.out 4).trans rfl
          have hfz81_0 := blk_frozen BK151.out 0
          have hfz81_1 := blk_frozen BK151.out 1
          have hfz81_2 := blk_frozen BK151.out 2
          have hfz81_3 := blk_frozen BK151.out 3
          have hfz81_4 := blk_frozen BK151.out 4
          have hnb82 := NB152_144.out
          have hnc82 := NB144_152.out
          have hnb83 := NB152_145.out
          have hnc83 := NB145_152.out
          have hnb84 := NB152_146.out
          have hnc84 := NB146_152.out
          have hcz85_0 : w20.cell? ⟨gb152, 0, none⟩ = some (.float .f32 0) := (blk_cell BK152.out 0).trans rfl
          have hcz85_1 : w20.cell? ⟨gb152, 1, none⟩ = some (.float .f32 0) := (blk_cell BK152.out 1).trans rfl
          have hfz85_0 := blk_frozen BK152.out 0
          have hfz85_1 := blk_frozen BK152.out 1
          have hnb86 := NB146_144.out
          have hnc86 := NB144_146.out
          have hnb87 := NB146_145.out
          have hnc87 := NB145_146.out
          have hcz88_0 : w20.cell? ⟨gb146, 0, none⟩ = some (.float .f32 x147000_1) := (blk_cell BK146.out 0).trans rfl
          have hcz88_1 : w20.cell? ⟨gb146, 1, none⟩ = some (.float .f32 x147001_1) := (blk_cell BK146.out 1).trans rfl
          have hfz88_0 := blk_frozen BK146.out 0
          have hfz88_1 := blk_frozen BK146.out 1
          go_wp2
          go_meet
          case rel => exact ⟨_, (true), (x4_1), (true), (x9_1), (x145000_1), (x145001_1), (x146000_1), (x146001_1), ((rd_T198 l0 x22_1).f0.f0), ((rd_T198 l0 x22_1).f0.f1), (by first | rfl | (simp; done) | (simp [*]; done)), (by first | rfl | (simp; done) | (simp [*]; done)), (by first | rfl | (simp; done) | (simp [*]; done)), (by (try rw [← Nbq62.out]); (try rw [← Nbq75.out]); exact H'), ⟨by have := HK1.out; first | omega | exact Nat.le_refl _⟩, ⟨by (with_reducible repeat (first | apply Kd.R_alloc | apply Kd.R_drewN | apply Kd.R_drew)); exact Kd.R_mono (Kd.R_far (p := ⟨gb146, 1, none⟩) (Kd.R_far (p := ⟨gb146, 0, none⟩) (Kd.R_far (p := ⟨gb152, 1, none⟩) (Kd.R_far (p := ⟨gb152, 0, none⟩) (Kd.R_types (Kd.R_types HO_9.out BK152.out (by decide)) BK146.out (by decide)) (fun _ hk => hk.1.2) (.float .f32 ((rd_T198 l0 x22_1).f0.f0))) (fun _ hk => hk.1.2) (.float .f32 ((rd_T198 l0 x22_1).f0.f1))) (fun _ hk => hk.2) (.float .f32 ((rd_T198 l0 x22_1).f0.f0))) (fun _ hk => hk.2) (.float .f32 ((rd_T198 l0 x22_1).f0.f1))) (fun _ hk => trivial)⟩, ⟨by (with_reducible repeat (first | apply b1_ | apply b2_ | apply b3_)); refine blk_far ?_ NB144_146.out _; (with_reducible repeat (first | apply b1_ | apply b2_ | apply b3_)); refine blk_far ?_ NB144_146.out _; (with_reducible repeat (first | apply b1_ | apply b2_ | apply b3_)); refine blk_far ?_ NB144_152.out _; (with_reducible repeat (first | apply b1_ | apply b2_ | apply b3_)); refine blk_far ?_ NB144_152.out _; (with_reducible repeat (first | apply b1_ | apply b2_ | apply b3_)); exact BK144.out⟩, ⟨by (with_reducible repeat (first | apply b1_ | apply b2_ | apply b3_)); refine blk_far ?_ NB145_146.out _; (with_reducible repeat (first | apply b1_ | apply b2_ | apply b3_)); refine blk_far ?_ NB145_146.out _; (with_reducible repeat (first | apply b1_ | apply b2_ | apply b3_)); refine blk_far ?_ NB145_152.out _; (with_reducible repeat (first | apply b1_ | apply b2_ | apply b3_)); refine blk_far ?_ NB145_152.out _; (with_reducible repeat (first | apply b1_ | apply b2_ | apply b3_)); exact BK145.out⟩, ⟨by (with_reducible repeat (first | apply b1_ | apply b2_ | apply b3_)); refine blk_put (cs := #[.float .f32 ((rd_T198 l0 x22_1).f0.f0), .float .f32 x147001_1]) ?_ 1 _ rfl; (with_reducible repeat (first | apply b1_ | apply b2_ | apply b3_)); refine blk_put (cs := #[.float .f32 x147000_1, .float .f32 x147001_1]) ?_ 0 _ rfl; (with_reducible repeat (first | apply b1_ | apply b2_ | apply b3_)); refine blk_far ?_ NB146_152.out _; (with_reducible repeat (first | apply b1_ | apply b2_ | apply b3_)); refine blk_far ?_ NB146_152.out _; (with_reducible repeat (first | apply b1_ | apply b2_ | apply b3_)); exact BK146.out⟩, ⟨by (try rw [← Nbq62.out]); (try rw [← Nbq75.out]); (with_reducible repeat (first | apply b1_ | apply b2_ | apply b3_)); refine blk_far ?_ NB151_146.out _; (with_reducible repeat (first | apply b1_ | apply b2_ | apply b3_)); refine blk_far ?_ NB151_146.out _; (with_reducible repeat (first | apply b1_ | apply b2_ | apply b3_)); refine blk_far ?_ NB151_152.out _; (with_reducible repeat (first | apply b1_ | apply b2_ | apply b3_)); refine blk_far ?_ NB151_152.out _; (with_reducible repeat (first | apply b1_ | apply b2_ | apply b3_)); exact BK151.out⟩, ⟨by (with_reducible repeat (first | apply b1_ | apply b2_ | apply b3_)); refine blk_far ?_ NB152_146.out _; (with_reducible repeat (first | apply b1_ | apply b2_ | apply b3_)); refine blk_far ?_ NB152_146.out _; (with_reducible repeat (first | apply b1_ | apply b2_ | apply b3_)); refine blk_put (cs := #[.float .f32 ((rd_T198 l0 x22_1).f0.f0), .float .f32 0]) ?_ 1 _ rfl; (with_reducible repeat (first | apply b1_ | apply b2_ | apply b3_)); refine blk_put (cs := #[.float .f32 0, .float .f32 0]) ?_ 0 _ rfl; (with_reducible repeat (first | apply b1_ | apply b2_ | apply b3_)); exact BK152.out⟩, ⟨by repeat (first | (with_reducible first | exact HB.out | apply below_alloc | apply pw_below_drewN | apply below_drew1 | refine below_set ?_ GE144.out | refine below_set ?_ GE145.out | refine below_set ?_ GE146.out | refine below_set ?_ GE151.out | refine below_set ?_ GE152.out) | exact HB.out)⟩⟩
         ·replace c76 := Bool.eq_false_iff.mpr c76
          subst c76
          have H1 : (font_buildSegments.l0 k1 true x4_1 true x9_1 l0 (l0.length : Int) (wrap64 (x22_1 + 1)) x145000_1 x145001_1 x146000_1 x146001_1 ((rd_T198 l0 x22_1).f0.f0) ((rd_T198 l0 x22_1).f0.f1)) = some r := by rw [if_neg (show ¬ (false = true) by decide)] at H; exact H
          clear H
          have H := H1
          clear H1
          have H' := Aside0.mk H
          clear H
          have hnb89 := NB151_144.out
          have hnc89 := NB144_151.out
          have hnb90 := NB151_145.out
          have hnc90 := NB145_151.out
          have hnb91 := NB151_146.out
          have hnc91 := NB146_151.out
          have hnb92 := NB151_152.out
          have hnc92 := NB152_151.out
          have hcz93_0 : w20.cell? ⟨gb151, 0, none⟩ = some (.float .f32 ((rd_T198 l0 x22_1).f0.f0)) := (blk_cell BK151.out 0).trans rfl
          have hcz93_1 : w20.cell? ⟨gb151, 1, none⟩ = some (.float .f32 ((rd_T198 l0 x22_1).f0.f1)) := (blk_cell BK151.out 1).trans rfl
          have hcz93_2 : w20.cell? ⟨gb151, 2, none⟩ = some (.bool false) := (blk_cell BK151.out 2).trans rfl
          have hcz93_3 : w20.cell? ⟨gb151, 3, none⟩ = some (.bool false) := (blk_cell BK151.out 3).trans rfl
          have hcz93_4 : w20.cell? ⟨gb151, 4, none⟩ = some (.bool ((rd_T198 l0 x22_1).f3)) := (blk_cell BK151.out 4).trans rfl
          have hfz93_0 := blk_frozen BK151.out 0
          have hfz93_1 := blk_frozen BK151.out 1
          have hfz93_2 := blk_frozen BK151.out 2
          have hfz93_3 := blk_frozen BK151.out 3
          have hfz93_4 := blk_frozen BK151.out 4
          have hnb94 := NB152_144.out
          have hnc94 := NB144_152.out
          have hnb95 := NB152_145.out
          have hnc95 := NB145_152.out
          have hnb96 := NB152_146.out
          have hnc96 := NB146_152.out
          have hcz97_0 : w20.cell? ⟨gb152, 0, none⟩ = some (.float .f32 0) := (blk_cell BK152.out 0).trans rfl
          have hcz97_1 : w20.cell? ⟨gb152, 1, none⟩ = some (.float .f32 0) := (blk_cell BK152.out 1).trans rfl
          have hfz97_0 := blk_frozen BK152.out 0
          have hfz97_1 := blk_frozen BK152.out 1
          have hnb98 := NB146_144.out
          have hnc98 := NB144_146.out
          have hnb99 := NB146_145.out
          have hnc99 := NB145_146.out
          have hcz100_0 : w20.cell? ⟨gb146, 0, none⟩ = some (.float .f32 x147000_1) := (blk_cell BK146.out 0).trans rfl
          have hcz100_1 : w20.cell? ⟨gb146, 1, none⟩ = some (.float .f32 x147001_1) := (blk_cell BK146.out 1).trans rfl
          have hfz100_0 := blk_frozen BK146.out 0
          have hfz100_1 := blk_frozen BK146.out 1
          go_wp2
          go_roundg k1
          case measure => have := HK1.out; omega
          case rel => exact ⟨(true), (x4_1), (true), (x9_1), (wrap64 (x22_1 + 1)), (x145000_1), (x145001_1), (x146000_1), (x146001_1), ((rd_T198 l0 x22_1).f0.f0), ((rd_T198 l0 x22_1).f0.f1), (by first | rfl | (simp; done) | (simp [*]; done)), (by first | rfl | (simp; done) | (simp [*]; done)), (by first | rfl | (simp; done) | (simp [*]; done)), (by first | rfl | (simp; done) | (simp [*]; done)), (by (try rw [← Nbq62.out]); (try rw [← Nbq75.out]); exact H'), ⟨by have := HK1.out; omega⟩, ⟨by (with_reducible repeat (first | apply Kd.R_alloc | apply Kd.R_drewN | apply Kd.R_drew)); exact Kd.R_mono (Kd.R_far (p := ⟨gb146, 1, none⟩) (Kd.R_far (p := ⟨gb146, 0, none⟩) (Kd.R_far (p := ⟨gb152, 1, none⟩) (Kd.R_far (p := ⟨gb152, 0, none⟩) (Kd.R_types (Kd.R_types HO_9.out BK152.out (by decide)) BK146.out (by decide)) (fun _ hk => hk.1.2) (.float .f32 ((rd_T198 l0 x22_1).f0.f0))) (fun _ hk => hk.1.2) (.float .f32 ((rd_T198 l0 x22_1).f0.f1))) (fun _ hk => hk.2) (.float .f32 ((rd_T198 l0 x22_1).f0.f0))) (fun _ hk => hk.2) (.float .f32 ((rd_T198 l0 x22_1).f0.f1))) (fun _ hk => trivial)⟩, ⟨by (with_reducible repeat (first | apply b1_ | apply b2_ | apply b3_)); refine blk_far ?_ NB144_146.out _; (with_reducible repeat (first | apply b1_ | apply b2_ | apply b3_)); refine blk_far ?_ NB144_146.out _; (with_reducible repeat (first | apply b1_ | apply b2_ | apply b3_)); refine blk_far ?_ NB144_152.out _; (with_reducible repeat (first | apply b1_ | apply b2_ | apply b3_)); refine blk_far ?_ NB144_152.out _; (with_reducible repeat (first | apply b1_ | apply b2_ | apply b3_)); exact BK144.out⟩, ⟨by (with_reducible repeat (first | apply b1_ | apply b2_ | apply b3_)); refine blk_far ?_ NB145_146.out _; (with_reducible repeat (first | apply b1_ | apply b2_ | apply b3_)); refine blk_far ?_ NB145_146.out _; (with_reducible repeat (first | apply b1_ | apply b2_ | apply b3_)); refine blk_far ?_ NB145_152.out _; (with_reducible repeat (first | apply b1_ | apply b2_ | apply b3_)); refine blk_far ?_ NB145_152.out _; (with_reducible repeat (first | apply b1_ | apply b2_ | apply b3_)); exact BK145.out⟩, ⟨by (with_reducible repeat (first | apply b1_ | apply b2_ | apply b3_)); refine blk_put (cs := #[.float .f32 ((rd_T198 l0 x22_1).f0.f0), .float .f32 x147001_1]) ?_ 1 _ rfl; (with_reducible repeat (first | apply b1_ | apply b2_ | apply b3_)); refine blk_put (cs := #[.float .f32 x147000_1, .float .f32 x147001_1]) ?_ 0 _ rfl; (with_reducible repeat (first | apply b1_ | apply b2_ | apply b3_)); refine blk_far ?_ NB146_152.out _; (with_reducible repeat (first | apply b1_ | apply b2_ | apply b3_)); refine blk_far ?_ NB146_152.out _; (with_reducible repeat (first | apply b1_ | apply b2_ | apply b3_)); exact BK146.out⟩, ⟨by repeat (first | (with_reducible first | exact HB.out | apply below_alloc | apply pw_below_drewN | apply below_drew1 | refine below_set ?_ GE144.out | refine below_set ?_ GE145.out | refine below_set ?_ GE146.out | refine below_set ?_ GE151.out | refine below_set ?_ GE152.out) | exact HB.out)⟩⟩
      ·replace c26 := Bool.eq_false_iff.mpr c26
       subst c26
       have H1 : (if (rd_T198 l0 x22_1).f1 = true then (if x9_1.length < 5026338869833 then (font_buildSegments.j1 k1 true x4_1 x5_1 (x9_1 ++ [(⟨0, (⟨(⟨(rd_T198 l0 x22_1).f0.f0, (rd_T198 l0 x22_1).f0.f1⟩ : S192), (⟨0, 0⟩ : S192), (⟨0, 0⟩ : S192)⟩ : S193)⟩ : S195)]) l0 (l0.length : Int) x22_1 ((rd_T198 l0 x22_1).f0.f0) ((rd_T198 l0 x22_1).f0.f1) x146000_1 x146001_1 x147000_1 x147001_1 ((rd_T198 l0 x22_1).f0.f0) ((rd_T198 l0 x22_1).f0.f1) ((rd_T198 l0 x22_1).f1) ((rd_T198 l0 x22_1).f2) ((rd_T198 l0 x22_1).f3)) else (none)) else (if x4_1 = true then ((font_midPoint.f x146000_1 x146001_1 ((rd_T198 l0 x22_1).f0.f0) ((rd_T198 l0 x22_1).f0.f1)).bind fun bt167 => (if x9_1.length < 5026338869833 then (font_buildSegments.j1 k1 true x4_1 true (x9_1 ++ [(⟨0, (⟨(⟨bt167.1, bt167.2⟩ : S192), (⟨0, 0⟩ : S192), (⟨0, 0⟩ : S192)⟩ : S193)⟩ : S195)]) l0 (l0.length : Int) x22_1 bt167.1 bt167.2 x146000_1 x146001_1 ((rd_T198 l0 x22_1).f0.f0) ((rd_T198 l0 x22_1).f0.f1) ((rd_T198 l0 x22_1).f0.f0) ((rd_T198 l0 x22_1).f0.f1) ((rd_T198 l0 x22_1).f1) ((rd_T198 l0 x22_1).f2) ((rd_T198 l0 x22_1).f3)) else (none))) else (if ((rd_T198 l0 x22_1).f2 = true) then (font_buildSegments.j1 k1 false true x5_1 x9_1 l0 (l0.length : Int) x22_1 x145000_1 x145001_1 ((rd_T198 l0 x22_1).f0.f0) ((rd_T198 l0 x22_1).f0.f1) x147000_1 x147001_1 ((rd_T198 l0 x22_1).f0.f0) ((rd_T198 l0 x22_1).f0.f1) ((rd_T198 l0 x22_1).f1) ((rd_T198 l0 x22_1).f2) ((rd_T198 l0 x22_1).f3)) else (font_buildSegments.l0 k1 false true x5_1 x9_1 l0 (l0.length : Int) (wrap64 (x22_1 + 1)) x145000_1 x145001_1 ((rd_T198 l0 x22_1).f0.f0) ((rd_T198 l0 x22_1).f0.f1) x147000_1 x147001_1)))) = some r := by rw [if_neg (show ¬ (false = true) by decide)] at H; exact H
       clear H
       have H := H1
       clear H1
       obtain ⟨bq101, hbq101⟩ : ∃ b_ : Bool, b_ = ((rd_T198 l0 x22_1).f1) := ⟨_, rfl⟩
       replace H : (if bq101 = true then (if x9_1.length < 5026338869833 then (font_buildSegments.j1 k1 true x4_1 x5_1 (x9_1 ++ [(⟨0, (⟨(⟨(rd_T198 l0 x22_1).f0.f0, (rd_T198 l0 x22_1).f0.f1⟩ : S192), (⟨0, 0⟩ : S192), (⟨0, 0⟩ : S192)⟩ : S193)⟩ : S195)]) l0 (l0.length : Int) x22_1 ((rd_T198 l0 x22_1).f0.f0) ((rd_T198 l0 x22_1).f0.f1) x146000_1 x146001_1 x147000_1 x147001_1 ((rd_T198 l0 x22_1).f0.f0) ((rd_T198 l0 x22_1).f0.f1) bq101 ((rd_T198 l0 x22_1).f2) ((rd_T198 l0 x22_1).f3)) else (none)) else (if x4_1 = true then ((font_midPoint.f x146000_1 x146001_1 ((rd_T198 l0 x22_1).f0.f0) ((rd_T198 l0 x22_1).f0.f1)).bind fun bt167 => (if x9_1.length < 5026338869833 then (font_buildSegments.j1 k1 true x4_1 true (x9_1 ++ [(⟨0, (⟨(⟨bt167.1, bt167.2⟩ : S192), (⟨0, 0⟩ : S192), (⟨0, 0⟩ : S192)⟩ : S193)⟩ : S195)]) l0 (l0.length : Int) x22_1 bt167.1 bt167.2 x146000_1 x146001_1 ((rd_T198 l0 x22_1).f0.f0) ((rd_T198 l0 x22_1).f0.f1) ((rd_T198 l0 x22_1).f0.f0) ((rd_T198 l0 x22_1).f0.f1) bq101 ((rd_T198 l0 x22_1).f2) ((rd_T198 l0 x22_1).f3)) else (none))) else (if ((rd_T198 l0 x22_1).f2 = true) then (font_buildSegments.j1 k1 false true x5_1 x9_1 l0 (l0.length : Int) x22_1 x145000_1 x145001_1 ((rd_T198 l0 x22_1).f0.f0) ((rd_T198 l0 x22_1).f0.f1) x147000_1 x147001_1 ((rd_T198 l0 x22_1).f0.f0) ((rd_T198 l0 x22_1).f0.f1) bq101 ((rd_T198 l0 x22_1).f2) ((rd_T198 l0 x22_1).f3)) else (font_buildSegments.l0 k1 false true x5_1 x9_1 l0 (l0.length : Int) (wrap64 (x22_1 + 1)) x145000_1 x145001_1 ((rd_T198 l0 x22_1).f0.f0) ((rd_T198 l0 x22_1).f0.f1) x147000_1 x147001_1)))) = some r := by rw [← hbq101] at H; exact H
       have Nbq101 := Aside0.mk hbq101
       try (have B0_ := BK151.out; rw [← Nbq101.out] at B0_; replace BK151 := Aside0.mk B0_; clear B0_)
       clear hbq101
       by_cases c102 : bq101 = true
       ·subst c102
        have H1 : (if x9_1.length < 5026338869833 then (font_buildSegments.j1 k1 true x4_1 x5_1 (x9_1 ++ [(⟨0, (⟨(⟨(rd_T198 l0 x22_1).f0.f0, (rd_T198 l0 x22_1).f0.f1⟩ : S192), (⟨0, 0⟩ : S192), (⟨0, 0⟩ : S192)⟩ : S193)⟩ : S195)]) l0 (l0.length : Int) x22_1 ((rd_T198 l0 x22_1).f0.f0) ((rd_T198 l0 x22_1).f0.f1) x146000_1 x146001_1 x147000_1 x147001_1 ((rd_T198 l0 x22_1).f0.f0) ((rd_T198 l0 x22_1).f0.f1) true ((rd_T198 l0 x22_1).f2) ((rd_T198 l0 x22_1).f3)) else (none)) = some r := by rw [if_pos rfl] at H; exact H
        clear H
        have H := H1
        clear H1
        by_cases c103 : x9_1.length < 5026338869833
        rotate_left
        ·rw [if_neg c103] at H
         exact absurd H (by simp)
        rw [if_pos c103] at H
        have LMc103 := Aside0.mk c103
        clear c103
        obtain ⟨y164, hy164⟩ : ∃ y_ : List (S195), y_ = (x9_1 ++ [(⟨0, (⟨(⟨(rd_T198 l0 x22_1).f0.f0, (rd_T198 l0 x22_1).f0.f1⟩ : S192), (⟨0, 0⟩ : S192), (⟨0, 0⟩ : S192)⟩ : S193)⟩ : S195)]) := ⟨_, rfl⟩
        replace H : (font_buildSegments.j1 k1 true x4_1 x5_1 y164 l0 (l0.length : Int) x22_1 ((rd_T198 l0 x22_1).f0.f0) ((rd_T198 l0 x22_1).f0.f1) x146000_1 x146001_1 x147000_1 x147001_1 ((rd_T198 l0 x22_1).f0.f0) ((rd_T198 l0 x22_1).f0.f1) true ((rd_T198 l0 x22_1).f2) ((rd_T198 l0 x22_1).f3)) = some r := by first | (rw [hy164]; with_reducible exact H) | (have H2_ := (Option.bind_some _ _).symm.trans H; rw [hy164]; with_reducible exact H2_) | (have H2_ := (Option.bind_some _ _).symm.trans H; with_reducible exact H2_) | with_reducible exact H | (rw [hy164]; exact H) | exact H
        have Ny164 := Aside0.mk hy164
        clear hy164
        have H' := Aside0.mk H
        clear H
        have hnb104 := NB151_144.out
        have hnc104 := NB144_151.out
        have hnb105 := NB151_145.out
        have hnc105 := NB145_151.out
        have hnb106 := NB151_146.out
        have hnc106 := NB146_151.out
        have hnb107 := NB151_152.out
        have hnc107 := NB152_151.out
        have hcz108_0 : w20.cell? ⟨gb151, 0, none⟩ = some (.float .f32 ((rd_T198 l0 x22_1).f0.f0)) := (blk_cell BK151.out 0).trans rfl
        have hcz108_1 : w20.cell? ⟨gb151, 1, none⟩ = some (.float .f32 ((rd_T198 l0 x22_1).f0.f1)) := (blk_cell BK151.out 1).trans rfl
        have hcz108_2 : w20.cell? ⟨gb151, 2, none⟩ = some (.bool true) := (blk_cell BK151.out 2).trans rfl
        have hcz108_3 : w20.cell? ⟨gb151, 3, none⟩ = some (.bool ((rd_T198 l0 x22_1).f2)) := (blk_cell BK151.out 3).trans rfl
        have hcz108_4 : w20.cell? ⟨gb151, 4, none⟩ = some (.bool ((rd_T198 l0 x22_1).f3)) := (blk_cell BK151.out 4).trans rfl
        have hfz108_0 := blk_frozen BK151.out 0
        have hfz108_1 := blk_frozen BK151.out 1
        have hfz108_2 := blk_frozen BK151.out 2
        have hfz108_3 := blk_frozen BK151.out 3
        have hfz108_4 := blk_frozen BK151.out 4
        have hnb109 := NB152_144.out
        have hnc109 := NB144_152.out
        have hnb110 := NB152_145.out
        have hnc110 := NB145_152.out
        have hnb111 := NB152_146.out
        have hnc111 := NB146_152.out
        have hcz112_0 : w20.cell? ⟨gb152, 0, none⟩ = some (.float .f32 0) := (blk_cell BK152.out 0).trans rfl
        have hcz112_1 : w20.cell? ⟨gb152, 1, none⟩ = some (.float .f32 0) := (blk_cell BK152.out 1).trans rfl
        have hfz112_0 := blk_frozen BK152.out 0
        have hfz112_1 := blk_frozen BK152.out 1
        have hnb113 := NB144_145.out
        have hnc113 := NB145_144.out
        have hnb114 := NB144_146.out
        have hnc114 := NB146_144.out
        have hcz115_0 : w20.cell? ⟨gb144, 0, none⟩ = some (.float .f32 x145000_1) := (blk_cell BK144.out 0).trans rfl
        have hcz115_1 : w20.cell? ⟨gb144, 1, none⟩ = some (.float .f32 x145001_1) := (blk_cell BK144.out 1).trans rfl
        have hfz115_0 := blk_frozen BK144.out 0
        have hfz115_1 := blk_frozen BK144.out 1
        go_wp2_with (first | ((with_reducible refine gate_builtin (b := .append) (xs := #[.tmp 33, .tmp 37]) rfl ?_); at_builtin; refine Kd.R_append k195 (w0 := w) w.heap.size rfl (.tmp 33) (.tmp 37) 135 195 (.agg #[(.int .u8 0), (.float .f32 0), (.float .f32 0), (.float .f32 0), (.float .f32 0), (.float .f32 0), (.float .f32 0)]) 28 rfl Try.underlying135 info195 rfl (by decide) (by omega) u9 x9_1 (⟨0, (⟨(⟨(rd_T198 l0 x22_1).f0.f0, (rd_T198 l0 x22_1).f0.f1⟩ : S192), (⟨0, 0⟩ : S192), (⟨0, 0⟩ : S192)⟩ : S193)⟩ : S195) [.int .u8 0, .float .f32 ((rd_T198 l0 x22_1).f0.f0), .float .f32 ((rd_T198 l0 x22_1).f0.f1), .float .f32 0, .float .f32 0, .float .f32 0, .float .f32 0] (fun _ => True) (fun _ => False) rfl (by first | (go_simp; done) | (go_simp; rfl)) ?aP (fun _ hk => hk.elim) ?aF ?aO ?aB ?aS ?aL ?_; (case aP => exact k195_mkM _ _ _ (⟨0, (⟨(⟨(rd_T198 l0 x22_1).f0.f0, (rd_T198 l0 x22_1).f0.f1⟩ : S192), (⟨0, 0⟩ : S192), (⟨0, 0⟩ : S192)⟩ : S193)⟩ : S195)); (case aB => exact (by repeat (first | (with_reducible first | exact HB.out | apply below_alloc | apply pw_below_drewN | apply below_drew1 | refine below_set ?_ GE144.out | refine below_set ?_ GE145.out | refine below_set ?_ GE146.out | refine below_set ?_ GE151.out | refine below_set ?_ GE152.out) | exact HB.out))); (case aF => exact (fun _ _ => trivial)); (case aO => exact (by (with_reducible repeat (first | apply Kd.R_alloc | apply Kd.R_drewN | apply Kd.R_drew)); exact Kd.R_mono (Kd.R_far (p := ⟨gb144, 1, none⟩) (Kd.R_far (p := ⟨gb144, 0, none⟩) (Kd.R_far (p := ⟨gb152, 1, none⟩) (Kd.R_far (p := ⟨gb152, 0, none⟩) (Kd.R_types (Kd.R_types HO_9.out BK152.out (by decide)) BK144.out (by decide)) (fun _ hk => hk.1.2) (.float .f32 ((rd_T198 l0 x22_1).f0.f0))) (fun _ hk => hk.1.2) (.float .f32 ((rd_T198 l0 x22_1).f0.f1))) (fun _ hk => hk.2) (.float .f32 ((rd_T198 l0 x22_1).f0.f0))) (fun _ hk => hk.2) (.float .f32 ((rd_T198 l0 x22_1).f0.f1))) (fun _ hk => trivial))); (case aS => exact (below_size (by repeat (first | (with_reducible first | exact HB.out | apply below_alloc | apply pw_below_drewN | apply below_drew1 | refine below_set ?_ GE144.out | refine below_set ?_ GE145.out | refine below_set ?_ GE146.out | refine below_set ?_ GE151.out | refine below_set ?_ GE152.out) | exact HB.out)))); (case aL => have := LMc103.out; omega); intro v165 w116 ho hb hg hat; rw [← Ny164.out] at ho; have n0_ := Aside0.mk (blk_grown (g := gb144) (o := .cells #[.float .f32 ((rd_T198 l0 x22_1).f0.f0), .float .f32 ((rd_T198 l0 x22_1).f0.f1)] 192 (0, 0)) (by (with_reducible repeat (first | apply b1_ | apply b2_ | apply b3_)); refine blk_put (cs := #[.float .f32 ((rd_T198 l0 x22_1).f0.f0), .float .f32 x145001_1]) ?_ 1 _ rfl; (with_reducible repeat (first | apply b1_ | apply b2_ | apply b3_)); refine blk_put (cs := #[.float .f32 x145000_1, .float .f32 x145001_1]) ?_ 0 _ rfl; (with_reducible repeat (first | apply b1_ | apply b2_ | apply b3_)); refine blk_far ?_ NB144_152.out _; (with_reducible repeat (first | apply b1_ | apply b2_ | apply b3_)); refine blk_far ?_ NB144_152.out _; (with_reducible repeat (first | apply b1_ | apply b2_ | apply b3_)); exact BK144.out) hg (Kd.R_ne HO_9.out BK144.out (by decide))); have n1_ := Aside0.mk (blk_grown (g := gb145) (o := .cells #[.float .f32 x146000_1, .float .f32 x146001_1] 192 (0, 0)) (by (with_reducible repeat (first | apply b1_ | apply b2_ | apply b3_)); refine blk_far ?_ NB145_144.out _; (with_reducible repeat (first | apply b1_ | apply b2_ | apply b3_)); refine blk_far ?_ NB145_144.out _; (with_reducible repeat (first | apply b1_ | apply b2_ | apply b3_)); refine blk_far ?_ NB145_152.out _; (with_reducible repeat (first | apply b1_ | apply b2_ | apply b3_)); refine blk_far ?_ NB145_152.out _; (with_reducible repeat (first | apply b1_ | apply b2_ | apply b3_)); exact BK145.out) hg (Kd.R_ne HO_9.out BK145.out (by decide))); have n2_ := Aside0.mk (blk_grown (g := gb146) (o := .cells #[.float .f32 x147000_1, .float .f32 x147001_1] 192 (0, 0)) (by (with_reducible repeat (first | apply b1_ | apply b2_ | apply b3_)); refine blk_far ?_ NB146_144.out _; (with_reducible repeat (first | apply b1_ | apply b2_ | apply b3_)); refine blk_far ?_ NB146_144.out _; (with_reducible repeat (first | apply b1_ | apply b2_ | apply b3_)); refine blk_far ?_ NB146_152.out _; (with_reducible repeat (first | apply b1_ | apply b2_ | apply b3_)); refine blk_far ?_ NB146_152.out _; (with_reducible repeat (first | apply b1_ | apply b2_ | apply b3_)); exact BK146.out) hg (Kd.R_ne HO_9.out BK146.out (by decide))); have n3_ := Aside0.mk (blk_grown (g := gb151) (o := .cells #[.float .f32 ((rd_T198 l0 x22_1).f0.f0), .float .f32 ((rd_T198 l0 x22_1).f0.f1), .bool true, .bool ((rd_T198 l0 x22_1).f2), .bool ((rd_T198 l0 x22_1).f3)] 198 (0, 0)) (by (with_reducible repeat (first | apply b1_ | apply b2_ | apply b3_)); refine blk_far ?_ NB151_144.out _; (with_reducible repeat (first | apply b1_ | apply b2_ | apply b3_)); refine blk_far ?_ NB151_144.out _; (with_reducible repeat (first | apply b1_ | apply b2_ | apply b3_)); refine blk_far ?_ NB151_152.out _; (with_reducible repeat (first | apply b1_ | apply b2_ | apply b3_)); refine blk_far ?_ NB151_152.out _; (with_reducible repeat (first | apply b1_ | apply b2_ | apply b3_)); exact BK151.out) hg (Kd.R_ne HO_9.out BK151.out (by decide))); have n4_ := Aside0.mk (blk_grown (g := gb152) (o := .cells #[.float .f32 ((rd_T198 l0 x22_1).f0.f0), .float .f32 ((rd_T198 l0 x22_1).f0.f1)] 192 (0, 0)) (by (with_reducible repeat (first | apply b1_ | apply b2_ | apply b3_)); refine blk_far ?_ NB152_144.out _; (with_reducible repeat (first | apply b1_ | apply b2_ | apply b3_)); refine blk_far ?_ NB152_144.out _; (with_reducible repeat (first | apply b1_ | apply b2_ | apply b3_)); refine blk_put (cs := #[.float .f32 ((rd_T198 l0 x22_1).f0.f0), .float .f32 0]) ?_ 1 _ rfl; (with_reducible repeat (first | apply b1_ | apply b2_ | apply b3_)); refine blk_put (cs := #[.float .f32 0, .float .f32 0]) ?_ 0 _ rfl; (with_reducible repeat (first | apply b1_ | apply b2_ | apply b3_)); exact BK152.out) hg (Kd.R_ne HO_9.out BK152.out (by decide))); have n5_ := Aside0.mk (hb); have n6_ := Aside0.mk (ho); clear BK144; clear BK145; clear BK146; clear BK151; clear BK152; clear HB; clear HO_9; have BK144 := n0_; have BK145 := n1_; have BK146 := n2_; have BK151 := n3_; have BK152 := n4_; have HB := n5_; have HO166 := n6_; clear n0_ n1_ n2_ n3_ n4_ n5_ n6_; clear ho hb hg hat))
        go_meet
        case rel => exact ⟨_, (true), (x4_1), (x5_1), (y164), ((rd_T198 l0 x22_1).f0.f0), ((rd_T198 l0 x22_1).f0.f1), (x146000_1), (x146001_1), (x147000_1), (x147001_1), (by first | rfl | (simp; done) | (simp [*]; done)), (by first | rfl | (simp; done) | (simp [*]; done)), (by first | rfl | (simp; done) | (simp [*]; done)), (by (try rw [← Nbq101.out]); exact H'), ⟨by have := HK1.out; first | omega | exact Nat.le_refl _⟩, ⟨by (with_reducible repeat (first | apply Kd.R_alloc | apply Kd.R_drewN | apply Kd.R_drew)); exact HO166.out⟩, ⟨by (with_reducible repeat (first | apply b1_ | apply b2_ | apply b3_)); exact BK144.out⟩, ⟨by (with_reducible repeat (first | apply b1_ | apply b2_ | apply b3_)); exact BK145.out⟩, ⟨by (with_reducible repeat (first | apply b1_ | apply b2_ | apply b3_)); exact BK146.out⟩, ⟨by (try rw [← Nbq101.out]); (with_reducible repeat (first | apply b1_ | apply b2_ | apply b3_)); exact BK151.out⟩, ⟨by (with_reducible repeat (first | apply b1_ | apply b2_ | apply b3_)); exact BK152.out⟩, ⟨by repeat (first | (with_reducible first | exact HB.out | apply below_alloc | apply pw_below_drewN | apply below_drew1 | refine below_set ?_ GE144.out | refine below_set ?_ GE145.out | refine below_set ?_ GE146.out | refine below_set ?_ GE151.out | refine below_set ?_ GE152.out) | exact HB.out)⟩⟩
       ·replace c102 := Bool.eq_false_iff.mpr c102
        subst c102
        have H1 : (if x4_1 = true then ((font_midPoint.f x146000_1 x146001_1 ((rd_T198 l0 x22_1).f0.f0) ((rd_T198 l0 x22_1).f0.f1)).bind fun bt167 => (if x9_1.length < 5026338869833 then (font_buildSegments.j1 k1 true x4_1 true (x9_1 ++ [(⟨0, (⟨(⟨bt167.1, bt167.2⟩ : S192), (⟨0, 0⟩ : S192), (⟨0, 0⟩ : S192)⟩ : S193)⟩ : S195)]) l0 (l0.length : Int) x22_1 bt167.1 bt167.2 x146000_1 x146001_1 ((rd_T198 l0 x22_1).f0.f0) ((rd_T198 l0 x22_1).f0.f1) ((rd_T198 l0 x22_1).f0.f0) ((rd_T198 l0 x22_1).f0.f1) false ((rd_T198 l0 x22_1).f2) ((rd_T198 l0 x22_1).f3)) else (none))) else (if ((rd_T198 l0 x22_1).f2 = true) then (font_buildSegments.j1 k1 false true x5_1 x9_1 l0 (l0.length : Int) x22_1 x145000_1 x145001_1 ((rd_T198 l0 x22_1).f0.f0) ((rd_T198 l0 x22_1).f0.f1) x147000_1 x147001_1 ((rd_T198 l0 x22_1).f0.f0) ((rd_T198 l0 x22_1).f0.f1) false ((rd_T198 l0 x22_1).f2) ((rd_T198 l0 x22_1).f3)) else (font_buildSegments.l0 k1 false true x5_1 x9_1 l0 (l0.length : Int) (wrap64 (x22_1 + 1)) x145000_1 x145001_1 ((rd_T198 l0 x22_1).f0.f0) ((rd_T198 l0 x22_1).f0.f1) x147000_1 x147001_1))) = some r := by rw [if_neg (show ¬ (false = true) by decide)] at H; exact H
        clear H
        have H := H1
        clear H1
        by_cases c117 : x4_1 = true
        ·subst c117
         have H1 : ((font_midPoint.f x146000_1 x146001_1 ((rd_T198 l0 x22_1).f0.f0) ((rd_T198 l0 x22_1).f0.f1)).bind fun bt167 => (if x9_1.length < 5026338869833 then (font_buildSegments.j1 k1 true true true (x9_1 ++ [(⟨0, (⟨(⟨bt167.1, bt167.2⟩ : S192), (⟨0, 0⟩ : S192), (⟨0, 0⟩ : S192)⟩ : S193)⟩ : S195)]) l0 (l0.length : Int) x22_1 bt167.1 bt167.2 x146000_1 x146001_1 ((rd_T198 l0 x22_1).f0.f0) ((rd_T198 l0 x22_1).f0.f1) ((rd_T198 l0 x22_1).f0.f0) ((rd_T198 l0 x22_1).f0.f1) false ((rd_T198 l0 x22_1).f2) ((rd_T198 l0 x22_1).f3)) else (none))) = some r := by rw [if_pos rfl] at H; exact H
         clear H
         have H := H1
         clear H1
         replace H := Option.bind_eq_some_iff.mp H
         obtain ⟨⟨t167, t168⟩, A1180, H⟩ := H
         replace H : (if x9_1.length < 5026338869833 then (font_buildSegments.j1 k1 true true true (x9_1 ++ [(⟨0, (⟨(⟨t167, t168⟩ : S192), (⟨0, 0⟩ : S192), (⟨0, 0⟩ : S192)⟩ : S193)⟩ : S195)]) l0 (l0.length : Int) x22_1 t167 t168 x146000_1 x146001_1 ((rd_T198 l0 x22_1).f0.f0) ((rd_T198 l0 x22_1).f0.f1) ((rd_T198 l0 x22_1).f0.f0) ((rd_T198 l0 x22_1).f0.f1) false ((rd_T198 l0 x22_1).f2) ((rd_T198 l0 x22_1).f3)) else (none)) = some r := H
         have A118 := Aside0.mk A1180
         clear A1180
         by_cases c119 : x9_1.length < 5026338869833
         rotate_left
         ·rw [if_neg c119] at H
          exact absurd H (by simp)
         rw [if_pos c119] at H
         have LMc119 := Aside0.mk c119
         clear c119
         obtain ⟨y169, hy169⟩ : ∃ y_ : List (S195), y_ = (x9_1 ++ [(⟨0, (⟨(⟨t167, t168⟩ : S192), (⟨0, 0⟩ : S192), (⟨0, 0⟩ : S192)⟩ : S193)⟩ : S195)]) := ⟨_, rfl⟩
         replace H : (font_buildSegments.j1 k1 true true true y169 l0 (l0.length : Int) x22_1 t167 t168 x146000_1 x146001_1 ((rd_T198 l0 x22_1).f0.f0) ((rd_T198 l0 x22_1).f0.f1) ((rd_T198 l0 x22_1).f0.f0) ((rd_T198 l0 x22_1).f0.f1) false ((rd_T198 l0 x22_1).f2) ((rd_T198 l0 x22_1).f3)) = some r := by first | (rw [hy169]; with_reducible exact H) | (have H2_ := (Option.bind_some _ _).symm.trans H; rw [hy169]; with_reducible exact H2_) | (have H2_ := (Option.bind_some _ _).symm.trans H; with_reducible exact H2_) | with_reducible exact H | (rw [hy169]; exact H) | exact H
         have Ny169 := Aside0.mk hy169
         clear hy169
         have H' := Aside0.mk H
         clear H
         have hnb120 := NB151_144.out
         have hnc120 := NB144_151.out
         have hnb121 := NB151_145.out
         have hnc121 := NB145_151.out
         have hnb122 := NB151_146.out
         have hnc122 := NB146_151.out
         have hnb123 := NB151_152.out
         have hnc123 := NB152_151.out
         have hcz124_0 : w20.cell? ⟨gb151, 0, none⟩ = some (.float .f32 ((rd_T198 l0 x22_1).f0.f0)) := (blk_cell BK151.out 0).trans rfl
         have hcz124_1 : w20.cell? ⟨gb151, 1, none⟩ = some (.float .f32 ((rd_T198 l0 x22_1).f0.f1)) := (blk_cell BK151.out 1).trans rfl
         have hcz124_2 : w20.cell? ⟨gb151, 2, none⟩ = some (.bool false) := (blk_cell BK151.out 2).trans rfl
         have hcz124_3 : w20.cell? ⟨gb151, 3, none⟩ = some (.bool ((rd_T198 l0 x22_1).f2)) := (blk_cell BK151.out 3).trans rfl
         have hcz124_4 : w20.cell? ⟨gb151, 4, none⟩ = some (.bool ((rd_T198 l0 x22_1).f3)) := (blk_cell BK151.out 4).trans rfl
         have hfz124_0 := blk_frozen BK151.out 0
         have hfz124_1 := blk_frozen BK151.out 1
         have hfz124_2 := blk_frozen BK151.out 2
         have hfz124_3 := blk_frozen BK151.out 3
         have hfz124_4 := blk_frozen BK151.out 4
         have hnb125 := NB145_144.out
         have hnc125 := NB144_145.out
         have hnb126 := NB145_146.out
         have hnc126 := NB146_145.out
         have hnb127 := NB145_152.out
         have hnc127 := NB152_145.out
         have hcz128_0 : w20.cell? ⟨gb145, 0, none⟩ = some (.float .f32 x146000_1) := (blk_cell BK145.out 0).trans rfl
         have hcz128_1 : w20.cell? ⟨gb145, 1, none⟩ = some (.float .f32 x146001_1) := (blk_cell BK145.out 1).trans rfl
         have hfz128_0 := blk_frozen BK145.out 0
         have hfz128_1 := blk_frozen BK145.out 1
         have hnb129 := NB152_144.out
         have hnc129 := NB144_152.out
         have hnb130 := NB152_146.out
         have hnc130 := NB146_152.out
         have hcz131_0 : w20.cell? ⟨gb152, 0, none⟩ = some (.float .f32 0) := (blk_cell BK152.out 0).trans rfl
         have hcz131_1 : w20.cell? ⟨gb152, 1, none⟩ = some (.float .f32 0) := (blk_cell BK152.out 1).trans rfl
         have hfz131_0 := blk_frozen BK152.out 0
         have hfz131_1 := blk_frozen BK152.out 1
         go_wp2_with (first | ((with_reducible refine gate_callee (f := 70) rfl ?_); refine goesL_ (some 47) rfl rfl Try.func70 (by kernel_rfl) rfl #[.agg #[.float .f32 x146000_1, .float .f32 x146001_1], .agg #[.float .f32 ((rd_T198 l0 x22_1).f0.f0), .float .f32 ((rd_T198 l0 x22_1).f0.f1)]] rfl (by (try simp only [List.map_toArray, List.map_cons, List.map_nil]); first | done | rfl | (simp only [List.length_drop, List.length_take]; rfl)) ?_; (with_reducible refine (font_midPoint.calls x146000_1 x146001_1 ((rd_T198 l0 x22_1).f0.f0) ((rd_T198 l0 x22_1).f0.f1) t167 t168 _ A118.out).mono ?_); rintro e w132 ⟨rfl, hb⟩; refine ⟨_, rfl, ?_⟩; have n0_ := Aside0.mk (Kd.R_below (by (with_reducible repeat (first | apply Kd.R_alloc | apply Kd.R_drewN | apply Kd.R_drew)); exact (Kd.R_mono (Kd.R_far (p := ⟨gb152, 1, none⟩) (Kd.R_far (p := ⟨gb152, 0, none⟩) (Kd.R_types HO_9.out BK152.out (by decide)) (fun _ hk => hk.2) (.float .f32 ((rd_T198 l0 x22_1).f0.f0))) (fun _ hk => hk.2) (.float .f32 ((rd_T198 l0 x22_1).f0.f1))) (fun _ h_ => h_.1))) hb); have n1_ := Aside0.mk (blk_below (g := gb144) (o := .cells #[.float .f32 x145000_1, .float .f32 x145001_1] 192 (0, 0)) (by (with_reducible repeat (first | apply b1_ | apply b2_ | apply b3_)); refine blk_far ?_ NB144_152.out _; (with_reducible repeat (first | apply b1_ | apply b2_ | apply b3_)); refine blk_far ?_ NB144_152.out _; (with_reducible repeat (first | apply b1_ | apply b2_ | apply b3_)); exact BK144.out) hb); have n2_ := Aside0.mk (blk_below (g := gb145) (o := .cells #[.float .f32 x146000_1, .float .f32 x146001_1] 192 (0, 0)) (by (with_reducible repeat (first | apply b1_ | apply b2_ | apply b3_)); refine blk_far ?_ NB145_152.out _; (with_reducible repeat (first | apply b1_ | apply b2_ | apply b3_)); refine blk_far ?_ NB145_152.out _; (with_reducible repeat (first | apply b1_ | apply b2_ | apply b3_)); exact BK145.out) hb); have n3_ := Aside0.mk (blk_below (g := gb146) (o := .cells #[.float .f32 x147000_1, .float .f32 x147001_1] 192 (0, 0)) (by (with_reducible repeat (first | apply b1_ | apply b2_ | apply b3_)); refine blk_far ?_ NB146_152.out _; (with_reducible repeat (first | apply b1_ | apply b2_ | apply b3_)); refine blk_far ?_ NB146_152.out _; (with_reducible repeat (first | apply b1_ | apply b2_ | apply b3_)); exact BK146.out) hb); have n4_ := Aside0.mk (blk_below (g := gb151) (o := .cells #[.float .f32 ((rd_T198 l0 x22_1).f0.f0), .float .f32 ((rd_T198 l0 x22_1).f0.f1), .bool false, .bool ((rd_T198 l0 x22_1).f2), .bool ((rd_T198 l0 x22_1).f3)] 198 (0, 0)) (by (with_reducible repeat (first | apply b1_ | apply b2_ | apply b3_)); refine blk_far ?_ NB151_152.out _; (with_reducible repeat (first | apply b1_ | apply b2_ | apply b3_)); refine blk_far ?_ NB151_152.out _; (with_reducible repeat (first | apply b1_ | apply b2_ | apply b3_)); exact BK151.out) hb); have n5_ := Aside0.mk (blk_below (g := gb152) (o := .cells #[.float .f32 ((rd_T198 l0 x22_1).f0.f0), .float .f32 ((rd_T198 l0 x22_1).f0.f1)] 192 (0, 0)) (by (with_reducible repeat (first | apply b1_ | apply b2_ | apply b3_)); refine blk_put (cs := #[.float .f32 ((rd_T198 l0 x22_1).f0.f0), .float .f32 0]) ?_ 1 _ rfl; (with_reducible repeat (first | apply b1_ | apply b2_ | apply b3_)); refine blk_put (cs := #[.float .f32 0, .float .f32 0]) ?_ 0 _ rfl; (with_reducible repeat (first | apply b1_ | apply b2_ | apply b3_)); exact BK152.out) hb); have n6_ := Aside0.mk (below_step (by repeat (first | (with_reducible first | exact HB.out | apply below_alloc | apply pw_below_drewN | apply below_drew1 | refine below_set ?_ GE144.out | refine below_set ?_ GE145.out | refine below_set ?_ GE146.out | refine below_set ?_ GE151.out | refine below_set ?_ GE152.out) | exact HB.out)) hb); clear HO_9; clear BK144; clear BK145; clear BK146; clear BK151; clear BK152; clear HB; have HO_9 := n0_; have BK144 := n1_; have BK145 := n2_; have BK146 := n3_; have BK151 := n4_; have BK152 := n5_; have HB := n6_; clear n0_ n1_ n2_ n3_ n4_ n5_ n6_; (try clear hb); (try clear hb2); (try clear hk); (try clear hi); have hnb133 := NB144_146.out; have hnc133 := NB146_144.out; have hcz134_0 : w132.cell? ⟨gb144, 0, none⟩ = some (.float .f32 x145000_1) := (blk_cell BK144.out 0).trans rfl; have hcz134_1 : w132.cell? ⟨gb144, 1, none⟩ = some (.float .f32 x145001_1) := (blk_cell BK144.out 1).trans rfl; have hfz134_0 := blk_frozen BK144.out 0; have hfz134_1 := blk_frozen BK144.out 1; have hcz135_0 : w132.cell? ⟨gb152, 0, none⟩ = some (.float .f32 ((rd_T198 l0 x22_1).f0.f0)) := (blk_cell BK152.out 0).trans rfl; have hcz135_1 : w132.cell? ⟨gb152, 1, none⟩ = some (.float .f32 ((rd_T198 l0 x22_1).f0.f1)) := (blk_cell BK152.out 1).trans rfl; have hfz135_0 := blk_frozen BK152.out 0; have hfz135_1 := blk_frozen BK152.out 1; have hcz136_0 : w132.cell? ⟨gb146, 0, none⟩ = some (.float .f32 x147000_1) := (blk_cell BK146.out 0).trans rfl; have hcz136_1 : w132.cell? ⟨gb146, 1, none⟩ = some (.float .f32 x147001_1) := (blk_cell BK146.out 1).trans rfl; have hfz136_0 := blk_frozen BK146.out 0; have hfz136_1 := blk_frozen BK146.out 1) | ((with_reducible refine gate_builtin (b := .append) (xs := #[.tmp 49, .tmp 53]) rfl ?_); at_builtin; refine Kd.R_append k195 (w0 := w) w.heap.size rfl (.tmp 49) (.tmp 53) 135 195 (.agg #[(.int .u8 0), (.float .f32 0), (.float .f32 0), (.float .f32 0), (.float .f32 0), (.float .f32 0), (.float .f32 0)]) 28 rfl Try.underlying135 info195 rfl (by decide) (by omega) u9 x9_1 (⟨0, (⟨(⟨t167, t168⟩ : S192), (⟨0, 0⟩ : S192), (⟨0, 0⟩ : S192)⟩ : S193)⟩ : S195) [.int .u8 0, .float .f32 t167, .float .f32 t168, .float .f32 0, .float .f32 0, .float .f32 0, .float .f32 0] (fun _ => True) (fun _ => False) rfl (by first | (go_simp; done) | (go_simp; rfl)) ?aP (fun _ hk => hk.elim) ?aF ?aO ?aB ?aS ?aL ?_; (case aP => exact k195_mkM _ _ _ (⟨0, (⟨(⟨t167, t168⟩ : S192), (⟨0, 0⟩ : S192), (⟨0, 0⟩ : S192)⟩ : S193)⟩ : S195)); (case aB => exact (by repeat (first | (with_reducible first | exact HB.out | apply below_alloc | apply pw_below_drewN | apply below_drew1 | refine below_set ?_ GE144.out | refine below_set ?_ GE145.out | refine below_set ?_ GE146.out | refine below_set ?_ GE151.out | refine below_set ?_ GE152.out) | exact HB.out))); (case aF => exact (fun _ _ => trivial)); (case aO => exact (by (with_reducible repeat (first | apply Kd.R_alloc | apply Kd.R_drewN | apply Kd.R_drew)); exact Kd.R_mono (Kd.R_far (p := ⟨gb146, 1, none⟩) (Kd.R_far (p := ⟨gb146, 0, none⟩) (Kd.R_far (p := ⟨gb144, 1, none⟩) (Kd.R_far (p := ⟨gb144, 0, none⟩) (Kd.R_types (Kd.R_types HO_9.out BK144.out (by decide)) BK146.out (by decide)) (fun _ hk => hk.1.2) (.float .f32 t167)) (fun _ hk => hk.1.2) (.float .f32 t168)) (fun _ hk => hk.2) (.float .f32 ((rd_T198 l0 x22_1).f0.f0))) (fun _ hk => hk.2) (.float .f32 ((rd_T198 l0 x22_1).f0.f1))) (fun _ hk => trivial))); (case aS => exact (below_size (by repeat (first | (with_reducible first | exact HB.out | apply below_alloc | apply pw_below_drewN | apply below_drew1 | refine below_set ?_ GE144.out | refine below_set ?_ GE145.out | refine below_set ?_ GE146.out | refine below_set ?_ GE151.out | refine below_set ?_ GE152.out) | exact HB.out)))); (case aL => have := LMc119.out; omega); intro v170 w137 ho hb hg hat; rw [← Ny169.out] at ho; have n0_ := Aside0.mk (blk_grown (g := gb144) (o := .cells #[.float .f32 t167, .float .f32 t168] 192 (0, 0)) (by (with_reducible repeat (first | apply b1_ | apply b2_ | apply b3_)); refine blk_far ?_ NB144_146.out _; (with_reducible repeat (first | apply b1_ | apply b2_ | apply b3_)); refine blk_far ?_ NB144_146.out _; (with_reducible repeat (first | apply b1_ | apply b2_ | apply b3_)); refine blk_put (cs := #[.float .f32 t167, .float .f32 x145001_1]) ?_ 1 _ rfl; (with_reducible repeat (first | apply b1_ | apply b2_ | apply b3_)); refine blk_put (cs := #[.float .f32 x145000_1, .float .f32 x145001_1]) ?_ 0 _ rfl; (with_reducible repeat (first | apply b1_ | apply b2_ | apply b3_)); exact BK144.out) hg (Kd.R_ne HO_9.out BK144.out (by decide))); have n1_ := Aside0.mk (blk_grown (g := gb145) (o := .cells #[.float .f32 x146000_1, .float .f32 x146001_1] 192 (0, 0)) (by (with_reducible repeat (first | apply b1_ | apply b2_ | apply b3_)); refine blk_far ?_ NB145_146.out _; (with_reducible repeat (first | apply b1_ | apply b2_ | apply b3_)); refine blk_far ?_ NB145_146.out _; (with_reducible repeat (first | apply b1_ | apply b2_ | apply b3_)); refine blk_far ?_ NB145_144.out _; (with_reducible repeat (first | apply b1_ | apply b2_ | apply b3_)); refine blk_far ?_ NB145_144.out _; (with_reducible repeat (first | apply b1_ | apply b2_ | apply b3_)); exact BK145.out) hg (Kd.R_ne HO_9.out BK145.out (by decide))); have n2_ := Aside0.mk (blk_grown (g := gb146) (o := .cells #[.float .f32 ((rd_T198 l0 x22_1).f0.f0), .float .f32 ((rd_T198 l0 x22_1).f0.f1)] 192 (0, 0)) (by (with_reducible repeat (first | apply b1_ | apply b2_ | apply b3_)); refine blk_put (cs := #[.float .f32 ((rd_T198 l0 x22_1).f0.f0), .float .f32 x147001_1]) ?_ 1 _ rfl; (with_reducible repeat (first | apply b1_ | apply b2_ | apply b3_)); refine blk_put (cs := #[.float .f32 x147000_1, .float .f32 x147001_1]) ?_ 0 _ rfl; (with_reducible repeat (first | apply b1_ | apply b2_ | apply b3_)); refine blk_far ?_ NB146_144.out _; (with_reducible repeat (first | apply b1_ | apply b2_ | apply b3_)); refine blk_far ?_ NB146_144.out _; (with_reducible repeat (first | apply b1_ | apply b2_ | apply b3_)); exact BK146.out) hg (Kd.R_ne HO_9.out BK146.out (by decide))); have n3_ := Aside0.mk (blk_grown (g := gb151) (o := .cells #[.float .f32 ((rd_T198 l0 x22_1).f0.f0), .float .f32 ((rd_T198 l0 x22_1).f0.f1), .bool false, .bool ((rd_T198 l0 x22_1).f2), .bool ((rd_T198 l0 x22_1).f3)] 198 (0, 0)) (by (with_reducible repeat (first | apply b1_ | apply b2_ | apply b3_)); refine blk_far ?_ NB151_146.out _; (with_reducible repeat (first | apply b1_ | apply b2_ | apply b3_)); refine blk_far ?_ NB151_146.out _; (with_reducible repeat (first | apply b1_ | apply b2_ | apply b3_)); refine blk_far ?_ NB151_144.out _; (with_reducible repeat (first | apply b1_ | apply b2_ | apply b3_)); refine blk_far ?_ NB151_144.out _; (with_reducible repeat (first | apply b1_ | apply b2_ | apply b3_)); exact BK151.out) hg (Kd.R_ne HO_9.out BK151.out (by decide))); have n4_ := Aside0.mk (blk_grown (g := gb152) (o := .cells #[.float .f32 ((rd_T198 l0 x22_1).f0.f0), .float .f32 ((rd_T198 l0 x22_1).f0.f1)] 192 (0, 0)) (by (with_reducible repeat (first | apply b1_ | apply b2_ | apply b3_)); refine blk_far ?_ NB152_146.out _; (with_reducible repeat (first | apply b1_ | apply b2_ | apply b3_)); refine blk_far ?_ NB152_146.out _; (with_reducible repeat (first | apply b1_ | apply b2_ | apply b3_)); refine blk_far ?_ NB152_144.out _; (with_reducible repeat (first | apply b1_ | apply b2_ | apply b3_)); refine blk_far ?_ NB152_144.out _; (with_reducible repeat (first | apply b1_ | apply b2_ | apply b3_)); exact BK152.out) hg (Kd.R_ne HO_9.out BK152.out (by decide))); have n5_ := Aside0.mk (hb); have n6_ := Aside0.mk (ho); clear BK144; clear BK145; clear BK146; clear BK151; clear BK152; clear HB; clear HO_9; have BK144 := n0_; have BK145 := n1_; have BK146 := n2_; have BK151 := n3_; have BK152 := n4_; have HB := n5_; have HO171 := n6_; clear n0_ n1_ n2_ n3_ n4_ n5_ n6_; clear ho hb hg hat))
         go_meet
         case rel => exact ⟨_, (true), (true), (true), (y169), (t167), (t168), (x146000_1), (x146001_1), ((rd_T198 l0 x22_1).f0.f0), ((rd_T198 l0 x22_1).f0.f1), (by first | rfl | (simp; done) | (simp [*]; done)), (by first | rfl | (simp; done) | (simp [*]; done)), (by first | rfl | (simp; done) | (simp [*]; done)), (by (try rw [← Nbq101.out]); exact H'), ⟨by have := HK1.out; first | omega | exact Nat.le_refl _⟩, ⟨by (with_reducible repeat (first | apply Kd.R_alloc | apply Kd.R_drewN | apply Kd.R_drew)); exact HO171.out⟩, ⟨by (with_reducible repeat (first | apply b1_ | apply b2_ | apply b3_)); exact BK144.out⟩, ⟨by (with_reducible repeat (first | apply b1_ | apply b2_ | apply b3_)); exact BK145.out⟩, ⟨by (with_reducible repeat (first | apply b1_ | apply b2_ | apply b3_)); exact BK146.out⟩, ⟨by (try rw [← Nbq101.out]); (with_reducible repeat (first | apply b1_ | apply b2_ | apply b3_)); exact BK151.out⟩, ⟨by (with_reducible repeat (first | apply b1_ | apply b2_ | apply b3_)); exact BK152.out⟩, ⟨by repeat (first | (with_reducible first | exact HB.out | apply below_alloc | apply pw_below_drewN | apply below_drew1 | refine below_set ?_ GE144.out | refine below_set ?_ GE145.out | refine below_set ?_ GE146.out | refine below_set ?_ GE151.out | refine below_set ?_ GE152.out) | exact HB.out)⟩⟩
        ·replace c117 := Bool.eq_false_iff.mpr c117
         subst c117
         have H1 : (if ((rd_T198 l0 x22_1).f2 = true) then (font_buildSegments.j1 k1 false true x5_1 x9_1 l0 (l0.length : Int) x22_1 x145000_1 x145001_1 ((rd_T198 l0 x22_1).f0.f0) ((rd_T198 l0 x22_1).f0.f1) x147000_1 x147001_1 ((rd_T198 l0 x22_1).f0.f0) ((rd_T198 l0 x22_1).f0.f1) false ((rd_T198 l0 x22_1).f2) ((rd_T198 l0 x22_1).f3)) else (font_buildSegments.l0 k1 false true x5_1 x9_1 l0 (l0.length : Int) (wrap64 (x22_1 + 1)) x145000_1 x145001_1 ((rd_T198 l0 x22_1).f0.f0) ((rd_T198 l0 x22_1).f0.f1) x147000_1 x147001_1)) = some r := by rw [if_neg (show ¬ (false = true) by decide)] at H; exact H
         clear H
         have H := H1
         clear H1
         obtain ⟨bq138, hbq138⟩ : ∃ b_ : Bool, b_ = ((rd_T198 l0 x22_1).f2) := ⟨_, rfl⟩
         replace H : (if (bq138 = true) then (font_buildSegments.j1 k1 false true x5_1 x9_1 l0 (l0.length : Int) x22_1 x145000_1 x145001_1 ((rd_T198 l0 x22_1).f0.f0) ((rd_T198 l0 x22_1).f0.f1) x147000_1 x147001_1 ((rd_T198 l0 x22_1).f0.f0) ((rd_T198 l0 x22_1).f0.f1) false bq138 ((rd_T198 l0 x22_1).f3)) else (font_buildSegments.l0 k1 false true x5_1 x9_1 l0 (l0.length : Int) (wrap64 (x22_1 + 1)) x145000_1 x145001_1 ((rd_T198 l0 x22_1).f0.f0) ((rd_T198 l0 x22_1).f0.f1) x147000_1 x147001_1)) = some r := by rw [← hbq138] at H; exact H
         have Nbq138 := Aside0.mk hbq138
         try (have B0_ := BK151.out; rw [← Nbq138.out] at B0_; replace BK151 := Aside0.mk B0_; clear B0_)
         clear hbq138
         by_cases c139 : (bq138 = true)
         ·subst c139
          have H1 : (font_buildSegments.j1 k1 false true x5_1 x9_1 l0 (l0.length : Int) x22_1 x145000_1 x145001_1 ((rd_T198 l0 x22_1).f0.f0) ((rd_T198 l0 x22_1).f0.f1) x147000_1 x147001_1 ((rd_T198 l0 x22_1).f0.f0) ((rd_T198 l0 x22_1).f0.f1) false true ((rd_T198 l0 x22_1).f3)) = some r := by rw [if_pos rfl] at H; exact H
          clear H
          have H := H1
          clear H1
          have H' := Aside0.mk H
          clear H
          have hnb140 := NB151_144.out
          have hnc140 := NB144_151.out
          have hnb141 := NB151_145.out
          have hnc141 := NB145_151.out
          have hnb142 := NB151_146.out
          have hnc142 := NB146_151.out
          have hnb143 := NB151_152.out
          have hnc143 := NB152_151.out
          have hcz144_0 : w20.cell? ⟨gb151, 0, none⟩ = some (.float .f32 ((rd_T198 l0 x22_1).f0.f0)) := (blk_cell BK151.out 0).trans rfl
          have hcz144_1 : w20.cell? ⟨gb151, 1, none⟩ = some (.float .f32 ((rd_T198 l0 x22_1).f0.f1)) := (blk_cell BK151.out 1).trans rfl
          have hcz144_2 : w20.cell? ⟨gb151, 2, none⟩ = some (.bool false) := (blk_cell BK151.out 2).trans rfl
          have hcz144_3 : w20.cell? ⟨gb151, 3, none⟩ = some (.bool true) := (blk_cell BK151.out 3).trans rfl
          have hcz144_4 : w20.cell? ⟨gb151, 4, none⟩ = some (.bool ((rd_T198 l0 x22_1).f3)) := (blk_cell BK151.out 4).trans rfl
          have hfz144_0 := blk_frozen BK151.out 0
          have hfz144_1 := blk_frozen BK151.out 1
          have hfz144_2 := blk_frozen BK151.out 2
          have hfz144_3 := blk_frozen BK151.out 3
          have hfz144_4 := blk_frozen BK151.out 4
          have hnb145 := NB152_144.out
          have hnc145 := NB144_152.out
          have hnb146 := NB152_145.out
          have hnc146 := NB145_152.out
          have hnb147 := NB152_146.out
          have hnc147 := NB146_152.out
          have hcz148_0 : w20.cell? ⟨gb152, 0, none⟩ = some (.float .f32 0) := (blk_cell BK152.out 0).trans rfl
          have hcz148_1 : w20.cell? ⟨gb152, 1, none⟩ = some (.float .f32 0) := (blk_cell BK152.out 1).trans rfl
          have hfz148_0 := blk_frozen BK152.out 0
          have hfz148_1 := blk_frozen BK152.out 1
          have hnb149 := NB145_144.out
          have hnc149 := NB144_145.out
          have hnb150 := NB145_146.out
          have hnc150 := NB146_145.out
          have hcz151_0 : w20.cell? ⟨gb145, 0, none⟩ = some (.float .f32 x146000_1) := (blk_cell BK145.out 0).trans rfl
          have hcz151_1 : w20.cell? ⟨gb145, 1, none⟩ = some (.float .f32 x146001_1) := (blk_cell BK145.out 1).trans rfl
          have hfz151_0 := blk_frozen BK145.out 0
          have hfz151_1 := blk_frozen BK145.out 1
          go_wp2
          go_meet
          case rel => exact ⟨_, (false), (true), (x5_1), (x9_1), (x145000_1), (x145001_1), ((rd_T198 l0 x22_1).f0.f0), ((rd_T198 l0 x22_1).f0.f1), (x147000_1), (x147001_1), (by first | rfl | (simp; done) | (simp [*]; done)), (by first | rfl | (simp; done) | (simp [*]; done)), (by first | rfl | (simp; done) | (simp [*]; done)), (by (try rw [← Nbq101.out]); (try rw [← Nbq138.out]); exact H'), ⟨by have := HK1.out; first | omega | exact Nat.le_refl _⟩, ⟨by (with_reducible repeat (first | apply Kd.R_alloc | apply Kd.R_drewN | apply Kd.R_drew)); exact Kd.R_mono (Kd.R_far (p := ⟨gb145, 1, none⟩) (Kd.R_far (p := ⟨gb145, 0, none⟩) (Kd.R_far (p := ⟨gb152, 1, none⟩) (Kd.R_far (p := ⟨gb152, 0, none⟩) (Kd.R_types (Kd.R_types HO_9.out BK152.out (by decide)) BK145.out (by decide)) (fun _ hk => hk.1.2) (.float .f32 ((rd_T198 l0 x22_1).f0.f0))) (fun _ hk => hk.1.2) (.float .f32 ((rd_T198 l0 x22_1).f0.f1))) (fun _ hk => hk.2) (.float .f32 ((rd_T198 l0 x22_1).f0.f0))) (fun _ hk => hk.2) (.float .f32 ((rd_T198 l0 x22_1).f0.f1))) (fun _ hk => trivial)⟩, ⟨by (with_reducible repeat (first | apply b1_ | apply b2_ | apply b3_)); refine blk_far ?_ NB144_145.out _; (with_reducible repeat (first | apply b1_ | apply b2_ | apply b3_)); refine blk_far ?_ NB144_145.out _; (with_reducible repeat (first | apply b1_ | apply b2_ | apply b3_)); refine blk_far ?_ NB144_152.out _; (with_reducible repeat (first | apply b1_ | apply b2_ | apply b3_)); refine blk_far ?_ NB144_152.out _; (with_reducible repeat (first | apply b1_ | apply b2_ | apply b3_)); exact BK144.out⟩, ⟨by (with_reducible repeat (first | apply b1_ | apply b2_ | apply b3_)); refine blk_put (cs := #[.float .f32 ((rd_T198 l0 x22_1).f0.f0), .float .f32 x146001_1]) ?_ 1 _ rfl; (with_reducible repeat (first | apply b1_ | apply b2_ | apply b3_)); refine blk_put (cs := #[.float .f32 x146000_1, .float .f32 x146001_1]) ?_ 0 _ rfl; (with_reducible repeat (first | apply b1_ | apply b2_ | apply b3_)); refine blk_far ?_ NB145_152.out _; (with_reducible repeat (first | apply b1_ | apply b2_ | apply b3_)); refine blk_far ?_ NB145_152.out _; (with_reducible repeat (first | apply b1_ | apply b2_ | apply b3_)); exact BK145.out⟩, ⟨by (with_reducible repeat (first | apply b1_ | apply b2_ | apply b3_)); refine blk_far ?_ NB146_145.out _; (with_reducible repeat (first | apply b1_ | apply b2_ | apply b3_)); refine blk_far ?_ NB146_145.out _; (with_reducible repeat (first | apply b1_ | apply b2_ | apply b3_)); refine blk_far ?_ NB146_152.out _; (with_reducible repeat (first | apply b1_ | apply b2_ | apply b3_)); refine blk_far ?_ NB146_152.out _; (with_reducible repeat (first | apply b1_ | apply b2_ | apply b3_)); exact BK146.out⟩, ⟨by (try rw [← Nbq101.out]); (try rw [← Nbq138.out]); (with_reducible repeat (first | apply b1_ | apply b2_ | apply b3_)); refine blk_far ?_ NB151_145.out _; (with_reducible repeat (first | apply b1_ | apply b2_ | apply b3_)); refine blk_far ?_ NB151_145.out _; (with_reducible repeat (first | apply b1_ | apply b2_ | apply b3_)); refine blk_far ?_ NB151_152.out _; (with_reducible repeat (first | apply b1_ | apply b2_ | apply b3_)); refine blk_far ?_ NB151_152.out _; (with_reducible repeat (first | apply b1_ | apply b2_ | apply b3_)); exact BK151.out⟩, ⟨by (with_reducible repeat (first | apply b1_ | apply b2_ | apply b3_)); refine blk_far ?_ NB152_145.out _; (with_reducible repeat (first | apply b1_ | apply b2_ | apply b3_)); refine blk_far ?_ NB152_145.out _; (with_reducible repeat (first | apply b1_ | apply b2_ | apply b3_)); refine blk_put (cs := #[.float .f32 ((rd_T198 l0 x22_1).f0.f0), .float .f32 0]) ?_ 1 _ rfl; (with_reducible repeat (first | apply b1_ | apply b2_ | apply b3_)); refine blk_put (cs := #[.float .f32 0, .float .f32 0]) ?_ 0 _ rfl; (with_reducible repeat (first | apply b1_ | apply b2_ | apply b3_)); exact BK152.out⟩, ⟨by repeat (first | (with_reducible first | exact HB.out | apply below_alloc | apply pw_below_drewN | apply below_drew1 | refine below_set ?_ GE144.out | refine below_set ?_ GE145.out | refine below_set ?_ GE146.out | refine below_set ?_ GE151.out | refine below_set ?_ GE152.out) | exact HB.out)⟩⟩
         ·replace c139 := Bool.eq_false_iff.mpr c139
          subst c139
          have H1 : (font_buildSegments.l0 k1 false true x5_1 x9_1 l0 (l0.length : Int) (wrap64 (x22_1 + 1)) x145000_1 x145001_1 ((rd_T198 l0 x22_1).f0.f0) ((rd_T198 l0 x22_1).f0.f1) x147000_1 x147001_1) = some r := by rw [if_neg (show ¬ (false = true) by decide)] at H; exact H
          clear H
          have H := H1
          clear H1
          have H' := Aside0.mk H
          clear H
          have hnb152 := NB151_144.out
          have hnc152 := NB144_151.out
          have hnb153 := NB151_145.out
          have hnc153 := NB145_151.out
          have hnb154 := NB151_146.out
          have hnc154 := NB146_151.out
          have hnb155 := NB151_152.out
          have hnc155 := NB152_151.out
          have hcz156_0 : w20.cell? ⟨gb151, 0, none⟩ = some (.float .f32 ((rd_T198 l0 x22_1).f0.f0)) := (blk_cell BK151.out 0).trans rfl
          have hcz156_1 : w20.cell? ⟨gb151, 1, none⟩ = some (.float .f32 ((rd_T198 l0 x22_1).f0.f1)) := (blk_cell BK151.out 1).trans rfl
          have hcz156_2 : w20.cell? ⟨gb151, 2, none⟩ = some (.bool false) := (blk_cell BK151.out 2).trans rfl
          have hcz156_3 : w20.cell? ⟨gb151, 3, none⟩ = some (.bool false) := (blk_cell BK151.out 3).trans rfl
          have hcz156_4 : w20.cell? ⟨gb151, 4, none⟩ = some (.bool ((rd_T198 l0 x22_1).f3)) := (blk_cell BK151.out 4).trans rfl
          have hfz156_0 := blk_frozen BK151.out 0
          have hfz156_1 := blk_frozen BK151.out 1
          have hfz156_2 := blk_frozen BK151.out 2
          have hfz156_3 := blk_frozen BK151.out 3
          have hfz156_4 := blk_frozen BK151.out 4
          have hnb157 := NB152_144.out
          have hnc157 := NB144_152.out
          have hnb158 := NB152_145.out
          have hnc158 := NB145_152.out
          have hnb159 := NB152_146.out
          have hnc159 := NB146_152.out
          have hcz160_0 : w20.cell? ⟨gb152, 0, none⟩ = some (.float .f32 0) := (blk_cell BK152.out 0).trans rfl
          have hcz160_1 : w20.cell? ⟨gb152, 1, none⟩ = some (.float .f32 0) := (blk_cell BK152.out 1).trans rfl
          have hfz160_0 := blk_frozen BK152.out 0
          have hfz160_1 := blk_frozen BK152.out 1
          have hnb161 := NB145_144.out
          have hnc161 := NB144_145.out
          have hnb162 := NB145_146.out
          have hnc162 := NB146_145.out
          have hcz163_0 : w20.cell? ⟨gb145, 0, none⟩ = some (.float .f32 x146000_1) := (blk_cell BK145.out 0).trans rfl
          have hcz163_1 : w20.cell? ⟨gb145, 1, none⟩ = some (.float .f32 x146001_1) := (blk_cell BK145.out 1).trans rfl
          have hfz163_0 := blk_frozen BK145.out 0
          have hfz163_1 := blk_frozen BK145.out 1
          go_wp2
          go_roundg k1
          case measure => have := HK1.out; omega
          case rel => exact ⟨(false), (true), (x5_1), (x9_1), (wrap64 (x22_1 + 1)), (x145000_1), (x145001_1), ((rd_T198 l0 x22_1).f0.f0), ((rd_T198 l0 x22_1).f0.f1), (x147000_1), (x147001_1), (by first | rfl | (simp; done) | (simp [*]; done)), (by first | rfl | (simp; done) | (simp [*]; done)), (by first | rfl | (simp; done) | (simp [*]; done)), (by first | rfl | (simp; done) | (simp [*]; done)), (by (try rw [← Nbq101.out]); (try rw [← Nbq138.out]); exact H'), ⟨by have := HK1.out; omega⟩, ⟨by (with_reducible repeat (first | apply Kd.R_alloc | apply Kd.R_drewN | apply Kd.R_drew)); exact Kd.R_mono (Kd.R_far (p := ⟨gb145, 1, none⟩) (Kd.R_far (p := ⟨gb145, 0, none⟩) (Kd.R_far (p := ⟨gb152, 1, none⟩) (Kd.R_far (p := ⟨gb152, 0, none⟩) (Kd.R_types (Kd.R_types HO_9.out BK152.out (by decide)) BK145.out (by decide)) (fun _ hk => hk.1.2) (.float .f32 ((rd_T198 l0 x22_1).f0.f0))) (fun _ hk => hk.1.2) (.float .f32 ((rd_T198 l0 x22_1).f0.f1))) (fun _ hk => hk.2) (.float .f32 ((rd_T198 l0 x22_1).f0.f0))) (fun _ hk => hk.2) (.float .f32 ((rd_T198 l0 x22_1).f0.f1))) (fun _ hk => trivial)⟩, ⟨by (with_reducible repeat (first | apply b1_ | apply b2_ | apply b3_)); refine blk_far ?_ NB144_145.out _; (with_reducible repeat (first | apply b1_ | apply b2_ | apply b3_)); refine blk_far ?_ NB144_145.out _; (with_reducible repeat (first | apply b1_ | apply b2_ | apply b3_)); refine blk_far ?_ NB144_152.out _; (with_reducible repeat (first | apply b1_ | apply b2_ | apply b3_)); refine blk_far ?_ NB144_152.out _; (with_reducible repeat (first | apply b1_ | apply b2_ | apply b3_)); exact BK144.out⟩, ⟨by (with_reducible repeat (first | apply b1_ | apply b2_ | apply b3_)); refine blk_put (cs := #[.float .f32 ((rd_T198 l0 x22_1).f0.f0), .float .f32 x146001_1]) ?_ 1 _ rfl; (with_reducible repeat (first | apply b1_ | apply b2_ | apply b3_)); refine blk_put (cs := #[.float .f32 x146000_1, .float .f32 x146001_1]) ?_ 0 _ rfl; (with_reducible repeat (first | apply b1_ | apply b2_ | apply b3_)); refine blk_far ?_ NB145_152.out _; (with_reducible repeat (first | apply b1_ | apply b2_ | apply b3_)); refine blk_far ?_ NB145_152.out _; (with_reducible repeat (first | apply b1_ | apply b2_ | apply b3_)); exact BK145.out⟩, ⟨by (with_reducible repeat (first | apply b1_ | apply b2_ | apply b3_)); refine blk_far ?_ NB146_145.out _; (with_reducible repeat (first | apply b1_ | apply b2_ | apply b3_)); refine blk_far ?_ NB146_145.out _; (with_reducible repeat (first | apply b1_ | apply b2_ | apply b3_)); refine blk_far ?_ NB146_152.out _; (with_reducible repeat (first | apply b1_ | apply b2_ | apply b3_)); refine blk_far ?_ NB146_152.out _; (with_reducible repeat (first | apply b1_ | apply b2_ | apply b3_)); exact BK146.out⟩, ⟨by repeat (first | (with_reducible first | exact HB.out | apply below_alloc | apply pw_below_drewN | apply below_drew1 | refine below_set ?_ GE144.out | refine below_set ?_ GE145.out | refine below_set ?_ GE146.out | refine below_set ?_ GE151.out | refine below_set ?_ GE152.out) | exact HB.out)⟩⟩
     case rest =>
      clear HC14
      (try clear c1); (try clear q1); (try clear c2); (try clear p2); (try clear c4); (try clear c5); (try clear c6); (try clear p6); (try clear q6); (try clear c7); (try clear q7); (try clear c8); (try clear c9); (try clear c10); (try clear q10); (try clear c11); (try clear c12); (try clear c13); (try clear q13); (try clear c14); (try clear c15); (try clear c16); (try clear c26); (try clear c27); (try clear c45); (try clear c55); (try clear c56); (try clear c57); (try clear c59); (try clear c60); (try clear q62); (try clear c63); (try clear c64); (try clear p64); (try clear c65); (try clear c66); (try clear c67); (try clear c68); (try clear c70); (try clear c71); (try clear c72); (try clear q75); (try clear c76); (try clear c77); (try clear c78); (try clear c79); (try clear c80); (try clear c82); (try clear c83); (try clear c84); (try clear c86); (try clear c87); (try clear c89); (try clear c90); (try clear c91); (try clear c92); (try clear c94); (try clear c95); (try clear c96); (try clear c98); (try clear c99); (try clear q101); (try clear c102); (try clear c103); (try clear c104); (try clear c105); (try clear c106); (try clear c107); (try clear c109); (try clear c110); (try clear c111); (try clear c113); (try clear c114); (try clear c117); (try clear c119); (try clear c120); (try clear c121); (try clear c122); (try clear c123); (try clear c125); (try clear c126); (try clear c127); (try clear c129); (try clear c130); (try clear c133); (try clear q138); (try clear c139); (try clear c140); (try clear c141); (try clear c142); (try clear c143); (try clear c145); (try clear c146); (try clear c147); (try clear c149); (try clear c150); (try clear c152); (try clear c153); (try clear c154); (try clear c155); (try clear c157); (try clear c158); (try clear c159); (try clear c161); (try clear c162); (try clear hcz100_0); (try clear hcz100_1); (try clear hcz108_0); (try clear hcz108_1); (try clear hcz108_2); (try clear hcz108_3); (try clear hcz108_4); (try clear hcz112_0); (try clear hcz112_1); (try clear hcz115_0); (try clear hcz115_1); (try clear hcz124_0); (try clear hcz124_1); (try clear hcz124_2); (try clear hcz124_3); (try clear hcz124_4); (try clear hcz128_0); (try clear hcz128_1); (try clear hcz131_0); (try clear hcz131_1); (try clear hcz134_0); (try clear hcz134_1); (try clear hcz135_0); (try clear hcz135_1); (try clear hcz136_0); (try clear hcz136_1); (try clear hcz144_0); (try clear hcz144_1); (try clear hcz144_2); (try clear hcz144_3); (try clear hcz144_4); (try clear hcz148_0); (try clear hcz148_1); (try clear hcz151_0); (try clear hcz151_1); (try clear hcz156_0); (try clear hcz156_1); (try clear hcz156_2); (try clear hcz156_3); (try clear hcz156_4); (try clear hcz160_0); (try clear hcz160_1); (try clear hcz163_0); (try clear hcz163_1); (try clear hcz58_0); (try clear hcz58_1); (try clear hcz61_0); (try clear hcz61_1); (try clear hcz69_0); (try clear hcz69_1); (try clear hcz69_2); (try clear hcz69_3); (try clear hcz69_4); (try clear hcz73_0); (try clear hcz73_1); (try clear hcz81_0); (try clear hcz81_1); (try clear hcz81_2); (try clear hcz81_3); (try clear hcz81_4); (try clear hcz85_0); (try clear hcz85_1); (try clear hcz88_0); (try clear hcz88_1); (try clear hcz93_0); (try clear hcz93_1); (try clear hcz93_2); (try clear hcz93_3); (try clear hcz93_4); (try clear hcz97_0); (try clear hcz97_1); (try clear hfz100_0); (try clear hfz100_1); (try clear hfz108_0); (try clear hfz108_1); (try clear hfz108_2); (try clear hfz108_3); (try clear hfz108_4); (try clear hfz112_0); (try clear hfz112_1); (try clear hfz115_0); (try clear hfz115_1); (try clear hfz124_0); (try clear hfz124_1); (try clear hfz124_2); (try clear hfz124_3); (try clear hfz124_4); (try clear hfz128_0); (try clear hfz128_1); (try clear hfz131_0); (try clear hfz131_1); (try clear hfz134_0); (try clear hfz134_1); (try clear hfz135_0); (try clear hfz135_1); (try clear hfz136_0); (try clear hfz136_1); (try clear hfz144_0); (try clear hfz144_1); (try clear hfz144_2); (try clear hfz144_3); (try clear hfz144_4); (try clear hfz148_0); (try clear hfz148_1); (try clear hfz151_0); (try clear hfz151_1); (try clear hfz156_0); (try clear hfz156_1); (try clear hfz156_2); (try clear hfz156_3); (try clear hfz156_4); (try clear hfz160_0); (try clear hfz160_1); (try clear hfz163_0); (try clear hfz163_1); (try clear hfz58_0); (try clear hfz58_1); (try clear hfz61_0); (try clear hfz61_1); (try clear hfz69_0); (try clear hfz69_1); (try clear hfz69_2); (try clear hfz69_3); (try clear hfz69_4); (try clear hfz73_0); (try clear hfz73_1); (try clear hfz81_0); (try clear hfz81_1); (try clear hfz81_2); (try clear hfz81_3); (try clear hfz81_4); (try clear hfz85_0); (try clear hfz85_1); (try clear hfz88_0); (try clear hfz88_1); (try clear hfz93_0); (try clear hfz93_1); (try clear hfz93_2); (try clear hfz93_3); (try clear hfz93_4); (try clear hfz97_0); (try clear hfz97_1)
      obtain ⟨kq, x3_13, x4_13, x5_13, x9_13, x145000_13, x145001_13, x146000_13, x146001_13, x147000_13, x147001_13, rfl, rfl, rfl, HA, HJ13, HO_9, BK144, BK145, BK146, BK151, BK152, HB⟩ := hcut
      cases kq with
      | zero => exact absurd HA.out (by simp [font_buildSegments.j1])
      | succ kj13 =>
       have H := HA.out
       clear HA
       simp only [font_buildSegments.j1] at H
       by_cases c164 : ((rd_T198 l0 x22_1).f2) = true
       ·rw [if_pos c164] at H
        have c164b0 : ((rd_T198 l0 x22_1).f2) = true := c164
        clear c164
        have HC165 := Aside0.mk H
        clear H
        have hnb166 := NB151_144.out
        have hnc166 := NB144_151.out
        have hnb167 := NB151_145.out
        have hnc167 := NB145_151.out
        have hnb168 := NB151_146.out
        have hnc168 := NB146_151.out
        have hnb169 := NB151_152.out
        have hnc169 := NB152_151.out
        have hcz170_0 : wc.cell? ⟨gb151, 0, none⟩ = some (.float .f32 ((rd_T198 l0 x22_1).f0.f0)) := (blk_cell BK151.out 0).trans rfl
        have hcz170_1 : wc.cell? ⟨gb151, 1, none⟩ = some (.float .f32 ((rd_T198 l0 x22_1).f0.f1)) := (blk_cell BK151.out 1).trans rfl
        have hcz170_2 : wc.cell? ⟨gb151, 2, none⟩ = some (.bool ((rd_T198 l0 x22_1).f1)) := (blk_cell BK151.out 2).trans rfl
        have hcz170_3 : wc.cell? ⟨gb151, 3, none⟩ = some (.bool ((rd_T198 l0 x22_1).f2)) := (blk_cell BK151.out 3).trans rfl
        have hcz170_4 : wc.cell? ⟨gb151, 4, none⟩ = some (.bool ((rd_T198 l0 x22_1).f3)) := (blk_cell BK151.out 4).trans rfl
        have hfz170_0 := blk_frozen BK151.out 0
        have hfz170_1 := blk_frozen BK151.out 1
        have hfz170_2 := blk_frozen BK151.out 2
        have hfz170_3 := blk_frozen BK151.out 3
        have hfz170_4 := blk_frozen BK151.out 4
        go_upto_region 37 with (fail)
        go_cut [92] (fun v92 wc => ∃ (kq : Nat) (x92_164 : Bool), v92 = .bool x92_164 ∧ Aside0 (font_buildSegments.j2 kq x4_13 x5_13 x9_13 l0 (l0.length : Int) x22_1 x92_164 x145000_13 x145001_13 x146000_13 x146001_13 x147000_13 x147001_13 = some r) ∧ Aside0 (kq ≤ kj13) ∧ Aside0 (Kd.R k195 195 wc w.heap.size (fun _ => True) u9 x9_13) ∧ Aside0 (wc.heap[gb144]? = some (.cells #[.float .f32 x145000_13, .float .f32 x145001_13] 192 (0, 0))) ∧ Aside0 (wc.heap[gb145]? = some (.cells #[.float .f32 x146000_13, .float .f32 x146001_13] 192 (0, 0))) ∧ Aside0 (wc.heap[gb146]? = some (.cells #[.float .f32 x147000_13, .float .f32 x147001_13] 192 (0, 0))) ∧ Aside0 (wc.heap[gb151]? = some (.cells #[.float .f32 ((rd_T198 l0 x22_1).f0.f0), .float .f32 ((rd_T198 l0 x22_1).f0.f1), .bool ((rd_T198 l0 x22_1).f1), .bool ((rd_T198 l0 x22_1).f2), .bool ((rd_T198 l0 x22_1).f3)] 198 (0, 0))) ∧ Aside0 (wc.heap[gb152]? = some (.cells #[.float .f32 ((rd_T198 l0 x22_1).f0.f0), .float .f32 ((rd_T198 l0 x22_1).f0.f1)] 192 (0, 0))) ∧ Aside0 (Below w.heap.size w wc))
        case first =>
         have H := HC165.out
         clear HC165
         by_cases c171 : x4_13 = true
         ·subst c171
          have H1 : (font_buildSegments.j2 kj13 true x5_13 x9_13 l0 (l0.length : Int) x22_1 false x145000_13 x145001_13 x146000_13 x146001_13 x147000_13 x147001_13) = some r := by rw [if_pos rfl] at H; exact H
          clear H
          have H := H1
          clear H1
          have H' := Aside0.mk H
          clear H
          go_wp2
          go_meet
          case rel => exact ⟨_, (false), (by first | rfl | (simp; done) | (simp [*]; done)), H', ⟨by have := HK1.out; have := HJ13.out; first | omega | exact Nat.le_refl _⟩, ⟨by (with_reducible repeat (first | apply Kd.R_alloc | apply Kd.R_drewN | apply Kd.R_drew)); exact HO_9.out⟩, ⟨by (with_reducible repeat (first | apply b1_ | apply b2_ | apply b3_)); exact BK144.out⟩, ⟨by (with_reducible repeat (first | apply b1_ | apply b2_ | apply b3_)); exact BK145.out⟩, ⟨by (with_reducible repeat (first | apply b1_ | apply b2_ | apply b3_)); exact BK146.out⟩, ⟨by (with_reducible repeat (first | apply b1_ | apply b2_ | apply b3_)); exact BK151.out⟩, ⟨by (with_reducible repeat (first | apply b1_ | apply b2_ | apply b3_)); exact BK152.out⟩, ⟨by repeat (first | (with_reducible first | exact HB.out | apply below_alloc | apply pw_below_drewN | apply below_drew1 | refine below_set ?_ GE144.out | refine below_set ?_ GE145.out | refine below_set ?_ GE146.out | refine below_set ?_ GE151.out | refine below_set ?_ GE152.out) | exact HB.out)⟩⟩
         ·replace c171 := Bool.eq_false_iff.mpr c171
          subst c171
          have H1 : (font_buildSegments.j2 kj13 false x5_13 x9_13 l0 (l0.length : Int) x22_1 (!x5_13) x145000_13 x145001_13 x146000_13 x146001_13 x147000_13 x147001_13) = some r := by rw [if_neg (show ¬ (false = true) by decide)] at H; exact H
          clear H
          have H := H1
          clear H1
          have H' := Aside0.mk H
          clear H
          go_wp2
          go_meet
          case rel => exact ⟨_, (!x5_13), (by first | rfl | (simp; done) | (simp [*]; done)), H', ⟨by have := HK1.out; have := HJ13.out; first | omega | exact Nat.le_refl _⟩, ⟨by (with_reducible repeat (first | apply Kd.R_alloc | apply Kd.R_drewN | apply Kd.R_drew)); exact HO_9.out⟩, ⟨by (with_reducible repeat (first | apply b1_ | apply b2_ | apply b3_)); exact BK144.out⟩, ⟨by (with_reducible repeat (first | apply b1_ | apply b2_ | apply b3_)); exact BK145.out⟩, ⟨by (with_reducible repeat (first | apply b1_ | apply b2_ | apply b3_)); exact BK146.out⟩, ⟨by (with_reducible repeat (first | apply b1_ | apply b2_ | apply b3_)); exact BK151.out⟩, ⟨by (with_reducible repeat (first | apply b1_ | apply b2_ | apply b3_)); exact BK152.out⟩, ⟨by repeat (first | (with_reducible first | exact HB.out | apply below_alloc | apply pw_below_drewN | apply below_drew1 | refine below_set ?_ GE144.out | refine below_set ?_ GE145.out | refine below_set ?_ GE146.out | refine below_set ?_ GE151.out | refine below_set ?_ GE152.out) | exact HB.out)⟩⟩
        case rest =>
         clear HC165
         (try clear c1); (try clear q1); (try clear c2); (try clear p2); (try clear c4); (try clear c5); (try clear c6); (try clear p6); (try clear q6); (try clear c7); (try clear q7); (try clear c8); (try clear c9); (try clear c10); (try clear q10); (try clear c11); (try clear c12); (try clear c13); (try clear q13); (try clear c14); (try clear c15); (try clear c16); (try clear c17); (try clear c26); (try clear c27); (try clear c45); (try clear c55); (try clear c56); (try clear c57); (try clear c59); (try clear c60); (try clear q62); (try clear c63); (try clear c64); (try clear p64); (try clear c65); (try clear c66); (try clear c67); (try clear c68); (try clear c70); (try clear c71); (try clear c72); (try clear q75); (try clear c76); (try clear c77); (try clear c78); (try clear c79); (try clear c80); (try clear c82); (try clear c83); (try clear c84); (try clear c86); (try clear c87); (try clear c89); (try clear c90); (try clear c91); (try clear c92); (try clear c94); (try clear c95); (try clear c96); (try clear c98); (try clear c99); (try clear q101); (try clear c102); (try clear c103); (try clear c104); (try clear c105); (try clear c106); (try clear c107); (try clear c109); (try clear c110); (try clear c111); (try clear c113); (try clear c114); (try clear c117); (try clear c119); (try clear c120); (try clear c121); (try clear c122); (try clear c123); (try clear c125); (try clear c126); (try clear c127); (try clear c129); (try clear c130); (try clear c133); (try clear q138); (try clear c139); (try clear c140); (try clear c141); (try clear c142); (try clear c143); (try clear c145); (try clear c146); (try clear c147); (try clear c149); (try clear c150); (try clear c152); (try clear c153); (try clear c154); (try clear c155); (try clear c157); (try clear c158); (try clear c159); (try clear c161); (try clear c162); (try clear c164); (try clear c164b0); (try clear c166); (try clear c167); (try clear c168); (try clear c169); (try clear c171); (try clear hcz100_0); (try clear hcz100_1); (try clear hcz108_0); (try clear hcz108_1); (try clear hcz108_2); (try clear hcz108_3); (try clear hcz108_4); (try clear hcz112_0); (try clear hcz112_1); (try clear hcz115_0); (try clear hcz115_1); (try clear hcz124_0); (try clear hcz124_1); (try clear hcz124_2); (try clear hcz124_3); (try clear hcz124_4); (try clear hcz128_0); (try clear hcz128_1); (try clear hcz131_0); (try clear hcz131_1); (try clear hcz134_0); (try clear hcz134_1); (try clear hcz135_0); (try clear hcz135_1); (try clear hcz136_0); (try clear hcz136_1); (try clear hcz144_0); (try clear hcz144_1); (try clear hcz144_2); (try clear hcz144_3); (try clear hcz144_4); (try clear hcz148_0); (try clear hcz148_1); (try clear hcz151_0); (try clear hcz151_1); (try clear hcz156_0); (try clear hcz156_1); (try clear hcz156_2); (try clear hcz156_3); (try clear hcz156_4); (try clear hcz160_0); (try clear hcz160_1); (try clear hcz163_0); (try clear hcz163_1); (try clear hcz170_0); (try clear hcz170_1); (try clear hcz170_2); (try clear hcz170_3); (try clear hcz170_4); (try clear hcz58_0); (try clear hcz58_1); (try clear hcz61_0); (try clear hcz61_1); (try clear hcz69_0); (try clear hcz69_1); (try clear hcz69_2); (try clear hcz69_3); (try clear hcz69_4); (try clear hcz73_0); (try clear hcz73_1); (try clear hcz81_0); (try clear hcz81_1); (try clear hcz81_2); (try clear hcz81_3); (try clear hcz81_4); (try clear hcz85_0); (try clear hcz85_1); (try clear hcz88_0); (try clear hcz88_1); (try clear hcz93_0); (try clear hcz93_1); (try clear hcz93_2); (try clear hcz93_3); (try clear hcz93_4); (try clear hcz97_0); (try clear hcz97_1); (try clear hfz100_0); (try clear hfz100_1); (try clear hfz108_0); (try clear hfz108_1); (try clear hfz108_2); (try clear hfz108_3); (try clear hfz108_4); (try clear hfz112_0); (try clear hfz112_1); (try clear hfz115_0); (try clear hfz115_1); (try clear hfz124_0); (try clear hfz124_1); (try clear hfz124_2); (try clear hfz124_3); (try clear hfz124_4); (try clear hfz128_0); (try clear hfz128_1); (try clear hfz131_0); (try clear hfz131_1); (try clear hfz134_0); (try clear hfz134_1); (try clear hfz135_0); (try clear hfz135_1); (try clear hfz136_0); (try clear hfz136_1); (try clear hfz144_0); (try clear hfz144_1); (try clear hfz144_2); (try clear hfz144_3); (try clear hfz144_4); (try clear hfz148_0); (try clear hfz148_1); (try clear hfz151_0); (try clear hfz151_1); (try clear hfz156_0); (try clear hfz156_1); (try clear hfz156_2); (try clear hfz156_3); (try clear hfz156_4); (try clear hfz160_0); (try clear hfz160_1); (try clear hfz163_0); (try clear hfz163_1); (try clear hfz170_0); (try clear hfz170_1); (try clear hfz170_2); (try clear hfz170_3); (try clear hfz170_4); (try clear hfz58_0); (try clear hfz58_1); (try clear hfz61_0); (try clear hfz61_1); (try clear hfz69_0); (try clear hfz69_1); (try clear hfz69_2); (try clear hfz69_3); (try clear hfz69_4); (try clear hfz73_0); (try clear hfz73_1); (try clear hfz81_0); (try clear hfz81_1); (try clear hfz81_2); (try clear hfz81_3); (try clear hfz81_4); (try clear hfz85_0); (try clear hfz85_1); (try clear hfz88_0); (try clear hfz88_1); (try clear hfz93_0); (try clear hfz93_1); (try clear hfz93_2); (try clear hfz93_3); (try clear hfz93_4); (try clear hfz97_0); (try clear hfz97_1); (try clear p2); (try clear p6); (try clear p64); (try clear q1); (try clear q10); (try clear q101); (try clear q13); (try clear q138); (try clear q6); (try clear q62); (try clear q7); (try clear q75)
         obtain ⟨kq, x92_164, rfl, HA, HJ164, HO_9, BK144, BK145, BK146, BK151, BK152, HB⟩ := hcut
         cases kq with
         | zero => exact absurd HA.out (by simp [font_buildSegments.j2])
         | succ kj164 =>
          have H := HA.out
          clear HA
          simp only [font_buildSegments.j2] at H
          by_cases c172 : x92_164 = true
          ·subst c172
           have H1 : (if x9_13.length < 5026338869833 then (font_buildSegments.l0 kj164 false false false (x9_13 ++ [(⟨1, (⟨(⟨x145000_13, x145001_13⟩ : S192), (⟨0, 0⟩ : S192), (⟨0, 0⟩ : S192)⟩ : S193)⟩ : S195)]) l0 (l0.length : Int) (wrap64 (x22_1 + 1)) x145000_13 x145001_13 x146000_13 x146001_13 x147000_13 x147001_13) else (none)) = some r := by rw [if_pos rfl] at H; exact H
           clear H
           have H := H1
           clear H1
           by_cases c173 : x9_13.length < 5026338869833
           rotate_left
           ·rw [if_neg c173] at H
            exact absurd H (by simp)
           rw [if_pos c173] at H
           have LMc173 := Aside0.mk c173
           clear c173
           obtain ⟨y172, hy172⟩ : ∃ y_ : List (S195), y_ = (x9_13 ++ [(⟨1, (⟨(⟨x145000_13, x145001_13⟩ : S192), (⟨0, 0⟩ : S192), (⟨0, 0⟩ : S192)⟩ : S193)⟩ : S195)]) := ⟨_, rfl⟩
           replace H : (font_buildSegments.l0 kj164 false false false y172 l0 (l0.length : Int) (wrap64 (x22_1 + 1)) x145000_13 x145001_13 x146000_13 x146001_13 x147000_13 x147001_13) = some r := by first | (rw [hy172]; with_reducible exact H) | (have H2_ := (Option.bind_some _ _).symm.trans H; rw [hy172]; with_reducible exact H2_) | (have H2_ := (Option.bind_some _ _).symm.trans H; with_reducible exact H2_) | with_reducible exact H | (rw [hy172]; exact H) | exact H
           have Ny172 := Aside0.mk hy172
           clear hy172
           have H' := Aside0.mk H
           clear H
           have hnb174 := NB144_145.out
           have hnc174 := NB145_144.out
           have hnb175 := NB144_146.out
           have hnc175 := NB146_144.out
           have hnb176 := NB144_151.out
           have hnc176 := NB151_144.out
           have hnb177 := NB144_152.out
           have hnc177 := NB152_144.out
           have hcz178_0 : wc.cell? ⟨gb144, 0, none⟩ = some (.float .f32 x145000_13) := (blk_cell BK144.out 0).trans rfl
           have hcz178_1 : wc.cell? ⟨gb144, 1, none⟩ = some (.float .f32 x145001_13) := (blk_cell BK144.out 1).trans rfl
           have hfz178_0 := blk_frozen BK144.out 0
           have hfz178_1 := blk_frozen BK144.out 1
           go_wp2_with (first | ((with_reducible refine gate_builtin (b := .append) (xs := #[.tmp 99, .tmp 103]) rfl ?_); at_builtin; refine Kd.R_append k195 (w0 := w) w.heap.size rfl (.tmp 99) (.tmp 103) 135 195 (.agg #[(.int .u8 0), (.float .f32 0), (.float .f32 0), (.float .f32 0), (.float .f32 0), (.float .f32 0), (.float .f32 0)]) 28 rfl Try.underlying135 info195 rfl (by decide) (by omega) u9 x9_13 (⟨1, (⟨(⟨x145000_13, x145001_13⟩ : S192), (⟨0, 0⟩ : S192), (⟨0, 0⟩ : S192)⟩ : S193)⟩ : S195) [.int .u8 1, .float .f32 x145000_13, .float .f32 x145001_13, .float .f32 0, .float .f32 0, .float .f32 0, .float .f32 0] (fun _ => True) (fun _ => False) rfl rfl ?aP (fun _ hk => hk.elim) ?aF ?aO ?aB ?aS ?aL ?_; (case aP => exact k195_mkM _ _ _ (⟨1, (⟨(⟨x145000_13, x145001_13⟩ : S192), (⟨0, 0⟩ : S192), (⟨0, 0⟩ : S192)⟩ : S193)⟩ : S195)); (case aB => exact (by repeat (first | (with_reducible first | exact HB.out | apply below_alloc | apply pw_below_drewN | apply below_drew1 | refine below_set ?_ GE144.out | refine below_set ?_ GE145.out | refine below_set ?_ GE146.out | refine below_set ?_ GE151.out | refine below_set ?_ GE152.out) | exact HB.out))); (case aF => exact (fun _ _ => trivial)); (case aO => exact (by (with_reducible repeat (first | apply Kd.R_alloc | apply Kd.R_drewN | apply Kd.R_drew)); exact HO_9.out)); (case aS => exact (below_size (by repeat (first | (with_reducible first | exact HB.out | apply below_alloc | apply pw_below_drewN | apply below_drew1 | refine below_set ?_ GE144.out | refine below_set ?_ GE145.out | refine below_set ?_ GE146.out | refine below_set ?_ GE151.out | refine below_set ?_ GE152.out) | exact HB.out)))); (case aL => have := LMc173.out; omega); intro v173 w179 ho hb hg hat; rw [← Ny172.out] at ho; have n0_ := Aside0.mk (blk_grown (g := gb144) (o := .cells #[.float .f32 x145000_13, .float .f32 x145001_13] 192 (0, 0)) (by (with_reducible repeat (first | apply b1_ | apply b2_ | apply b3_)); exact BK144.out) hg (Kd.R_ne HO_9.out BK144.out (by decide))); have n1_ := Aside0.mk (blk_grown (g := gb145) (o := .cells #[.float .f32 x146000_13, .float .f32 x146001_13] 192 (0, 0)) (by (with_reducible repeat (first | apply b1_ | apply b2_ | apply b3_)); exact BK145.out) hg (Kd.R_ne HO_9.out BK145.out (by decide))); have n2_ := Aside0.mk (blk_grown (g := gb146) (o := .cells #[.float .f32 x147000_13, .float .f32 x147001_13] 192 (0, 0)) (by (with_reducible repeat (first | apply b1_ | apply b2_ | apply b3_)); exact BK146.out) hg (Kd.R_ne HO_9.out BK146.out (by decide))); have n3_ := Aside0.mk (blk_grown (g := gb151) (o := .cells #[.float .f32 ((rd_T198 l0 x22_1).f0.f0), .float .f32 ((rd_T198 l0 x22_1).f0.f1), .bool ((rd_T198 l0 x22_1).f1), .bool ((rd_T198 l0 x22_1).f2), .bool ((rd_T198 l0 x22_1).f3)] 198 (0, 0)) (by (with_reducible repeat (first | apply b1_ | apply b2_ | apply b3_)); exact BK151.out) hg (Kd.R_ne HO_9.out BK151.out (by decide))); have n4_ := Aside0.mk (blk_grown (g := gb152) (o := .cells #[.float .f32 ((rd_T198 l0 x22_1).f0.f0), .float .f32 ((rd_T198 l0 x22_1).f0.f1)] 192 (0, 0)) (by (with_reducible repeat (first | apply b1_ | apply b2_ | apply b3_)); exact BK152.out) hg (Kd.R_ne HO_9.out BK152.out (by decide))); have n5_ := Aside0.mk (hb); have n6_ := Aside0.mk (ho); clear BK144; clear BK145; clear BK146; clear BK151; clear BK152; clear HB; clear HO_9; have BK144 := n0_; have BK145 := n1_; have BK146 := n2_; have BK151 := n3_; have BK152 := n4_; have HB := n5_; have HO174 := n6_; clear n0_ n1_ n2_ n3_ n4_ n5_ n6_; clear ho hb hg hat))
           go_roundg kj164
           case measure => have := HK1.out; have := HJ13.out; have := HJ164.out; omega
           case rel => exact ⟨(false), (false), (false), (y172), (wrap64 (x22_1 + 1)), (x145000_13), (x145001_13), (x146000_13), (x146001_13), (x147000_13), (x147001_13), (by first | rfl | (simp; done) | (simp [*]; done)), (by first | rfl | (simp; done) | (simp [*]; done)), (by first | rfl | (simp; done) | (simp [*]; done)), (by first | rfl | (simp; done) | (simp [*]; done)), H', ⟨by have := HK1.out; have := HJ13.out; have := HJ164.out; omega⟩, ⟨by (with_reducible repeat (first | apply Kd.R_alloc | apply Kd.R_drewN | apply Kd.R_drew)); exact HO174.out⟩, ⟨by (with_reducible repeat (first | apply b1_ | apply b2_ | apply b3_)); exact BK144.out⟩, ⟨by (with_reducible repeat (first | apply b1_ | apply b2_ | apply b3_)); exact BK145.out⟩, ⟨by (with_reducible repeat (first | apply b1_ | apply b2_ | apply b3_)); exact BK146.out⟩, ⟨by repeat (first | (with_reducible first | exact HB.out | apply below_alloc | apply pw_below_drewN | apply below_drew1 | refine below_set ?_ GE144.out | refine below_set ?_ GE145.out | refine below_set ?_ GE146.out | refine below_set ?_ GE151.out | refine below_set ?_ GE152.out) | exact HB.out)⟩⟩
          ·replace c172 := Bool.eq_false_iff.mpr c172
           subst c172
           have H1 : (if x4_13 = true then (font_buildSegments.j3 kj164 x4_13 x5_13 x9_13 l0 (l0.length : Int) x22_1 false x145000_13 x145001_13 x146000_13 x146001_13 x147000_13 x147001_13) else (font_buildSegments.j3 kj164 x4_13 x5_13 x9_13 l0 (l0.length : Int) x22_1 x5_13 x145000_13 x145001_13 x146000_13 x146001_13 x147000_13 x147001_13)) = some r := by rw [if_neg (show ¬ (false = true) by decide)] at H; exact H
           clear H
           have H := H1
           clear H1
           have HC180 := Aside0.mk H
           clear H
           go_upto_region 39 with (fail)
           go_cut [105] (fun v105 wc => ∃ (kq : Nat) (x105_179 : Bool), v105 = .bool x105_179 ∧ Aside0 (font_buildSegments.j3 kq x4_13 x5_13 x9_13 l0 (l0.length : Int) x22_1 x105_179 x145000_13 x145001_13 x146000_13 x146001_13 x147000_13 x147001_13 = some r) ∧ Aside0 (kq ≤ kj164) ∧ Aside0 (Kd.R k195 195 wc w.heap.size (fun _ => True) u9 x9_13) ∧ Aside0 (wc.heap[gb144]? = some (.cells #[.float .f32 x145000_13, .float .f32 x145001_13] 192 (0, 0))) ∧ Aside0 (wc.heap[gb145]? = some (.cells #[.float .f32 x146000_13, .float .f32 x146001_13] 192 (0, 0))) ∧ Aside0 (wc.heap[gb146]? = some (.cells #[.float .f32 x147000_13, .float .f32 x147001_13] 192 (0, 0))) ∧ Aside0 (wc.heap[gb151]? = some (.cells #[.float .f32 ((rd_T198 l0 x22_1).f0.f0), .float .f32 ((rd_T198 l0 x22_1).f0.f1), .bool ((rd_T198 l0 x22_1).f1), .bool ((rd_T198 l0 x22_1).f2), .bool ((rd_T198 l0 x22_1).f3)] 198 (0, 0))) ∧ Aside0 (wc.heap[gb152]? = some (.cells #[.float .f32 ((rd_T198 l0 x22_1).f0.f0), .float .f32 ((rd_T198 l0 x22_1).f0.f1)] 192 (0, 0))) ∧ Aside0 (Below w.heap.size w wc))
           case first =>
            have H := HC180.out
            clear HC180
            by_cases c181 : x4_13 = true
            ·subst c181
             have H1 : (font_buildSegments.j3 kj164 true x5_13 x9_13 l0 (l0.length : Int) x22_1 false x145000_13 x145001_13 x146000_13 x146001_13 x147000_13 x147001_13) = some r := by rw [if_pos rfl] at H; exact H
             clear H
             have H := H1
             clear H1
             have H' := Aside0.mk H
             clear H
             go_wp2
             go_meet
             case rel => exact ⟨_, (false), (by first | rfl | (simp; done) | (simp [*]; done)), H', ⟨by have := HK1.out; have := HJ13.out; have := HJ164.out; first | omega | exact Nat.le_refl _⟩, ⟨by (with_reducible repeat (first | apply Kd.R_alloc | apply Kd.R_drewN | apply Kd.R_drew)); exact HO_9.out⟩, ⟨by (with_reducible repeat (first | apply b1_ | apply b2_ | apply b3_)); exact BK144.out⟩, ⟨by (with_reducible repeat (first | apply b1_ | apply b2_ | apply b3_)); exact BK145.out⟩, ⟨by (with_reducible repeat (first | apply b1_ | apply b2_ | apply b3_)); exact BK146.out⟩, ⟨by (with_reducible repeat (first | apply b1_ | apply b2_ | apply b3_)); exact BK151.out⟩, ⟨by (with_reducible repeat (first | apply b1_ | apply b2_ | apply b3_)); exact BK152.out⟩, ⟨by repeat (first | (with_reducible first | exact HB.out | apply below_alloc | apply pw_below_drewN | apply below_drew1 | refine below_set ?_ GE144.out | refine below_set ?_ GE145.out | refine below_set ?_ GE146.out | refine below_set ?_ GE151.out | refine below_set ?_ GE152.out) | exact HB.out)⟩⟩
            ·replace c181 := Bool.eq_false_iff.mpr c181
             subst c181
             have H1 : (font_buildSegments.j3 kj164 false x5_13 x9_13 l0 (l0.length : Int) x22_1 x5_13 x145000_13 x145001_13 x146000_13 x146001_13 x147000_13 x147001_13) = some r := by rw [if_neg (show ¬ (false = true) by decide)] at H; exact H
             clear H
             have H := H1
             clear H1
             have H' := Aside0.mk H
             clear H
             go_wp2
             go_meet
             case rel => exact ⟨_, (x5_13), (by first | rfl | (simp; done) | (simp [*]; done)), H', ⟨by have := HK1.out; have := HJ13.out; have := HJ164.out; first | omega | exact Nat.le_refl _⟩, ⟨by (with_reducible repeat (first | apply Kd.R_alloc | apply Kd.R_drewN | apply Kd.R_drew)); exact HO_9.out⟩, ⟨by (with_reducible repeat (first | apply b1_ | apply b2_ | apply b3_)); exact BK144.out⟩, ⟨by (with_reducible repeat (first | apply b1_ | apply b2_ | apply b3_)); exact BK145.out⟩, ⟨by (with_reducible repeat (first | apply b1_ | apply b2_ | apply b3_)); exact BK146.out⟩, ⟨by (with_reducible repeat (first | apply b1_ | apply b2_ | apply b3_)); exact BK151.out⟩, ⟨by (with_reducible repeat (first | apply b1_ | apply b2_ | apply b3_)); exact BK152.out⟩, ⟨by repeat (first | (with_reducible first | exact HB.out | apply below_alloc | apply pw_below_drewN | apply below_drew1 | refine below_set ?_ GE144.out | refine below_set ?_ GE145.out | refine below_set ?_ GE146.out | refine below_set ?_ GE151.out | refine below_set ?_ GE152.out) | exact HB.out)⟩⟩
           case rest =>
            clear HC180
            (try clear c1); (try clear q1); (try clear c2); (try clear p2); (try clear c4); (try clear c5); (try clear c6); (try clear p6); (try clear q6); (try clear c7); (try clear q7); (try clear c8); (try clear c9); (try clear c10); (try clear q10); (try clear c11); (try clear c12); (try clear c13); (try clear q13); (try clear c14); (try clear c15); (try clear c16); (try clear c17); (try clear c18); (try clear c26); (try clear c27); (try clear c45); (try clear c55); (try clear c56); (try clear c57); (try clear c59); (try clear c60); (try clear q62); (try clear c63); (try clear c64); (try clear p64); (try clear c65); (try clear c66); (try clear c67); (try clear c68); (try clear c70); (try clear c71); (try clear c72); (try clear q75); (try clear c76); (try clear c77); (try clear c78); (try clear c79); (try clear c80); (try clear c82); (try clear c83); (try clear c84); (try clear c86); (try clear c87); (try clear c89); (try clear c90); (try clear c91); (try clear c92); (try clear c94); (try clear c95); (try clear c96); (try clear c98); (try clear c99); (try clear q101); (try clear c102); (try clear c103); (try clear c104); (try clear c105); (try clear c106); (try clear c107); (try clear c109); (try clear c110); (try clear c111); (try clear c113); (try clear c114); (try clear c117); (try clear c119); (try clear c120); (try clear c121); (try clear c122); (try clear c123); (try clear c125); (try clear c126); (try clear c127); (try clear c129); (try clear c130); (try clear c133); (try clear q138); (try clear c139); (try clear c140); (try clear c141); (try clear c142); (try clear c143); (try clear c145); (try clear c146); (try clear c147); (try clear c149); (try clear c150); (try clear c152); (try clear c153); (try clear c154); (try clear c155); (try clear c157); (try clear c158); (try clear c159); (try clear c161); (try clear c162); (try clear c164); (try clear c164b0); (try clear c166); (try clear c167); (try clear c168); (try clear c169); (try clear c171); (try clear c172); (try clear c173); (try clear c174); (try clear c175); (try clear c176); (try clear c177); (try clear c181); (try clear hcz100_0); (try clear hcz100_1); (try clear hcz108_0); (try clear hcz108_1); (try clear hcz108_2); (try clear hcz108_3); (try clear hcz108_4); (try clear hcz112_0); (try clear hcz112_1); (try clear hcz115_0); (try clear hcz115_1); (try clear hcz124_0); (try clear hcz124_1); (try clear hcz124_2); (try clear hcz124_3); (try clear hcz124_4); (try clear hcz128_0); (try clear hcz128_1); (try clear hcz131_0); (try clear hcz131_1); (try clear hcz134_0); (try clear hcz134_1); (try clear hcz135_0); (try clear hcz135_1); (try clear hcz136_0); (try clear hcz136_1); (try clear hcz144_0); (try clear hcz144_1); (try clear hcz144_2); (try clear hcz144_3); (try clear hcz144_4); (try clear hcz148_0); (try clear hcz148_1); (try clear hcz151_0); (try clear hcz151_1); (try clear hcz156_0); (try clear hcz156_1); (try clear hcz156_2); (try clear hcz156_3); (try clear hcz156_4); (try clear hcz160_0); (try clear hcz160_1); (try clear hcz163_0); (try clear hcz163_1); (try clear hcz170_0); (try clear hcz170_1); (try clear hcz170_2); (try clear hcz170_3); (try clear hcz170_4); (try clear hcz178_0); (try clear hcz178_1); (try clear hcz58_0); (try clear hcz58_1); (try clear hcz61_0); (try clear hcz61_1); (try clear hcz69_0); (try clear hcz69_1); (try clear hcz69_2); (try clear hcz69_3); (try clear hcz69_4); (try clear hcz73_0); (try clear hcz73_1); (try clear hcz81_0); (try clear hcz81_1); (try clear hcz81_2); (try clear hcz81_3); (try clear hcz81_4); (try clear hcz85_0); (try clear hcz85_1); (try clear hcz88_0); (try clear hcz88_1); (try clear hcz93_0); (try clear hcz93_1); (try clear hcz93_2); (try clear hcz93_3); (try clear hcz93_4); (try clear hcz97_0); (try clear hcz97_1); (try clear hfz100_0); (try clear hfz100_1); (try clear hfz108_0); (try clear hfz108_1); (try clear hfz108_2); (try clear hfz108_3); (try clear hfz108_4); (try clear hfz112_0); (try clear hfz112_1); (try clear hfz115_0); (try clear hfz115_1); (try clear hfz124_0); (try clear hfz124_1); (try clear hfz124_2); (try clear hfz124_3); (try clear hfz124_4); (try clear hfz128_0); (try clear hfz128_1); (try clear hfz131_0); (try clear hfz131_1); (try clear hfz134_0); (try clear hfz134_1); (try clear hfz135_0); (try clear hfz135_1); (try clear hfz136_0); (try clear hfz136_1); (try clear hfz144_0); (try clear hfz144_1); (try clear hfz144_2); (try clear hfz144_3); (try clear hfz144_4); (try clear hfz148_0); (try clear hfz148_1); (try clear hfz151_0); (try clear hfz151_1); (try clear hfz156_0); (try clear hfz156_1); (try clear hfz156_2); (try clear hfz156_3); (try clear hfz156_4); (try clear hfz160_0); (try clear hfz160_1); (try clear hfz163_0); (try clear hfz163_1); (try clear hfz170_0); (try clear hfz170_1); (try clear hfz170_2); (try clear hfz170_3); (try clear hfz170_4); (try clear hfz178_0); (try clear hfz178_1); (try clear hfz58_0); (try clear hfz58_1); (try clear hfz61_0); (try clear hfz61_1); (try clear hfz69_0); (try clear hfz69_1); (try clear hfz69_2); (try clear hfz69_3); (try clear hfz69_4); (try clear hfz73_0); (try clear hfz73_1); (try clear hfz81_0); (try clear hfz81_1); (try clear hfz81_2); (try clear hfz81_3); (try clear hfz81_4); (try clear hfz85_0); (try clear hfz85_1); (try clear hfz88_0); (try clear hfz88_1); (try clear hfz93_0); (try clear hfz93_1); (try clear hfz93_2); (try clear hfz93_3); (try clear hfz93_4); (try clear hfz97_0); (try clear hfz97_1); (try clear p2); (try clear p6); (try clear p64); (try clear q1); (try clear q10); (try clear q101); (try clear q13); (try clear q138); (try clear q6); (try clear q62); (try clear q7); (try clear q75)
            obtain ⟨kq, x105_179, rfl, HA, HJ179, HO_9, BK144, BK145, BK146, BK151, BK152, HB⟩ := hcut
            cases kq with
            | zero => exact absurd HA.out (by simp [font_buildSegments.j3])
            | succ kj179 =>
             have H := HA.out
             clear HA
             simp only [font_buildSegments.j3] at H
             by_cases c182 : x105_179 = true
             ·subst c182
              have H1 : (if x9_13.length < 5026338869833 then (font_buildSegments.l0 kj179 false false false (x9_13 ++ [(⟨2, (⟨(⟨x147000_13, x147001_13⟩ : S192), (⟨x145000_13, x145001_13⟩ : S192), (⟨0, 0⟩ : S192)⟩ : S193)⟩ : S195)]) l0 (l0.length : Int) (wrap64 (x22_1 + 1)) x145000_13 x145001_13 x146000_13 x146001_13 x147000_13 x147001_13) else (none)) = some r := by rw [if_pos rfl] at H; exact H
              clear H
              have H := H1
              clear H1
              by_cases c183 : x9_13.length < 5026338869833
              rotate_left
              ·rw [if_neg c183] at H
               exact absurd H (by simp)
              rw [if_pos c183] at H
              have LMc183 := Aside0.mk c183
              clear c183
              obtain ⟨y175, hy175⟩ : ∃ y_ : List (S195), y_ = (x9_13 ++ [(⟨2, (⟨(⟨x147000_13, x147001_13⟩ : S192), (⟨x145000_13, x145001_13⟩ : S192), (⟨0, 0⟩ : S192)⟩ : S193)⟩ : S195)]) := ⟨_, rfl⟩
              replace H : (font_buildSegments.l0 kj179 false false false y175 l0 (l0.length : Int) (wrap64 (x22_1 + 1)) x145000_13 x145001_13 x146000_13 x146001_13 x147000_13 x147001_13) = some r := by first | (rw [hy175]; with_reducible exact H) | (have H2_ := (Option.bind_some _ _).symm.trans H; rw [hy175]; with_reducible exact H2_) | (have H2_ := (Option.bind_some _ _).symm.trans H; with_reducible exact H2_) | with_reducible exact H | (rw [hy175]; exact H) | exact H
              have Ny175 := Aside0.mk hy175
              clear hy175
              have H' := Aside0.mk H
              clear H
              have hnb184 := NB146_144.out
              have hnc184 := NB144_146.out
              have hnb185 := NB146_145.out
              have hnc185 := NB145_146.out
              have hnb186 := NB146_151.out
              have hnc186 := NB151_146.out
              have hnb187 := NB146_152.out
              have hnc187 := NB152_146.out
              have hcz188_0 : wc.cell? ⟨gb146, 0, none⟩ = some (.float .f32 x147000_13) := (blk_cell BK146.out 0).trans rfl
              have hcz188_1 : wc.cell? ⟨gb146, 1, none⟩ = some (.float .f32 x147001_13) := (blk_cell BK146.out 1).trans rfl
              have hfz188_0 := blk_frozen BK146.out 0
              have hfz188_1 := blk_frozen BK146.out 1
              have hnb189 := NB144_145.out
              have hnc189 := NB145_144.out
              have hnb190 := NB144_151.out
              have hnc190 := NB151_144.out
              have hnb191 := NB144_152.out
              have hnc191 := NB152_144.out
              have hcz192_0 : wc.cell? ⟨gb144, 0, none⟩ = some (.float .f32 x145000_13) := (blk_cell BK144.out 0).trans rfl
              have hcz192_1 : wc.cell? ⟨gb144, 1, none⟩ = some (.float .f32 x145001_13) := (blk_cell BK144.out 1).trans rfl
              have hfz192_0 := blk_frozen BK144.out 0
              have hfz192_1 := blk_frozen BK144.out 1
              go_wp2_with (first | ((with_reducible refine gate_builtin (b := .append) (xs := #[.tmp 111, .tmp 116]) rfl ?_); at_builtin; refine Kd.R_append k195 (w0 := w) w.heap.size rfl (.tmp 111) (.tmp 116) 135 195 (.agg #[(.int .u8 0), (.float .f32 0), (.float .f32 0), (.float .f32 0), (.float .f32 0), (.float .f32 0), (.float .f32 0)]) 28 rfl Try.underlying135 info195 rfl (by decide) (by omega) u9 x9_13 (⟨2, (⟨(⟨x147000_13, x147001_13⟩ : S192), (⟨x145000_13, x145001_13⟩ : S192), (⟨0, 0⟩ : S192)⟩ : S193)⟩ : S195) [.int .u8 2, .float .f32 x147000_13, .float .f32 x147001_13, .float .f32 x145000_13, .float .f32 x145001_13, .float .f32 0, .float .f32 0] (fun _ => True) (fun _ => False) rfl rfl ?aP (fun _ hk => hk.elim) ?aF ?aO ?aB ?aS ?aL ?_; (case aP => exact k195_mkM _ _ _ (⟨2, (⟨(⟨x147000_13, x147001_13⟩ : S192), (⟨x145000_13, x145001_13⟩ : S192), (⟨0, 0⟩ : S192)⟩ : S193)⟩ : S195)); (case aB => exact (by repeat (first | (with_reducible first | exact HB.out | apply below_alloc | apply pw_below_drewN | apply below_drew1 | refine below_set ?_ GE144.out | refine below_set ?_ GE145.out | refine below_set ?_ GE146.out | refine below_set ?_ GE151.out | refine below_set ?_ GE152.out) | exact HB.out))); (case aF => exact (fun _ _ => trivial)); (case aO => exact (by (with_reducible repeat (first | apply Kd.R_alloc | apply Kd.R_drewN | apply Kd.R_drew)); exact HO_9.out)); (case aS => exact (below_size (by repeat (first | (with_reducible first | exact HB.out | apply below_alloc | apply pw_below_drewN | apply below_drew1 | refine below_set ?_ GE144.out | refine below_set ?_ GE145.out | refine below_set ?_ GE146.out | refine below_set ?_ GE151.out | refine below_set ?_ GE152.out) | exact HB.out)))); (case aL => have := LMc183.out; omega); intro v176 w193 ho hb hg hat; rw [← Ny175.out] at ho; have n0_ := Aside0.mk (blk_grown (g := gb144) (o := .cells #[.float .f32 x145000_13, .float .f32 x145001_13] 192 (0, 0)) (by (with_reducible repeat (first | apply b1_ | apply b2_ | apply b3_)); exact BK144.out) hg (Kd.R_ne HO_9.out BK144.out (by decide))); have n1_ := Aside0.mk (blk_grown (g := gb145) (o := .cells #[.float .f32 x146000_13, .float .f32 x146001_13] 192 (0, 0)) (by (with_reducible repeat (first | apply b1_ | apply b2_ | apply b3_)); exact BK145.out) hg (Kd.R_ne HO_9.out BK145.out (by decide))); have n2_ := Aside0.mk (blk_grown (g := gb146) (o := .cells #[.float .f32 x147000_13, .float .f32 x147001_13] 192 (0, 0)) (by (with_reducible repeat (first | apply b1_ | apply b2_ | apply b3_)); exact BK146.out) hg (Kd.R_ne HO_9.out BK146.out (by decide))); have n3_ := Aside0.mk (blk_grown (g := gb151) (o := .cells #[.float .f32 ((rd_T198 l0 x22_1).f0.f0), .float .f32 ((rd_T198 l0 x22_1).f0.f1), .bool ((rd_T198 l0 x22_1).f1), .bool ((rd_T198 l0 x22_1).f2), .bool ((rd_T198 l0 x22_1).f3)] 198 (0, 0)) (by (with_reducible repeat (first | apply b1_ | apply b2_ | apply b3_)); exact BK151.out) hg (Kd.R_ne HO_9.out BK151.out (by decide))); have n4_ := Aside0.mk (blk_grown (g := gb152) (o := .cells #[.float .f32 ((rd_T198 l0 x22_1).f0.f0), .float .f32 ((rd_T198 l0 x22_1).f0.f1)] 192 (0, 0)) (by (with_reducible repeat (first | apply b1_ | apply b2_ | apply b3_)); exact BK152.out) hg (Kd.R_ne HO_9.out BK152.out (by decide))); have n5_ := Aside0.mk (hb); have n6_ := Aside0.mk (ho); clear BK144; clear BK145; clear BK146; clear BK151; clear BK152; clear HB; clear HO_9; have BK144 := n0_; have BK145 := n1_; have BK146 := n2_; have BK151 := n3_; have BK152 := n4_; have HB := n5_; have HO177 := n6_; clear n0_ n1_ n2_ n3_ n4_ n5_ n6_; clear ho hb hg hat))
              go_roundg kj179
              case measure => have := HK1.out; have := HJ13.out; have := HJ164.out; have := HJ179.out; omega
              case rel => exact ⟨(false), (false), (false), (y175), (wrap64 (x22_1 + 1)), (x145000_13), (x145001_13), (x146000_13), (x146001_13), (x147000_13), (x147001_13), (by first | rfl | (simp; done) | (simp [*]; done)), (by first | rfl | (simp; done) | (simp [*]; done)), (by first | rfl | (simp; done) | (simp [*]; done)), (by first | rfl | (simp; done) | (simp [*]; done)), H', ⟨by have := HK1.out; have := HJ13.out; have := HJ164.out; have := HJ179.out; omega⟩, ⟨by (with_reducible repeat (first | apply Kd.R_alloc | apply Kd.R_drewN | apply Kd.R_drew)); exact HO177.out⟩, ⟨by (with_reducible repeat (first | apply b1_ | apply b2_ | apply b3_)); exact BK144.out⟩, ⟨by (with_reducible repeat (first | apply b1_ | apply b2_ | apply b3_)); exact BK145.out⟩, ⟨by (with_reducible repeat (first | apply b1_ | apply b2_ | apply b3_)); exact BK146.out⟩, ⟨by repeat (first | (with_reducible first | exact HB.out | apply below_alloc | apply pw_below_drewN | apply below_drew1 | refine below_set ?_ GE144.out | refine below_set ?_ GE145.out | refine below_set ?_ GE146.out | refine below_set ?_ GE151.out | refine below_set ?_ GE152.out) | exact HB.out)⟩⟩
             ·replace c182 := Bool.eq_false_iff.mpr c182
              subst c182
              have H1 : (if x4_13 = true then (font_buildSegments.j4 kj179 x4_13 x5_13 x9_13 l0 (l0.length : Int) x22_1 (!x5_13) x145000_13 x145001_13 x146000_13 x146001_13 x147000_13 x147001_13) else (font_buildSegments.j4 kj179 x4_13 x5_13 x9_13 l0 (l0.length : Int) x22_1 false x145000_13 x145001_13 x146000_13 x146001_13 x147000_13 x147001_13)) = some r := by rw [if_neg (show ¬ (false = true) by decide)] at H; exact H
              clear H
              have H := H1
              clear H1
              have HC194 := Aside0.mk H
              clear H
              go_upto_region 41 with (fail)
              go_cut [118] (fun v118 wc => ∃ (kq : Nat) (x118_193 : Bool), v118 = .bool x118_193 ∧ Aside0 (font_buildSegments.j4 kq x4_13 x5_13 x9_13 l0 (l0.length : Int) x22_1 x118_193 x145000_13 x145001_13 x146000_13 x146001_13 x147000_13 x147001_13 = some r) ∧ Aside0 (kq ≤ kj179) ∧ Aside0 (Kd.R k195 195 wc w.heap.size (fun _ => True) u9 x9_13) ∧ Aside0 (wc.heap[gb144]? = some (.cells #[.float .f32 x145000_13, .float .f32 x145001_13] 192 (0, 0))) ∧ Aside0 (wc.heap[gb145]? = some (.cells #[.float .f32 x146000_13, .float .f32 x146001_13] 192 (0, 0))) ∧ Aside0 (wc.heap[gb146]? = some (.cells #[.float .f32 x147000_13, .float .f32 x147001_13] 192 (0, 0))) ∧ Aside0 (wc.heap[gb151]? = some (.cells #[.float .f32 ((rd_T198 l0 x22_1).f0.f0), .float .f32 ((rd_T198 l0 x22_1).f0.f1), .bool ((rd_T198 l0 x22_1).f1), .bool ((rd_T198 l0 x22_1).f2), .bool ((rd_T198 l0 x22_1).f3)] 198 (0, 0))) ∧ Aside0 (wc.heap[gb152]? = some (.cells #[.float .f32 ((rd_T198 l0 x22_1).f0.f0), .float .f32 ((rd_T198 l0 x22_1).f0.f1)] 192 (0, 0))) ∧ Aside0 (Below w.heap.size w wc))
              case first =>
               have H := HC194.out
               clear HC194
               by_cases c195 : x4_13 = true
               ·subst c195
                have H1 : (font_buildSegments.j4 kj179 true x5_13 x9_13 l0 (l0.length : Int) x22_1 (!x5_13) x145000_13 x145001_13 x146000_13 x146001_13 x147000_13 x147001_13) = some r := by rw [if_pos rfl] at H; exact H
                clear H
                have H := H1
                clear H1
                have H' := Aside0.mk H
                clear H
                go_wp2
                go_meet
                case rel => exact ⟨_, (!x5_13), (by first | rfl | (simp; done) | (simp [*]; done)), H', ⟨by have := HK1.out; have := HJ13.out; have := HJ164.out; have := HJ179.out; first | omega | exact Nat.le_refl _⟩, ⟨by (with_reducible repeat (first | apply Kd.R_alloc | apply Kd.R_drewN | apply Kd.R_drew)); exact HO_9.out⟩, ⟨by (with_reducible repeat (first | apply b1_ | apply b2_ | apply b3_)); exact BK144.out⟩, ⟨by (with_reducible repeat (first | apply b1_ | apply b2_ | apply b3_)); exact BK145.out⟩, ⟨by (with_reducible repeat (first | apply b1_ | apply b2_ | apply b3_)); exact BK146.out⟩, ⟨by (with_reducible repeat (first | apply b1_ | apply b2_ | apply b3_)); exact BK151.out⟩, ⟨by (with_reducible repeat (first | apply b1_ | apply b2_ | apply b3_)); exact BK152.out⟩, ⟨by repeat (first | (with_reducible first | exact HB.out | apply below_alloc | apply pw_below_drewN | apply below_drew1 | refine below_set ?_ GE144.out | refine below_set ?_ GE145.out | refine below_set ?_ GE146.out | refine below_set ?_ GE151.out | refine below_set ?_ GE152.out) | exact HB.out)⟩⟩
               ·replace c195 := Bool.eq_false_iff.mpr c195
                subst c195
                have H1 : (font_buildSegments.j4 kj179 false x5_13 x9_13 l0 (l0.length : Int) x22_1 false x145000_13 x145001_13 x146000_13 x146001_13 x147000_13 x147001_13) = some r := by rw [if_neg (show ¬ (false = true) by decide)] at H; exact H
                clear H
                have H := H1
                clear H1
                have H' := Aside0.mk H
                clear H
                go_wp2
                go_meet
                case rel => exact ⟨_, (false), (by first | rfl | (simp; done) | (simp [*]; done)), H', ⟨by have := HK1.out; have := HJ13.out; have := HJ164.out; have := HJ179.out; first | omega | exact Nat.le_refl _⟩, ⟨by (with_reducible repeat (first | apply Kd.R_alloc | apply Kd.R_drewN | apply Kd.R_drew)); exact HO_9.out⟩, ⟨by (with_reducible repeat (first | apply b1_ | apply b2_ | apply b3_)); exact BK144.out⟩, ⟨by (with_reducible repeat (first | apply b1_ | apply b2_ | apply b3_)); exact BK145.out⟩, ⟨by (with_reducible repeat (first | apply b1_ | apply b2_ | apply b3_)); exact BK146.out⟩, ⟨by (with_reducible repeat (first | apply b1_ | apply b2_ | apply b3_)); exact BK151.out⟩, ⟨by (with_reducible repeat (first | apply b1_ | apply b2_ | apply b3_)); exact BK152.out⟩, ⟨by repeat (first | (with_reducible first | exact HB.out | apply below_alloc | apply pw_below_drewN | apply below_drew1 | refine below_set ?_ GE144.out | refine below_set ?_ GE145.out | refine below_set ?_ GE146.out | refine below_set ?_ GE151.out | refine below_set ?_ GE152.out) | exact HB.out)⟩⟩
              case rest =>
               clear HC194
               (try clear c1); (try clear q1); (try clear c2); (try clear p2); (try clear c4); (try clear c5); (try clear c6); (try clear p6); (try clear q6); (try clear c7); (try clear q7); (try clear c8); (try clear c9); (try clear c10); (try clear q10); (try clear c11); (try clear c12); (try clear c13); (try clear q13); (try clear c14); (try clear c15); (try clear c16); (try clear c17); (try clear c18); (try clear c19); (try clear c26); (try clear c27); (try clear c45); (try clear c55); (try clear c56); (try clear c57); (try clear c59); (try clear c60); (try clear q62); (try clear c63); (try clear c64); (try clear p64); (try clear c65); (try clear c66); (try clear c67); (try clear c68); (try clear c70); (try clear c71); (try clear c72); (try clear q75); (try clear c76); (try clear c77); (try clear c78); (try clear c79); (try clear c80); (try clear c82); (try clear c83); (try clear c84); (try clear c86); (try clear c87); (try clear c89); (try clear c90); (try clear c91); (try clear c92); (try clear c94); (try clear c95); (try clear c96); (try clear c98); (try clear c99); (try clear q101); (try clear c102); (try clear c103); (try clear c104); (try clear c105); (try clear c106); (try clear c107); (try clear c109); (try clear c110); (try clear c111); (try clear c113); (try clear c114); (try clear c117); (try clear c119); (try clear c120); (try clear c121); (try clear c122); (try clear c123); (try clear c125); (try clear c126); (try clear c127); (try clear c129); (try clear c130); (try clear c133); (try clear q138); (try clear c139); (try clear c140); (try clear c141); (try clear c142); (try clear c143); (try clear c145); (try clear c146); (try clear c147); (try clear c149); (try clear c150); (try clear c152); (try clear c153); (try clear c154); (try clear c155); (try clear c157); (try clear c158); (try clear c159); (try clear c161); (try clear c162); (try clear c164); (try clear c164b0); (try clear c166); (try clear c167); (try clear c168); (try clear c169); (try clear c171); (try clear c172); (try clear c173); (try clear c174); (try clear c175); (try clear c176); (try clear c177); (try clear c181); (try clear c182); (try clear c183); (try clear c184); (try clear c185); (try clear c186); (try clear c187); (try clear c189); (try clear c190); (try clear c191); (try clear c195); (try clear hcz100_0); (try clear hcz100_1); (try clear hcz108_0); (try clear hcz108_1); (try clear hcz108_2); (try clear hcz108_3); (try clear hcz108_4); (try clear hcz112_0); (try clear hcz112_1); (try clear hcz115_0); (try clear hcz115_1); (try clear hcz124_0); (try clear hcz124_1); (try clear hcz124_2); (try clear hcz124_3); (try clear hcz124_4); (try clear hcz128_0); (try clear hcz128_1); (try clear hcz131_0); (try clear hcz131_1); (try clear hcz134_0); (try clear hcz134_1); (try clear hcz135_0); (try clear hcz135_1); (try clear hcz136_0); (try clear hcz136_1); (try clear hcz144_0); (try clear hcz144_1); (try clear hcz144_2); (try clear hcz144_3); (try clear hcz144_4); (try clear hcz148_0); (try clear hcz148_1); (try clear hcz151_0); (try clear hcz151_1); (try clear hcz156_0); (try clear hcz156_1); (try clear hcz156_2); (try clear hcz156_3); (try clear hcz156_4); (try clear hcz160_0); (try clear hcz160_1); (try clear hcz163_0); (try clear hcz163_1); (try clear hcz170_0); (try clear hcz170_1); (try clear hcz170_2); (try clear hcz170_3); (try clear hcz170_4); (try clear hcz178_0); (try clear hcz178_1); (try clear hcz188_0); (try clear hcz188_1); (try clear hcz192_0); (try clear hcz192_1); (try clear hcz58_0); (try clear hcz58_1); (try clear hcz61_0); (try clear hcz61_1); (try clear hcz69_0); (try clear hcz69_1); (try clear hcz69_2); (try clear hcz69_3); (try clear hcz69_4); (try clear hcz73_0); (try clear hcz73_1); (try clear hcz81_0); (try clear hcz81_1); (try clear hcz81_2); (try clear hcz81_3); (try clear hcz81_4); (try clear hcz85_0); (try clear hcz85_1); (try clear hcz88_0); (try clear hcz88_1); (try clear hcz93_0); (try clear hcz93_1); (try clear hcz93_2); (try clear hcz93_3); (try clear hcz93_4); (try clear hcz97_0); (try clear hcz97_1); (try clear hfz100_0); (try clear hfz100_1); (try clear hfz108_0); (try clear hfz108_1); (try clear hfz108_2); (try clear hfz108_3); (try clear hfz108_4); (try clear hfz112_0); (try clear hfz112_1); (try clear hfz115_0); (try clear hfz115_1); (try clear hfz124_0); (try clear hfz124_1); (try clear hfz124_2); (try clear hfz124_3); (try clear hfz124_4); (try clear hfz128_0); (try clear hfz128_1); (try clear hfz131_0); (try clear hfz131_1); (try clear hfz134_0); (try clear hfz134_1); (try clear hfz135_0); (try clear hfz135_1); (try clear hfz136_0); (try clear hfz136_1); (try clear hfz144_0); (try clear hfz144_1); (try clear hfz144_2); (try clear hfz144_3); (try clear hfz144_4); (try clear hfz148_0); (try clear hfz148_1); (try clear hfz151_0); (try clear hfz151_1); (try clear hfz156_0); (try clear hfz156_1); (try clear hfz156_2); (try clear hfz156_3); (try clear hfz156_4); (try clear hfz160_0); (try clear hfz160_1); (try clear hfz163_0); (try clear hfz163_1); (try clear hfz170_0); (try clear hfz170_1); (try clear hfz170_2); (try clear hfz170_3); (try clear hfz170_4); (try clear hfz178_0); (try clear hfz178_1); (try clear hfz188_0); (try clear hfz188_1); (try clear hfz192_0); (try clear hfz192_1); (try clear hfz58_0); (try clear hfz58_1); (try clear hfz61_0); (try clear hfz61_1); (try clear hfz69_0); (try clear hfz69_1); (try clear hfz69_2); (try clear hfz69_3); (try clear hfz69_4); (try clear hfz73_0); (try clear hfz73_1); (try clear hfz81_0); (try clear hfz81_1); (try clear hfz81_2); (try clear hfz81_3); (try clear hfz81_4); (try clear hfz85_0); (try clear hfz85_1); (try clear hfz88_0); (try clear hfz88_1); (try clear hfz93_0); (try clear hfz93_1); (try clear hfz93_2); (try clear hfz93_3); (try clear hfz93_4); (try clear hfz97_0); (try clear hfz97_1); (try clear p2); (try clear p6); (try clear p64); (try clear q1); (try clear q10); (try clear q101); (try clear q13); (try clear q138); (try clear q6); (try clear q62); (try clear q7); (try clear q75)
               obtain ⟨kq, x118_193, rfl, HA, HJ193, HO_9, BK144, BK145, BK146, BK151, BK152, HB⟩ := hcut
               cases kq with
               | zero => exact absurd HA.out (by simp [font_buildSegments.j4])
               | succ kj193 =>
                have H := HA.out
                clear HA
                simp only [font_buildSegments.j4] at H
                by_cases c196 : x118_193 = true
                ·subst c196
                 have H1 : (if x9_13.length < 5026338869833 then (font_buildSegments.l0 kj193 false false false (x9_13 ++ [(⟨2, (⟨(⟨x146000_13, x146001_13⟩ : S192), (⟨x145000_13, x145001_13⟩ : S192), (⟨0, 0⟩ : S192)⟩ : S193)⟩ : S195)]) l0 (l0.length : Int) (wrap64 (x22_1 + 1)) x145000_13 x145001_13 x146000_13 x146001_13 x147000_13 x147001_13) else (none)) = some r := by rw [if_pos rfl] at H; exact H
                 clear H
                 have H := H1
                 clear H1
                 by_cases c197 : x9_13.length < 5026338869833
                 rotate_left
                 ·rw [if_neg c197] at H
                  exact absurd H (by simp)
                 rw [if_pos c197] at H
                 have LMc197 := Aside0.mk c197
                 clear c197
                 obtain ⟨y178, hy178⟩ : ∃ y_ : List (S195), y_ = (x9_13 ++ [(⟨2, (⟨(⟨x146000_13, x146001_13⟩ : S192), (⟨x145000_13, x145001_13⟩ : S192), (⟨0, 0⟩ : S192)⟩ : S193)⟩ : S195)]) := ⟨_, rfl⟩
                 replace H : (font_buildSegments.l0 kj193 false false false y178 l0 (l0.length : Int) (wrap64 (x22_1 + 1)) x145000_13 x145001_13 x146000_13 x146001_13 x147000_13 x147001_13) = some r := by first | (rw [hy178]; with_reducible exact H) | (have H2_ := (Option.bind_some _ _).symm.trans H; rw [hy178]; with_reducible exact H2_) | (have H2_ := (Option.bind_some _ _).symm.trans H; with_reducible exact H2_) | with_reducible exact H | (rw [hy178]; exact H) | exact H
                 have Ny178 := Aside0.mk hy178
                 clear hy178
                 have H' := Aside0.mk H
                 clear H
                 have hnb198 := NB145_144.out
                 have hnc198 := NB144_145.out
                 have hnb199 := NB145_146.out
                 have hnc199 := NB146_145.out
                 have hnb200 := NB145_151.out
                 have hnc200 := NB151_145.out
                 have hnb201 := NB145_152.out
                 have hnc201 := NB152_145.out
                 have hcz202_0 : wc.cell? ⟨gb145, 0, none⟩ = some (.float .f32 x146000_13) := (blk_cell BK145.out 0).trans rfl
                 have hcz202_1 : wc.cell? ⟨gb145, 1, none⟩ = some (.float .f32 x146001_13) := (blk_cell BK145.out 1).trans rfl
                 have hfz202_0 := blk_frozen BK145.out 0
                 have hfz202_1 := blk_frozen BK145.out 1
                 have hnb203 := NB144_146.out
                 have hnc203 := NB146_144.out
                 have hnb204 := NB144_151.out
                 have hnc204 := NB151_144.out
                 have hnb205 := NB144_152.out
                 have hnc205 := NB152_144.out
                 have hcz206_0 : wc.cell? ⟨gb144, 0, none⟩ = some (.float .f32 x145000_13) := (blk_cell BK144.out 0).trans rfl
                 have hcz206_1 : wc.cell? ⟨gb144, 1, none⟩ = some (.float .f32 x145001_13) := (blk_cell BK144.out 1).trans rfl
                 have hfz206_0 := blk_frozen BK144.out 0
                 have hfz206_1 := blk_frozen BK144.out 1
                 go_wp2_with (first | ((with_reducible refine gate_builtin (b := .append) (xs := #[.tmp 124, .tmp 129]) rfl ?_); at_builtin; refine Kd.R_append k195 (w0 := w) w.heap.size rfl (.tmp 124) (.tmp 129) 135 195 (.agg #[(.int .u8 0), (.float .f32 0), (.float .f32 0), (.float .f32 0), (.float .f32 0), (.float .f32 0), (.float .f32 0)]) 28 rfl Try.underlying135 info195 rfl (by decide) (by omega) u9 x9_13 (⟨2, (⟨(⟨x146000_13, x146001_13⟩ : S192), (⟨x145000_13, x145001_13⟩ : S192), (⟨0, 0⟩ : S192)⟩ : S193)⟩ : S195) [.int .u8 2, .float .f32 x146000_13, .float .f32 x146001_13, .float .f32 x145000_13, .float .f32 x145001_13, .float .f32 0, .float .f32 0] (fun _ => True) (fun _ => False) rfl rfl ?aP (fun _ hk => hk.elim) ?aF ?aO ?aB ?aS ?aL ?_; (case aP => exact k195_mkM _ _ _ (⟨2, (⟨(⟨x146000_13, x146001_13⟩ : S192), (⟨x145000_13, x145001_13⟩ : S192), (⟨0, 0⟩ : S192)⟩ : S193)⟩ : S195)); (case aB => exact (by repeat (first | (with_reducible first | exact HB.out | apply below_alloc | apply pw_below_drewN | apply below_drew1 | refine below_set ?_ GE144.out | refine below_set ?_ GE145.out | refine below_set ?_ GE146.out | refine below_set ?_ GE151.out | refine below_set ?_ GE152.out) | exact HB.out))); (case aF => exact (fun _ _ => trivial)); (case aO => exact (by (with_reducible repeat (first | apply Kd.R_alloc | apply Kd.R_drewN | apply Kd.R_drew)); exact HO_9.out)); (case aS => exact (below_size (by repeat (first | (with_reducible first | exact HB.out | apply below_alloc | apply pw_below_drewN | apply below_drew1 | refine below_set ?_ GE144.out | refine below_set ?_ GE145.out | refine below_set ?_ GE146.out | refine below_set ?_ GE151.out | refine below_set ?_ GE152.out) | exact HB.out)))); (case aL => have := LMc197.out; omega); intro v179 w207 ho hb hg hat; rw [← Ny178.out] at ho; have n0_ := Aside0.mk (blk_grown (g := gb144) (o := .cells #[.float .f32 x145000_13, .float .f32 x145001_13] 192 (0, 0)) (by (with_reducible repeat (first | apply b1_ | apply b2_ | apply b3_)); exact BK144.out) hg (Kd.R_ne HO_9.out BK144.out (by decide))); have n1_ := Aside0.mk (blk_grown (g := gb145) (o := .cells #[.float .f32 x146000_13, .float .f32 x146001_13] 192 (0, 0)) (by (with_reducible repeat (first | apply b1_ | apply b2_ | apply b3_)); exact BK145.out) hg (Kd.R_ne HO_9.out BK145.out (by decide))); have n2_ := Aside0.mk (blk_grown (g := gb146) (o := .cells #[.float .f32 x147000_13, .float .f32 x147001_13] 192 (0, 0)) (by (with_reducible repeat (first | apply b1_ | apply b2_ | apply b3_)); exact BK146.out) hg (Kd.R_ne HO_9.out BK146.out (by decide))); have n3_ := Aside0.mk (blk_grown (g := gb151) (o := .cells #[.float .f32 ((rd_T198 l0 x22_1).f0.f0), .float .f32 ((rd_T198 l0 x22_1).f0.f1), .bool ((rd_T198 l0 x22_1).f1), .bool ((rd_T198 l0 x22_1).f2), .bool ((rd_T198 l0 x22_1).f3)] 198 (0, 0)) (by (with_reducible repeat (first | apply b1_ | apply b2_ | apply b3_)); exact BK151.out) hg (Kd.R_ne HO_9.out BK151.out (by decide))); have n4_ := Aside0.mk (blk_grown (g := gb152) (o := .cells #[.float .f32 ((rd_T198 l0 x22_1).f0.f0), .float .f32 ((rd_T198 l0 x22_1).f0.f1)] 192 (0, 0)) (by (with_reducible repeat (first | apply b1_ | apply b2_ | apply b3_)); exact BK152.out) hg (Kd.R_ne HO_9.out BK152.out (by decide))); have n5_ := Aside0.mk (hb); have n6_ := Aside0.mk (ho); clear BK144; clear BK145; clear BK146; clear BK151; clear BK152; clear HB; clear HO_9; have BK144 := n0_; have BK145 := n1_; have BK146 := n2_; have BK151 := n3_; have BK152 := n4_; have HB := n5_; have HO180 := n6_; clear n0_ n1_ n2_ n3_ n4_ n5_ n6_; clear ho hb hg hat))
                 go_roundg kj193
                 case measure => have := HK1.out; have := HJ13.out; have := HJ164.out; have := HJ179.out; have := HJ193.out; omega
                 case rel => exact ⟨(false), (false), (false), (y178), (wrap64 (x22_1 + 1)), (x145000_13), (x145001_13), (x146000_13), (x146001_13), (x147000_13), (x147001_13), (by first | rfl | (simp; done) | (simp [*]; done)), (by first | rfl | (simp; done) | (simp [*]; done)), (by first | rfl | (simp; done) | (simp [*]; done)), (by first | rfl | (simp; done) | (simp [*]; done)), H', ⟨by have := HK1.out; have := HJ13.out; have := HJ164.out; have := HJ179.out; have := HJ193.out; omega⟩, ⟨by (with_reducible repeat (first | apply Kd.R_alloc | apply Kd.R_drewN | apply Kd.R_drew)); exact HO180.out⟩, ⟨by (with_reducible repeat (first | apply b1_ | apply b2_ | apply b3_)); exact BK144.out⟩, ⟨by (with_reducible repeat (first | apply b1_ | apply b2_ | apply b3_)); exact BK145.out⟩, ⟨by (with_reducible repeat (first | apply b1_ | apply b2_ | apply b3_)); exact BK146.out⟩, ⟨by repeat (first | (with_reducible first | exact HB.out | apply below_alloc | apply pw_below_drewN | apply below_drew1 | refine below_set ?_ GE144.out | refine below_set ?_ GE145.out | refine below_set ?_ GE146.out | refine below_set ?_ GE151.out | refine below_set ?_ GE152.out) | exact HB.out)⟩⟩
                ·replace c196 := Bool.eq_false_iff.mpr c196
                 subst c196
                 have H1 : (if x4_13 = true then (font_buildSegments.j5 kj193 x9_13 l0 (l0.length : Int) x22_1 x5_13 x145000_13 x145001_13 x146000_13 x146001_13 x147000_13 x147001_13) else (font_buildSegments.j5 kj193 x9_13 l0 (l0.length : Int) x22_1 false x145000_13 x145001_13 x146000_13 x146001_13 x147000_13 x147001_13)) = some r := by rw [if_neg (show ¬ (false = true) by decide)] at H; exact H
                 clear H
                 have H := H1
                 clear H1
                 have HC208 := Aside0.mk H
                 clear H
                 go_upto_region 43 with (fail)
                 go_cut [131] (fun v131 wc => ∃ (kq : Nat) (x131_207 : Bool), v131 = .bool x131_207 ∧ Aside0 (font_buildSegments.j5 kq x9_13 l0 (l0.length : Int) x22_1 x131_207 x145000_13 x145001_13 x146000_13 x146001_13 x147000_13 x147001_13 = some r) ∧ Aside0 (kq ≤ kj193) ∧ Aside0 (Kd.R k195 195 wc w.heap.size (fun _ => True) u9 x9_13) ∧ Aside0 (wc.heap[gb144]? = some (.cells #[.float .f32 x145000_13, .float .f32 x145001_13] 192 (0, 0))) ∧ Aside0 (wc.heap[gb145]? = some (.cells #[.float .f32 x146000_13, .float .f32 x146001_13] 192 (0, 0))) ∧ Aside0 (wc.heap[gb146]? = some (.cells #[.float .f32 x147000_13, .float .f32 x147001_13] 192 (0, 0))) ∧ Aside0 (wc.heap[gb151]? = some (.cells #[.float .f32 ((rd_T198 l0 x22_1).f0.f0), .float .f32 ((rd_T198 l0 x22_1).f0.f1), .bool ((rd_T198 l0 x22_1).f1), .bool ((rd_T198 l0 x22_1).f2), .bool ((rd_T198 l0 x22_1).f3)] 198 (0, 0))) ∧ Aside0 (wc.heap[gb152]? = some (.cells #[.float .f32 ((rd_T198 l0 x22_1).f0.f0), .float .f32 ((rd_T198 l0 x22_1).f0.f1)] 192 (0, 0))) ∧ Aside0 (Below w.heap.size w wc))
                 case first =>
                  have H := HC208.out
                  clear HC208
                  by_cases c209 : x4_13 = true
                  ·subst c209
                   have H1 : (font_buildSegments.j5 kj193 x9_13 l0 (l0.length : Int) x22_1 x5_13 x145000_13 x145001_13 x146000_13 x146001_13 x147000_13 x147001_13) = some r := by rw [if_pos rfl] at H; exact H
                   clear H
                   have H := H1
                   clear H1
                   have H' := Aside0.mk H
                   clear H
                   go_wp2
                   go_meet
                   case rel => exact ⟨_, (x5_13), (by first | rfl | (simp; done) | (simp [*]; done)), H', ⟨by have := HK1.out; have := HJ13.out; have := HJ164.out; have := HJ179.out; have := HJ193.out; first | omega | exact Nat.le_refl _⟩, ⟨by (with_reducible repeat (first | apply Kd.R_alloc | apply Kd.R_drewN | apply Kd.R_drew)); exact HO_9.out⟩, ⟨by (with_reducible repeat (first | apply b1_ | apply b2_ | apply b3_)); exact BK144.out⟩, ⟨by (with_reducible repeat (first | apply b1_ | apply b2_ | apply b3_)); exact BK145.out⟩, ⟨by (with_reducible repeat (first | apply b1_ | apply b2_ | apply b3_)); exact BK146.out⟩, ⟨by (with_reducible repeat (first | apply b1_ | apply b2_ | apply b3_)); exact BK151.out⟩, ⟨by (with_reducible repeat (first | apply b1_ | apply b2_ | apply b3_)); exact BK152.out⟩, ⟨by repeat (first | (with_reducible first | exact HB.out | apply below_alloc | apply pw_below_drewN | apply below_drew1 | refine below_set ?_ GE144.out | refine below_set ?_ GE145.out | refine below_set ?_ GE146.out | refine below_set ?_ GE151.out | refine below_set ?_ GE152.out) | exact HB.out)⟩⟩
                  ·replace c209 := Bool.eq_false_iff.mpr c209
                   subst c209
                   have H1 : (font_buildSegments.j5 kj193 x9_13 l0 (l0.length : Int) x22_1 false x145000_13 x145001_13 x146000_13 x146001_13 x147000_13 x147001_13) = some r := by rw [if_neg (show ¬ (false = true) by decide)] at H; exact H
                   clear H
                   have H := H1
                   clear H1
                   have H' := Aside0.mk H
                   clear H
                   go_wp2
                   go_meet
                   case rel => exact ⟨_, (false), (by first | rfl | (simp; done) | (simp [*]; done)), H', ⟨by have := HK1.out; have := HJ13.out; have := HJ164.out; have := HJ179.out; have := HJ193.out; first | omega | exact Nat.le_refl _⟩, ⟨by (with_reducible repeat (first | apply Kd.R_alloc | apply Kd.R_drewN | apply Kd.R_drew)); exact HO_9.out⟩, ⟨by (with_reducible repeat (first | apply b1_ | apply b2_ | apply b3_)); exact BK144.out⟩, ⟨by (with_reducible repeat (first | apply b1_ | apply b2_ | apply b3_)); exact BK145.out⟩, ⟨by (with_reducible repeat (first | apply b1_ | apply b2_ | apply b3_)); exact BK146.out⟩, ⟨by (with_reducible repeat (first | apply b1_ | apply b2_ | apply b3_)); exact BK151.out⟩, ⟨by (with_reducible repeat (first | apply b1_ | apply b2_ | apply b3_)); exact BK152.out⟩, ⟨by repeat (first | (with_reducible first | exact HB.out | apply below_alloc | apply pw_below_drewN | apply below_drew1 | refine below_set ?_ GE144.out | refine below_set ?_ GE145.out | refine below_set ?_ GE146.out | refine below_set ?_ GE151.out | refine below_set ?_ GE152.out) | exact HB.out)⟩⟩
                 case rest =>
                  clear HC208
                  (try clear c1); (try clear q1); (try clear c2); (try clear p2); (try clear c4); (try clear c5); (try clear c6); (try clear p6); (try clear q6); (try clear c7); (try clear q7); (try clear c8); (try clear c9); (try clear c10); (try clear q10); (try clear c11); (try clear c12); (try clear c13); (try clear q13); (try clear c14); (try clear c15); (try clear c16); (try clear c17); (try clear c18); (try clear c19); (try clear c20); (try clear c26); (try clear c27); (try clear c45); (try clear c55); (try clear c56); (try clear c57); (try clear c59); (try clear c60); (try clear q62); (try clear c63); (try clear c64); (try clear p64); (try clear c65); (try clear c66); (try clear c67); (try clear c68); (try clear c70); (try clear c71); (try clear c72); (try clear q75); (try clear c76); (try clear c77); (try clear c78); (try clear c79); (try clear c80); (try clear c82); (try clear c83); (try clear c84); (try clear c86); (try clear c87); (try clear c89); (try clear c90); (try clear c91); (try clear c92); (try clear c94); (try clear c95); (try clear c96); (try clear c98); (try clear c99); (try clear q101); (try clear c102); (try clear c103); (try clear c104); (try clear c105); (try clear c106); (try clear c107); (try clear c109); (try clear c110); (try clear c111); (try clear c113); (try clear c114); (try clear c117); (try clear c119); (try clear c120); (try clear c121); (try clear c122); (try clear c123); (try clear c125); (try clear c126); (try clear c127); (try clear c129); (try clear c130); (try clear c133); (try clear q138); (try clear c139); (try clear c140); (try clear c141); (try clear c142); (try clear c143); (try clear c145); (try clear c146); (try clear c147); (try clear c149); (try clear c150); (try clear c152); (try clear c153); (try clear c154); (try clear c155); (try clear c157); (try clear c158); (try clear c159); (try clear c161); (try clear c162); (try clear c164); (try clear c164b0); (try clear c166); (try clear c167); (try clear c168); (try clear c169); (try clear c171); (try clear c172); (try clear c173); (try clear c174); (try clear c175); (try clear c176); (try clear c177); (try clear c181); (try clear c182); (try clear c183); (try clear c184); (try clear c185); (try clear c186); (try clear c187); (try clear c189); (try clear c190); (try clear c191); (try clear c195); (try clear c196); (try clear c197); (try clear c198); (try clear c199); (try clear c200); (try clear c201); (try clear c203); (try clear c204); (try clear c205); (try clear c209); (try clear hcz100_0); (try clear hcz100_1); (try clear hcz108_0); (try clear hcz108_1); (try clear hcz108_2); (try clear hcz108_3); (try clear hcz108_4); (try clear hcz112_0); (try clear hcz112_1); (try clear hcz115_0); (try clear hcz115_1); (try clear hcz124_0); (try clear hcz124_1); (try clear hcz124_2); (try clear hcz124_3); (try clear hcz124_4); (try clear hcz128_0); (try clear hcz128_1); (try clear hcz131_0); (try clear hcz131_1); (try clear hcz134_0); (try clear hcz134_1); (try clear hcz135_0); (try clear hcz135_1); (try clear hcz136_0); (try clear hcz136_1); (try clear hcz144_0); (try clear hcz144_1); (try clear hcz144_2); (try clear hcz144_3); (try clear hcz144_4); (try clear hcz148_0); (try clear hcz148_1); (try clear hcz151_0); (try clear hcz151_1); (try clear hcz156_0); (try clear hcz156_1); (try clear hcz156_2); (try clear hcz156_3); (try clear hcz156_4); (try clear hcz160_0); (try clear hcz160_1); (try clear hcz163_0); (try clear hcz163_1); (try clear hcz170_0); (try clear hcz170_1); (try clear hcz170_2); (try clear hcz170_3); (try clear hcz170_4); (try clear hcz178_0); (try clear hcz178_1); (try clear hcz188_0); (try clear hcz188_1); (try clear hcz192_0); (try clear hcz192_1); (try clear hcz202_0); (try clear hcz202_1); (try clear hcz206_0); (try clear hcz206_1); (try clear hcz58_0); (try clear hcz58_1); (try clear hcz61_0); (try clear hcz61_1); (try clear hcz69_0); (try clear hcz69_1); (try clear hcz69_2); (try clear hcz69_3); (try clear hcz69_4); (try clear hcz73_0); (try clear hcz73_1); (try clear hcz81_0); (try clear hcz81_1); (try clear hcz81_2); (try clear hcz81_3); (try clear hcz81_4); (try clear hcz85_0); (try clear hcz85_1); (try clear hcz88_0); (try clear hcz88_1); (try clear hcz93_0); (try clear hcz93_1); (try clear hcz93_2); (try clear hcz93_3); (try clear hcz93_4); (try clear hcz97_0); (try clear hcz97_1); (try clear hfz100_0); (try clear hfz100_1); (try clear hfz108_0); (try clear hfz108_1); (try clear hfz108_2); (try clear hfz108_3); (try clear hfz108_4); (try clear hfz112_0); (try clear hfz112_1); (try clear hfz115_0); (try clear hfz115_1); (try clear hfz124_0); (try clear hfz124_1); (try clear hfz124_2); (try clear hfz124_3); (try clear hfz124_4); (try clear hfz128_0); (try clear hfz128_1); (try clear hfz131_0); (try clear hfz131_1); (try clear hfz134_0); (try clear hfz134_1); (try clear hfz135_0); (try clear hfz135_1); (try clear hfz136_0); (try clear hfz136_1); (try clear hfz144_0); (try clear hfz144_1); (try clear hfz144_2); (try clear hfz144_3); (try clear hfz144_4); (try clear hfz148_0); (try clear hfz148_1); (try clear hfz151_0); (try clear hfz151_1); (try clear hfz156_0); (try clear hfz156_1); (try clear hfz156_2); (try clear hfz156_3); (try clear hfz156_4); (try clear hfz160_0); (try clear hfz160_1); (try clear hfz163_0); (try clear hfz163_1); (try clear hfz170_0); (try clear hfz170_1); (try clear hfz170_2); (try clear hfz170_3); (try clear hfz170_4); (try clear hfz178_0); (try clear hfz178_1); (try clear hfz188_0); (try clear hfz188_1); (try clear hfz192_0); (try clear hfz192_1); (try clear hfz202_0); (try clear hfz202_1); (try clear hfz206_0); (try clear hfz206_1); (try clear hfz58_0); (try clear hfz58_1); (try clear hfz61_0); (try clear hfz61_1); (try clear hfz69_0); (try clear hfz69_1); (try clear hfz69_2); (try clear hfz69_3); (try clear hfz69_4); (try clear hfz73_0); (try clear hfz73_1); (try clear hfz81_0); (try clear hfz81_1); (try clear hfz81_2); (try clear hfz81_3); (try clear hfz81_4); (try clear hfz85_0); (try clear hfz85_1); (try clear hfz88_0); (try clear hfz88_1); (try clear hfz93_0); (try clear hfz93_1); (try clear hfz93_2); (try clear hfz93_3); (try clear hfz93_4); (try clear hfz97_0); (try clear hfz97_1); (try clear p2); (try clear p6); (try clear p64); (try clear q1); (try clear q10); (try clear q101); (try clear q13); (try clear q138); (try clear q6); (try clear q62); (try clear q7); (try clear q75)
                  obtain ⟨kq, x131_207, rfl, HA, HJ207, HO_9, BK144, BK145, BK146, BK151, BK152, HB⟩ := hcut
                  cases kq with
                  | zero => exact absurd HA.out (by simp [font_buildSegments.j5])
                  | succ kj207 =>
                   have H := HA.out
                   clear HA
                   simp only [font_buildSegments.j5] at H
                   by_cases c210 : x131_207 = true
                   ·subst c210
                    have H1 : ((font_midPoint.f x147000_13 x147001_13 x146000_13 x146001_13).bind fun bt181 => ((some (([(⟨2, (⟨(⟨x147000_13, x147001_13⟩ : S192), (⟨bt181.1, bt181.2⟩ : S192), (⟨0, 0⟩ : S192)⟩ : S193)⟩ : S195), (⟨2, (⟨(⟨x146000_13, x146001_13⟩ : S192), (⟨x145000_13, x145001_13⟩ : S192), (⟨0, 0⟩ : S192)⟩ : S193)⟩ : S195)] : List (S195)) : List (S195))).bind fun y183 => (if x9_13.length + y183.length < 5026338869833 then (font_buildSegments.l0 kj207 false false false (x9_13 ++ y183) l0 (l0.length : Int) (wrap64 (x22_1 + 1)) x145000_13 x145001_13 x146000_13 x146001_13 x147000_13 x147001_13) else (none)))) = some r := by rw [if_pos rfl] at H; exact H
                    clear H
                    have H := H1
                    clear H1
                    replace H := Option.bind_eq_some_iff.mp H
                    obtain ⟨⟨t181, t182⟩, A2110, H⟩ := H
                    replace H : ((some (([(⟨2, (⟨(⟨x147000_13, x147001_13⟩ : S192), (⟨t181, t182⟩ : S192), (⟨0, 0⟩ : S192)⟩ : S193)⟩ : S195), (⟨2, (⟨(⟨x146000_13, x146001_13⟩ : S192), (⟨x145000_13, x145001_13⟩ : S192), (⟨0, 0⟩ : S192)⟩ : S193)⟩ : S195)] : List (S195)) : List (S195))).bind fun y183 => (if x9_13.length + y183.length < 5026338869833 then (font_buildSegments.l0 kj207 false false false (x9_13 ++ y183) l0 (l0.length : Int) (wrap64 (x22_1 + 1)) x145000_13 x145001_13 x146000_13 x146001_13 x147000_13 x147001_13) else (none))) = some r := H
                    have A211 := Aside0.mk A2110
                    clear A2110
                    obtain ⟨y183, hy183⟩ : ∃ y_ : List (S195), y_ = (([(⟨2, (⟨(⟨x147000_13, x147001_13⟩ : S192), (⟨t181, t182⟩ : S192), (⟨0, 0⟩ : S192)⟩ : S193)⟩ : S195), (⟨2, (⟨(⟨x146000_13, x146001_13⟩ : S192), (⟨x145000_13, x145001_13⟩ : S192), (⟨0, 0⟩ : S192)⟩ : S193)⟩ : S195)] : List (S195))) := ⟨_, rfl⟩
                    replace H : (if x9_13.length + y183.length < 5026338869833 then (font_buildSegments.l0 kj207 false false false (x9_13 ++ y183) l0 (l0.length : Int) (wrap64 (x22_1 + 1)) x145000_13 x145001_13 x146000_13 x146001_13 x147000_13 x147001_13) else (none)) = some r := by first | (rw [hy183]; with_reducible exact H) | (have H2_ := (Option.bind_some _ _).symm.trans H; rw [hy183]; with_reducible exact H2_) | (have H2_ := (Option.bind_some _ _).symm.trans H; with_reducible exact H2_) | with_reducible exact H | (rw [hy183]; exact H) | exact H
                    have Ny183 := Aside0.mk hy183
                    clear hy183
                    by_cases c212 : x9_13.length + y183.length < 5026338869833
                    rotate_left
                    ·rw [if_neg c212] at H
                     exact absurd H (by simp)
                    rw [if_pos c212] at H
                    have LMc212 := Aside0.mk c212
                    clear c212
                    obtain ⟨y186, hy186⟩ : ∃ y_ : List (S195), y_ = (x9_13 ++ y183) := ⟨_, rfl⟩
                    replace H : (font_buildSegments.l0 kj207 false false false y186 l0 (l0.length : Int) (wrap64 (x22_1 + 1)) x145000_13 x145001_13 x146000_13 x146001_13 x147000_13 x147001_13) = some r := by first | (rw [hy186]; with_reducible exact H) | (have H2_ := (Option.bind_some _ _).symm.trans H; rw [hy186]; with_reducible exact H2_) | (have H2_ := (Option.bind_some _ _).symm.trans H; with_reducible exact H2_) | with_reducible exact H | (rw [hy186]; exact H) | exact H
                    have Ny186 := Aside0.mk hy186
                    clear hy186
                    have H' := Aside0.mk H
                    clear H
                    try go_wp2
                    have n0_ := Aside0.mk (Kd.R_drew HO_9.out)
                    have n1_ := Aside0.mk (blk_drew BK144.out)
                    have n2_ := Aside0.mk (blk_drew BK145.out)
                    have n3_ := Aside0.mk (blk_drew BK146.out)
                    have n4_ := Aside0.mk (blk_drew BK151.out)
                    have n5_ := Aside0.mk (blk_drew BK152.out)
                    have n6_ := Aside0.mk (below_drew1 HB.out)
                    clear HO_9
                    clear BK144
                    clear BK145
                    clear BK146
                    clear BK151
                    clear BK152
                    clear HB
                    have HO_9 := n0_
                    have BK144 := n1_
                    have BK145 := n2_
                    have BK146 := n3_
                    have BK151 := n4_
                    have BK152 := n5_
                    have HB := n6_
                    clear n0_ n1_ n2_ n3_ n4_ n5_ n6_
                    refine start_ (n := 14) (S := fun w' => w'.cell? ⟨gb146, 0, none⟩ = some (.float .f32 x147000_13) ∧ w'.cell? ⟨gb146, 1, none⟩ = some (.float .f32 x147001_13) ∧ w'.cell? ⟨gb145, 0, none⟩ = some (.float .f32 x146000_13) ∧ w'.cell? ⟨gb145, 1, none⟩ = some (.float .f32 x146001_13) ∧ w'.cell? ⟨gb144, 0, none⟩ = some (.float .f32 x145000_13) ∧ w'.cell? ⟨gb144, 1, none⟩ = some (.float .f32 x145001_13)) (ds := []) #[ff,ff,ff,ff,ff,ff,ff,ff,ff,ff,ff,ff,ff,ff] (by kernel_rfl) rfl rfl ⟨(blk_cell BK146.out 0).trans rfl, (blk_cell BK146.out 1).trans rfl, (blk_cell BK145.out 0).trans rfl, (blk_cell BK145.out 1).trans rfl, (blk_cell BK144.out 0).trans rfl, (blk_cell BK144.out 1).trans rfl⟩ (fun hHeld => ?_); refine with_tabW font_buildSegments.tab44 font_buildSegments.bits44 (fun HT_ HW_ => ?_)
                    generalize wc.drew = w213 at HO_9 BK144 BK145 BK146 BK151 BK152 HB hHeld ⊢
                    refine pure_ (i := 0) (N := some 136) (v := ?_) (a' := ?_) #[tt,ff,ff,ff,ff,ff,ff,ff,ff,ff,ff,ff,ff,ff] rfl rfl (any_of HT_.out (by kernel_rfl)) (fun _ _ _ h => h) (Or.inl ⟨by rfl, ?_⟩) ?_ ?_
                    rotate_left
                    ·intro w'
                     go_simp
                     with_reducible rfl
                    rotate_left
                    ·simp only [Act.put, L1_, L2_, L3_, i64_w, i32_w]
                     rfl
                    refine take_ (i := 1) (N := some 137) (v := ?_) (a' := ?_) #[tt,tt,ff,ff,ff,ff,ff,ff,ff,ff,ff,ff,ff,ff] rfl rfl (take_ofW HT_.out HW_.out (by kernel_rfl)) (fun _ _ _ h => h) (Or.inl ⟨by rfl, ?_⟩) hHeld ?_ ?_
                    rotate_left
                    ·rintro w' ⟨s0, s1, s2, s3, s4, s5⟩
                     go_simp
                     with_reducible rfl
                    rotate_left
                    ·simp only [Act.put, L1_, L2_, L3_, i64_w, i32_w]
                     rfl
                    refine take_ (i := 2) (N := some 138) (v := ?_) (a' := ?_) #[tt,tt,tt,ff,ff,ff,ff,ff,ff,ff,ff,ff,ff,ff] rfl rfl (take_ofW HT_.out HW_.out (by kernel_rfl)) (fun _ _ _ h => h) (Or.inl ⟨by rfl, ?_⟩) hHeld ?_ ?_
                    rotate_left
                    ·rintro w' ⟨s0, s1, s2, s3, s4, s5⟩
                     go_simp
                     with_reducible rfl
                    rotate_left
                    ·simp only [Act.put, L1_, L2_, L3_, i64_w, i32_w]
                     rfl
                    refine take_ (i := 3) (N := some 139) (v := ?_) (a' := ?_) #[tt,tt,tt,tt,ff,ff,ff,ff,ff,ff,ff,ff,ff,ff] rfl rfl (take_ofW HT_.out HW_.out (by kernel_rfl)) (fun _ _ _ h => h) (Or.inl ⟨by rfl, ?_⟩) hHeld ?_ ?_
                    rotate_left
                    ·rintro w' ⟨s0, s1, s2, s3, s4, s5⟩
                     go_simp
                     with_reducible rfl
                    rotate_left
                    ·simp only [Act.put, L1_, L2_, L3_, i64_w, i32_w]
                     rfl
                    refine take_ (i := 7) (N := some 143) (v := ?_) (a' := ?_) #[tt,tt,tt,tt,ff,ff,ff,tt,ff,ff,ff,ff,ff,ff] rfl rfl (take_ofW HT_.out HW_.out (by kernel_rfl)) (fun _ _ _ h => h) (Or.inl ⟨by rfl, ?_⟩) hHeld ?_ ?_
                    rotate_left
                    ·rintro w' ⟨s0, s1, s2, s3, s4, s5⟩
                     go_simp
                     with_reducible rfl
                    rotate_left
                    ·simp only [Act.put, L1_, L2_, L3_, i64_w, i32_w]
                     rfl
                    refine take_ (i := 8) (N := some 144) (v := ?_) (a' := ?_) #[tt,tt,tt,tt,ff,ff,ff,tt,tt,ff,ff,ff,ff,ff] rfl rfl (take_ofW HT_.out HW_.out (by kernel_rfl)) (fun _ _ _ h => h) (Or.inl ⟨by rfl, ?_⟩) hHeld ?_ ?_
                    rotate_left
                    ·rintro w' ⟨s0, s1, s2, s3, s4, s5⟩
                     go_simp
                     with_reducible rfl
                    rotate_left
                    ·simp only [Act.put, L1_, L2_, L3_, i64_w, i32_w]
                     rfl
                    refine pure_ (i := 9) (N := some 145) (v := ?_) (a' := ?_) #[tt,tt,tt,tt,ff,ff,ff,tt,tt,tt,ff,ff,ff,ff] rfl rfl (any_of HT_.out (by kernel_rfl)) (fun _ _ _ h => h) (Or.inl ⟨by rfl, ?_⟩) ?_ ?_
                    rotate_left
                    ·intro w'
                     go_simp
                     with_reducible rfl
                    rotate_left
                    ·simp only [Act.put, L1_, L2_, L3_, i64_w, i32_w]
                     rfl
                    refine pure_ (i := 10) (N := some 146) (v := ?_) (a' := ?_) #[tt,tt,tt,tt,ff,ff,ff,tt,tt,tt,tt,ff,ff,ff] rfl rfl (any_of HT_.out (by kernel_rfl)) (fun _ _ _ h => h) (Or.inl ⟨by rfl, ?_⟩) ?_ ?_
                    rotate_left
                    ·intro w'
                     go_simp
                     with_reducible rfl
                    rotate_left
                    ·simp only [Act.put, L1_, L2_, L3_, i64_w, i32_w]
                     rfl
                    refine one_ (i := 4) (N := some 140) #[tt,tt,tt,tt,tt,ff,ff,tt,tt,tt,tt,ff,ff,ff] rfl rfl (one_of HT_.out (by kernel_rfl)) (by decide) (fun K hK => ?_)
                    refine goes_ Try.func70 (by kernel_rfl) rfl #[.agg #[.float .f32 x147000_13, .float .f32 x147001_13], .agg #[.float .f32 x146000_13, .float .f32 x146001_13]] (by rfl) rfl rfl (by (try simp only [List.map_toArray, List.map_cons, List.map_nil]); first | done | rfl | (simp only [List.length_drop, List.length_take]; rfl)) ?_
                    with_reducible refine (font_midPoint.calls x147000_13 x147001_13 x146000_13 x146001_13 t181 t182 _ A211.out).mono ?_
                    rintro e w214 ⟨rfl, hb⟩
                    refine ⟨_, rfl, ?_⟩
                    have n0_ := Aside0.mk (Kd.R_below (by (with_reducible repeat (first | apply Kd.R_alloc | apply Kd.R_drewN | apply Kd.R_drew)); exact HO_9.out) hb)
                    have n1_ := Aside0.mk (blk_below (g := gb144) (o := .cells #[.float .f32 x145000_13, .float .f32 x145001_13] 192 (0, 0)) (by (with_reducible repeat (first | apply b1_ | apply b2_ | apply b3_)); exact BK144.out) hb)
                    have n2_ := Aside0.mk (blk_below (g := gb145) (o := .cells #[.float .f32 x146000_13, .float .f32 x146001_13] 192 (0, 0)) (by (with_reducible repeat (first | apply b1_ | apply b2_ | apply b3_)); exact BK145.out) hb)
                    have n3_ := Aside0.mk (blk_below (g := gb146) (o := .cells #[.float .f32 x147000_13, .float .f32 x147001_13] 192 (0, 0)) (by (with_reducible repeat (first | apply b1_ | apply b2_ | apply b3_)); exact BK146.out) hb)
                    have n4_ := Aside0.mk (blk_below (g := gb151) (o := .cells #[.float .f32 ((rd_T198 l0 x22_1).f0.f0), .float .f32 ((rd_T198 l0 x22_1).f0.f1), .bool ((rd_T198 l0 x22_1).f1), .bool ((rd_T198 l0 x22_1).f2), .bool ((rd_T198 l0 x22_1).f3)] 198 (0, 0)) (by (with_reducible repeat (first | apply b1_ | apply b2_ | apply b3_)); exact BK151.out) hb)
                    have n5_ := Aside0.mk (blk_below (g := gb152) (o := .cells #[.float .f32 ((rd_T198 l0 x22_1).f0.f0), .float .f32 ((rd_T198 l0 x22_1).f0.f1)] 192 (0, 0)) (by (with_reducible repeat (first | apply b1_ | apply b2_ | apply b3_)); exact BK152.out) hb)
                    have n6_ := Aside0.mk (below_step (by repeat (first | (with_reducible first | exact HB.out | apply below_alloc | apply pw_below_drewN | apply below_drew1 | refine below_set ?_ GE144.out | refine below_set ?_ GE145.out | refine below_set ?_ GE146.out | refine below_set ?_ GE151.out | refine below_set ?_ GE152.out) | exact HB.out)) hb)
                    clear HO_9
                    clear BK144
                    clear BK145
                    clear BK146
                    clear BK151
                    clear BK152
                    clear HB
                    have HO_9 := n0_
                    have BK144 := n1_
                    have BK145 := n2_
                    have BK146 := n3_
                    have BK151 := n4_
                    have BK152 := n5_
                    have HB := n6_
                    clear n0_ n1_ n2_ n3_ n4_ n5_ n6_
                    (try clear hb)
                    (try clear hb2)
                    (try clear hk)
                    (try clear hi)
                    refine hK.out _ _ ⟨(blk_cell BK146.out 0).trans rfl, (blk_cell BK146.out 1).trans rfl, (blk_cell BK145.out 0).trans rfl, (blk_cell BK145.out 1).trans rfl, (blk_cell BK144.out 0).trans rfl, (blk_cell BK144.out 1).trans rfl⟩ (fun hHeld => ?_)
                    clear hK K
                    refine norm_ (a' := ?_) ?_ ?_
                    rotate_left
                    ·show Act.put _ (some 140) _ = _
                     simp only [Act.put, L1_, L2_, L3_, i64_w, i32_w]
                     rfl
                    refine pure_ (i := 5) (N := some 141) (v := ?_) (a' := ?_) #[tt,tt,tt,tt,tt,tt,ff,tt,tt,tt,tt,ff,ff,ff] rfl rfl (any_of HT_.out (by kernel_rfl)) (fun _ _ _ h => h) (Or.inl ⟨by rfl, ?_⟩) ?_ ?_
                    rotate_left
                    ·intro w'
                     go_simp
                     with_reducible rfl
                    rotate_left
                    ·simp only [Act.put, L1_, L2_, L3_, i64_w, i32_w]
                     rfl
                    refine pure_ (i := 6) (N := some 142) (v := ?_) (a' := ?_) #[tt,tt,tt,tt,tt,tt,tt,tt,tt,tt,tt,ff,ff,ff] rfl rfl (any_of HT_.out (by kernel_rfl)) (fun _ _ _ h => h) (Or.inl ⟨by rfl, ?_⟩) ?_ ?_
                    rotate_left
                    ·intro w'
                     go_simp
                     with_reducible rfl
                    rotate_left
                    ·simp only [Act.put, L1_, L2_, L3_, i64_w, i32_w]
                     rfl
                    refine one_ (i := 11) (N := some 147) #[tt,tt,tt,tt,tt,tt,tt,tt,tt,tt,tt,tt,ff,ff] rfl rfl (one_of HT_.out (by kernel_rfl)) (by decide) (fun K hK => ?_)
                    refine Kd.R_lit_step k195 _ 195 ?hg (N := 147) ?hd (xs := ([(⟨2, (⟨(⟨x147000_13, x147001_13⟩ : S192), (⟨t181, t182⟩ : S192), (⟨0, 0⟩ : S192)⟩ : S193)⟩ : S195), (⟨2, (⟨(⟨x146000_13, x146001_13⟩ : S192), (⟨x145000_13, x145001_13⟩ : S192), (⟨0, 0⟩ : S192)⟩ : S193)⟩ : S195)] : List (S195))) (inner := [.int .u8 2, .float .f32 x147000_13, .float .f32 x147001_13, .float .f32 t181, .float .f32 t182, .float .f32 0, .float .f32 0, .int .u8 2, .float .f32 x146000_13, .float .f32 x146001_13, .float .f32 x145000_13, .float .f32 x145001_13, .float .f32 0, .float .f32 0]) (ok := fun _ => True) (okp := fun _ => True) ?hr ?hp (fun _ hk => hk) trivial (Below.refl _ _) (Nat.le_refl _) (by simp) ?_; (case hd => rfl); (case hg => rfl); (case hr => first | (go_simp; done) | (go_simp; rfl)); (case hp => exact (Reps.c7 (show Kd.M k195 _ _ _ (⟨2, (⟨(⟨x147000_13, x147001_13⟩ : S192), (⟨t181, t182⟩ : S192), (⟨0, 0⟩ : S192)⟩ : S193)⟩ : S195) [.int .u8 2, .float .f32 x147000_13, .float .f32 x147001_13, .float .f32 t181, .float .f32 t182, .float .f32 0, .float .f32 0] from (k195_mkM _ _ _ (⟨2, (⟨(⟨x147000_13, x147001_13⟩ : S192), (⟨t181, t182⟩ : S192), (⟨0, 0⟩ : S192)⟩ : S193)⟩ : S195) )) (Reps.c7 (show Kd.M k195 _ _ _ (⟨2, (⟨(⟨x146000_13, x146001_13⟩ : S192), (⟨x145000_13, x145001_13⟩ : S192), (⟨0, 0⟩ : S192)⟩ : S193)⟩ : S195) [.int .u8 2, .float .f32 x146000_13, .float .f32 x146001_13, .float .f32 x145000_13, .float .f32 x145001_13, .float .f32 0, .float .f32 0] from (k195_mkM _ _ _ (⟨2, (⟨(⟨x146000_13, x146001_13⟩ : S192), (⟨x145000_13, x145001_13⟩ : S192), (⟨0, 0⟩ : S192)⟩ : S193)⟩ : S195) )) (Reps.none _ _))))
                    intro v184 w215 ho216 hb hg_ hnew_
                    clear hg_ hnew_
                    (first | rw [← Ny183.out] at ho216 | (simp only [Int.reduceToNat] at ho216; rw [← Ny183.out] at ho216))
                    have n0_ := Aside0.mk (Kd.R_elder' (by (with_reducible repeat (first | apply Kd.R_alloc | apply Kd.R_drewN | apply Kd.R_drew)); exact HO_9.out) (Kd.R_base ho216) hb)
                    have n1_ := Aside0.mk (Kd.R_lower (Kd.R_new' ho216 (Kd.R_lt (by (with_reducible repeat (first | apply Kd.R_alloc | apply Kd.R_drewN | apply Kd.R_drew)); exact HO_9.out))) (below_size (by repeat (first | (with_reducible first | exact HB.out | apply below_alloc | apply pw_below_drewN | apply below_drew1 | refine below_set ?_ GE144.out | refine below_set ?_ GE145.out | refine below_set ?_ GE146.out | refine below_set ?_ GE151.out | refine below_set ?_ GE152.out) | exact HB.out))))
                    have n2_ := Aside0.mk (blk_below (g := gb144) (o := .cells #[.float .f32 x145000_13, .float .f32 x145001_13] 192 (0, 0)) (by (with_reducible repeat (first | apply b1_ | apply b2_ | apply b3_)); exact BK144.out) hb)
                    have n3_ := Aside0.mk (blk_below (g := gb145) (o := .cells #[.float .f32 x146000_13, .float .f32 x146001_13] 192 (0, 0)) (by (with_reducible repeat (first | apply b1_ | apply b2_ | apply b3_)); exact BK145.out) hb)
                    have n4_ := Aside0.mk (blk_below (g := gb146) (o := .cells #[.float .f32 x147000_13, .float .f32 x147001_13] 192 (0, 0)) (by (with_reducible repeat (first | apply b1_ | apply b2_ | apply b3_)); exact BK146.out) hb)
                    have n5_ := Aside0.mk (blk_below (g := gb151) (o := .cells #[.float .f32 ((rd_T198 l0 x22_1).f0.f0), .float .f32 ((rd_T198 l0 x22_1).f0.f1), .bool ((rd_T198 l0 x22_1).f1), .bool ((rd_T198 l0 x22_1).f2), .bool ((rd_T198 l0 x22_1).f3)] 198 (0, 0)) (by (with_reducible repeat (first | apply b1_ | apply b2_ | apply b3_)); exact BK151.out) hb)
                    have n6_ := Aside0.mk (blk_below (g := gb152) (o := .cells #[.float .f32 ((rd_T198 l0 x22_1).f0.f0), .float .f32 ((rd_T198 l0 x22_1).f0.f1)] 192 (0, 0)) (by (with_reducible repeat (first | apply b1_ | apply b2_ | apply b3_)); exact BK152.out) hb)
                    have n7_ := Aside0.mk (below_step (by repeat (first | (with_reducible first | exact HB.out | apply below_alloc | apply pw_below_drewN | apply below_drew1 | refine below_set ?_ GE144.out | refine below_set ?_ GE145.out | refine below_set ?_ GE146.out | refine below_set ?_ GE151.out | refine below_set ?_ GE152.out) | exact HB.out)) hb)
                    clear HO_9
                    clear BK144
                    clear BK145
                    clear BK146
                    clear BK151
                    clear BK152
                    clear HB
                    have HO_9 := n0_
                    have HO185 := n1_
                    have BK144 := n2_
                    have BK145 := n3_
                    have BK146 := n4_
                    have BK151 := n5_
                    have BK152 := n6_
                    have HB := n7_
                    clear n0_ n1_ n2_ n3_ n4_ n5_ n6_ n7_
                    clear hb ho216
                    obtain ⟨Ao218, co218, eo218⟩ := Kd.R_slice HO185.out
                    (first | subst eo218 | (injection eo218 with f1_ f2_ f3_; have f4_ := f1_.symm; have f5_ := f3_.symm; clear f1_ f2_ f3_; subst f4_; subst f5_))
                    refine hK.out _ _ ⟨(blk_cell BK146.out 0).trans rfl, (blk_cell BK146.out 1).trans rfl, (blk_cell BK145.out 0).trans rfl, (blk_cell BK145.out 1).trans rfl, (blk_cell BK144.out 0).trans rfl, (blk_cell BK144.out 1).trans rfl⟩ (fun hHeld => ?_)
                    clear hK K
                    refine norm_ (a' := ?_) ?_ ?_
                    rotate_left
                    ·show Act.put _ (some 147) _ = _
                     simp only [Act.put, L1_, L2_, L3_, i64_w, i32_w]
                     rfl
                    refine one_ (i := 12) (N := some 148) #[tt,tt,tt,tt,tt,tt,tt,tt,tt,tt,tt,tt,tt,ff] rfl rfl (one_of HT_.out (by kernel_rfl)) (by decide) (fun K hK => ?_)
                    refine Kd.R_append_rows_step k195 (w0 := w) w.heap.size (by rfl) (.tmp 136) (.tmp 147) 135 195 (.agg #[(.int .u8 0), (.float .f32 0), (.float .f32 0), (.float .f32 0), (.float .f32 0), (.float .f32 0), (.float .f32 0)]) 28 rfl Try.underlying135 info195 rfl (by decide) (by omega) u9 x9_13 y183 _ _ _ (fun k_ => some k_ ≠ (.slice Ao218 y183.length co218 : Value).ownBlock) (fun _ => False) rfl rfl ?aO ?aR (fun _ _ h => h) (fun _ h => h.elim) ?aF ?aB ?aS ?aL ?_
                    (case aR => repeat (first | exact (Kd.R_reads' HO185.out).2.2 | (with_reducible refine Kd.C_alloc ?_ _) | (with_reducible refine Kd.C_drewN ?_ _) | (with_reducible refine Kd.C_drew ?_)))
                    (case aB => exact (by repeat (first | (with_reducible first | exact HB.out | apply below_alloc | apply pw_below_drewN | apply below_drew1 | refine below_set ?_ GE144.out | refine below_set ?_ GE145.out | refine below_set ?_ GE146.out | refine below_set ?_ GE151.out | refine below_set ?_ GE152.out) | exact HB.out)))
                    (case aF => exact (fun k_ hk => Kd.fresh' (Kd.R_lt (by (with_reducible repeat (first | apply Kd.R_alloc | apply Kd.R_drewN | apply Kd.R_drew)); exact HO185.out)) k_ hk))
                    (case aO => exact (by (with_reducible repeat (first | apply Kd.R_alloc | apply Kd.R_drewN | apply Kd.R_drew)); exact Kd.R_mono HO_9.out (fun _ hk => hk.2)))
                    (case aS => exact (below_size (by repeat (first | (with_reducible first | exact HB.out | apply below_alloc | apply pw_below_drewN | apply below_drew1 | refine below_set ?_ GE144.out | refine below_set ?_ GE145.out | refine below_set ?_ GE146.out | refine below_set ?_ GE151.out | refine below_set ?_ GE152.out) | exact HB.out))))
                    (case aL => have := LMc212.out; omega)
                    intro v187 w217 ho hb hg hat
                    rw [← Ny186.out] at ho
                    have n0_ := Aside0.mk (blk_grown (g := gb144) (o := .cells #[.float .f32 x145000_13, .float .f32 x145001_13] 192 (0, 0)) (by (with_reducible repeat (first | apply b1_ | apply b2_ | apply b3_)); exact BK144.out) hg (Kd.R_ne HO_9.out BK144.out (by decide)))
                    have n1_ := Aside0.mk (blk_grown (g := gb145) (o := .cells #[.float .f32 x146000_13, .float .f32 x146001_13] 192 (0, 0)) (by (with_reducible repeat (first | apply b1_ | apply b2_ | apply b3_)); exact BK145.out) hg (Kd.R_ne HO_9.out BK145.out (by decide)))
                    have n2_ := Aside0.mk (blk_grown (g := gb146) (o := .cells #[.float .f32 x147000_13, .float .f32 x147001_13] 192 (0, 0)) (by (with_reducible repeat (first | apply b1_ | apply b2_ | apply b3_)); exact BK146.out) hg (Kd.R_ne HO_9.out BK146.out (by decide)))
                    have n3_ := Aside0.mk (blk_grown (g := gb151) (o := .cells #[.float .f32 ((rd_T198 l0 x22_1).f0.f0), .float .f32 ((rd_T198 l0 x22_1).f0.f1), .bool ((rd_T198 l0 x22_1).f1), .bool ((rd_T198 l0 x22_1).f2), .bool ((rd_T198 l0 x22_1).f3)] 198 (0, 0)) (by (with_reducible repeat (first | apply b1_ | apply b2_ | apply b3_)); exact BK151.out) hg (Kd.R_ne HO_9.out BK151.out (by decide)))
                    have n4_ := Aside0.mk (blk_grown (g := gb152) (o := .cells #[.float .f32 ((rd_T198 l0 x22_1).f0.f0), .float .f32 ((rd_T198 l0 x22_1).f0.f1)] 192 (0, 0)) (by (with_reducible repeat (first | apply b1_ | apply b2_ | apply b3_)); exact BK152.out) hg (Kd.R_ne HO_9.out BK152.out (by decide)))
                    have n5_ := Aside0.mk (Kd.R_after (ok := (fun _ => True)) (by (with_reducible repeat (first | apply Kd.R_alloc | apply Kd.R_drewN | apply Kd.R_drew)); exact HO185.out) hg hat)
                    have n6_ := Aside0.mk (hb)
                    have n7_ := Aside0.mk (ho)
                    clear BK144
                    clear BK145
                    clear BK146
                    clear BK151
                    clear BK152
                    clear HO185
                    clear HB
                    clear HO_9
                    have BK144 := n0_
                    have BK145 := n1_
                    have BK146 := n2_
                    have BK151 := n3_
                    have BK152 := n4_
                    have HO185 := n5_
                    have HB := n6_
                    have HO188 := n7_
                    clear n0_ n1_ n2_ n3_ n4_ n5_ n6_ n7_
                    clear ho hb hg hat
                    refine hK.out _ _ ⟨(blk_cell BK146.out 0).trans rfl, (blk_cell BK146.out 1).trans rfl, (blk_cell BK145.out 0).trans rfl, (blk_cell BK145.out 1).trans rfl, (blk_cell BK144.out 0).trans rfl, (blk_cell BK144.out 1).trans rfl⟩ (fun hHeld => ?_)
                    clear hK K
                    refine norm_ (a' := ?_) ?_ ?_
                    rotate_left
                    ·show Act.put _ (some 148) _ = _
                     simp only [Act.put, L1_, L2_, L3_, i64_w, i32_w]
                     rfl
                    refine pure_ (i := 13) (N := some 9) (v := ?_) (a' := ?_) #[tt,tt,tt,tt,tt,tt,tt,tt,tt,tt,tt,tt,tt,tt] rfl rfl (any_of HT_.out (by kernel_rfl)) (fun _ _ _ h => h) (Or.inl ⟨by rfl, ?_⟩) ?_ ?_
                    rotate_left
                    ·intro w'
                     go_simp
                     with_reducible rfl
                    rotate_left
                    ·simp only [Act.put, L1_, L2_, L3_, i64_w, i32_w]
                     rfl
                    refine done_ (done_of HT_.out (by kernel_rfl)) ?_
                    try go_wp2
                    go_roundg kj207
                    case measure => have := HK1.out; have := HJ13.out; have := HJ164.out; have := HJ179.out; have := HJ193.out; have := HJ207.out; omega
                    case rel => exact ⟨(false), (false), (false), (y186), (wrap64 (x22_1 + 1)), (x145000_13), (x145001_13), (x146000_13), (x146001_13), (x147000_13), (x147001_13), (by first | rfl | (simp; done) | (simp [*]; done)), (by first | rfl | (simp; done) | (simp [*]; done)), (by first | rfl | (simp; done) | (simp [*]; done)), (by first | rfl | (simp; done) | (simp [*]; done)), H', ⟨by have := HK1.out; have := HJ13.out; have := HJ164.out; have := HJ179.out; have := HJ193.out; have := HJ207.out; omega⟩, ⟨by (with_reducible repeat (first | apply Kd.R_alloc | apply Kd.R_drewN | apply Kd.R_drew)); exact Kd.R_mono HO188.out (fun _ hk => trivial)⟩, ⟨by (with_reducible repeat (first | apply b1_ | apply b2_ | apply b3_)); exact BK144.out⟩, ⟨by (with_reducible repeat (first | apply b1_ | apply b2_ | apply b3_)); exact BK145.out⟩, ⟨by (with_reducible repeat (first | apply b1_ | apply b2_ | apply b3_)); exact BK146.out⟩, ⟨by repeat (first | (with_reducible first | exact HB.out | apply below_alloc | apply pw_below_drewN | apply below_drew1 | refine below_set ?_ GE144.out | refine below_set ?_ GE145.out | refine below_set ?_ GE146.out | refine below_set ?_ GE151.out | refine below_set ?_ GE152.out) | exact HB.out)⟩⟩
                   ·replace c210 := Bool.eq_false_iff.mpr c210
                    subst c210
                    have H1 : (font_buildSegments.l0 kj207 false false false x9_13 l0 (l0.length : Int) (wrap64 (x22_1 + 1)) x145000_13 x145001_13 x146000_13 x146001_13 x147000_13 x147001_13) = some r := by rw [if_neg (show ¬ (false = true) by decide)] at H; exact H
                    clear H
                    have H := H1
                    clear H1
                    have H' := Aside0.mk H
                    clear H
                    go_wp2
                    go_roundg kj207
                    case measure => have := HK1.out; have := HJ13.out; have := HJ164.out; have := HJ179.out; have := HJ193.out; have := HJ207.out; omega
                    case rel => exact ⟨(false), (false), (false), (x9_13), (wrap64 (x22_1 + 1)), (x145000_13), (x145001_13), (x146000_13), (x146001_13), (x147000_13), (x147001_13), (by first | rfl | (simp; done) | (simp [*]; done)), (by first | rfl | (simp; done) | (simp [*]; done)), (by first | rfl | (simp; done) | (simp [*]; done)), (by first | rfl | (simp; done) | (simp [*]; done)), H', ⟨by have := HK1.out; have := HJ13.out; have := HJ164.out; have := HJ179.out; have := HJ193.out; have := HJ207.out; omega⟩, ⟨by (with_reducible repeat (first | apply Kd.R_alloc | apply Kd.R_drewN | apply Kd.R_drew)); exact HO_9.out⟩, ⟨by (with_reducible repeat (first | apply b1_ | apply b2_ | apply b3_)); exact BK144.out⟩, ⟨by (with_reducible repeat (first | apply b1_ | apply b2_ | apply b3_)); exact BK145.out⟩, ⟨by (with_reducible repeat (first | apply b1_ | apply b2_ | apply b3_)); exact BK146.out⟩, ⟨by repeat (first | (with_reducible first | exact HB.out | apply below_alloc | apply pw_below_drewN | apply below_drew1 | refine below_set ?_ GE144.out | refine below_set ?_ GE145.out | refine below_set ?_ GE146.out | refine below_set ?_ GE151.out | refine below_set ?_ GE152.out) | exact HB.out)⟩⟩
       ·rw [if_neg c164] at H
        have c164b0 : ((rd_T198 l0 x22_1).f2) = false := by simpa using c164
        clear c164
        have H' := Aside0.mk H
        clear H
        have hnb219 := NB151_144.out
        have hnc219 := NB144_151.out
        have hnb220 := NB151_145.out
        have hnc220 := NB145_151.out
        have hnb221 := NB151_146.out
        have hnc221 := NB146_151.out
        have hnb222 := NB151_152.out
        have hnc222 := NB152_151.out
        have hcz223_0 : wc.cell? ⟨gb151, 0, none⟩ = some (.float .f32 ((rd_T198 l0 x22_1).f0.f0)) := (blk_cell BK151.out 0).trans rfl
        have hcz223_1 : wc.cell? ⟨gb151, 1, none⟩ = some (.float .f32 ((rd_T198 l0 x22_1).f0.f1)) := (blk_cell BK151.out 1).trans rfl
        have hcz223_2 : wc.cell? ⟨gb151, 2, none⟩ = some (.bool ((rd_T198 l0 x22_1).f1)) := (blk_cell BK151.out 2).trans rfl
        have hcz223_3 : wc.cell? ⟨gb151, 3, none⟩ = some (.bool ((rd_T198 l0 x22_1).f2)) := (blk_cell BK151.out 3).trans rfl
        have hcz223_4 : wc.cell? ⟨gb151, 4, none⟩ = some (.bool ((rd_T198 l0 x22_1).f3)) := (blk_cell BK151.out 4).trans rfl
        have hfz223_0 := blk_frozen BK151.out 0
        have hfz223_1 := blk_frozen BK151.out 1
        have hfz223_2 := blk_frozen BK151.out 2
        have hfz223_3 := blk_frozen BK151.out 3
        have hfz223_4 := blk_frozen BK151.out 4
        go_wp2
        go_roundg kj13
        case measure => have := HK1.out; have := HJ13.out; omega
        case rel => exact ⟨(x3_13), (x4_13), (x5_13), (x9_13), (wrap64 (x22_1 + 1)), (x145000_13), (x145001_13), (x146000_13), (x146001_13), (x147000_13), (x147001_13), (by first | rfl | (simp; done) | (simp [*]; done)), (by first | rfl | (simp; done) | (simp [*]; done)), (by first | rfl | (simp; done) | (simp [*]; done)), (by first | rfl | (simp; done) | (simp [*]; done)), H', ⟨by have := HK1.out; have := HJ13.out; omega⟩, ⟨by (with_reducible repeat (first | apply Kd.R_alloc | apply Kd.R_drewN | apply Kd.R_drew)); exact HO_9.out⟩, ⟨by (with_reducible repeat (first | apply b1_ | apply b2_ | apply b3_)); exact BK144.out⟩, ⟨by (with_reducible repeat (first | apply b1_ | apply b2_ | apply b3_)); exact BK145.out⟩, ⟨by (with_reducible repeat (first | apply b1_ | apply b2_ | apply b3_)); exact BK146.out⟩, ⟨by repeat (first | (with_reducible first | exact HB.out | apply below_alloc | apply pw_below_drewN | apply below_drew1 | refine below_set ?_ GE144.out | refine below_set ?_ GE145.out | refine below_set ?_ GE146.out | refine below_set ?_ GE151.out | refine below_set ?_ GE152.out) | exact HB.out)⟩⟩
    ·rw [if_neg c11] at H
     have c11b0 : decide (x22_1 < (l0.length : Int)) = false := decide_eq_false c11
     clear c11
     obtain rfl := Option.some.inj H
     go_wp2
     go_ret
     exact ⟨_, by first | rfl | (simp [errW_none, errW_some] <;> rfl) | (simp only [← hji3]; first | rfl | (simp [errW_none, errW_some] <;> rfl)) | (simp [*, errW_none, errW_some] <;> rfl), by (with_reducible repeat (first | apply Kd.R_alloc | apply Kd.R_drewN | apply Kd.R_drew)); exact HO_9.out, by repeat (first | (with_reducible first | exact HB.out | apply below_alloc | apply pw_below_drewN | apply below_drew1 | refine below_set ?_ GE144.out | refine below_set ?_ GE145.out | refine below_set ?_ GE146.out) | exact HB.out)⟩

end Go.Proofs.Ytlbmfnjhpojghaa.PFnContours
