-- Written by a program of this session (xprint) out of the translation; Lean checks it.
import Derived.Test.YtlbmfnjhpojghaaPFnContoursx0
import Derived.Test.YtlbmfnjhpojghaaPFnContoursx1
import Derived.Test.YtlbmfnjhpojghaaPFnContoursx9
namespace Go.Proofs.Ytlbmfnjhpojghaa.PFnContours
open Go.RowKit Go.Proofs.YtlbmfnjhpojghaaW.PrintWords Go.Proofs.YtlbmfnjhpojghaaW.PrintLast Go.Proofs.YtlbmfnjhpojghaaW.PrintMore
attribute [local go_sem] max2_int min2_int max_two min_two max_three min_three max_four min_four   -- for this text's walks alone
set_option linter.unusedVariables false
set_option linter.unusedSimpArgs false

attribute [local go_sem high] eqA124
attribute [local go_sem] f_add f_sub f_mul f_quo f_conv f_same f_int f_max f_store
/-! ### spec_ContourRef: function 20 -/
mutual
def spec_ContourRef.l0 : Nat → List (S65) → List (S141) → List (S65) → Int → Int → Option ((List (S129)))
 | 0, _, _, _, _, _ => none
 | k + 1, x0, x3, x12, x13, x14 => if x14 < x13 then (if 0 ≤ x14 then (if x14 < (x12.length : Int) then (if ((rd_T65 x12 x14).f0 = true) then (spec_ContourRef.j1 k x0 x3 x14 (x0.length : Int) x12 x13 x14 false ((rd_T65 x12 x14).f0) ((rd_T65 x12 x14).f1) ((rd_T65 x12 x14).f2) (floatOfInt .f32 ((rd_T65 x12 x14).f1)) (floatOfInt .f32 ((rd_T65 x12 x14).f2))) else (if (x0.length : Int) = 0 then (none) else (if 0 ≤ (Int.tmod (wrap64 ((wrap64 (x14 + (x0.length : Int))) - 1)) (x0.length : Int)) then (if (Int.tmod (wrap64 ((wrap64 (x14 + (x0.length : Int))) - 1)) (x0.length : Int)) < (x0.length : Int) then (spec_ContourRef.j1 k x0 x3 x14 (x0.length : Int) x12 x13 x14 (!((rd_T65 x0 (Int.tmod (wrap64 ((wrap64 (x14 + (x0.length : Int))) - 1)) (x0.length : Int))).f0)) ((rd_T65 x12 x14).f0) ((rd_T65 x12 x14).f1) ((rd_T65 x12 x14).f2) (floatOfInt .f32 ((rd_T65 x12 x14).f1)) (floatOfInt .f32 ((rd_T65 x12 x14).f2))) else (none)) else (none)))) else (none)) else (none)) else ((spec_point.f k x3).bind fun t257 => (if t257 < 0 then (some ([] : List (S129))) else (if 0 ≤ t257 then (if t257 ≤ (x3.length : Int) then (if 0 ≤ (wrap64 (t257 + 1)) then (if (wrap64 (t257 + 1)) ≤ (x3.length : Int) then ((some (x3.take ((wrap64 (t257 + 1)) : Int).toNat : List (S141))).bind fun y262 => (if 0 < (y262.length : Int) then (if x3.length + y262.length < 11728124029610 then (spec_ContourRef.l1 k ([] : List (S129)) ((x3.drop (t257 : Int).toNat) ++ y262) 1) else (none)) else (none))) else (none)) else (none)) else (none)) else (none))))
def spec_ContourRef.j1 : Nat → List (S65) → List (S141) → Int → Int → List (S65) → Int → Int → Bool → Bool → Int → Int → Nat → Nat → Option ((List (S129)))
 | 0, _, _, _, _, _, _, _, _, _, _, _, _, _ => none
 | k + 1, x0, x3, x4, x7, x12, x13, x14, x43, x242000, x242001, x242002, x243000, x243001 => if x43 = true then (if x7 = 0 then (none) else (if 0 ≤ (Int.tmod (wrap64 ((wrap64 (x4 + x7)) - 1)) x7) then (if (Int.tmod (wrap64 ((wrap64 (x4 + x7)) - 1)) x7) < (x0.length : Int) then ((spec_half.f x243000 x243001 (floatOfInt .f32 ((rd_T65 x0 (Int.tmod (wrap64 ((wrap64 (x4 + x7)) - 1)) x7)).f1)) (floatOfInt .f32 ((rd_T65 x0 (Int.tmod (wrap64 ((wrap64 (x4 + x7)) - 1)) x7)).f2))).bind fun bt246 => (if x3.length < 11728124029610 then ((some (x3 ++ [(⟨true, (⟨bt246.1, bt246.2⟩ : S124)⟩ : S141)] : List (S141))).bind fun y248 => (if y248.length < 11728124029610 then (spec_ContourRef.l0 k x0 (y248 ++ [(⟨x242000, (⟨x243000, x243001⟩ : S124)⟩ : S141)]) x12 x13 (wrap64 (x14 + 1))) else (none))) else (none))) else (none)) else (none))) else (if x3.length < 11728124029610 then (spec_ContourRef.l0 k x0 (x3 ++ [(⟨x242000, (⟨x243000, x243001⟩ : S124)⟩ : S141)]) x12 x13 (wrap64 (x14 + 1))) else (none))
def spec_ContourRef.l1 : Nat → List (S129) → List (S141) → Int → Option ((List (S129)))
 | 0, _, _, _ => none
 | k + 1, x2, x3, x10 => if x10 < (x3.length : Int) then (if 0 ≤ (wrap64 (x10 - 1)) then (if (wrap64 (x10 - 1)) < (x3.length : Int) then (if 0 ≤ x10 then (if (rd_T141 x3 x10).f0 = true then (if (!(FloatKind.f32.format.order ((rd_T141 x3 (wrap64 (x10 - 1))).f1.f0) ((rd_T141 x3 x10).f1.f0) == some .eq) || (!(FloatKind.f32.format.order ((rd_T141 x3 (wrap64 (x10 - 1))).f1.f1) ((rd_T141 x3 x10).f1.f1) == some .eq))) = true then (if x2.length < 5026338869833 then (spec_ContourRef.l1 k (x2 ++ [(⟨false, (⟨(rd_T141 x3 (wrap64 (x10 - 1))).f1.f0, (rd_T141 x3 (wrap64 (x10 - 1))).f1.f1⟩ : S124), (⟨0, 0⟩ : S124), (⟨(rd_T141 x3 x10).f1.f0, (rd_T141 x3 x10).f1.f1⟩ : S124)⟩ : S129)]) x3 (wrap64 (x10 + 1))) else (none)) else (spec_ContourRef.l1 k x2 x3 (wrap64 (x10 + 1)))) else (if 0 ≤ (wrap64 (x10 + 1)) then (if (wrap64 (x10 + 1)) < (x3.length : Int) then (if x2.length < 5026338869833 then (spec_ContourRef.l1 k (x2 ++ [(⟨true, (⟨(rd_T141 x3 (wrap64 (x10 - 1))).f1.f0, (rd_T141 x3 (wrap64 (x10 - 1))).f1.f1⟩ : S124), (⟨(rd_T141 x3 x10).f1.f0, (rd_T141 x3 x10).f1.f1⟩ : S124), (⟨(rd_T141 x3 (wrap64 (x10 + 1))).f1.f0, (rd_T141 x3 (wrap64 (x10 + 1))).f1.f1⟩ : S124)⟩ : S129)]) x3 (wrap64 ((wrap64 (x10 + 1)) + 1))) else (none)) else (none)) else (none))) else (none)) else (none)) else (none)) else (some x2)
end
def spec_ContourRef.f (k : Nat) (l0 : List (S65)) : Option ((List (S129))) := spec_ContourRef.l0 k l0 ([] : List (S141)) l0 (l0.length : Int) 0
theorem spec_ContourRef.mono_l : ∀ k, (∀ y0 y1 y2 y3 y4, LeO (spec_ContourRef.l0 k y0 y1 y2 y3 y4) (spec_ContourRef.l0 (k + 1) y0 y1 y2 y3 y4)) ∧ (∀ y0 y1 y2 y3 y4 y5 y6 y7 y8 y9 y10 y11 y12, LeO (spec_ContourRef.j1 k y0 y1 y2 y3 y4 y5 y6 y7 y8 y9 y10 y11 y12) (spec_ContourRef.j1 (k + 1) y0 y1 y2 y3 y4 y5 y6 y7 y8 y9 y10 y11 y12)) ∧ (∀ y0 y1 y2, LeO (spec_ContourRef.l1 k y0 y1 y2) (spec_ContourRef.l1 (k + 1) y0 y1 y2))
 | 0 => ⟨fun _ _ _ _ _ r h => by simp [spec_ContourRef.l0] at h, fun _ _ _ _ _ _ _ _ _ _ _ _ _ r h => by simp [spec_ContourRef.j1] at h, fun _ _ _ r h => by simp [spec_ContourRef.l1] at h⟩
 | k + 1 => by
  obtain ⟨ih0, ih1, ih2⟩ := spec_ContourRef.mono_l k
  refine ⟨?_, ?_, ?_⟩
  ·intro y0 y1 y2 y3 y4
   unfold spec_ContourRef.l0
   repeat' first
   | (with_reducible exact ih0 _ _ _ _ _)
   | (with_reducible exact ih1 _ _ _ _ _ _ _ _ _ _ _ _ _)
   | (with_reducible exact ih2 _ _ _)
   | (with_reducible exact spec_point.mono _ _)
   | (with_reducible exact LeO.refl _)
   | (with_reducible exact LeO.none _)
   | (with_reducible refine LeO.ite ?_ ?_)
   | (with_reducible refine LeO.bind ?_ (fun _ => ?_))
   | exact ih0 _ _ _ _ _
   | exact ih1 _ _ _ _ _ _ _ _ _ _ _ _ _
   | exact ih2 _ _ _
   | exact spec_point.mono _ _
   | exact LeO.none _
   | refine LeO.ite ?_ ?_
   | refine LeO.bind ?_ (fun _ => ?_)
  ·intro y0 y1 y2 y3 y4 y5 y6 y7 y8 y9 y10 y11 y12
   unfold spec_ContourRef.j1
   repeat' first
   | (with_reducible exact ih0 _ _ _ _ _)
   | (with_reducible exact ih1 _ _ _ _ _ _ _ _ _ _ _ _ _)
   | (with_reducible exact ih2 _ _ _)
   | (with_reducible exact spec_point.mono _ _)
   | (with_reducible exact LeO.refl _)
   | (with_reducible exact LeO.none _)
   | (with_reducible refine LeO.ite ?_ ?_)
   | (with_reducible refine LeO.bind ?_ (fun _ => ?_))
   | exact ih0 _ _ _ _ _
   | exact ih1 _ _ _ _ _ _ _ _ _ _ _ _ _
   | exact ih2 _ _ _
   | exact spec_point.mono _ _
   | exact LeO.none _
   | refine LeO.ite ?_ ?_
   | refine LeO.bind ?_ (fun _ => ?_)
  ·intro y0 y1 y2
   unfold spec_ContourRef.l1
   repeat' first
   | (with_reducible exact ih0 _ _ _ _ _)
   | (with_reducible exact ih1 _ _ _ _ _ _ _ _ _ _ _ _ _)
   | (with_reducible exact ih2 _ _ _)
   | (with_reducible exact spec_point.mono _ _)
   | (with_reducible exact LeO.refl _)
   | (with_reducible exact LeO.none _)
   | (with_reducible refine LeO.ite ?_ ?_)
   | (with_reducible refine LeO.bind ?_ (fun _ => ?_))
   | exact ih0 _ _ _ _ _
   | exact ih1 _ _ _ _ _ _ _ _ _ _ _ _ _
   | exact ih2 _ _ _
   | exact spec_point.mono _ _
   | exact LeO.none _
   | refine LeO.ite ?_ ?_
   | refine LeO.bind ?_ (fun _ => ?_)
theorem spec_ContourRef.mono : ∀ a0 k, LeO (spec_ContourRef.f k a0) (spec_ContourRef.f (k + 1) a0) := by
 intro a0 k
 obtain ⟨ih0, ih1, ih2⟩ := spec_ContourRef.mono_l k
 unfold spec_ContourRef.f
 repeat' first
   | (with_reducible exact ih0 _ _ _ _ _)
   | (with_reducible exact ih1 _ _ _ _ _ _ _ _ _ _ _ _ _)
   | (with_reducible exact ih2 _ _ _)
   | (with_reducible exact spec_point.mono _ _)
   | (with_reducible exact LeO.refl _)
   | (with_reducible exact LeO.none _)
   | (with_reducible refine LeO.ite ?_ ?_)
   | (with_reducible refine LeO.bind ?_ (fun _ => ?_))
   | exact ih0 _ _ _ _ _
   | exact ih1 _ _ _ _ _ _ _ _ _ _ _ _ _
   | exact ih2 _ _ _
   | exact spec_point.mono _ _
   | exact LeO.none _
   | refine LeO.ite ?_ ?_
   | refine LeO.bind ?_ (fun _ => ?_)
def spec_ContourRef.T15 : Bool × List (List Nat × List Nat) := (true, [([], []), ([], []), ([0, 1], [0, 1]), ([], []), ([], []), ([4], [4]), ([3, 5], [3, 5]), ([2, 6], [2, 6]), ([7, 7, 0, 1, 2, 3, 4, 5, 6, 7], [0, 3, 7])])
def spec_ContourRef.B15 : List Nat := [0, 0, 3, 0, 0, 16, 56, 127, 255]
theorem spec_ContourRef.tab15 : rtab .any (opsOf Try.f20 15) = spec_ContourRef.T15 := by kernel_rfl
theorem spec_ContourRef.bits15 : waitsOk spec_ContourRef.T15.2 spec_ContourRef.B15 = true := by kernel_rfl
def spec_ContourRef.T22 : Bool × List (List Nat × List Nat) := (true, [([], []), ([], []), ([], []), ([], []), ([2, 3], [2, 3]), ([4], [4]), ([5], [5]), ([1, 6], [1, 6]), ([7], [7]), ([0, 8], [0, 8]), ([9, 9, 0, 1, 2, 3, 4, 5, 6, 7, 8, 9], [0, 9])])
def spec_ContourRef.B22 : List Nat := [0, 0, 0, 0, 12, 28, 60, 126, 254, 511, 1023]
theorem spec_ContourRef.tab22 : rtab .any (opsOf Try.f20 22) = spec_ContourRef.T22 := by kernel_rfl
theorem spec_ContourRef.bits22 : waitsOk spec_ContourRef.T22.2 spec_ContourRef.B22 = true := by kernel_rfl
def spec_ContourRef.T23 : Bool × List (List Nat × List Nat) := (true, [([], []), ([], []), ([], []), ([], []), ([2, 3], [2, 3]), ([4], [4]), ([5], [5]), ([], []), ([], []), ([8], [8]), ([7, 9], [7, 9]), ([10], [10]), ([11], [11]), ([1, 6, 12], [1, 6, 12]), ([13], [13]), ([0, 14], [0, 14]), ([15, 15, 0, 1, 2, 3, 4, 5, 6, 7, 8, 9, 10, 11, 12, 13, 14, 15], [0, 15])])
def spec_ContourRef.B23 : List Nat := [0, 0, 0, 0, 12, 28, 60, 0, 0, 256, 896, 1920, 3968, 8190, 16382, 32767, 65535]
theorem spec_ContourRef.tab23 : rtab .any (opsOf Try.f20 23) = spec_ContourRef.T23 := by kernel_rfl
theorem spec_ContourRef.bits23 : waitsOk spec_ContourRef.T23.2 spec_ContourRef.B23 = true := by kernel_rfl
set_option maxHeartbeats 8000000 in
set_option maxRecDepth 100000 in
theorem spec_ContourRef.calls (k : Nat) (A0 : Option Addr) (c0 : Nat) (l0 : List (S65)) (r : List (S129)) (w : World) (hr0 : Kd.C k65 w A0 l0.length l0) (hc0 : l0.length ≤ c0) (h : spec_ContourRef.f k l0 = some r) :
  Calls Try.prog 20 #[.slice A0 l0.length c0] w fun e w' => ∃ v0_ : Value, e = .returned (v0_) ∧ Kd.R k129 129 w' w.heap.size (fun _ => True) v0_ r ∧ Below w.heap.size w w' := by
 have hu65 := Try.underlying65
 have hu124 := Try.underlying124
 have hu141 := Try.underlying141
 have hu129 := Try.underlying129
 have HR0 := Aside0.mk hr0
 have HC0 := Aside0.mk hc0
 clear hr0 hc0
 have HB := Aside0.mk (Below.refl w.heap.size w)
 have H : (spec_ContourRef.l0 k l0 ([] : List (S141)) l0 (l0.length : Int) 0) = some r := h
 clear h
 have H' := Aside0.mk H
 clear H
 go_enter Try.func20, Try.ntmps20
 go_wp2
 go_loopg [3, 14] k (fun kq v3 v14 w' => ∃ (x3_1 : List (S141)) (x14_1 : Int), v14 = .int .i64 x14_1 ∧ Aside0 (spec_ContourRef.l0 kq l0 x3_1 l0 (l0.length : Int) x14_1 = some r) ∧ Aside0 (kq ≤ k) ∧ Aside0 (Kd.Q k141 141 w' w.heap.size (fun _ => True) v3 x3_1) ∧ Aside0 (Below w.heap.size w w'))
 case atStart => exact ⟨(([] : List (S141))), (0), (by first | rfl | (simp; done) | (simp [*]; done)), H', ⟨Nat.le_refl _⟩, ⟨Kd.Q_of_R (by first | exact Kd.R_nil _ _ _ _ _ | exact Kd.N_nil _ _ _ _ _ | exact Kd.V_nil _ _ _ _ _ | exact Kd.Q_nil _ _ _ _ _ | exact Kd.S_nil _ _ _ _ _)⟩, ⟨by repeat (first | (with_reducible first | exact HB.out | apply below_alloc | apply pw_below_drewN | apply below_drew1) | exact HB.out)⟩⟩
 case round =>
  clear H'
  obtain ⟨x3_1, x14_1, rfl, HA, HK1, HO_3, HB⟩ := hrel
  cases gk with
  | zero => exact absurd HA.out (by simp [spec_ContourRef.l0])
  | succ k1 =>
   have H := HA.out
   clear HA
   simp only [spec_ContourRef.l0] at H
   by_cases c2 : x14_1 < (l0.length : Int)
   ·rw [if_pos c2] at H
    have c2b0 : decide (x14_1 < (l0.length : Int)) = true := decide_eq_true c2
    clear c2
    by_cases c3 : 0 ≤ x14_1
    rotate_left
    ·rw [if_neg c3] at H
     exact absurd H (by simp)
    rw [if_pos c3] at H
    have c3b0 : decide (0 ≤ x14_1) = true := decide_eq_true c3
    clear c3
    by_cases c4 : x14_1 < (l0.length : Int)
    rotate_left
    ·rw [if_neg c4] at H
     exact absurd H (by simp)
    rw [if_pos c4] at H
    have c4b0 : decide (x14_1 < (l0.length : Int)) = true := decide_eq_true c4
    clear c4
    have HC5 := Aside0.mk H
    clear H
    have p240 : 0 ≤ (x14_1 : Int) := of_decide_eq_true (by first | (with_reducible assumption) | assumption)
    have q240 : x14_1 < (l0.length : Int) := of_decide_eq_true (by first | (with_reducible assumption) | assumption)
    obtain ⟨ad240, e240, hx240_0, hx240_1, hx240_2⟩ := at_T65 HR0.out x14_1 p240 q240
    cases e240
    replace hx240_0 := (HB.out.cell (World.block_lt_of_cell? w _ hx240_0)).trans hx240_0
    replace hx240_1 := (HB.out.cell (World.block_lt_of_cell? w _ hx240_1)).trans hx240_1
    replace hx240_2 := (HB.out.cell (World.block_lt_of_cell? w _ hx240_2)).trans hx240_2
    replace p240 := eq_true p240
    replace q240 := eq_true q240
    go_upto_region 7 with (first | ((with_reducible refine gate_dst (N := 5) rfl ?_); refine box_event ?hg (N := 5) ?hd (cs := #[.bool false, .int .i64 0, .int .i64 0]) (t := 65) ?hr ?_; (case hd => rfl); (case hg => rfl); (case hr => first | (go_simp; done) | (go_simp; rfl)); intro gb241 hg w6 hbox hb; have n0_ := Aside0.mk (Kd.Q_below (by (with_reducible repeat (first | apply Kd.Q_alloc | apply Kd.Q_drewN | apply Kd.Q_drew)); exact HO_3.out) hb); have n1_ := Aside0.mk (below_step (by repeat (first | (with_reducible first | exact HB.out | apply below_alloc | apply pw_below_drewN | apply below_drew1) | exact HB.out)) hb); have n2_ := Aside0.mk (hbox); have n3_ := Aside0.mk ((by rw [hg]; exact (below_size (by repeat (first | (with_reducible first | exact HB.out | apply below_alloc | apply pw_below_drewN | apply below_drew1) | exact HB.out))) : w.heap.size ≤ gb241)); have n4_ := Aside0.mk ((by rw [hg]; exact (below_size (by repeat (first | (with_reducible first | exact HB.out | apply below_alloc | apply pw_below_drewN | apply below_drew1) | exact HB.out))) : w.heap.size ≤ gb241)); clear HO_3; clear HB; have HO_3 := n0_; have HB := n1_; have BK241 := n2_; have GW241 := n3_; have GE241 := n4_; clear n0_ n1_ n2_ n3_ n4_; clear hb hbox hg; have hcz7_0 : w6.cell? ⟨gb241, 0, none⟩ = some (.bool false) := (blk_cell BK241.out 0).trans rfl; have hcz7_1 : w6.cell? ⟨gb241, 1, none⟩ = some (.int .i64 0) := (blk_cell BK241.out 1).trans rfl; have hcz7_2 : w6.cell? ⟨gb241, 2, none⟩ = some (.int .i64 0) := (blk_cell BK241.out 2).trans rfl; have hfz7_0 := blk_frozen BK241.out 0; have hfz7_1 := blk_frozen BK241.out 1; have hfz7_2 := blk_frozen BK241.out 2) | ((with_reducible refine gate_dst (N := 6) rfl ?_); refine box_event ?hg (N := 6) ?hd (cs := #[.float .f32 0, .float .f32 0]) (t := 124) ?hr ?_; (case hd => rfl); (case hg => rfl); (case hr => first | (go_simp; done) | (go_simp; rfl)); intro gb242 hg w8 hbox hb; have n0_ := Aside0.mk (Kd.Q_below (by (with_reducible repeat (first | apply Kd.Q_alloc | apply Kd.Q_drewN | apply Kd.Q_drew)); exact (Kd.Q_mono (Kd.Q_far (p := ⟨gb241, 2, none⟩) (Kd.Q_far (p := ⟨gb241, 1, none⟩) (Kd.Q_far (p := ⟨gb241, 0, none⟩) (Kd.Q_types HO_3.out BK241.out (by decide)) (fun _ hk => hk.2) (.bool ((rd_T65 l0 x14_1).f0))) (fun _ hk => hk.2) (.int .i64 ((rd_T65 l0 x14_1).f1))) (fun _ hk => hk.2) (.int .i64 ((rd_T65 l0 x14_1).f2))) (fun _ h_ => h_.1))) hb); have n1_ := Aside0.mk (blk_below (g := gb241) (o := .cells #[.bool ((rd_T65 l0 x14_1).f0), .int .i64 ((rd_T65 l0 x14_1).f1), .int .i64 ((rd_T65 l0 x14_1).f2)] 65 (0, 0)) (by (with_reducible repeat (first | apply b1_ | apply b2_ | apply b3_)); refine blk_put (cs := #[.bool ((rd_T65 l0 x14_1).f0), .int .i64 ((rd_T65 l0 x14_1).f1), .int .i64 0]) ?_ 2 _ rfl; (with_reducible repeat (first | apply b1_ | apply b2_ | apply b3_)); refine blk_put (cs := #[.bool ((rd_T65 l0 x14_1).f0), .int .i64 0, .int .i64 0]) ?_ 1 _ rfl; (with_reducible repeat (first | apply b1_ | apply b2_ | apply b3_)); refine blk_put (cs := #[.bool false, .int .i64 0, .int .i64 0]) ?_ 0 _ rfl; (with_reducible repeat (first | apply b1_ | apply b2_ | apply b3_)); exact BK241.out) hb); have n2_ := Aside0.mk (below_step (by repeat (first | (with_reducible first | exact HB.out | apply below_alloc | apply pw_below_drewN | apply below_drew1 | refine below_set ?_ GE241.out) | exact HB.out)) hb); have n3_ := Aside0.mk (hbox); have n4_ := Aside0.mk ((by rw [hg]; exact (below_size (by repeat (first | (with_reducible first | exact HB.out | apply below_alloc | apply pw_below_drewN | apply below_drew1 | refine below_set ?_ GE241.out) | exact HB.out))) : w.heap.size ≤ gb242)); have n5_ := Aside0.mk ((by rw [hg]; exact (below_size (by repeat (first | (with_reducible first | exact HB.out | apply below_alloc | apply pw_below_drewN | apply below_drew1 | refine below_set ?_ GE241.out) | exact HB.out))) : w.heap.size ≤ gb242)); have n6_ := Aside0.mk ((by rw [hg]; exact Nat.ne_of_lt (blk_lt (g := gb241) (o := .cells #[.bool ((rd_T65 l0 x14_1).f0), .int .i64 ((rd_T65 l0 x14_1).f1), .int .i64 ((rd_T65 l0 x14_1).f2)] 65 (0, 0)) (by (with_reducible repeat (first | apply b1_ | apply b2_ | apply b3_)); refine blk_put (cs := #[.bool ((rd_T65 l0 x14_1).f0), .int .i64 ((rd_T65 l0 x14_1).f1), .int .i64 0]) ?_ 2 _ rfl; (with_reducible repeat (first | apply b1_ | apply b2_ | apply b3_)); refine blk_put (cs := #[.bool ((rd_T65 l0 x14_1).f0), .int .i64 0, .int .i64 0]) ?_ 1 _ rfl; (with_reducible repeat (first | apply b1_ | apply b2_ | apply b3_)); refine blk_put (cs := #[.bool false, .int .i64 0, .int .i64 0]) ?_ 0 _ rfl; (with_reducible repeat (first | apply b1_ | apply b2_ | apply b3_)); exact BK241.out)) : gb241 ≠ gb242)); have n7_ := Aside0.mk ((by rw [hg]; exact Nat.ne_of_gt (blk_lt (g := gb241) (o := .cells #[.bool ((rd_T65 l0 x14_1).f0), .int .i64 ((rd_T65 l0 x14_1).f1), .int .i64 ((rd_T65 l0 x14_1).f2)] 65 (0, 0)) (by (with_reducible repeat (first | apply b1_ | apply b2_ | apply b3_)); refine blk_put (cs := #[.bool ((rd_T65 l0 x14_1).f0), .int .i64 ((rd_T65 l0 x14_1).f1), .int .i64 0]) ?_ 2 _ rfl; (with_reducible repeat (first | apply b1_ | apply b2_ | apply b3_)); refine blk_put (cs := #[.bool ((rd_T65 l0 x14_1).f0), .int .i64 0, .int .i64 0]) ?_ 1 _ rfl; (with_reducible repeat (first | apply b1_ | apply b2_ | apply b3_)); refine blk_put (cs := #[.bool false, .int .i64 0, .int .i64 0]) ?_ 0 _ rfl; (with_reducible repeat (first | apply b1_ | apply b2_ | apply b3_)); exact BK241.out)) : gb242 ≠ gb241)); clear HO_3; clear BK241; clear HB; have HO_3 := n0_; have BK241 := n1_; have HB := n2_; have BK242 := n3_; have GW242 := n4_; have GE242 := n5_; have NB241_242 := n6_; have NB242_241 := n7_; clear n0_ n1_ n2_ n3_ n4_ n5_ n6_ n7_; clear hb hbox hg; have hnb9 := NB242_241.out; have hnc9 := NB241_242.out; have hcz10_0 : w8.cell? ⟨gb242, 0, none⟩ = some (.float .f32 0) := (blk_cell BK242.out 0).trans rfl; have hcz10_1 : w8.cell? ⟨gb242, 1, none⟩ = some (.float .f32 0) := (blk_cell BK242.out 1).trans rfl; have hfz10_0 := blk_frozen BK242.out 0; have hfz10_1 := blk_frozen BK242.out 1))
    (try simp only [Act.put, L1_, L2_, L3_])
    go_cut [43] (fun v43 wc => ∃ (kq : Nat) (x43_4 : Bool), v43 = .bool x43_4 ∧ Aside0 (spec_ContourRef.j1 kq l0 x3_1 x14_1 (l0.length : Int) l0 (l0.length : Int) x14_1 x43_4 ((rd_T65 l0 x14_1).f0) ((rd_T65 l0 x14_1).f1) ((rd_T65 l0 x14_1).f2) (floatOfInt .f32 ((rd_T65 l0 x14_1).f1)) (floatOfInt .f32 ((rd_T65 l0 x14_1).f2)) = some r) ∧ Aside0 (kq ≤ k1) ∧ Aside0 (Kd.Q k141 141 wc w.heap.size (fun _ => True) u3 x3_1) ∧ Aside0 (wc.heap[gb241]? = some (.cells #[.bool ((rd_T65 l0 x14_1).f0), .int .i64 ((rd_T65 l0 x14_1).f1), .int .i64 ((rd_T65 l0 x14_1).f2)] 65 (0, 0))) ∧ Aside0 (wc.heap[gb242]? = some (.cells #[.float .f32 (floatOfInt .f32 ((rd_T65 l0 x14_1).f1)), .float .f32 (floatOfInt .f32 ((rd_T65 l0 x14_1).f2))] 124 (0, 0))) ∧ Aside0 (Below w.heap.size w wc))
    case first =>
     have H := HC5.out
     clear HC5
     obtain ⟨bq11, hbq11⟩ : ∃ b_ : Bool, b_ = ((rd_T65 l0 x14_1).f0) := ⟨_, rfl⟩
     replace H : (if (bq11 = true) then (spec_ContourRef.j1 k1 l0 x3_1 x14_1 (l0.length : Int) l0 (l0.length : Int) x14_1 false bq11 ((rd_T65 l0 x14_1).f1) ((rd_T65 l0 x14_1).f2) (floatOfInt .f32 ((rd_T65 l0 x14_1).f1)) (floatOfInt .f32 ((rd_T65 l0 x14_1).f2))) else (if (l0.length : Int) = 0 then (none) else (if 0 ≤ (Int.tmod (wrap64 ((wrap64 (x14_1 + (l0.length : Int))) - 1)) (l0.length : Int)) then (if (Int.tmod (wrap64 ((wrap64 (x14_1 + (l0.length : Int))) - 1)) (l0.length : Int)) < (l0.length : Int) then (spec_ContourRef.j1 k1 l0 x3_1 x14_1 (l0.length : Int) l0 (l0.length : Int) x14_1 (!((rd_T65 l0 (Int.tmod (wrap64 ((wrap64 (x14_1 + (l0.length : Int))) - 1)) (l0.length : Int))).f0)) bq11 ((rd_T65 l0 x14_1).f1) ((rd_T65 l0 x14_1).f2) (floatOfInt .f32 ((rd_T65 l0 x14_1).f1)) (floatOfInt .f32 ((rd_T65 l0 x14_1).f2))) else (none)) else (none)))) = some r := by rw [← hbq11] at H; exact H
     have Nbq11 := Aside0.mk hbq11
     try (have B0_ := BK241.out; rw [← Nbq11.out] at B0_; replace BK241 := Aside0.mk B0_; clear B0_)
     clear hbq11
     (try rw [← Nbq11.out])
     by_cases c12 : (bq11 = true)
     ·subst c12
      have H1 : (spec_ContourRef.j1 k1 l0 x3_1 x14_1 (l0.length : Int) l0 (l0.length : Int) x14_1 false true ((rd_T65 l0 x14_1).f1) ((rd_T65 l0 x14_1).f2) (floatOfInt .f32 ((rd_T65 l0 x14_1).f1)) (floatOfInt .f32 ((rd_T65 l0 x14_1).f2))) = some r := by rw [if_pos rfl] at H; exact H
      clear H
      have H := H1
      clear H1
      have H' := Aside0.mk H
      clear H
      have hnb13 := NB241_242.out
      have hnc13 := NB242_241.out
      have hcz14_0 : w8.cell? ⟨gb241, 0, none⟩ = some (.bool true) := (blk_cell BK241.out 0).trans rfl
      have hcz14_1 : w8.cell? ⟨gb241, 1, none⟩ = some (.int .i64 ((rd_T65 l0 x14_1).f1)) := (blk_cell BK241.out 1).trans rfl
      have hcz14_2 : w8.cell? ⟨gb241, 2, none⟩ = some (.int .i64 ((rd_T65 l0 x14_1).f2)) := (blk_cell BK241.out 2).trans rfl
      have hfz14_0 := blk_frozen BK241.out 0
      have hfz14_1 := blk_frozen BK241.out 1
      have hfz14_2 := blk_frozen BK241.out 2
      go_wp2
      go_meet
      case rel => exact ⟨_, (false), (by first | rfl | (simp; done) | (simp [*]; done)), (by (try rw [← Nbq11.out]); exact H'), ⟨by have := HK1.out; first | omega | exact Nat.le_refl _⟩, ⟨by (with_reducible repeat (first | apply Kd.Q_alloc | apply Kd.Q_drewN | apply Kd.Q_drew)); exact Kd.Q_mono (Kd.Q_far (p := ⟨gb242, 1, none⟩) (Kd.Q_far (p := ⟨gb242, 0, none⟩) (Kd.Q_types HO_3.out BK242.out (by decide)) (fun _ hk => hk.2) (.float .f32 (floatOfInt .f32 ((rd_T65 l0 x14_1).f1)))) (fun _ hk => hk.2) (.float .f32 (floatOfInt .f32 ((rd_T65 l0 x14_1).f2)))) (fun _ hk => trivial)⟩, ⟨by (try rw [← Nbq11.out]); (with_reducible repeat (first | apply b1_ | apply b2_ | apply b3_)); refine blk_far ?_ NB241_242.out _; (with_reducible repeat (first | apply b1_ | apply b2_ | apply b3_)); refine blk_far ?_ NB241_242.out _; (with_reducible repeat (first | apply b1_ | apply b2_ | apply b3_)); exact BK241.out⟩, ⟨by (with_reducible repeat (first | apply b1_ | apply b2_ | apply b3_)); refine blk_put (cs := #[.float .f32 (floatOfInt .f32 ((rd_T65 l0 x14_1).f1)), .float .f32 0]) ?_ 1 _ rfl; (with_reducible repeat (first | apply b1_ | apply b2_ | apply b3_)); refine blk_put (cs := #[.float .f32 0, .float .f32 0]) ?_ 0 _ rfl; (with_reducible repeat (first | apply b1_ | apply b2_ | apply b3_)); exact BK242.out⟩, ⟨by repeat (first | (with_reducible first | exact HB.out | apply below_alloc | apply pw_below_drewN | apply below_drew1 | refine below_set ?_ GE241.out | refine below_set ?_ GE242.out) | exact HB.out)⟩⟩
     ·replace c12 := Bool.eq_false_iff.mpr c12
      subst c12
      have H1 : (if (l0.length : Int) = 0 then (none) else (if 0 ≤ (Int.tmod (wrap64 ((wrap64 (x14_1 + (l0.length : Int))) - 1)) (l0.length : Int)) then (if (Int.tmod (wrap64 ((wrap64 (x14_1 + (l0.length : Int))) - 1)) (l0.length : Int)) < (l0.length : Int) then (spec_ContourRef.j1 k1 l0 x3_1 x14_1 (l0.length : Int) l0 (l0.length : Int) x14_1 (!((rd_T65 l0 (Int.tmod (wrap64 ((wrap64 (x14_1 + (l0.length : Int))) - 1)) (l0.length : Int))).f0)) false ((rd_T65 l0 x14_1).f1) ((rd_T65 l0 x14_1).f2) (floatOfInt .f32 ((rd_T65 l0 x14_1).f1)) (floatOfInt .f32 ((rd_T65 l0 x14_1).f2))) else (none)) else (none))) = some r := by rw [if_neg (show ¬ (false = true) by decide)] at H; exact H
      clear H
      have H := H1
      clear H1
      by_cases c15 : (l0.length : Int) = 0
      ·rw [if_pos c15] at H
       exact absurd H (by simp)
      ·rw [if_neg c15] at H
       have c15b0 : ((l0.length : Int) == 0) = false := beq_eq_false_iff_ne.mpr c15
       have c15b1 : ((l0.length : Int) != 0) = true := bne_iff_ne.mpr c15
       have c15b2 : ¬ (l0 = []) := fun h_ => c15 (by rw [h_]; rfl)
       obtain ⟨ji16, hji16⟩ : ∃ j_ : Int, (Int.tmod (wrap64 ((wrap64 (x14_1 + (l0.length : Int))) - 1)) (l0.length : Int)) = j_ := ⟨_, rfl⟩
       replace H : (if 0 ≤ (ji16) then (if (ji16) < (l0.length : Int) then (spec_ContourRef.j1 k1 l0 x3_1 x14_1 (l0.length : Int) l0 (l0.length : Int) x14_1 (!((rd_T65 l0 (ji16)).f0)) false ((rd_T65 l0 x14_1).f1) ((rd_T65 l0 x14_1).f2) (floatOfInt .f32 ((rd_T65 l0 x14_1).f1)) (floatOfInt .f32 ((rd_T65 l0 x14_1).f2))) else (none)) else (none)) = some r := by first | (rw [hji16] at H; exact H) | (simp only [hji16] at H ⊢; exact H)
       by_cases c17 : 0 ≤ (ji16)
       rotate_left
       ·rw [if_neg c17] at H
        exact absurd H (by simp)
       rw [if_pos c17] at H
       have c17b0 : decide (0 ≤ (ji16)) = true := decide_eq_true c17
       clear c17
       by_cases c18 : (ji16) < (l0.length : Int)
       rotate_left
       ·rw [if_neg c18] at H
        exact absurd H (by simp)
       rw [if_pos c18] at H
       have c18b0 : decide ((ji16) < (l0.length : Int)) = true := decide_eq_true c18
       clear c18
       have H' := Aside0.mk H
       clear H
       have hnb19 := NB241_242.out
       have hnc19 := NB242_241.out
       have hcz20_0 : w8.cell? ⟨gb241, 0, none⟩ = some (.bool false) := (blk_cell BK241.out 0).trans rfl
       have hcz20_1 : w8.cell? ⟨gb241, 1, none⟩ = some (.int .i64 ((rd_T65 l0 x14_1).f1)) := (blk_cell BK241.out 1).trans rfl
       have hcz20_2 : w8.cell? ⟨gb241, 2, none⟩ = some (.int .i64 ((rd_T65 l0 x14_1).f2)) := (blk_cell BK241.out 2).trans rfl
       have hfz20_0 := blk_frozen BK241.out 0
       have hfz20_1 := blk_frozen BK241.out 1
       have hfz20_2 := blk_frozen BK241.out 2
       have p243 : 0 ≤ ((ji16) : Int) := of_decide_eq_true (by first | (with_reducible assumption) | assumption)
       have q243 : (ji16) < (l0.length : Int) := of_decide_eq_true (by first | (with_reducible assumption) | assumption)
       obtain ⟨ad243, e243, hx243_0, hx243_1, hx243_2⟩ := at_T65 HR0.out (ji16) p243 q243
       (try rw [← Nbq11.out] at hx243_0)
       obtain rfl : ad240 = ad243 := (by injection e243)
       have hn243_0 : ad240.block ≠ gb242 := Nat.ne_of_lt (Nat.lt_of_lt_of_le (by have := World.block_lt_of_cell? _ _ hx243_0; first | rwa [add_block] at this | exact this) GW242.out)
       have hn243_1 : ad240.block ≠ gb242 := Nat.ne_of_lt (Nat.lt_of_lt_of_le (by have := World.block_lt_of_cell? _ _ hx243_0; first | rwa [add_block] at this | exact this) GW242.out)
       replace hx243_0 := (HB.out.cell (World.block_lt_of_cell? w _ hx243_0)).trans hx243_0
       replace hx243_1 := (HB.out.cell (World.block_lt_of_cell? w _ hx243_1)).trans hx243_1
       replace hx243_2 := (HB.out.cell (World.block_lt_of_cell? w _ hx243_2)).trans hx243_2
       replace hx243_0 := (cell_far (p := ⟨gb242, 0, none⟩) (by first | (rw [add_block]; exact hn243_0) | (show (Addr.add _ _).block ≠ _; rw [add_block]; exact hn243_0) | exact hn243_0) (.float .f32 (floatOfInt .f32 ((rd_T65 l0 x14_1).f1)))).trans hx243_0
       replace hx243_1 := (cell_far (p := ⟨gb242, 0, none⟩) (by first | (rw [add_block]; exact hn243_0) | (show (Addr.add _ _).block ≠ _; rw [add_block]; exact hn243_0) | exact hn243_0) (.float .f32 (floatOfInt .f32 ((rd_T65 l0 x14_1).f1)))).trans hx243_1
       replace hx243_2 := (cell_far (p := ⟨gb242, 0, none⟩) (by first | (rw [add_block]; exact hn243_0) | (show (Addr.add _ _).block ≠ _; rw [add_block]; exact hn243_0) | exact hn243_0) (.float .f32 (floatOfInt .f32 ((rd_T65 l0 x14_1).f1)))).trans hx243_2
       replace hx243_0 := (cell_far (p := ⟨gb242, 1, none⟩) (by first | (rw [add_block]; exact hn243_1) | (show (Addr.add _ _).block ≠ _; rw [add_block]; exact hn243_1) | exact hn243_1) (.float .f32 (floatOfInt .f32 ((rd_T65 l0 x14_1).f2)))).trans hx243_0
       replace hx243_1 := (cell_far (p := ⟨gb242, 1, none⟩) (by first | (rw [add_block]; exact hn243_1) | (show (Addr.add _ _).block ≠ _; rw [add_block]; exact hn243_1) | exact hn243_1) (.float .f32 (floatOfInt .f32 ((rd_T65 l0 x14_1).f2)))).trans hx243_1
       replace hx243_2 := (cell_far (p := ⟨gb242, 1, none⟩) (by first | (rw [add_block]; exact hn243_1) | (show (Addr.add _ _).block ≠ _; rw [add_block]; exact hn243_1) | exact hn243_1) (.float .f32 (floatOfInt .f32 ((rd_T65 l0 x14_1).f2)))).trans hx243_2
       clear hn243_0
       clear hn243_1
       replace p243 := eq_true p243
       replace q243 := eq_true q243
       go_wp2
       go_meet
       case rel => exact ⟨_, (!((rd_T65 l0 (ji16)).f0)), (by first | rfl | (simp; done) | (simp only [← hji16] <;> (first | rfl | simp)) | (simp [*]; done)), (by (try rw [← Nbq11.out]); exact H'), ⟨by have := HK1.out; first | omega | exact Nat.le_refl _⟩, ⟨by (with_reducible repeat (first | apply Kd.Q_alloc | apply Kd.Q_drewN | apply Kd.Q_drew)); exact Kd.Q_mono (Kd.Q_far (p := ⟨gb242, 1, none⟩) (Kd.Q_far (p := ⟨gb242, 0, none⟩) (Kd.Q_types HO_3.out BK242.out (by decide)) (fun _ hk => hk.2) (.float .f32 (floatOfInt .f32 ((rd_T65 l0 x14_1).f1)))) (fun _ hk => hk.2) (.float .f32 (floatOfInt .f32 ((rd_T65 l0 x14_1).f2)))) (fun _ hk => trivial)⟩, ⟨by (try rw [← Nbq11.out]); (with_reducible repeat (first | apply b1_ | apply b2_ | apply b3_)); refine blk_far ?_ NB241_242.out _; (with_reducible repeat (first | apply b1_ | apply b2_ | apply b3_)); refine blk_far ?_ NB241_242.out _; (with_reducible repeat (first | apply b1_ | apply b2_ | apply b3_)); exact BK241.out⟩, ⟨by (with_reducible repeat (first | apply b1_ | apply b2_ | apply b3_)); refine blk_put (cs := #[.float .f32 (floatOfInt .f32 ((rd_T65 l0 x14_1).f1)), .float .f32 0]) ?_ 1 _ rfl; (with_reducible repeat (first | apply b1_ | apply b2_ | apply b3_)); refine blk_put (cs := #[.float .f32 0, .float .f32 0]) ?_ 0 _ rfl; (with_reducible repeat (first | apply b1_ | apply b2_ | apply b3_)); exact BK242.out⟩, ⟨by repeat (first | (with_reducible first | exact HB.out | apply below_alloc | apply pw_below_drewN | apply below_drew1 | refine below_set ?_ GE241.out | refine below_set ?_ GE242.out) | exact HB.out)⟩⟩
    case rest =>
     clear HC5
     (try clear c1); (try clear q1); (try clear c2); (try clear c2b0); (try clear p2); (try clear q2); (try clear hx2); (try clear c3); (try clear c3b0); (try clear c4); (try clear c4b0); (try clear p6); (try clear c9); (try clear q11); (try clear c12); (try clear c13); (try clear c15); (try clear c15b0); (try clear c15b1); (try clear c15b2); (try clear c17); (try clear c17b0); (try clear c18); (try clear c18b0); (try clear c19); (try clear c20); (try clear hcz10_0); (try clear hcz10_1); (try clear hcz14_0); (try clear hcz14_1); (try clear hcz14_2); (try clear hcz20_0); (try clear hcz20_1); (try clear hcz20_2); (try clear hcz7_0); (try clear hcz7_1); (try clear hcz7_2); (try clear hfz10_0); (try clear hfz10_1); (try clear hfz14_0); (try clear hfz14_1); (try clear hfz14_2); (try clear hfz20_0); (try clear hfz20_1); (try clear hfz20_2); (try clear hfz7_0); (try clear hfz7_1); (try clear hfz7_2); (try clear hx240_0); (try clear hx240_1); (try clear hx240_2); (try clear hx243_0); (try clear hx243_1); (try clear hx243_2); (try clear p240); (try clear p243); (try clear q240); (try clear q243)
     obtain ⟨kq, x43_4, rfl, HA, HJ4, HO_3, BK241, BK242, HB⟩ := hcut
     cases kq with
     | zero => exact absurd HA.out (by simp [spec_ContourRef.j1])
     | succ kj4 =>
      have H := HA.out
      clear HA
      simp only [spec_ContourRef.j1] at H
      by_cases c21 : x43_4 = true
      ·subst c21
       have H1 : (if (l0.length : Int) = 0 then (none) else (if 0 ≤ (Int.tmod (wrap64 ((wrap64 (x14_1 + (l0.length : Int))) - 1)) (l0.length : Int)) then (if (Int.tmod (wrap64 ((wrap64 (x14_1 + (l0.length : Int))) - 1)) (l0.length : Int)) < (l0.length : Int) then ((spec_half.f (floatOfInt .f32 ((rd_T65 l0 x14_1).f1)) (floatOfInt .f32 ((rd_T65 l0 x14_1).f2)) (floatOfInt .f32 ((rd_T65 l0 (Int.tmod (wrap64 ((wrap64 (x14_1 + (l0.length : Int))) - 1)) (l0.length : Int))).f1)) (floatOfInt .f32 ((rd_T65 l0 (Int.tmod (wrap64 ((wrap64 (x14_1 + (l0.length : Int))) - 1)) (l0.length : Int))).f2))).bind fun bt246 => (if x3_1.length < 11728124029610 then ((some (x3_1 ++ [(⟨true, (⟨bt246.1, bt246.2⟩ : S124)⟩ : S141)] : List (S141))).bind fun y248 => (if y248.length < 11728124029610 then (spec_ContourRef.l0 kj4 l0 (y248 ++ [(⟨((rd_T65 l0 x14_1).f0), (⟨(floatOfInt .f32 ((rd_T65 l0 x14_1).f1)), (floatOfInt .f32 ((rd_T65 l0 x14_1).f2))⟩ : S124)⟩ : S141)]) l0 (l0.length : Int) (wrap64 (x14_1 + 1))) else (none))) else (none))) else (none)) else (none))) = some r := by rw [if_pos rfl] at H; exact H
       clear H
       have H := H1
       clear H1
       by_cases c22 : (l0.length : Int) = 0
       ·rw [if_pos c22] at H
        exact absurd H (by simp)
       ·rw [if_neg c22] at H
        have c22b0 : ((l0.length : Int) == 0) = false := beq_eq_false_iff_ne.mpr c22
        have c22b1 : ((l0.length : Int) != 0) = true := bne_iff_ne.mpr c22
        have c22b2 : ¬ (l0 = []) := fun h_ => c22 (by rw [h_]; rfl)
        obtain ⟨ji23, hji23⟩ : ∃ j_ : Int, (Int.tmod (wrap64 ((wrap64 (x14_1 + (l0.length : Int))) - 1)) (l0.length : Int)) = j_ := ⟨_, rfl⟩
        replace H : (if 0 ≤ (ji23) then (if (ji23) < (l0.length : Int) then ((spec_half.f (floatOfInt .f32 ((rd_T65 l0 x14_1).f1)) (floatOfInt .f32 ((rd_T65 l0 x14_1).f2)) (floatOfInt .f32 ((rd_T65 l0 (ji23)).f1)) (floatOfInt .f32 ((rd_T65 l0 (ji23)).f2))).bind fun bt246 => (if x3_1.length < 11728124029610 then ((some (x3_1 ++ [(⟨true, (⟨bt246.1, bt246.2⟩ : S124)⟩ : S141)] : List (S141))).bind fun y248 => (if y248.length < 11728124029610 then (spec_ContourRef.l0 kj4 l0 (y248 ++ [(⟨((rd_T65 l0 x14_1).f0), (⟨(floatOfInt .f32 ((rd_T65 l0 x14_1).f1)), (floatOfInt .f32 ((rd_T65 l0 x14_1).f2))⟩ : S124)⟩ : S141)]) l0 (l0.length : Int) (wrap64 (x14_1 + 1))) else (none))) else (none))) else (none)) else (none)) = some r := by first | (rw [hji23] at H; exact H) | (simp only [hji23] at H ⊢; exact H)
        by_cases c24 : 0 ≤ (ji23)
        rotate_left
        ·rw [if_neg c24] at H
         exact absurd H (by simp)
        rw [if_pos c24] at H
        have c24b0 : decide (0 ≤ (ji23)) = true := decide_eq_true c24
        clear c24
        by_cases c25 : (ji23) < (l0.length : Int)
        rotate_left
        ·rw [if_neg c25] at H
         exact absurd H (by simp)
        rw [if_pos c25] at H
        have c25b0 : decide ((ji23) < (l0.length : Int)) = true := decide_eq_true c25
        clear c25
        replace H := Option.bind_eq_some_iff.mp H
        obtain ⟨⟨t246, t247⟩, A260, H⟩ := H
        replace H : (if x3_1.length < 11728124029610 then ((some (x3_1 ++ [(⟨true, (⟨t246, t247⟩ : S124)⟩ : S141)] : List (S141))).bind fun y248 => (if y248.length < 11728124029610 then (spec_ContourRef.l0 kj4 l0 (y248 ++ [(⟨((rd_T65 l0 x14_1).f0), (⟨(floatOfInt .f32 ((rd_T65 l0 x14_1).f1)), (floatOfInt .f32 ((rd_T65 l0 x14_1).f2))⟩ : S124)⟩ : S141)]) l0 (l0.length : Int) (wrap64 (x14_1 + 1))) else (none))) else (none)) = some r := H
        have A26 := Aside0.mk A260
        clear A260
        by_cases c27 : x3_1.length < 11728124029610
        rotate_left
        ·rw [if_neg c27] at H
         exact absurd H (by simp)
        rw [if_pos c27] at H
        have LMc27 := Aside0.mk c27
        clear c27
        obtain ⟨y248, hy248⟩ : ∃ y_ : List (S141), y_ = (x3_1 ++ [(⟨true, (⟨t246, t247⟩ : S124)⟩ : S141)]) := ⟨_, rfl⟩
        replace H : (if y248.length < 11728124029610 then (spec_ContourRef.l0 kj4 l0 (y248 ++ [(⟨((rd_T65 l0 x14_1).f0), (⟨(floatOfInt .f32 ((rd_T65 l0 x14_1).f1)), (floatOfInt .f32 ((rd_T65 l0 x14_1).f2))⟩ : S124)⟩ : S141)]) l0 (l0.length : Int) (wrap64 (x14_1 + 1))) else (none)) = some r := by first | (rw [hy248]; with_reducible exact H) | (have H2_ := (Option.bind_some _ _).symm.trans H; rw [hy248]; with_reducible exact H2_) | (have H2_ := (Option.bind_some _ _).symm.trans H; with_reducible exact H2_) | with_reducible exact H | (rw [hy248]; exact H) | exact H
        have Ny248 := Aside0.mk hy248
        clear hy248
        by_cases c28 : y248.length < 11728124029610
        rotate_left
        ·rw [if_neg c28] at H
         exact absurd H (by simp)
        rw [if_pos c28] at H
        have LMc28 := Aside0.mk c28
        clear c28
        obtain ⟨y251, hy251⟩ : ∃ y_ : List (S141), y_ = (y248 ++ [(⟨((rd_T65 l0 x14_1).f0), (⟨(floatOfInt .f32 ((rd_T65 l0 x14_1).f1)), (floatOfInt .f32 ((rd_T65 l0 x14_1).f2))⟩ : S124)⟩ : S141)]) := ⟨_, rfl⟩
        replace H : (spec_ContourRef.l0 kj4 l0 y251 l0 (l0.length : Int) (wrap64 (x14_1 + 1))) = some r := by first | (rw [hy251]; with_reducible exact H) | (have H2_ := (Option.bind_some _ _).symm.trans H; rw [hy251]; with_reducible exact H2_) | (have H2_ := (Option.bind_some _ _).symm.trans H; with_reducible exact H2_) | with_reducible exact H | (rw [hy251]; exact H) | exact H
        have Ny251 := Aside0.mk hy251
        clear hy251
        have H' := Aside0.mk H
        clear H
        have p244 : 0 ≤ ((ji23) : Int) := of_decide_eq_true (by first | (with_reducible assumption) | assumption)
        have q244 : (ji23) < (l0.length : Int) := of_decide_eq_true (by first | (with_reducible assumption) | assumption)
        obtain ⟨ad244, e244, hx244_0, hx244_1, hx244_2⟩ := at_T65 HR0.out (ji23) p244 q244
        obtain rfl : ad240 = ad244 := (by injection e244)
        replace hx244_0 := (HB.out.cell (World.block_lt_of_cell? w _ hx244_0)).trans hx244_0
        replace hx244_1 := (HB.out.cell (World.block_lt_of_cell? w _ hx244_1)).trans hx244_1
        replace hx244_2 := (HB.out.cell (World.block_lt_of_cell? w _ hx244_2)).trans hx244_2
        replace p244 := eq_true p244
        replace q244 := eq_true q244
        go_wp2_with (first | ((with_reducible refine gate_dst (N := 8) rfl ?_); refine box_event ?hg (N := 8) ?hd (cs := #[.bool false, .int .i64 0, .int .i64 0]) (t := 65) ?hr ?_; (case hd => rfl); (case hg => rfl); (case hr => first | (go_simp; done) | (go_simp; rfl)); intro gb245 hg w29 hbox hb; have n0_ := Aside0.mk (Kd.Q_below (by (with_reducible repeat (first | apply Kd.Q_alloc | apply Kd.Q_drewN | apply Kd.Q_drew)); exact HO_3.out) hb); have n1_ := Aside0.mk (blk_below (g := gb241) (o := .cells #[.bool ((rd_T65 l0 x14_1).f0), .int .i64 ((rd_T65 l0 x14_1).f1), .int .i64 ((rd_T65 l0 x14_1).f2)] 65 (0, 0)) (by (with_reducible repeat (first | apply b1_ | apply b2_ | apply b3_)); exact BK241.out) hb); have n2_ := Aside0.mk (blk_below (g := gb242) (o := .cells #[.float .f32 (floatOfInt .f32 ((rd_T65 l0 x14_1).f1)), .float .f32 (floatOfInt .f32 ((rd_T65 l0 x14_1).f2))] 124 (0, 0)) (by (with_reducible repeat (first | apply b1_ | apply b2_ | apply b3_)); exact BK242.out) hb); have n3_ := Aside0.mk (below_step (by repeat (first | (with_reducible first | exact HB.out | apply below_alloc | apply pw_below_drewN | apply below_drew1 | refine below_set ?_ GE241.out | refine below_set ?_ GE242.out) | exact HB.out)) hb); have n4_ := Aside0.mk (hbox); have n5_ := Aside0.mk ((by rw [hg]; exact (below_size (by repeat (first | (with_reducible first | exact HB.out | apply below_alloc | apply pw_below_drewN | apply below_drew1 | refine below_set ?_ GE241.out | refine below_set ?_ GE242.out) | exact HB.out))) : w.heap.size ≤ gb245)); have n6_ := Aside0.mk ((by rw [hg]; exact (below_size (by repeat (first | (with_reducible first | exact HB.out | apply below_alloc | apply pw_below_drewN | apply below_drew1 | refine below_set ?_ GE241.out | refine below_set ?_ GE242.out) | exact HB.out))) : w.heap.size ≤ gb245)); have n7_ := Aside0.mk ((by rw [hg]; exact Nat.ne_of_lt (blk_lt (g := gb241) (o := .cells #[.bool ((rd_T65 l0 x14_1).f0), .int .i64 ((rd_T65 l0 x14_1).f1), .int .i64 ((rd_T65 l0 x14_1).f2)] 65 (0, 0)) (by (with_reducible repeat (first | apply b1_ | apply b2_ | apply b3_)); exact BK241.out)) : gb241 ≠ gb245)); have n8_ := Aside0.mk ((by rw [hg]; exact Nat.ne_of_gt (blk_lt (g := gb241) (o := .cells #[.bool ((rd_T65 l0 x14_1).f0), .int .i64 ((rd_T65 l0 x14_1).f1), .int .i64 ((rd_T65 l0 x14_1).f2)] 65 (0, 0)) (by (with_reducible repeat (first | apply b1_ | apply b2_ | apply b3_)); exact BK241.out)) : gb245 ≠ gb241)); have n9_ := Aside0.mk ((by rw [hg]; exact Nat.ne_of_lt (blk_lt (g := gb242) (o := .cells #[.float .f32 (floatOfInt .f32 ((rd_T65 l0 x14_1).f1)), .float .f32 (floatOfInt .f32 ((rd_T65 l0 x14_1).f2))] 124 (0, 0)) (by (with_reducible repeat (first | apply b1_ | apply b2_ | apply b3_)); exact BK242.out)) : gb242 ≠ gb245)); have n10_ := Aside0.mk ((by rw [hg]; exact Nat.ne_of_gt (blk_lt (g := gb242) (o := .cells #[.float .f32 (floatOfInt .f32 ((rd_T65 l0 x14_1).f1)), .float .f32 (floatOfInt .f32 ((rd_T65 l0 x14_1).f2))] 124 (0, 0)) (by (with_reducible repeat (first | apply b1_ | apply b2_ | apply b3_)); exact BK242.out)) : gb245 ≠ gb242)); clear HO_3; clear BK241; clear BK242; clear HB; have HO_3 := n0_; have BK241 := n1_; have BK242 := n2_; have HB := n3_; have BK245 := n4_; have GW245 := n5_; have GE245 := n6_; have NB241_245 := n7_; have NB245_241 := n8_; have NB242_245 := n9_; have NB245_242 := n10_; clear n0_ n1_ n2_ n3_ n4_ n5_ n6_ n7_ n8_ n9_ n10_; clear hb hbox hg; have hnb30 := NB245_241.out; have hnc30 := NB241_245.out; have hnb31 := NB245_242.out; have hnc31 := NB242_245.out; have hcz32_0 : w29.cell? ⟨gb245, 0, none⟩ = some (.bool false) := (blk_cell BK245.out 0).trans rfl; have hcz32_1 : w29.cell? ⟨gb245, 1, none⟩ = some (.int .i64 0) := (blk_cell BK245.out 1).trans rfl; have hcz32_2 : w29.cell? ⟨gb245, 2, none⟩ = some (.int .i64 0) := (blk_cell BK245.out 2).trans rfl; have hfz32_0 := blk_frozen BK245.out 0; have hfz32_1 := blk_frozen BK245.out 1; have hfz32_2 := blk_frozen BK245.out 2; have hnb33 := NB242_241.out; have hnc33 := NB241_242.out; have hcz34_0 : w29.cell? ⟨gb242, 0, none⟩ = some (.float .f32 (floatOfInt .f32 ((rd_T65 l0 x14_1).f1))) := (blk_cell BK242.out 0).trans rfl; have hcz34_1 : w29.cell? ⟨gb242, 1, none⟩ = some (.float .f32 (floatOfInt .f32 ((rd_T65 l0 x14_1).f2))) := (blk_cell BK242.out 1).trans rfl; have hfz34_0 := blk_frozen BK242.out 0; have hfz34_1 := blk_frozen BK242.out 1) | ((with_reducible refine gate_callee (f := 43) rfl ?_); refine goesL_ (some 62) rfl rfl Try.func43 (by kernel_rfl) rfl #[.agg #[.float .f32 (floatOfInt .f32 ((rd_T65 l0 x14_1).f1)), .float .f32 (floatOfInt .f32 ((rd_T65 l0 x14_1).f2))], .agg #[.float .f32 (floatOfInt .f32 ((rd_T65 l0 (ji23)).f1)), .float .f32 (floatOfInt .f32 ((rd_T65 l0 (ji23)).f2))]] rfl (by (try simp only [List.map_toArray, List.map_cons, List.map_nil]); first | done | (simp only [hji23]; rfl) | rfl | (simp only [List.length_drop, List.length_take]; rfl)) ?_; (with_reducible refine (spec_half.calls (floatOfInt .f32 ((rd_T65 l0 x14_1).f1)) (floatOfInt .f32 ((rd_T65 l0 x14_1).f2)) (floatOfInt .f32 ((rd_T65 l0 (ji23)).f1)) (floatOfInt .f32 ((rd_T65 l0 (ji23)).f2)) t246 t247 _ A26.out).mono ?_); rintro e w35 ⟨rfl, hb⟩; refine ⟨_, rfl, ?_⟩; have n0_ := Aside0.mk (Kd.Q_below (by (with_reducible repeat (first | apply Kd.Q_alloc | apply Kd.Q_drewN | apply Kd.Q_drew)); exact (Kd.Q_mono (Kd.Q_far (p := ⟨gb245, 2, none⟩) (Kd.Q_far (p := ⟨gb245, 1, none⟩) (Kd.Q_far (p := ⟨gb245, 0, none⟩) (Kd.Q_types HO_3.out BK245.out (by decide)) (fun _ hk => hk.2) (.bool ((rd_T65 l0 (ji23)).f0))) (fun _ hk => hk.2) (.int .i64 ((rd_T65 l0 (ji23)).f1))) (fun _ hk => hk.2) (.int .i64 ((rd_T65 l0 (ji23)).f2))) (fun _ h_ => h_.1))) hb); have n1_ := Aside0.mk (blk_below (g := gb241) (o := .cells #[.bool ((rd_T65 l0 x14_1).f0), .int .i64 ((rd_T65 l0 x14_1).f1), .int .i64 ((rd_T65 l0 x14_1).f2)] 65 (0, 0)) (by (with_reducible repeat (first | apply b1_ | apply b2_ | apply b3_)); refine blk_far ?_ NB241_245.out _; (with_reducible repeat (first | apply b1_ | apply b2_ | apply b3_)); refine blk_far ?_ NB241_245.out _; (with_reducible repeat (first | apply b1_ | apply b2_ | apply b3_)); refine blk_far ?_ NB241_245.out _; (with_reducible repeat (first | apply b1_ | apply b2_ | apply b3_)); exact BK241.out) hb); have n2_ := Aside0.mk (blk_below (g := gb242) (o := .cells #[.float .f32 (floatOfInt .f32 ((rd_T65 l0 x14_1).f1)), .float .f32 (floatOfInt .f32 ((rd_T65 l0 x14_1).f2))] 124 (0, 0)) (by (with_reducible repeat (first | apply b1_ | apply b2_ | apply b3_)); refine blk_far ?_ NB242_245.out _; (with_reducible repeat (first | apply b1_ | apply b2_ | apply b3_)); refine blk_far ?_ NB242_245.out _; (with_reducible repeat (first | apply b1_ | apply b2_ | apply b3_)); refine blk_far ?_ NB242_245.out _; (with_reducible repeat (first | apply b1_ | apply b2_ | apply b3_)); exact BK242.out) hb); have n3_ := Aside0.mk (blk_below (g := gb245) (o := .cells #[.bool ((rd_T65 l0 (ji23)).f0), .int .i64 ((rd_T65 l0 (ji23)).f1), .int .i64 ((rd_T65 l0 (ji23)).f2)] 65 (0, 0)) (by (with_reducible repeat (first | apply b1_ | apply b2_ | apply b3_)); refine blk_put (cs := #[.bool ((rd_T65 l0 (ji23)).f0), .int .i64 ((rd_T65 l0 (ji23)).f1), .int .i64 0]) ?_ 2 _ rfl; (with_reducible repeat (first | apply b1_ | apply b2_ | apply b3_)); refine blk_put (cs := #[.bool ((rd_T65 l0 (ji23)).f0), .int .i64 0, .int .i64 0]) ?_ 1 _ rfl; (with_reducible repeat (first | apply b1_ | apply b2_ | apply b3_)); refine blk_put (cs := #[.bool false, .int .i64 0, .int .i64 0]) ?_ 0 _ rfl; (with_reducible repeat (first | apply b1_ | apply b2_ | apply b3_)); exact BK245.out) hb); have n4_ := Aside0.mk (below_step (by repeat (first | (with_reducible first | exact HB.out | apply below_alloc | apply pw_below_drewN | apply below_drew1 | refine below_set ?_ GE241.out | refine below_set ?_ GE242.out | refine below_set ?_ GE245.out) | exact HB.out)) hb); clear HO_3; clear BK241; clear BK242; clear BK245; clear HB; have HO_3 := n0_; have BK241 := n1_; have BK242 := n2_; have BK245 := n3_; have HB := n4_; clear n0_ n1_ n2_ n3_ n4_; (try clear hb); (try clear hb2); (try clear hk); (try clear hi)) | ((with_reducible refine gate_builtin (b := .append) (xs := #[.tmp 53, .tmp 64]) rfl ?_); at_builtin; refine Kd.Q_append k141 (w0 := w) w.heap.size rfl (.tmp 53) (.tmp 64) 138 141 (.agg #[(.bool false), (.float .f32 0), (.float .f32 0)]) 12 rfl Try.underlying138 info141 rfl (by decide) (by omega) u3 x3_1 (⟨true, (⟨t246, t247⟩ : S124)⟩ : S141) [.bool true, .float .f32 t246, .float .f32 t247] (fun _ => True) (fun _ => False) rfl rfl ?aP (fun _ hk => hk.elim) ?aF ?aO ?aB ?aS ?aL ?_; (case aP => exact k141_mkM _ _ _ (⟨true, (⟨t246, t247⟩ : S124)⟩ : S141)); (case aB => exact (by repeat (first | (with_reducible first | exact HB.out | apply below_alloc | apply pw_below_drewN | apply below_drew1 | refine below_set ?_ GE241.out | refine below_set ?_ GE242.out | refine below_set ?_ GE245.out) | exact HB.out))); (case aF => exact (fun _ _ => trivial)); (case aO => exact (by (with_reducible repeat (first | apply Kd.Q_alloc | apply Kd.Q_drewN | apply Kd.Q_drew)); exact HO_3.out)); (case aS => exact (below_size (by repeat (first | (with_reducible first | exact HB.out | apply below_alloc | apply pw_below_drewN | apply below_drew1 | refine below_set ?_ GE241.out | refine below_set ?_ GE242.out | refine below_set ?_ GE245.out) | exact HB.out)))); (case aL => have := LMc27.out; omega); intro v249 w36 ho hb hg hat; rw [← Ny248.out] at ho; have n0_ := Aside0.mk (blk_grown (g := gb241) (o := .cells #[.bool ((rd_T65 l0 x14_1).f0), .int .i64 ((rd_T65 l0 x14_1).f1), .int .i64 ((rd_T65 l0 x14_1).f2)] 65 (0, 0)) (by (with_reducible repeat (first | apply b1_ | apply b2_ | apply b3_)); exact BK241.out) hg (Kd.Q_ne HO_3.out BK241.out (by decide))); have n1_ := Aside0.mk (blk_grown (g := gb242) (o := .cells #[.float .f32 (floatOfInt .f32 ((rd_T65 l0 x14_1).f1)), .float .f32 (floatOfInt .f32 ((rd_T65 l0 x14_1).f2))] 124 (0, 0)) (by (with_reducible repeat (first | apply b1_ | apply b2_ | apply b3_)); exact BK242.out) hg (Kd.Q_ne HO_3.out BK242.out (by decide))); have n2_ := Aside0.mk (blk_grown (g := gb245) (o := .cells #[.bool ((rd_T65 l0 (ji23)).f0), .int .i64 ((rd_T65 l0 (ji23)).f1), .int .i64 ((rd_T65 l0 (ji23)).f2)] 65 (0, 0)) (by (with_reducible repeat (first | apply b1_ | apply b2_ | apply b3_)); exact BK245.out) hg (Kd.Q_ne HO_3.out BK245.out (by decide))); have n3_ := Aside0.mk (hb); have n4_ := Aside0.mk (ho); clear BK241; clear BK242; clear BK245; clear HB; clear HO_3; have BK241 := n0_; have BK242 := n1_; have BK245 := n2_; have HB := n3_; have HO250 := n4_; clear n0_ n1_ n2_ n3_ n4_; clear ho hb hg hat; have hcz37_0 : w36.cell? ⟨gb241, 0, none⟩ = some (.bool ((rd_T65 l0 x14_1).f0)) := (blk_cell BK241.out 0).trans rfl; have hcz37_1 : w36.cell? ⟨gb241, 1, none⟩ = some (.int .i64 ((rd_T65 l0 x14_1).f1)) := (blk_cell BK241.out 1).trans rfl; have hcz37_2 : w36.cell? ⟨gb241, 2, none⟩ = some (.int .i64 ((rd_T65 l0 x14_1).f2)) := (blk_cell BK241.out 2).trans rfl; have hfz37_0 := blk_frozen BK241.out 0; have hfz37_1 := blk_frozen BK241.out 1; have hfz37_2 := blk_frozen BK241.out 2; have hcz38_0 : w36.cell? ⟨gb242, 0, none⟩ = some (.float .f32 (floatOfInt .f32 ((rd_T65 l0 x14_1).f1))) := (blk_cell BK242.out 0).trans rfl; have hcz38_1 : w36.cell? ⟨gb242, 1, none⟩ = some (.float .f32 (floatOfInt .f32 ((rd_T65 l0 x14_1).f2))) := (blk_cell BK242.out 1).trans rfl; have hfz38_0 := blk_frozen BK242.out 0; have hfz38_1 := blk_frozen BK242.out 1) | ((with_reducible refine gate_builtin (b := .append) (xs := #[.tmp 66, .tmp 71]) rfl ?_); at_builtin; refine Kd.Q_append k141 (w0 := w) w.heap.size rfl (.tmp 66) (.tmp 71) 138 141 (.agg #[(.bool false), (.float .f32 0), (.float .f32 0)]) 12 rfl Try.underlying138 info141 rfl (by decide) (by omega) v249 y248 (⟨((rd_T65 l0 x14_1).f0), (⟨(floatOfInt .f32 ((rd_T65 l0 x14_1).f1)), (floatOfInt .f32 ((rd_T65 l0 x14_1).f2))⟩ : S124)⟩ : S141) [.bool ((rd_T65 l0 x14_1).f0), .float .f32 (floatOfInt .f32 ((rd_T65 l0 x14_1).f1)), .float .f32 (floatOfInt .f32 ((rd_T65 l0 x14_1).f2))] (fun _ => True) (fun _ => False) rfl rfl ?aP (fun _ hk => hk.elim) ?aF ?aO ?aB ?aS ?aL ?_; (case aP => exact k141_mkM _ _ _ (⟨((rd_T65 l0 x14_1).f0), (⟨(floatOfInt .f32 ((rd_T65 l0 x14_1).f1)), (floatOfInt .f32 ((rd_T65 l0 x14_1).f2))⟩ : S124)⟩ : S141)); (case aB => exact (by repeat (first | (with_reducible first | exact HB.out | apply below_alloc | apply pw_below_drewN | apply below_drew1 | refine below_set ?_ GE241.out | refine below_set ?_ GE242.out | refine below_set ?_ GE245.out) | exact HB.out))); (case aF => exact (fun _ _ => trivial)); (case aO => exact (by (with_reducible repeat (first | apply Kd.Q_alloc | apply Kd.Q_drewN | apply Kd.Q_drew)); exact HO250.out)); (case aS => exact (below_size (by repeat (first | (with_reducible first | exact HB.out | apply below_alloc | apply pw_below_drewN | apply below_drew1 | refine below_set ?_ GE241.out | refine below_set ?_ GE242.out | refine below_set ?_ GE245.out) | exact HB.out)))); (case aL => have := LMc28.out; omega); intro v252 w39 ho hb hg hat; rw [← Ny251.out] at ho; have n0_ := Aside0.mk (blk_grown (g := gb241) (o := .cells #[.bool ((rd_T65 l0 x14_1).f0), .int .i64 ((rd_T65 l0 x14_1).f1), .int .i64 ((rd_T65 l0 x14_1).f2)] 65 (0, 0)) (by (with_reducible repeat (first | apply b1_ | apply b2_ | apply b3_)); exact BK241.out) hg (Kd.Q_ne HO250.out BK241.out (by decide))); have n1_ := Aside0.mk (blk_grown (g := gb242) (o := .cells #[.float .f32 (floatOfInt .f32 ((rd_T65 l0 x14_1).f1)), .float .f32 (floatOfInt .f32 ((rd_T65 l0 x14_1).f2))] 124 (0, 0)) (by (with_reducible repeat (first | apply b1_ | apply b2_ | apply b3_)); exact BK242.out) hg (Kd.Q_ne HO250.out BK242.out (by decide))); have n2_ := Aside0.mk (blk_grown (g := gb245) (o := .cells #[.bool ((rd_T65 l0 (ji23)).f0), .int .i64 ((rd_T65 l0 (ji23)).f1), .int .i64 ((rd_T65 l0 (ji23)).f2)] 65 (0, 0)) (by (with_reducible repeat (first | apply b1_ | apply b2_ | apply b3_)); exact BK245.out) hg (Kd.Q_ne HO250.out BK245.out (by decide))); have n3_ := Aside0.mk (hb); have n4_ := Aside0.mk (ho); clear BK241; clear BK242; clear BK245; clear HB; clear HO250; have BK241 := n0_; have BK242 := n1_; have BK245 := n2_; have HB := n3_; have HO253 := n4_; clear n0_ n1_ n2_ n3_ n4_; clear ho hb hg hat))
        go_roundg kj4
        case measure => have := HK1.out; have := HJ4.out; omega
        case rel => exact ⟨(y251), (wrap64 (x14_1 + 1)), (by first | rfl | (simp; done) | (simp [*]; done)), H', ⟨by have := HK1.out; have := HJ4.out; omega⟩, ⟨by (with_reducible repeat (first | apply Kd.Q_alloc | apply Kd.Q_drewN | apply Kd.Q_drew)); exact HO253.out⟩, ⟨by repeat (first | (with_reducible first | exact HB.out | apply below_alloc | apply pw_below_drewN | apply below_drew1 | refine below_set ?_ GE241.out | refine below_set ?_ GE242.out | refine below_set ?_ GE245.out) | exact HB.out)⟩⟩
      ·replace c21 := Bool.eq_false_iff.mpr c21
       subst c21
       have H1 : (if x3_1.length < 11728124029610 then (spec_ContourRef.l0 kj4 l0 (x3_1 ++ [(⟨((rd_T65 l0 x14_1).f0), (⟨(floatOfInt .f32 ((rd_T65 l0 x14_1).f1)), (floatOfInt .f32 ((rd_T65 l0 x14_1).f2))⟩ : S124)⟩ : S141)]) l0 (l0.length : Int) (wrap64 (x14_1 + 1))) else (none)) = some r := by rw [if_neg (show ¬ (false = true) by decide)] at H; exact H
       clear H
       have H := H1
       clear H1
       by_cases c40 : x3_1.length < 11728124029610
       rotate_left
       ·rw [if_neg c40] at H
        exact absurd H (by simp)
       rw [if_pos c40] at H
       have LMc40 := Aside0.mk c40
       clear c40
       obtain ⟨y254, hy254⟩ : ∃ y_ : List (S141), y_ = (x3_1 ++ [(⟨((rd_T65 l0 x14_1).f0), (⟨(floatOfInt .f32 ((rd_T65 l0 x14_1).f1)), (floatOfInt .f32 ((rd_T65 l0 x14_1).f2))⟩ : S124)⟩ : S141)]) := ⟨_, rfl⟩
       replace H : (spec_ContourRef.l0 kj4 l0 y254 l0 (l0.length : Int) (wrap64 (x14_1 + 1))) = some r := by first | (rw [hy254]; with_reducible exact H) | (have H2_ := (Option.bind_some _ _).symm.trans H; rw [hy254]; with_reducible exact H2_) | (have H2_ := (Option.bind_some _ _).symm.trans H; with_reducible exact H2_) | with_reducible exact H | (rw [hy254]; exact H) | exact H
       have Ny254 := Aside0.mk hy254
       clear hy254
       have H' := Aside0.mk H
       clear H
       have hnb41 := NB241_242.out
       have hnc41 := NB242_241.out
       have hcz42_0 : wc.cell? ⟨gb241, 0, none⟩ = some (.bool ((rd_T65 l0 x14_1).f0)) := (blk_cell BK241.out 0).trans rfl
       have hcz42_1 : wc.cell? ⟨gb241, 1, none⟩ = some (.int .i64 ((rd_T65 l0 x14_1).f1)) := (blk_cell BK241.out 1).trans rfl
       have hcz42_2 : wc.cell? ⟨gb241, 2, none⟩ = some (.int .i64 ((rd_T65 l0 x14_1).f2)) := (blk_cell BK241.out 2).trans rfl
       have hfz42_0 := blk_frozen BK241.out 0
       have hfz42_1 := blk_frozen BK241.out 1
       have hfz42_2 := blk_frozen BK241.out 2
       have hcz43_0 : wc.cell? ⟨gb242, 0, none⟩ = some (.float .f32 (floatOfInt .f32 ((rd_T65 l0 x14_1).f1))) := (blk_cell BK242.out 0).trans rfl
       have hcz43_1 : wc.cell? ⟨gb242, 1, none⟩ = some (.float .f32 (floatOfInt .f32 ((rd_T65 l0 x14_1).f2))) := (blk_cell BK242.out 1).trans rfl
       have hfz43_0 := blk_frozen BK242.out 0
       have hfz43_1 := blk_frozen BK242.out 1
       go_wp2_with (first | ((with_reducible refine gate_builtin (b := .append) (xs := #[.tmp 66, .tmp 71]) rfl ?_); at_builtin; refine Kd.Q_append k141 (w0 := w) w.heap.size rfl (.tmp 66) (.tmp 71) 138 141 (.agg #[(.bool false), (.float .f32 0), (.float .f32 0)]) 12 rfl Try.underlying138 info141 rfl (by decide) (by omega) u3 x3_1 (⟨((rd_T65 l0 x14_1).f0), (⟨(floatOfInt .f32 ((rd_T65 l0 x14_1).f1)), (floatOfInt .f32 ((rd_T65 l0 x14_1).f2))⟩ : S124)⟩ : S141) [.bool ((rd_T65 l0 x14_1).f0), .float .f32 (floatOfInt .f32 ((rd_T65 l0 x14_1).f1)), .float .f32 (floatOfInt .f32 ((rd_T65 l0 x14_1).f2))] (fun _ => True) (fun _ => False) rfl rfl ?aP (fun _ hk => hk.elim) ?aF ?aO ?aB ?aS ?aL ?_; (case aP => exact k141_mkM _ _ _ (⟨((rd_T65 l0 x14_1).f0), (⟨(floatOfInt .f32 ((rd_T65 l0 x14_1).f1)), (floatOfInt .f32 ((rd_T65 l0 x14_1).f2))⟩ : S124)⟩ : S141)); (case aB => exact (by repeat (first | (with_reducible first | exact HB.out | apply below_alloc | apply pw_below_drewN | apply below_drew1 | refine below_set ?_ GE241.out | refine below_set ?_ GE242.out) | exact HB.out))); (case aF => exact (fun _ _ => trivial)); (case aO => exact (by (with_reducible repeat (first | apply Kd.Q_alloc | apply Kd.Q_drewN | apply Kd.Q_drew)); exact HO_3.out)); (case aS => exact (below_size (by repeat (first | (with_reducible first | exact HB.out | apply below_alloc | apply pw_below_drewN | apply below_drew1 | refine below_set ?_ GE241.out | refine below_set ?_ GE242.out) | exact HB.out)))); (case aL => have := LMc40.out; omega); intro v255 w44 ho hb hg hat; rw [← Ny254.out] at ho; have n0_ := Aside0.mk (blk_grown (g := gb241) (o := .cells #[.bool ((rd_T65 l0 x14_1).f0), .int .i64 ((rd_T65 l0 x14_1).f1), .int .i64 ((rd_T65 l0 x14_1).f2)] 65 (0, 0)) (by (with_reducible repeat (first | apply b1_ | apply b2_ | apply b3_)); exact BK241.out) hg (Kd.Q_ne HO_3.out BK241.out (by decide))); have n1_ := Aside0.mk (blk_grown (g := gb242) (o := .cells #[.float .f32 (floatOfInt .f32 ((rd_T65 l0 x14_1).f1)), .float .f32 (floatOfInt .f32 ((rd_T65 l0 x14_1).f2))] 124 (0, 0)) (by (with_reducible repeat (first | apply b1_ | apply b2_ | apply b3_)); exact BK242.out) hg (Kd.Q_ne HO_3.out BK242.out (by decide))); have n2_ := Aside0.mk (hb); have n3_ := Aside0.mk (ho); clear BK241; clear BK242; clear HB; clear HO_3; have BK241 := n0_; have BK242 := n1_; have HB := n2_; have HO256 := n3_; clear n0_ n1_ n2_ n3_; clear ho hb hg hat))
       go_roundg kj4
       case measure => have := HK1.out; have := HJ4.out; omega
       case rel => exact ⟨(y254), (wrap64 (x14_1 + 1)), (by first | rfl | (simp; done) | (simp [*]; done)), H', ⟨by have := HK1.out; have := HJ4.out; omega⟩, ⟨by (with_reducible repeat (first | apply Kd.Q_alloc | apply Kd.Q_drewN | apply Kd.Q_drew)); exact HO256.out⟩, ⟨by repeat (first | (with_reducible first | exact HB.out | apply below_alloc | apply pw_below_drewN | apply below_drew1 | refine below_set ?_ GE241.out | refine below_set ?_ GE242.out) | exact HB.out)⟩⟩
   ·rw [if_neg c2] at H
    have c2b0 : decide (x14_1 < (l0.length : Int)) = false := decide_eq_false c2
    clear c2
    replace H := Option.bind_eq_some_iff.mp H
    obtain ⟨t257, A450, H⟩ := H
    replace H : (if t257 < 0 then (some ([] : List (S129))) else (if 0 ≤ t257 then (if t257 ≤ (x3_1.length : Int) then (if 0 ≤ (wrap64 (t257 + 1)) then (if (wrap64 (t257 + 1)) ≤ (x3_1.length : Int) then ((some (x3_1.take ((wrap64 (t257 + 1)) : Int).toNat : List (S141))).bind fun y262 => (if 0 < (y262.length : Int) then (if x3_1.length + y262.length < 11728124029610 then (spec_ContourRef.l1 k1 ([] : List (S129)) ((x3_1.drop (t257 : Int).toNat) ++ y262) 1) else (none)) else (none))) else (none)) else (none)) else (none)) else (none))) = some r := H
    have A45 := Aside0.mk A450
    clear A450
    by_cases c46 : t257 < 0
    ·rw [if_pos c46] at H
     have c46b0 : decide (t257 < 0) = true := decide_eq_true c46
     clear c46
     obtain rfl := Option.some.inj H
     obtain ⟨Ao47, co47, eo47, _⟩ := Kd.Q_slice HO_3.out
     subst eo47
     go_wp2_with (first | ((with_reducible refine gate_callee (f := 44) rfl ?_); refine goesL_ (some 75) rfl rfl Try.func44 (by kernel_rfl) rfl #[.slice Ao47 x3_1.length co47, .func (.func 45) #[] #[]] rfl (by (try simp only [List.map_toArray, List.map_cons, List.map_nil]); first | done | rfl | (simp only [List.length_drop, List.length_take]; rfl)) ?_; (with_reducible refine (spec_point.calls k1 _ _ x3_1 t257 _ ?side1 ?side2 A45.out).mono ?_); (case side1 => repeat (first | exact (Kd.Q_reads' HO_3.out).2.2 | (with_reducible refine Kd.C_alloc ?_ _) | (with_reducible refine Kd.C_drewN ?_ _) | (with_reducible refine Kd.C_drew ?_))); (case side2 => exact (Kd.Q_reads' HO_3.out).2.1); rintro e w48 ⟨rfl, hb⟩; refine ⟨_, rfl, ?_⟩; have n0_ := Aside0.mk (Kd.Q_below (by (with_reducible repeat (first | apply Kd.Q_alloc | apply Kd.Q_drewN | apply Kd.Q_drew)); exact HO_3.out) hb); have n1_ := Aside0.mk (below_step (by repeat (first | (with_reducible first | exact HB.out | apply below_alloc | apply pw_below_drewN | apply below_drew1) | exact HB.out)) hb); clear HO_3; clear HB; have HO_3 := n0_; have HB := n1_; clear n0_ n1_; (try clear hb); (try clear hb2); (try clear hk); (try clear hi)))
     go_ret
     exact ⟨_, by first | rfl | (simp [errW_none, errW_some] <;> rfl) | (simp [*, errW_none, errW_some] <;> rfl), by first | exact Kd.R_nil _ _ _ _ _ | exact Kd.N_nil _ _ _ _ _ | exact Kd.V_nil _ _ _ _ _ | exact Kd.Q_nil _ _ _ _ _ | exact Kd.S_nil _ _ _ _ _, by repeat (first | (with_reducible first | exact HB.out | apply below_alloc | apply pw_below_drewN | apply below_drew1) | exact HB.out)⟩
    ·rw [if_neg c46] at H
     have c46b0 : decide (t257 < 0) = false := decide_eq_false c46
     clear c46
     by_cases c49 : 0 ≤ t257
     rotate_left
     ·rw [if_neg c49] at H
      exact absurd H (by simp)
     rw [if_pos c49] at H
     have c49b0 := eq_true c49
     have c49b1 : decide (0 ≤ t257) = true := decide_eq_true c49
     clear c49
     by_cases c50 : t257 ≤ (x3_1.length : Int)
     rotate_left
     ·rw [if_neg c50] at H
      exact absurd H (by simp)
     rw [if_pos c50] at H
     have c50b0 := eq_true c50
     have c50b1 : decide (t257 ≤ (x3_1.length : Int)) = true := decide_eq_true c50
     clear c50
     obtain ⟨y258, hy258⟩ : ∃ y_ : List (S141), y_ = (x3_1.drop (t257 : Int).toNat) := ⟨_, rfl⟩
     replace H : (if 0 ≤ (wrap64 (t257 + 1)) then (if (wrap64 (t257 + 1)) ≤ (x3_1.length : Int) then ((some (x3_1.take ((wrap64 (t257 + 1)) : Int).toNat : List (S141))).bind fun y262 => (if 0 < (y262.length : Int) then (if x3_1.length + y262.length < 11728124029610 then (spec_ContourRef.l1 k1 ([] : List (S129)) (y258 ++ y262) 1) else (none)) else (none))) else (none)) else (none)) = some r := by first | (rw [hy258]; with_reducible exact H) | (have H2_ := (Option.bind_some _ _).symm.trans H; rw [hy258]; with_reducible exact H2_) | (have H2_ := (Option.bind_some _ _).symm.trans H; with_reducible exact H2_) | with_reducible exact H | (rw [hy258]; exact H) | exact H
     have Ny258 := Aside0.mk hy258
     clear hy258
     obtain ⟨ji51, hji51⟩ : ∃ j_ : Int, (wrap64 (t257 + 1)) = j_ := ⟨_, rfl⟩
     replace H : (if 0 ≤ (ji51) then (if (ji51) ≤ (x3_1.length : Int) then ((some (x3_1.take ((ji51) : Int).toNat : List (S141))).bind fun y262 => (if 0 < (y262.length : Int) then (if x3_1.length + y262.length < 11728124029610 then (spec_ContourRef.l1 k1 ([] : List (S129)) (y258 ++ y262) 1) else (none)) else (none))) else (none)) else (none)) = some r := by first | (rw [hji51] at H; exact H) | (simp only [hji51] at H ⊢; exact H)
     (try rw [hji51] at A45)
     have hji51w : (IntKind.i64.wrap (t257 + 1)) = ji51 := (i64_w _).trans hji51
     by_cases c52 : 0 ≤ (ji51)
     rotate_left
     ·rw [if_neg c52] at H
      exact absurd H (by simp)
     rw [if_pos c52] at H
     have c52b0 := eq_true c52
     have c52b1 : decide (0 ≤ (ji51)) = true := decide_eq_true c52
     clear c52
     by_cases c53 : (ji51) ≤ (x3_1.length : Int)
     rotate_left
     ·rw [if_neg c53] at H
      exact absurd H (by simp)
     rw [if_pos c53] at H
     have c53b0 := eq_true c53
     have c53b1 : decide ((ji51) ≤ (x3_1.length : Int)) = true := decide_eq_true c53
     clear c53
     obtain ⟨y262, hy262⟩ : ∃ y_ : List (S141), y_ = (x3_1.take ((ji51) : Int).toNat) := ⟨_, rfl⟩
     replace H : (if 0 < (y262.length : Int) then (if x3_1.length + y262.length < 11728124029610 then (spec_ContourRef.l1 k1 ([] : List (S129)) (y258 ++ y262) 1) else (none)) else (none)) = some r := by first | (rw [hy262]; with_reducible exact H) | (have H2_ := (Option.bind_some _ _).symm.trans H; rw [hy262]; with_reducible exact H2_) | (have H2_ := (Option.bind_some _ _).symm.trans H; with_reducible exact H2_) | with_reducible exact H | (rw [hy262]; exact H) | exact H
     have Ny262 := Aside0.mk hy262
     clear hy262
     by_cases c54 : 0 < (y262.length : Int)
     rotate_left
     ·rw [if_neg c54] at H
      exact absurd H (by simp)
     rw [if_pos c54] at H
     have c54b0 := eq_true c54
     have c54b1 : decide (0 < (y262.length : Int)) = true := decide_eq_true c54
     clear c54
     by_cases c55 : x3_1.length + y262.length < 11728124029610
     rotate_left
     ·rw [if_neg c55] at H
      exact absurd H (by simp)
     rw [if_pos c55] at H
     have LMc55 := Aside0.mk c55
     clear c55
     obtain ⟨y266, hy266⟩ : ∃ y_ : List (S141), y_ = (y258 ++ y262) := ⟨_, rfl⟩
     replace H : (spec_ContourRef.l1 k1 ([] : List (S129)) y266 1) = some r := by first | (rw [hy266]; with_reducible exact H) | (have H2_ := (Option.bind_some _ _).symm.trans H; rw [hy266]; with_reducible exact H2_) | (have H2_ := (Option.bind_some _ _).symm.trans H; with_reducible exact H2_) | with_reducible exact H | (rw [hy266]; exact H) | exact H
     have Ny266 := Aside0.mk hy266
     clear hy266
     have H' := Aside0.mk H
     clear H
     obtain ⟨Ao56, co56, eo56, _⟩ := Kd.Q_slice HO_3.out
     subst eo56
     try go_wp2_with (first | ((with_reducible refine gate_callee (f := 44) rfl ?_); refine goesL_ (some 75) rfl rfl Try.func44 (by kernel_rfl) rfl #[.slice Ao56 x3_1.length co56, .func (.func 45) #[] #[]] rfl (by (try simp only [List.map_toArray, List.map_cons, List.map_nil]); first | done | rfl | (simp only [List.length_drop, List.length_take]; rfl)) ?_; (with_reducible refine (spec_point.calls k1 _ _ x3_1 t257 _ ?side1 ?side2 A45.out).mono ?_); (case side1 => repeat (first | exact (Kd.Q_reads' HO_3.out).2.2 | (with_reducible refine Kd.C_alloc ?_ _) | (with_reducible refine Kd.C_drewN ?_ _) | (with_reducible refine Kd.C_drew ?_))); (case side2 => exact (Kd.Q_reads' HO_3.out).2.1); rintro e w57 ⟨rfl, hb⟩; refine ⟨_, rfl, ?_⟩; have n0_ := Aside0.mk (Kd.Q_below (by (with_reducible repeat (first | apply Kd.Q_alloc | apply Kd.Q_drewN | apply Kd.Q_drew)); exact HO_3.out) hb); have n1_ := Aside0.mk (below_step (by repeat (first | (with_reducible first | exact HB.out | apply below_alloc | apply pw_below_drewN | apply below_drew1) | exact HB.out)) hb); clear HO_3; clear HB; have HO_3 := n0_; have HB := n1_; clear n0_ n1_; (try clear hb); (try clear hb2); (try clear hk); (try clear hi)))
     have n0_ := Aside0.mk (Kd.Q_drew HO_3.out)
     have n1_ := Aside0.mk (below_drew1 HB.out)
     clear HO_3
     clear HB
     have HO_3 := n0_
     have HB := n1_
     clear n0_ n1_
     have q59 : (t257 : Int) ≤ ((x3_1.length : Int) : Int) := of_decide_eq_true (by first | (with_reducible assumption) | assumption)
     obtain ⟨i059, hi059, _, hsz59, _⟩ := info_parts info141
     have hroom59 : x3_1.length ≤ co56 := (Kd.Q_reads' HO_3.out).2.1
     have hC59 : Kd.C k141 _ Ao56 x3_1.length x3_1 := (Kd.Q_reads' HO_3.out).2.2
     have q059 : (0 : Int) ≤ (t257 : Int) := of_decide_eq_true (by first | (with_reducible assumption) | assumption)
     have hcut59 := cut_from (P := Try.prog) 138 141 .i64 Try.underlying138 hi059 3 hsz59 Ao56 x3_1.length co56 t257 q059 q59
     have hr59 := Kd.C_drop (m := (t257 : Int).toNat) (c := co56) hC59 (by omega) hroom59
     obtain ⟨A59, hA59⟩ : ∃ A1, A1 = (if co56 = (t257 : Int).toNat then Ao56 else (Ao56 : Option Addr).map (·.add ((t257 : Int).toNat * 3))) := ⟨_, rfl⟩
     obtain ⟨c59, hc59⟩ : ∃ c1, c1 = co56 - (t257 : Int).toNat := ⟨_, rfl⟩
     have hy59 : y258.length = x3_1.length - (t257 : Int).toNat := (by rw [Ny258.out, List.length_drop] <;> omega)
     rw [show (x3_1).drop (t257 : Int).toNat = y258 from Ny258.out.symm] at hr59
     replace hr59 : Kd.C k141 _ A59 y258.length y258 := (by rw [hA59]; exact hr59)
     rw [← hy59, ← hA59, ← hc59] at hcut59
     have HR261 := Aside0.mk hr59
     have HC261 := Aside0.mk (show y258.length ≤ c59 from by rw [hy59, hc59]; exact Nat.sub_le_sub_right hroom59 _)
     clear hr59 hC59 hroom59 hi059 hsz59
     have KY59 := Aside0.mk hy59
     have KA59 := Aside0.mk hA59
     clear hy59 hA59
     have KD59 := Aside0.mk hc59
     clear hc59
     have KL59 := Aside0.mk (show (t257 : Int).toNat ≤ x3_1.length from by omega)
     replace q59 := eq_true q59
     have q60 : ((ji51) : Int) ≤ ((x3_1.length : Int) : Int) := of_decide_eq_true (by first | (with_reducible assumption) | assumption)
     obtain ⟨i060, hi060, _, hsz60, _⟩ := info_parts info141
     have hroom60 : x3_1.length ≤ co56 := (Kd.Q_reads' HO_3.out).2.1
     have hC60 : Kd.C k141 _ Ao56 x3_1.length x3_1 := (Kd.Q_reads' HO_3.out).2.2
     have hcut60 := cut_to (P := Try.prog) 138 141 .i64 Try.underlying138 hi060 Ao56 x3_1.length co56 (ji51) (of_decide_eq_true (by first | (with_reducible assumption) | assumption)) q60 hroom60
     have hr60 := Kd.C_take (m := ((ji51) : Int).toNat) hC60 (by omega)
     have hy60 : y262.length = ((ji51) : Int).toNat := (by rw [Ny262.out, List.length_take]; omega)
     rw [← Ny262.out] at hr60
     rw [← hy60] at hcut60
     have HR265 := Aside0.mk hr60
     have HC265 := Aside0.mk (show y262.length ≤ co56 from by omega)
     clear hr60 hC60 hroom60 hi060 hsz60
     have KY60 := Aside0.mk hy60
     clear hy60
     have KL60 := Aside0.mk (show ((ji51) : Int).toNat ≤ x3_1.length from by omega)
     replace q60 := eq_true q60
     refine start_ (n := 9) (S := fun w' => True) (ds := []) #[ff,ff,ff,ff,ff,ff,ff,ff,ff] (by kernel_rfl) rfl rfl trivial (fun hHeld => ?_); refine with_tabW spec_ContourRef.tab15 spec_ContourRef.bits15 (fun HT_ HW_ => ?_)
     generalize w57.drew = w58 at HO_3 HB HR261 HR265 hHeld ⊢
     refine pure_ (i := 0) (N := some 78) (v := ?_) (a' := ?_) #[true, false, false, false, false, false, false, false, false] rfl rfl (any_of HT_.out (by kernel_rfl)) (fun _ _ _ h => h) (Or.inl ⟨by rfl, ?_⟩) ?_ ?_
     rotate_left
     ·intro w'
      go_simp
      with_reducible rfl
     rotate_left
     ·simp only [Act.put, L1_, L2_, L3_, i64_w, i32_w]
      rfl
     refine pure_ (i := 1) (N := some 79) (v := ?_) (a' := ?_) #[true, true, false, false, false, false, false, false, false] rfl rfl (any_of HT_.out (by kernel_rfl)) (fun _ _ _ h => h) (Or.inl ⟨by rfl, ?_⟩) ?_ ?_
     rotate_left
     ·intro w'
      go_simp
      with_reducible rfl
     rotate_left
     ·simp only [Act.put, L1_, L2_, L3_, i64_w, i32_w]
      rfl
     refine pure_ (i := 2) (N := some 80) (v := ?_) (a' := ?_) #[true, true, true, false, false, false, false, false, false] rfl rfl (any_of HT_.out (by kernel_rfl)) (fun _ _ _ h => h) (Or.inl ⟨by rfl, ?_⟩) ?_ ?_
     rotate_left
     ·intro w'
      go_simp
      with_reducible rfl
     rotate_left
     ·simp only [Act.put, L1_, L2_, L3_, i64_w, i32_w]
      rfl
     refine pure_ (i := 3) (N := some 81) (v := ?_) (a' := ?_) #[true, true, true, true, false, false, false, false, false] rfl rfl (any_of HT_.out (by kernel_rfl)) (fun _ _ _ h => h) (Or.inl ⟨by rfl, ?_⟩) ?_ ?_
     rotate_left
     ·intro w'
      go_simp
      with_reducible rfl
     rotate_left
     ·simp only [Act.put, L1_, L2_, L3_, i64_w, i32_w]
      rfl
     refine pure_ (i := 4) (N := some 82) (v := ?_) (a' := ?_) #[true, true, true, true, true, false, false, false, false] rfl rfl (any_of HT_.out (by kernel_rfl)) (fun _ _ _ h => h) (Or.inl ⟨by rfl, ?_⟩) ?_ ?_
     rotate_left
     ·intro w'
      go_simp
      with_reducible rfl
     rotate_left
     ·simp only [Act.put, L1_, L2_, L3_, i64_w, i32_w]
      rfl
     refine pure_ (i := 5) (N := some 83) (v := ?_) (a' := ?_) #[true, true, true, true, true, true, false, false, false] rfl rfl (any_of HT_.out (by kernel_rfl)) (fun _ _ _ h => h) (Or.inl ⟨by rfl, ?_⟩) ?_ ?_
     rotate_left
     ·intro w'
      go_simp
      with_reducible rfl
     rotate_left
     ·(try go_ints); (try simp (disch := omega) only [n3_]); simp only [Act.put, L1_, L2_, L3_, i64_w, i32_w]
      rfl
     refine pure_ (i := 6) (N := some 84) (v := ?_) (a' := ?_) #[true, true, true, true, true, true, true, false, false] rfl rfl (any_of HT_.out (by kernel_rfl)) (fun _ _ _ h => h) (Or.inl ⟨by rfl, ?_⟩) ?_ ?_
     rotate_left
     ·intro w'
      go_simp
      with_reducible rfl
     rotate_left
     ·simp only [Act.put, L1_, L2_, L3_, i64_w, i32_w]
      rfl
     refine one_ (i := 7) (N := some 85) #[true, true, true, true, true, true, true, true, false] rfl rfl (one_of HT_.out (by kernel_rfl)) (by decide) (fun K hK => ?_)
     refine Kd.Q_rot_step k141 (w0 := w) w.heap.size (by rfl) (.tmp 80) (.tmp 84) 138 141 (.agg #[(.bool false), (.float .f32 0), (.float .f32 0)]) 12 rfl Try.underlying138 info141 rfl (by decide) (by omega) Ao56 x3_1.length co56 x3_1 (k := (t257 : Int).toNat) (h := ((ji51) : Int).toNat) (y1 := y258) (y2 := y262) (fun _ => True) rfl rfl ?aA ?aN ?aC ?aY ?aZ ?aM ?aK ?aH ?aI ?aF ?aO ?aB ?aS ?aL ?_
     (case aA => exact KA59.out)
     (case aN => exact KY59.out)
     (case aC => exact KD59.out)
     (case aY => exact Ny258.out)
     (case aZ => exact Ny262.out)
     (case aM => exact KY60.out)
     (case aK => have := KL59.out; omega)
     (case aH => have h_ : (0 : Int) < (y262.length : Int) := of_decide_eq_true (by first | (with_reducible assumption) | assumption); have := KY60.out; omega)
     (case aI => have := KL60.out; omega)
     (case aB => exact (by repeat (first | (with_reducible first | exact HB.out | apply below_alloc | apply pw_below_drewN | apply below_drew1) | exact HB.out)))
     (case aF => exact (fun _ _ => trivial))
     (case aO => exact (by (with_reducible repeat (first | apply Kd.Q_alloc | apply Kd.Q_drewN | apply Kd.Q_drew)); exact HO_3.out))
     (case aS => exact (below_size (by repeat (first | (with_reducible first | exact HB.out | apply below_alloc | apply pw_below_drewN | apply below_drew1) | exact HB.out))))
     (case aL => have hyr_ := KY60.out; have := LMc55.out; omega)
     intro v267 w61 ho hb hg hat
     rw [← Ny266.out] at ho
     have n0_ := Aside0.mk (hb)
     have n1_ := Aside0.mk (ho)
     clear HB
     clear HO_3
     have HB := n0_
     have HO268 := n1_
     clear n0_ n1_
     clear ho hb hg hat
     refine hK.out _ _ trivial (fun hHeld => ?_)
     clear hK K
     refine norm_ (a' := ?_) ?_ ?_
     rotate_left
     ·show Act.put _ (some 85) _ = _
      simp only [Act.put, L1_, L2_, L3_, i64_w, i32_w]
      rfl
     refine pure_ (i := 8) (N := some 3) (v := ?_) (a' := ?_) #[true, true, true, true, true, true, true, true, true] rfl rfl (any_of HT_.out (by kernel_rfl)) (fun _ _ _ h => h) (Or.inl ⟨by rfl, ?_⟩) ?_ ?_
     rotate_left
     ·intro w'
      go_simp
      with_reducible rfl
     rotate_left
     ·simp only [Act.put, L1_, L2_, L3_, i64_w, i32_w]
      rfl
     refine done_ (done_of HT_.out (by kernel_rfl)) ?_
     try go_wp2
     go_loopg [2, 10] k1 (fun kq v2 v10 w' => ∃ (x2_2 : List (S129)) (x10_2 : Int), v10 = .int .i64 x10_2 ∧ Aside0 (spec_ContourRef.l1 kq x2_2 y266 x10_2 = some r) ∧ Aside0 (kq ≤ k1) ∧ Aside0 (Kd.R k129 129 w' w.heap.size (fun _ => True) v2 x2_2) ∧ Aside0 (Kd.Q k141 141 w' w.heap.size (fun _ => True) v267 y266) ∧ Aside0 (Below w.heap.size w w'))
     case atStart => exact ⟨(([] : List (S129))), (1), (by first | rfl | (simp; done) | (simp [*]; done)), H', ⟨Nat.le_refl _⟩, ⟨by first | exact Kd.R_nil _ _ _ _ _ | exact Kd.N_nil _ _ _ _ _ | exact Kd.V_nil _ _ _ _ _ | exact Kd.Q_nil _ _ _ _ _ | exact Kd.S_nil _ _ _ _ _⟩, ⟨by (with_reducible repeat (first | apply Kd.Q_alloc | apply Kd.Q_drewN | apply Kd.Q_drew)); exact HO268.out⟩, ⟨by repeat (first | (with_reducible first | exact HB.out | apply below_alloc | apply pw_below_drewN | apply below_drew1) | exact HB.out)⟩⟩
     case round =>
      clear H'
      (try clear c1); (try clear q1); (try clear c2); (try clear c2b0); (try clear p2); (try clear q2); (try clear hx2); (try clear c3); (try clear c3b0); (try clear c4); (try clear c4b0); (try clear c5); (try clear q5); (try clear p6); (try clear q6); (try clear c9); (try clear q11); (try clear c12); (try clear c13); (try clear c15); (try clear c15b0); (try clear c15b1); (try clear c15b2); (try clear c17); (try clear c17b0); (try clear c18); (try clear c18b0); (try clear c19); (try clear c20); (try clear c21); (try clear c22); (try clear c22b0); (try clear c22b1); (try clear c22b2); (try clear c24); (try clear c24b0); (try clear p24); (try clear q24); (try clear hx24); (try clear c25); (try clear c25b0); (try clear c27); (try clear c28); (try clear c30); (try clear c31); (try clear c33); (try clear c40); (try clear c41); (try clear c43); (try clear c44); (try clear c46); (try clear c46b0); (try clear c49); (try clear c49b0); (try clear c49b1); (try clear c50); (try clear c50b0); (try clear c50b1); (try clear c52); (try clear c52b0); (try clear c52b1); (try clear c53); (try clear c53b0); (try clear c53b1); (try clear c54); (try clear c54b0); (try clear c54b1); (try clear c55); (try clear c59); (try clear q59); (try clear q60); (try clear hcz10_0); (try clear hcz10_1); (try clear hcz14_0); (try clear hcz14_1); (try clear hcz14_2); (try clear hcz20_0); (try clear hcz20_1); (try clear hcz20_2); (try clear hcz32_0); (try clear hcz32_1); (try clear hcz32_2); (try clear hcz34_0); (try clear hcz34_1); (try clear hcz37_0); (try clear hcz37_1); (try clear hcz37_2); (try clear hcz38_0); (try clear hcz38_1); (try clear hcz42_0); (try clear hcz42_1); (try clear hcz42_2); (try clear hcz43_0); (try clear hcz43_1); (try clear hcz7_0); (try clear hcz7_1); (try clear hcz7_2); (try clear hfz10_0); (try clear hfz10_1); (try clear hfz14_0); (try clear hfz14_1); (try clear hfz14_2); (try clear hfz20_0); (try clear hfz20_1); (try clear hfz20_2); (try clear hfz32_0); (try clear hfz32_1); (try clear hfz32_2); (try clear hfz34_0); (try clear hfz34_1); (try clear hfz37_0); (try clear hfz37_1); (try clear hfz37_2); (try clear hfz38_0); (try clear hfz38_1); (try clear hfz42_0); (try clear hfz42_1); (try clear hfz42_2); (try clear hfz43_0); (try clear hfz43_1); (try clear hfz7_0); (try clear hfz7_1); (try clear hfz7_2); (try clear hx240_0); (try clear hx240_1); (try clear hx240_2); (try clear hx243_0); (try clear hx243_1); (try clear hx243_2); (try clear hx244_0); (try clear hx244_1); (try clear hx244_2); (try clear p2); (try clear p240); (try clear p243); (try clear p244); (try clear p6); (try clear q059); (try clear q1); (try clear q11); (try clear q2); (try clear q240); (try clear q243); (try clear q244); (try clear q59); (try clear q60)
      obtain ⟨x2_2, x10_2, rfl, HA, HK2, HO_2, HO_3, HB⟩ := hrel
      cases gk with
      | zero => exact absurd HA.out (by simp [spec_ContourRef.l1])
      | succ k2 =>
       have H := HA.out
       clear HA
       simp only [spec_ContourRef.l1] at H
       by_cases c62 : x10_2 < (y266.length : Int)
       ·rw [if_pos c62] at H
        have c62b0 : decide (x10_2 < (y266.length : Int)) = true := decide_eq_true c62
        clear c62
        obtain ⟨ji63, hji63⟩ : ∃ j_ : Int, (wrap64 (x10_2 - 1)) = j_ := ⟨_, rfl⟩
        replace H : (if 0 ≤ (ji63) then (if (ji63) < (y266.length : Int) then (if 0 ≤ x10_2 then (if (rd_T141 y266 x10_2).f0 = true then (if (!(FloatKind.f32.format.order ((rd_T141 y266 (ji63)).f1.f0) ((rd_T141 y266 x10_2).f1.f0) == some .eq) || (!(FloatKind.f32.format.order ((rd_T141 y266 (ji63)).f1.f1) ((rd_T141 y266 x10_2).f1.f1) == some .eq))) = true then (if x2_2.length < 5026338869833 then (spec_ContourRef.l1 k2 (x2_2 ++ [(⟨false, (⟨(rd_T141 y266 (ji63)).f1.f0, (rd_T141 y266 (ji63)).f1.f1⟩ : S124), (⟨0, 0⟩ : S124), (⟨(rd_T141 y266 x10_2).f1.f0, (rd_T141 y266 x10_2).f1.f1⟩ : S124)⟩ : S129)]) y266 (wrap64 (x10_2 + 1))) else (none)) else (spec_ContourRef.l1 k2 x2_2 y266 (wrap64 (x10_2 + 1)))) else (if 0 ≤ (wrap64 (x10_2 + 1)) then (if (wrap64 (x10_2 + 1)) < (y266.length : Int) then (if x2_2.length < 5026338869833 then (spec_ContourRef.l1 k2 (x2_2 ++ [(⟨true, (⟨(rd_T141 y266 (ji63)).f1.f0, (rd_T141 y266 (ji63)).f1.f1⟩ : S124), (⟨(rd_T141 y266 x10_2).f1.f0, (rd_T141 y266 x10_2).f1.f1⟩ : S124), (⟨(rd_T141 y266 (wrap64 (x10_2 + 1))).f1.f0, (rd_T141 y266 (wrap64 (x10_2 + 1))).f1.f1⟩ : S124)⟩ : S129)]) y266 (wrap64 ((wrap64 (x10_2 + 1)) + 1))) else (none)) else (none)) else (none))) else (none)) else (none)) else (none)) = some r := by first | (rw [hji63] at H; exact H) | (simp only [hji63] at H ⊢; exact H)
        have hji63w : (IntKind.i64.wrap (x10_2 - 1)) = ji63 := (i64_w _).trans hji63
        by_cases c64 : 0 ≤ (ji63)
        rotate_left
        ·rw [if_neg c64] at H
         exact absurd H (by simp)
        rw [if_pos c64] at H
        have c64b0 : decide (0 ≤ (ji63)) = true := decide_eq_true c64
        clear c64
        by_cases c65 : (ji63) < (y266.length : Int)
        rotate_left
        ·rw [if_neg c65] at H
         exact absurd H (by simp)
        rw [if_pos c65] at H
        have c65b0 : decide ((ji63) < (y266.length : Int)) = true := decide_eq_true c65
        clear c65
        by_cases c66 : 0 ≤ x10_2
        rotate_left
        ·rw [if_neg c66] at H
         exact absurd H (by simp)
        rw [if_pos c66] at H
        have c66b0 : decide (0 ≤ x10_2) = true := decide_eq_true c66
        clear c66
        obtain ⟨bq67, hbq67⟩ : ∃ b_ : Bool, b_ = ((rd_T141 y266 x10_2).f0) := ⟨_, rfl⟩
        replace H : (if bq67 = true then (if (!(FloatKind.f32.format.order ((rd_T141 y266 (ji63)).f1.f0) ((rd_T141 y266 x10_2).f1.f0) == some .eq) || (!(FloatKind.f32.format.order ((rd_T141 y266 (ji63)).f1.f1) ((rd_T141 y266 x10_2).f1.f1) == some .eq))) = true then (if x2_2.length < 5026338869833 then (spec_ContourRef.l1 k2 (x2_2 ++ [(⟨false, (⟨(rd_T141 y266 (ji63)).f1.f0, (rd_T141 y266 (ji63)).f1.f1⟩ : S124), (⟨0, 0⟩ : S124), (⟨(rd_T141 y266 x10_2).f1.f0, (rd_T141 y266 x10_2).f1.f1⟩ : S124)⟩ : S129)]) y266 (wrap64 (x10_2 + 1))) else (none)) else (spec_ContourRef.l1 k2 x2_2 y266 (wrap64 (x10_2 + 1)))) else (if 0 ≤ (wrap64 (x10_2 + 1)) then (if (wrap64 (x10_2 + 1)) < (y266.length : Int) then (if x2_2.length < 5026338869833 then (spec_ContourRef.l1 k2 (x2_2 ++ [(⟨true, (⟨(rd_T141 y266 (ji63)).f1.f0, (rd_T141 y266 (ji63)).f1.f1⟩ : S124), (⟨(rd_T141 y266 x10_2).f1.f0, (rd_T141 y266 x10_2).f1.f1⟩ : S124), (⟨(rd_T141 y266 (wrap64 (x10_2 + 1))).f1.f0, (rd_T141 y266 (wrap64 (x10_2 + 1))).f1.f1⟩ : S124)⟩ : S129)]) y266 (wrap64 ((wrap64 (x10_2 + 1)) + 1))) else (none)) else (none)) else (none))) = some r := by rw [← hbq67] at H; exact H
        have Nbq67 := Aside0.mk hbq67
        try (have B0_ := BK241.out; rw [← Nbq67.out] at B0_; replace BK241 := Aside0.mk B0_; clear B0_)
        clear hbq67
        by_cases c68 : bq67 = true
        ·subst c68
         have H1 : (if (!(FloatKind.f32.format.order ((rd_T141 y266 (ji63)).f1.f0) ((rd_T141 y266 x10_2).f1.f0) == some .eq) || (!(FloatKind.f32.format.order ((rd_T141 y266 (ji63)).f1.f1) ((rd_T141 y266 x10_2).f1.f1) == some .eq))) = true then (if x2_2.length < 5026338869833 then (spec_ContourRef.l1 k2 (x2_2 ++ [(⟨false, (⟨(rd_T141 y266 (ji63)).f1.f0, (rd_T141 y266 (ji63)).f1.f1⟩ : S124), (⟨0, 0⟩ : S124), (⟨(rd_T141 y266 x10_2).f1.f0, (rd_T141 y266 x10_2).f1.f1⟩ : S124)⟩ : S129)]) y266 (wrap64 (x10_2 + 1))) else (none)) else (spec_ContourRef.l1 k2 x2_2 y266 (wrap64 (x10_2 + 1)))) = some r := by rw [if_pos rfl] at H; exact H
         clear H
         have H := H1
         clear H1
         by_cases c69 : (!(FloatKind.f32.format.order ((rd_T141 y266 (ji63)).f1.f0) ((rd_T141 y266 x10_2).f1.f0) == some .eq) || (!(FloatKind.f32.format.order ((rd_T141 y266 (ji63)).f1.f1) ((rd_T141 y266 x10_2).f1.f1) == some .eq))) = true
         ·rw [if_pos c69] at H
          have c69b0 : (!(FloatKind.f32.format.order ((rd_T141 y266 (ji63)).f1.f0) ((rd_T141 y266 x10_2).f1.f0) == some .eq) || (!(FloatKind.f32.format.order ((rd_T141 y266 (ji63)).f1.f1) ((rd_T141 y266 x10_2).f1.f1) == some .eq))) = true := c69
          clear c69
          by_cases c70 : x2_2.length < 5026338869833
          rotate_left
          ·rw [if_neg c70] at H
           exact absurd H (by simp)
          rw [if_pos c70] at H
          have LMc70 := Aside0.mk c70
          clear c70
          obtain ⟨y274, hy274⟩ : ∃ y_ : List (S129), y_ = (x2_2 ++ [(⟨false, (⟨(rd_T141 y266 (ji63)).f1.f0, (rd_T141 y266 (ji63)).f1.f1⟩ : S124), (⟨0, 0⟩ : S124), (⟨(rd_T141 y266 x10_2).f1.f0, (rd_T141 y266 x10_2).f1.f1⟩ : S124)⟩ : S129)]) := ⟨_, rfl⟩
          replace H : (spec_ContourRef.l1 k2 y274 y266 (wrap64 (x10_2 + 1))) = some r := by first | (rw [hy274]; with_reducible exact H) | (have H2_ := (Option.bind_some _ _).symm.trans H; rw [hy274]; with_reducible exact H2_) | (have H2_ := (Option.bind_some _ _).symm.trans H; with_reducible exact H2_) | with_reducible exact H | (rw [hy274]; exact H) | exact H
          have Ny274 := Aside0.mk hy274
          clear hy274
          have H' := Aside0.mk H
          clear H
          obtain ⟨Ao71, co71, eo71, _⟩ := Kd.Q_slice HO_3.out
          subst eo71
          have p269 : 0 ≤ ((ji63) : Int) := of_decide_eq_true (by first | (with_reducible assumption) | assumption)
          have q269 : (ji63) < (y266.length : Int) := of_decide_eq_true (by first | (with_reducible assumption) | assumption)
          obtain ⟨ad269, e269, hx269_0, hx269_1, hx269_2⟩ := at_T141 (Kd.Q_reads' HO_3.out).2.2 (ji63) p269 q269
          (try rw [← Nbq67.out] at hx269_0)
          cases e269
          replace p269 := eq_true p269
          replace q269 := eq_true q269
          try go_wp2_with (first | ((with_reducible refine gate_dst (N := 11) rfl ?_); refine box_event ?hg (N := 11) ?hd (cs := #[.float .f32 0, .float .f32 0]) (t := 124) ?hr ?_; (case hd => rfl); (case hg => rfl); (case hr => first | (go_simp; done) | (go_simp; rfl)); intro gb270 hg w72 hbox hb; have n0_ := Aside0.mk (Kd.R_below (by (with_reducible repeat (first | apply Kd.R_alloc | apply Kd.R_drewN | apply Kd.R_drew)); exact HO_2.out) hb); have n1_ := Aside0.mk (Kd.Q_below (by (with_reducible repeat (first | apply Kd.Q_alloc | apply Kd.Q_drewN | apply Kd.Q_drew)); exact HO_3.out) hb); have n2_ := Aside0.mk (below_step (by repeat (first | (with_reducible first | exact HB.out | apply below_alloc | apply pw_below_drewN | apply below_drew1) | exact HB.out)) hb); have n3_ := Aside0.mk (hbox); have n4_ := Aside0.mk ((by rw [hg]; exact (below_size (by repeat (first | (with_reducible first | exact HB.out | apply below_alloc | apply pw_below_drewN | apply below_drew1) | exact HB.out))) : w.heap.size ≤ gb270)); have n5_ := Aside0.mk ((by rw [hg]; exact (below_size (by repeat (first | (with_reducible first | exact HB.out | apply below_alloc | apply pw_below_drewN | apply below_drew1) | exact HB.out))) : w.heap.size ≤ gb270)); clear HO_2; clear HO_3; clear HB; have HO_2 := n0_; have HO_3 := n1_; have HB := n2_; have BK270 := n3_; have GW270 := n4_; have GE270 := n5_; clear n0_ n1_ n2_ n3_ n4_ n5_; clear hb hbox hg; have hcz73_0 : w72.cell? ⟨gb270, 0, none⟩ = some (.float .f32 0) := (blk_cell BK270.out 0).trans rfl; have hcz73_1 : w72.cell? ⟨gb270, 1, none⟩ = some (.float .f32 0) := (blk_cell BK270.out 1).trans rfl; have hfz73_0 := blk_frozen BK270.out 0; have hfz73_1 := blk_frozen BK270.out 1; have p271 : 0 ≤ (x10_2 : Int) := of_decide_eq_true (by first | (with_reducible assumption) | assumption); have q271 : x10_2 < (y266.length : Int) := of_decide_eq_true (by first | (with_reducible assumption) | assumption); obtain ⟨ad271, e271, hx271_0, hx271_1, hx271_2⟩ := at_T141 (Kd.Q_reads' HO_3.out).2.2 x10_2 p271 q271; (try rw [← Nbq67.out] at hx271_0); obtain rfl : ad269 = ad271 := (by injection e271); have hn271_0 : ad269.block ≠ gb270 := Kd.own_blk (Kd.Q_ne HO_3.out BK270.out (by decide)); have hn271_1 : ad269.block ≠ gb270 := Kd.own_blk (Kd.Q_ne HO_3.out BK270.out (by decide)); replace hx271_0 := (cell_far (p := ⟨gb270, 0, none⟩) (by first | (rw [add_block]; exact hn271_0) | (show (Addr.add _ _).block ≠ _; rw [add_block]; exact hn271_0) | exact hn271_0) (.float .f32 ((rd_T141 y266 (ji63)).f1.f0))).trans hx271_0; replace hx271_1 := (cell_far (p := ⟨gb270, 0, none⟩) (by first | (rw [add_block]; exact hn271_0) | (show (Addr.add _ _).block ≠ _; rw [add_block]; exact hn271_0) | exact hn271_0) (.float .f32 ((rd_T141 y266 (ji63)).f1.f0))).trans hx271_1; replace hx271_2 := (cell_far (p := ⟨gb270, 0, none⟩) (by first | (rw [add_block]; exact hn271_0) | (show (Addr.add _ _).block ≠ _; rw [add_block]; exact hn271_0) | exact hn271_0) (.float .f32 ((rd_T141 y266 (ji63)).f1.f0))).trans hx271_2; replace hx271_0 := (cell_far (p := ⟨gb270, 1, none⟩) (by first | (rw [add_block]; exact hn271_1) | (show (Addr.add _ _).block ≠ _; rw [add_block]; exact hn271_1) | exact hn271_1) (.float .f32 ((rd_T141 y266 (ji63)).f1.f1))).trans hx271_0; replace hx271_1 := (cell_far (p := ⟨gb270, 1, none⟩) (by first | (rw [add_block]; exact hn271_1) | (show (Addr.add _ _).block ≠ _; rw [add_block]; exact hn271_1) | exact hn271_1) (.float .f32 ((rd_T141 y266 (ji63)).f1.f1))).trans hx271_1; replace hx271_2 := (cell_far (p := ⟨gb270, 1, none⟩) (by first | (rw [add_block]; exact hn271_1) | (show (Addr.add _ _).block ≠ _; rw [add_block]; exact hn271_1) | exact hn271_1) (.float .f32 ((rd_T141 y266 (ji63)).f1.f1))).trans hx271_2; clear hn271_0; clear hn271_1; replace p271 := eq_true p271; replace q271 := eq_true q271))
          have n0_ : Aside0 (Kd.R k129 129 ((w72.setCell ⟨gb270, 0, none⟩ (.float .f32 ((rd_T141 y266 (ji63)).f1.f0))).setCell ⟨gb270, 1, none⟩ (.float .f32 ((rd_T141 y266 (ji63)).f1.f1))) w.heap.size (fun _ => True) u2 x2_2) := ⟨by (with_reducible repeat (first | apply Kd.R_alloc | apply Kd.R_drewN | apply Kd.R_drew)); exact Kd.R_mono (Kd.R_far (p := ⟨gb270, 1, none⟩) (Kd.R_far (p := ⟨gb270, 0, none⟩) (Kd.R_types HO_2.out BK270.out (by decide)) (fun _ hk => hk.2) (.float .f32 ((rd_T141 y266 (ji63)).f1.f0))) (fun _ hk => hk.2) (.float .f32 ((rd_T141 y266 (ji63)).f1.f1))) (fun _ hk => trivial)⟩
          have n1_ : Aside0 (Kd.Q k141 141 ((w72.setCell ⟨gb270, 0, none⟩ (.float .f32 ((rd_T141 y266 (ji63)).f1.f0))).setCell ⟨gb270, 1, none⟩ (.float .f32 ((rd_T141 y266 (ji63)).f1.f1))) w.heap.size (fun _ => True) (.slice (some ad269) y266.length co71) y266) := ⟨by (with_reducible repeat (first | apply Kd.Q_alloc | apply Kd.Q_drewN | apply Kd.Q_drew)); exact Kd.Q_mono (Kd.Q_far (p := ⟨gb270, 1, none⟩) (Kd.Q_far (p := ⟨gb270, 0, none⟩) (Kd.Q_types HO_3.out BK270.out (by decide)) (fun _ hk => hk.2) (.float .f32 ((rd_T141 y266 (ji63)).f1.f0))) (fun _ hk => hk.2) (.float .f32 ((rd_T141 y266 (ji63)).f1.f1))) (fun _ hk => trivial)⟩
          have n2_ : Aside0 (((w72.setCell ⟨gb270, 0, none⟩ (.float .f32 ((rd_T141 y266 (ji63)).f1.f0))).setCell ⟨gb270, 1, none⟩ (.float .f32 ((rd_T141 y266 (ji63)).f1.f1))).heap[gb270]? = some (.cells #[.float .f32 ((rd_T141 y266 (ji63)).f1.f0), .float .f32 ((rd_T141 y266 (ji63)).f1.f1)] 124 (0, 0))) := ⟨by (with_reducible repeat (first | apply b1_ | apply b2_ | apply b3_)); refine blk_put (cs := #[.float .f32 ((rd_T141 y266 (ji63)).f1.f0), .float .f32 0]) ?_ 1 _ rfl; (with_reducible repeat (first | apply b1_ | apply b2_ | apply b3_)); refine blk_put (cs := #[.float .f32 0, .float .f32 0]) ?_ 0 _ rfl; (with_reducible repeat (first | apply b1_ | apply b2_ | apply b3_)); exact BK270.out⟩
          have n3_ : Aside0 (Below w.heap.size w ((w72.setCell ⟨gb270, 0, none⟩ (.float .f32 ((rd_T141 y266 (ji63)).f1.f0))).setCell ⟨gb270, 1, none⟩ (.float .f32 ((rd_T141 y266 (ji63)).f1.f1)))) := ⟨by repeat (first | (with_reducible first | exact HB.out | apply below_alloc | apply pw_below_drewN | apply below_drew1 | refine below_set ?_ GE270.out) | exact HB.out)⟩
          (try clear HO_2)
          (try clear HO_3)
          (try clear BK270)
          (try clear HB)
          generalize ((w72.setCell ⟨gb270, 0, none⟩ (.float .f32 ((rd_T141 y266 (ji63)).f1.f0))).setCell ⟨gb270, 1, none⟩ (.float .f32 ((rd_T141 y266 (ji63)).f1.f1))) = w74 at n0_ n1_ n2_ n3_ ⊢
          have HO_2 := n0_
          have HO_3 := n1_
          have BK270 := n2_
          have HB := n3_
          clear n0_ n1_ n2_ n3_
          have n0_ := Aside0.mk (Kd.R_drew HO_2.out)
          have n1_ := Aside0.mk (Kd.Q_drew HO_3.out)
          have n2_ := Aside0.mk (blk_drew BK270.out)
          have n3_ := Aside0.mk (below_drew1 HB.out)
          clear HO_2
          clear HO_3
          clear BK270
          clear HB
          have HO_2 := n0_
          have HO_3 := n1_
          have BK270 := n2_
          have HB := n3_
          clear n0_ n1_ n2_ n3_
          have p272 : 0 ≤ (x10_2 : Int) := of_decide_eq_true (by first | (with_reducible assumption) | assumption)
          have q272 : x10_2 < (y266.length : Int) := of_decide_eq_true (by first | (with_reducible assumption) | assumption)
          obtain ⟨ad272, e272, hx272_0, hx272_1, hx272_2⟩ := at_T141 (Kd.Q_reads' HO_3.out).2.2 x10_2 p272 q272
          (try rw [← Nbq67.out] at hx272_0)
          obtain rfl : ad269 = ad272 := (by injection e272)
          replace p272 := eq_true p272
          replace q272 := eq_true q272
          refine start_ (n := 7) (S := fun w' => w'.cell? ⟨gb270, 0, none⟩ = some (.float .f32 ((rd_T141 y266 (ji63)).f1.f0)) ∧ w'.cell? ⟨gb270, 1, none⟩ = some (.float .f32 ((rd_T141 y266 (ji63)).f1.f1)) ∧ w'.cell? (ad269.add ((x10_2).toNat * 3)) = some (.bool (true)) ∧ w'.cell? ⟨(ad269.add ((x10_2).toNat * 3)).block, (ad269.add ((x10_2).toNat * 3)).off + 1, none⟩ = some (.float .f32 ((rd_T141 y266 x10_2).f1.f0)) ∧ w'.cell? ⟨(ad269.add ((x10_2).toNat * 3)).block, (ad269.add ((x10_2).toNat * 3)).off + 2, none⟩ = some (.float .f32 ((rd_T141 y266 x10_2).f1.f1))) (ds := []) #[false, false, false, false, false, false, false] (by kernel_rfl) rfl rfl ⟨(blk_cell BK270.out 0).trans rfl, (blk_cell BK270.out 1).trans rfl, hx272_0, hx272_1, hx272_2⟩ (fun hHeld => ?_)
          generalize w74.drew = w75 at HO_2 HO_3 BK270 HB hx272_0 hx272_1 hx272_2 hHeld ⊢
          refine pure_ (i := 1) (N := some 104) (v := ?_) (a' := ?_) #[false, true, false, false, false, false, false] rfl rfl (by kernel_rfl) (fun _ _ _ h => h) (Or.inl ⟨by rfl, ?_⟩) ?_ ?_
          rotate_left
          ·intro w'
           go_simp
           with_reducible rfl
          rotate_left
          ·simp only [Act.put, L1_, L2_, L3_, i64_w, i32_w]
           rfl
          refine pure_ (i := 2) (N := some 105) (v := ?_) (a' := ?_) #[false, true, true, false, false, false, false] rfl rfl (by kernel_rfl) (fun _ _ _ h => h) (Or.inl ⟨by rfl, ?_⟩) ?_ ?_
          rotate_left
          ·intro w'
           go_simp
           with_reducible rfl
          rotate_left
          ·simp only [Act.put, L1_, L2_, L3_, i64_w, i32_w]
           rfl
          refine pure_ (i := 3) (N := some 106) (v := ?_) (a' := ?_) #[false, true, true, true, false, false, false] rfl rfl (by kernel_rfl) (fun _ _ _ h => h) (Or.inl ⟨by rfl, ?_⟩) ?_ ?_
          rotate_left
          ·intro w'
           go_simp
           with_reducible rfl
          rotate_left
          ·simp only [Act.put, L1_, L2_, L3_, i64_w, i32_w]
           rfl
          refine pure_ (i := 4) (N := some 107) (v := ?_) (a' := ?_) #[false, true, true, true, true, false, false] rfl rfl (by kernel_rfl) (fun _ _ _ h => h) (Or.inl ⟨by rfl, ?_⟩) ?_ ?_
          rotate_left
          ·intro w'
           go_simp
           with_reducible rfl
          rotate_left
          ·simp only [Act.put, L1_, L2_, L3_, i64_w, i32_w]
           rfl
          refine take_ (i := 0) (N := some 103) (v := ?_) (a' := ?_) #[true, true, true, true, true, false, false] rfl rfl (by kernel_rfl) (fun _ _ _ h => h) (Or.inl ⟨by rfl, ?_⟩) hHeld ?_ ?_
          rotate_left
          ·rintro w' ⟨s0, s1, s2, s3, s4⟩
           go_simp
           with_reducible rfl
          rotate_left
          ·simp only [Act.put, L1_, L2_, L3_, i64_w, i32_w]
           rfl
          refine take_ (i := 5) (N := some 108) (v := ?_) (a' := ?_) #[true, true, true, true, true, true, false] rfl rfl (by kernel_rfl) (fun _ _ _ h => h) (Or.inl ⟨by rfl, ?_⟩) hHeld ?_ ?_
          rotate_left
          ·rintro w' ⟨s0, s1, s2, s3, s4⟩
           go_simp
           with_reducible rfl
          rotate_left
          ·simp only [Act.put, L1_, L2_, L3_, i64_w, i32_w]
           rfl
          refine pure_ (i := 6) (N := some 109) (v := ?_) (a' := ?_) #[true, true, true, true, true, true, true] rfl rfl (by kernel_rfl) (fun _ _ _ h => h) (Or.inl ⟨by rfl, ?_⟩) ?_ ?_
          rotate_left
          ·intro w'
           go_simp
           with_reducible rfl
          rotate_left
          ·(try go_ints); (try simp (disch := omega) only [n3_]); simp only [Act.put, L1_, L2_, L3_, i64_w, i32_w]
           rfl
          refine done_ (by kernel_rfl) ?_
          try go_wp2
          have n0_ := Aside0.mk (Kd.R_drew HO_2.out)
          have n1_ := Aside0.mk (Kd.Q_drew HO_3.out)
          have n2_ := Aside0.mk (blk_drew BK270.out)
          have n3_ := Aside0.mk (below_drew1 HB.out)
          clear HO_2
          clear HO_3
          clear BK270
          clear HB
          have HO_2 := n0_
          have HO_3 := n1_
          have BK270 := n2_
          have HB := n3_
          clear n0_ n1_ n2_ n3_
          have p273 : 0 ≤ (x10_2 : Int) := of_decide_eq_true (by first | (with_reducible assumption) | assumption)
          have q273 : x10_2 < (y266.length : Int) := of_decide_eq_true (by first | (with_reducible assumption) | assumption)
          obtain ⟨ad273, e273, hx273_0, hx273_1, hx273_2⟩ := at_T141 (Kd.Q_reads' HO_3.out).2.2 x10_2 p273 q273
          (try rw [← Nbq67.out] at hx273_0)
          obtain rfl : ad269 = ad273 := (by injection e273)
          replace p273 := eq_true p273
          replace q273 := eq_true q273
          refine start_ (n := 11) (S := fun w' => w'.cell? ⟨gb270, 0, none⟩ = some (.float .f32 ((rd_T141 y266 (ji63)).f1.f0)) ∧ w'.cell? ⟨gb270, 1, none⟩ = some (.float .f32 ((rd_T141 y266 (ji63)).f1.f1)) ∧ w'.cell? (ad269.add ((x10_2).toNat * 3)) = some (.bool (true)) ∧ w'.cell? ⟨(ad269.add ((x10_2).toNat * 3)).block, (ad269.add ((x10_2).toNat * 3)).off + 1, none⟩ = some (.float .f32 ((rd_T141 y266 x10_2).f1.f0)) ∧ w'.cell? ⟨(ad269.add ((x10_2).toNat * 3)).block, (ad269.add ((x10_2).toNat * 3)).off + 2, none⟩ = some (.float .f32 ((rd_T141 y266 x10_2).f1.f1))) (ds := [8, 9]) #[ff,ff,ff,ff,ff,ff,ff,ff,ff,ff,ff] (by kernel_rfl) rfl rfl ⟨(blk_cell BK270.out 0).trans rfl, (blk_cell BK270.out 1).trans rfl, hx273_0, hx273_1, hx273_2⟩ (fun hHeld => ?_); refine with_tabW spec_ContourRef.tab22 spec_ContourRef.bits22 (fun HT_ HW_ => ?_)
          generalize w75.drew = w76 at HO_2 HO_3 BK270 HB hx273_0 hx273_1 hx273_2 hHeld ⊢
          refine pure_ (i := 0) (N := some 110) (v := ?_) (a' := ?_) #[tt,ff,ff,ff,ff,ff,ff,ff,ff,ff,ff] rfl rfl (any_of HT_.out (by kernel_rfl)) (fun _ _ _ h => h) (Or.inl ⟨by rfl, ?_⟩) ?_ ?_
          rotate_left
          ·intro w'
           go_simp
           with_reducible rfl
          rotate_left
          ·simp only [Act.put, L1_, L2_, L3_, i64_w, i32_w]
           rfl
          refine pure_ (i := 2) (N := some 112) (v := ?_) (a' := ?_) #[tt,ff,tt,ff,ff,ff,ff,ff,ff,ff,ff] rfl rfl (any_of HT_.out (by kernel_rfl)) (fun _ _ _ h => h) (Or.inl ⟨by rfl, ?_⟩) ?_ ?_
          rotate_left
          ·intro w'
           go_simp
           with_reducible rfl
          rotate_left
          ·simp only [Act.put, L1_, L2_, L3_, i64_w, i32_w]
           rfl
          refine pure_ (i := 3) (N := some 113) (v := ?_) (a' := ?_) #[tt,ff,tt,tt,ff,ff,ff,ff,ff,ff,ff] rfl rfl (any_of HT_.out (by kernel_rfl)) (fun _ _ _ h => h) (Or.inl ⟨by rfl, ?_⟩) ?_ ?_
          rotate_left
          ·intro w'
           go_simp
           with_reducible rfl
          rotate_left
          ·simp only [Act.put, L1_, L2_, L3_, i64_w, i32_w]
           rfl
          refine pure_ (i := 4) (N := some 114) (v := ?_) (a' := ?_) #[tt,ff,tt,tt,tt,ff,ff,ff,ff,ff,ff] rfl rfl (any_of HT_.out (by kernel_rfl)) (fun _ _ _ h => h) (Or.inl ⟨by rfl, ?_⟩) ?_ ?_
          rotate_left
          ·intro w'
           go_simp
           with_reducible rfl
          rotate_left
          ·simp only [Act.put, L1_, L2_, L3_, i64_w, i32_w]
           rfl
          refine pure_ (i := 5) (N := some 115) (v := ?_) (a' := ?_) #[tt,ff,tt,tt,tt,tt,ff,ff,ff,ff,ff] rfl rfl (any_of HT_.out (by kernel_rfl)) (fun _ _ _ h => h) (Or.inl ⟨by rfl, ?_⟩) ?_ ?_
          rotate_left
          ·intro w'
           go_simp
           with_reducible rfl
          rotate_left
          ·simp only [Act.put, L1_, L2_, L3_, i64_w, i32_w]
           rfl
          refine take_ (i := 1) (N := some 111) (v := ?_) (a' := ?_) #[tt,tt,tt,tt,tt,tt,ff,ff,ff,ff,ff] rfl rfl (take_ofW HT_.out HW_.out (by kernel_rfl)) (fun _ _ _ h => h) (Or.inl ⟨by rfl, ?_⟩) hHeld ?_ ?_
          rotate_left
          ·rintro w' ⟨s0, s1, s2, s3, s4⟩
           go_simp
           with_reducible rfl
          rotate_left
          ·simp only [Act.put, L1_, L2_, L3_, i64_w, i32_w]
           rfl
          refine take_ (i := 6) (N := some 116) (v := ?_) (a' := ?_) #[tt,tt,tt,tt,tt,tt,tt,ff,ff,ff,ff] rfl rfl (take_ofW HT_.out HW_.out (by kernel_rfl)) (fun _ _ _ h => h) (Or.inl ⟨by rfl, ?_⟩) hHeld ?_ ?_
          rotate_left
          ·rintro w' ⟨s0, s1, s2, s3, s4⟩
           go_simp
           with_reducible rfl
          rotate_left
          ·simp only [Act.put, L1_, L2_, L3_, i64_w, i32_w]
           rfl
          refine pure_ (i := 7) (N := some 117) (v := ?_) (a' := ?_) #[tt,tt,tt,tt,tt,tt,tt,tt,ff,ff,ff] rfl rfl (any_of HT_.out (by kernel_rfl)) (fun _ _ _ h => h) (Or.inl ⟨by rfl, ?_⟩) ?_ ?_
          rotate_left
          ·intro w'
           go_simp
           with_reducible rfl
          rotate_left
          ·simp only [Act.put, L1_, L2_, L3_, i64_w, i32_w]
           rfl
          refine last_ (i := 8) (N := some 118) #[tt,tt,tt,tt,tt,tt,tt,tt,tt,ff,ff] rfl rfl (one_of HT_.out (by kernel_rfl)) (by decide) (fun K hK => ?_)
          refine value_ (w1 := ?_) (v := ?_) (by rfl) rfl ?_ ?_
          rotate_left 2
          ·go_simp
           constructor
           ·rfl
           ·rfl
          refine hK.out _ _ ?_
          clear hK K
          refine norm_ (a' := ?_) ?_ ?_
          rotate_left
          ·show Act.put _ (some 118) _ = _
           simp only [Act.put, L1_, L2_, L3_, i64_w, i32_w]
           rfl
          refine last_ (i := 9) (N := some 119) #[tt,tt,tt,tt,tt,tt,tt,tt,tt,tt,ff] rfl rfl (one_of HT_.out (by kernel_rfl)) (by decide) (fun K hK => ?_)
          refine Kd.R_append_step k129 (w0 := w) w.heap.size (by rfl) (.tmp 110) (.tmp 118) 62 129 (.agg #[(.bool false), (.float .f32 0), (.float .f32 0), (.float .f32 0), (.float .f32 0), (.float .f32 0), (.float .f32 0)]) 28 rfl Try.underlying62 info129 rfl (by decide) (by omega) u2 x2_2 (⟨false, (⟨(rd_T141 y266 (ji63)).f1.f0, (rd_T141 y266 (ji63)).f1.f1⟩ : S124), (⟨0, 0⟩ : S124), (⟨(rd_T141 y266 x10_2).f1.f0, (rd_T141 y266 x10_2).f1.f1⟩ : S124)⟩ : S129) [.bool false, .float .f32 ((rd_T141 y266 (ji63)).f1.f0), .float .f32 ((rd_T141 y266 (ji63)).f1.f1), .float .f32 0, .float .f32 0, .float .f32 ((rd_T141 y266 x10_2).f1.f0), .float .f32 ((rd_T141 y266 x10_2).f1.f1)] (fun _ => True) (fun _ => False) rfl rfl ?aP (fun _ hk => hk.elim) ?aF ?aO ?aB ?aS ?aL ?_
          (case aP => exact k129_mkM _ _ _ (⟨false, (⟨(rd_T141 y266 (ji63)).f1.f0, (rd_T141 y266 (ji63)).f1.f1⟩ : S124), (⟨0, 0⟩ : S124), (⟨(rd_T141 y266 x10_2).f1.f0, (rd_T141 y266 x10_2).f1.f1⟩ : S124)⟩ : S129))
          (case aB => exact (by repeat (first | (with_reducible first | exact HB.out | apply below_alloc | apply pw_below_drewN | apply below_drew1 | refine below_set ?_ GE270.out) | exact HB.out)))
          (case aF => exact (fun _ _ => trivial))
          (case aO => exact (by (with_reducible repeat (first | apply Kd.R_alloc | apply Kd.R_drewN | apply Kd.R_drew)); exact HO_2.out))
          (case aS => exact (below_size (by repeat (first | (with_reducible first | exact HB.out | apply below_alloc | apply pw_below_drewN | apply below_drew1 | refine below_set ?_ GE270.out) | exact HB.out))))
          (case aL => have := LMc70.out; omega)
          intro v275 w77 ho hb hg hat
          rw [← Ny274.out] at ho
          have n0_ := Aside0.mk (Kd.Q_over' (by (with_reducible repeat (first | apply Kd.Q_alloc | apply Kd.Q_drewN | apply Kd.Q_drew)); exact HO_3.out) (Kd.R_typed (by (with_reducible repeat (first | apply Kd.R_alloc | apply Kd.R_drewN | apply Kd.R_drew)); exact HO_2.out)) (by decide) hg)
          have n1_ := Aside0.mk (blk_grown (g := gb270) (o := .cells #[.float .f32 ((rd_T141 y266 (ji63)).f1.f0), .float .f32 ((rd_T141 y266 (ji63)).f1.f1)] 124 (0, 0)) (by (with_reducible repeat (first | apply b1_ | apply b2_ | apply b3_)); exact BK270.out) hg (Kd.R_ne HO_2.out BK270.out (by decide)))
          have n2_ := Aside0.mk (hb)
          have n3_ := Aside0.mk (ho)
          clear HO_3
          clear BK270
          clear HB
          clear HO_2
          have HO_3 := n0_
          have BK270 := n1_
          have HB := n2_
          have HO276 := n3_
          clear n0_ n1_ n2_ n3_
          clear ho hb hg hat
          refine hK.out _ _ ?_
          clear hK K
          refine norm_ (a' := ?_) ?_ ?_
          rotate_left
          ·show Act.put _ (some 119) _ = _
           simp only [Act.put, L1_, L2_, L3_, i64_w, i32_w]
           rfl
          refine pure_ (i := 10) (N := some 2) (v := ?_) (a' := ?_) #[tt,tt,tt,tt,tt,tt,tt,tt,tt,tt,tt] rfl rfl (any_of HT_.out (by kernel_rfl)) (fun _ _ _ h => h) (Or.inl ⟨by rfl, ?_⟩) ?_ ?_
          rotate_left
          ·intro w'
           go_simp
           with_reducible rfl
          rotate_left
          ·simp only [Act.put, L1_, L2_, L3_, i64_w, i32_w]
           rfl
          refine done_ (done_of HT_.out (by kernel_rfl)) ?_
          try go_wp2
          go_roundg k2
          case measure => have := HK1.out; have := HK2.out; omega
          case rel => exact ⟨(y274), (wrap64 (x10_2 + 1)), (by first | rfl | (simp; done) | (simp [*]; done)), (by (try rw [← Nbq67.out]); exact H'), ⟨by have := HK1.out; have := HK2.out; omega⟩, ⟨by (with_reducible repeat (first | apply Kd.R_alloc | apply Kd.R_drewN | apply Kd.R_drew)); exact HO276.out⟩, ⟨by (with_reducible repeat (first | apply Kd.Q_alloc | apply Kd.Q_drewN | apply Kd.Q_drew)); exact HO_3.out⟩, ⟨by repeat (first | (with_reducible first | exact HB.out | apply below_alloc | apply pw_below_drewN | apply below_drew1 | refine below_set ?_ GE270.out) | exact HB.out)⟩⟩
         ·rw [if_neg c69] at H
          have c69b0 : (!(FloatKind.f32.format.order ((rd_T141 y266 (ji63)).f1.f0) ((rd_T141 y266 x10_2).f1.f0) == some .eq) || (!(FloatKind.f32.format.order ((rd_T141 y266 (ji63)).f1.f1) ((rd_T141 y266 x10_2).f1.f1) == some .eq))) = false := by simpa using c69
          clear c69
          have H' := Aside0.mk H
          clear H
          obtain ⟨Ao78, co78, eo78, _⟩ := Kd.Q_slice HO_3.out
          subst eo78
          have p269 : 0 ≤ ((ji63) : Int) := of_decide_eq_true (by first | (with_reducible assumption) | assumption)
          have q269 : (ji63) < (y266.length : Int) := of_decide_eq_true (by first | (with_reducible assumption) | assumption)
          obtain ⟨ad269, e269, hx269_0, hx269_1, hx269_2⟩ := at_T141 (Kd.Q_reads' HO_3.out).2.2 (ji63) p269 q269
          (try rw [← Nbq67.out] at hx269_0)
          cases e269
          replace p269 := eq_true p269
          replace q269 := eq_true q269
          try go_wp2_with (first | ((with_reducible refine gate_dst (N := 11) rfl ?_); refine box_event ?hg (N := 11) ?hd (cs := #[.float .f32 0, .float .f32 0]) (t := 124) ?hr ?_; (case hd => rfl); (case hg => rfl); (case hr => first | (go_simp; done) | (go_simp; rfl)); intro gb270 hg w79 hbox hb; have n0_ := Aside0.mk (Kd.R_below (by (with_reducible repeat (first | apply Kd.R_alloc | apply Kd.R_drewN | apply Kd.R_drew)); exact HO_2.out) hb); have n1_ := Aside0.mk (Kd.Q_below (by (with_reducible repeat (first | apply Kd.Q_alloc | apply Kd.Q_drewN | apply Kd.Q_drew)); exact HO_3.out) hb); have n2_ := Aside0.mk (below_step (by repeat (first | (with_reducible first | exact HB.out | apply below_alloc | apply pw_below_drewN | apply below_drew1) | exact HB.out)) hb); have n3_ := Aside0.mk (hbox); have n4_ := Aside0.mk ((by rw [hg]; exact (below_size (by repeat (first | (with_reducible first | exact HB.out | apply below_alloc | apply pw_below_drewN | apply below_drew1) | exact HB.out))) : w.heap.size ≤ gb270)); have n5_ := Aside0.mk ((by rw [hg]; exact (below_size (by repeat (first | (with_reducible first | exact HB.out | apply below_alloc | apply pw_below_drewN | apply below_drew1) | exact HB.out))) : w.heap.size ≤ gb270)); clear HO_2; clear HO_3; clear HB; have HO_2 := n0_; have HO_3 := n1_; have HB := n2_; have BK270 := n3_; have GW270 := n4_; have GE270 := n5_; clear n0_ n1_ n2_ n3_ n4_ n5_; clear hb hbox hg; have hcz80_0 : w79.cell? ⟨gb270, 0, none⟩ = some (.float .f32 0) := (blk_cell BK270.out 0).trans rfl; have hcz80_1 : w79.cell? ⟨gb270, 1, none⟩ = some (.float .f32 0) := (blk_cell BK270.out 1).trans rfl; have hfz80_0 := blk_frozen BK270.out 0; have hfz80_1 := blk_frozen BK270.out 1; have p271 : 0 ≤ (x10_2 : Int) := of_decide_eq_true (by first | (with_reducible assumption) | assumption); have q271 : x10_2 < (y266.length : Int) := of_decide_eq_true (by first | (with_reducible assumption) | assumption); obtain ⟨ad271, e271, hx271_0, hx271_1, hx271_2⟩ := at_T141 (Kd.Q_reads' HO_3.out).2.2 x10_2 p271 q271; (try rw [← Nbq67.out] at hx271_0); obtain rfl : ad269 = ad271 := (by injection e271); have hn271_0 : ad269.block ≠ gb270 := Kd.own_blk (Kd.Q_ne HO_3.out BK270.out (by decide)); have hn271_1 : ad269.block ≠ gb270 := Kd.own_blk (Kd.Q_ne HO_3.out BK270.out (by decide)); replace hx271_0 := (cell_far (p := ⟨gb270, 0, none⟩) (by first | (rw [add_block]; exact hn271_0) | (show (Addr.add _ _).block ≠ _; rw [add_block]; exact hn271_0) | exact hn271_0) (.float .f32 ((rd_T141 y266 (ji63)).f1.f0))).trans hx271_0; replace hx271_1 := (cell_far (p := ⟨gb270, 0, none⟩) (by first | (rw [add_block]; exact hn271_0) | (show (Addr.add _ _).block ≠ _; rw [add_block]; exact hn271_0) | exact hn271_0) (.float .f32 ((rd_T141 y266 (ji63)).f1.f0))).trans hx271_1; replace hx271_2 := (cell_far (p := ⟨gb270, 0, none⟩) (by first | (rw [add_block]; exact hn271_0) | (show (Addr.add _ _).block ≠ _; rw [add_block]; exact hn271_0) | exact hn271_0) (.float .f32 ((rd_T141 y266 (ji63)).f1.f0))).trans hx271_2; replace hx271_0 := (cell_far (p := ⟨gb270, 1, none⟩) (by first | (rw [add_block]; exact hn271_1) | (show (Addr.add _ _).block ≠ _; rw [add_block]; exact hn271_1) | exact hn271_1) (.float .f32 ((rd_T141 y266 (ji63)).f1.f1))).trans hx271_0; replace hx271_1 := (cell_far (p := ⟨gb270, 1, none⟩) (by first | (rw [add_block]; exact hn271_1) | (show (Addr.add _ _).block ≠ _; rw [add_block]; exact hn271_1) | exact hn271_1) (.float .f32 ((rd_T141 y266 (ji63)).f1.f1))).trans hx271_1; replace hx271_2 := (cell_far (p := ⟨gb270, 1, none⟩) (by first | (rw [add_block]; exact hn271_1) | (show (Addr.add _ _).block ≠ _; rw [add_block]; exact hn271_1) | exact hn271_1) (.float .f32 ((rd_T141 y266 (ji63)).f1.f1))).trans hx271_2; clear hn271_0; clear hn271_1; replace p271 := eq_true p271; replace q271 := eq_true q271))
          have n0_ : Aside0 (Kd.R k129 129 ((w79.setCell ⟨gb270, 0, none⟩ (.float .f32 ((rd_T141 y266 (ji63)).f1.f0))).setCell ⟨gb270, 1, none⟩ (.float .f32 ((rd_T141 y266 (ji63)).f1.f1))) w.heap.size (fun _ => True) u2 x2_2) := ⟨by (with_reducible repeat (first | apply Kd.R_alloc | apply Kd.R_drewN | apply Kd.R_drew)); exact Kd.R_mono (Kd.R_far (p := ⟨gb270, 1, none⟩) (Kd.R_far (p := ⟨gb270, 0, none⟩) (Kd.R_types HO_2.out BK270.out (by decide)) (fun _ hk => hk.2) (.float .f32 ((rd_T141 y266 (ji63)).f1.f0))) (fun _ hk => hk.2) (.float .f32 ((rd_T141 y266 (ji63)).f1.f1))) (fun _ hk => trivial)⟩
          have n1_ : Aside0 (Kd.Q k141 141 ((w79.setCell ⟨gb270, 0, none⟩ (.float .f32 ((rd_T141 y266 (ji63)).f1.f0))).setCell ⟨gb270, 1, none⟩ (.float .f32 ((rd_T141 y266 (ji63)).f1.f1))) w.heap.size (fun _ => True) (.slice (some ad269) y266.length co78) y266) := ⟨by (with_reducible repeat (first | apply Kd.Q_alloc | apply Kd.Q_drewN | apply Kd.Q_drew)); exact Kd.Q_mono (Kd.Q_far (p := ⟨gb270, 1, none⟩) (Kd.Q_far (p := ⟨gb270, 0, none⟩) (Kd.Q_types HO_3.out BK270.out (by decide)) (fun _ hk => hk.2) (.float .f32 ((rd_T141 y266 (ji63)).f1.f0))) (fun _ hk => hk.2) (.float .f32 ((rd_T141 y266 (ji63)).f1.f1))) (fun _ hk => trivial)⟩
          have n2_ : Aside0 (((w79.setCell ⟨gb270, 0, none⟩ (.float .f32 ((rd_T141 y266 (ji63)).f1.f0))).setCell ⟨gb270, 1, none⟩ (.float .f32 ((rd_T141 y266 (ji63)).f1.f1))).heap[gb270]? = some (.cells #[.float .f32 ((rd_T141 y266 (ji63)).f1.f0), .float .f32 ((rd_T141 y266 (ji63)).f1.f1)] 124 (0, 0))) := ⟨by (with_reducible repeat (first | apply b1_ | apply b2_ | apply b3_)); refine blk_put (cs := #[.float .f32 ((rd_T141 y266 (ji63)).f1.f0), .float .f32 0]) ?_ 1 _ rfl; (with_reducible repeat (first | apply b1_ | apply b2_ | apply b3_)); refine blk_put (cs := #[.float .f32 0, .float .f32 0]) ?_ 0 _ rfl; (with_reducible repeat (first | apply b1_ | apply b2_ | apply b3_)); exact BK270.out⟩
          have n3_ : Aside0 (Below w.heap.size w ((w79.setCell ⟨gb270, 0, none⟩ (.float .f32 ((rd_T141 y266 (ji63)).f1.f0))).setCell ⟨gb270, 1, none⟩ (.float .f32 ((rd_T141 y266 (ji63)).f1.f1)))) := ⟨by repeat (first | (with_reducible first | exact HB.out | apply below_alloc | apply pw_below_drewN | apply below_drew1 | refine below_set ?_ GE270.out) | exact HB.out)⟩
          (try clear HO_2)
          (try clear HO_3)
          (try clear BK270)
          (try clear HB)
          generalize ((w79.setCell ⟨gb270, 0, none⟩ (.float .f32 ((rd_T141 y266 (ji63)).f1.f0))).setCell ⟨gb270, 1, none⟩ (.float .f32 ((rd_T141 y266 (ji63)).f1.f1))) = w81 at n0_ n1_ n2_ n3_ ⊢
          have HO_2 := n0_
          have HO_3 := n1_
          have BK270 := n2_
          have HB := n3_
          clear n0_ n1_ n2_ n3_
          have n0_ := Aside0.mk (Kd.R_drew HO_2.out)
          have n1_ := Aside0.mk (Kd.Q_drew HO_3.out)
          have n2_ := Aside0.mk (blk_drew BK270.out)
          have n3_ := Aside0.mk (below_drew1 HB.out)
          clear HO_2
          clear HO_3
          clear BK270
          clear HB
          have HO_2 := n0_
          have HO_3 := n1_
          have BK270 := n2_
          have HB := n3_
          clear n0_ n1_ n2_ n3_
          have p272 : 0 ≤ (x10_2 : Int) := of_decide_eq_true (by first | (with_reducible assumption) | assumption)
          have q272 : x10_2 < (y266.length : Int) := of_decide_eq_true (by first | (with_reducible assumption) | assumption)
          obtain ⟨ad272, e272, hx272_0, hx272_1, hx272_2⟩ := at_T141 (Kd.Q_reads' HO_3.out).2.2 x10_2 p272 q272
          (try rw [← Nbq67.out] at hx272_0)
          obtain rfl : ad269 = ad272 := (by injection e272)
          replace p272 := eq_true p272
          replace q272 := eq_true q272
          refine start_ (n := 7) (S := fun w' => w'.cell? ⟨gb270, 0, none⟩ = some (.float .f32 ((rd_T141 y266 (ji63)).f1.f0)) ∧ w'.cell? ⟨gb270, 1, none⟩ = some (.float .f32 ((rd_T141 y266 (ji63)).f1.f1)) ∧ w'.cell? (ad269.add ((x10_2).toNat * 3)) = some (.bool (true)) ∧ w'.cell? ⟨(ad269.add ((x10_2).toNat * 3)).block, (ad269.add ((x10_2).toNat * 3)).off + 1, none⟩ = some (.float .f32 ((rd_T141 y266 x10_2).f1.f0)) ∧ w'.cell? ⟨(ad269.add ((x10_2).toNat * 3)).block, (ad269.add ((x10_2).toNat * 3)).off + 2, none⟩ = some (.float .f32 ((rd_T141 y266 x10_2).f1.f1))) (ds := []) #[false, false, false, false, false, false, false] (by kernel_rfl) rfl rfl ⟨(blk_cell BK270.out 0).trans rfl, (blk_cell BK270.out 1).trans rfl, hx272_0, hx272_1, hx272_2⟩ (fun hHeld => ?_)
          generalize w81.drew = w82 at HO_2 HO_3 BK270 HB hx272_0 hx272_1 hx272_2 hHeld ⊢
          refine pure_ (i := 1) (N := some 104) (v := ?_) (a' := ?_) #[false, true, false, false, false, false, false] rfl rfl (by kernel_rfl) (fun _ _ _ h => h) (Or.inl ⟨by rfl, ?_⟩) ?_ ?_
          rotate_left
          ·intro w'
           go_simp
           with_reducible rfl
          rotate_left
          ·simp only [Act.put, L1_, L2_, L3_, i64_w, i32_w]
           rfl
          refine pure_ (i := 2) (N := some 105) (v := ?_) (a' := ?_) #[false, true, true, false, false, false, false] rfl rfl (by kernel_rfl) (fun _ _ _ h => h) (Or.inl ⟨by rfl, ?_⟩) ?_ ?_
          rotate_left
          ·intro w'
           go_simp
           with_reducible rfl
          rotate_left
          ·simp only [Act.put, L1_, L2_, L3_, i64_w, i32_w]
           rfl
          refine pure_ (i := 3) (N := some 106) (v := ?_) (a' := ?_) #[false, true, true, true, false, false, false] rfl rfl (by kernel_rfl) (fun _ _ _ h => h) (Or.inl ⟨by rfl, ?_⟩) ?_ ?_
          rotate_left
          ·intro w'
           go_simp
           with_reducible rfl
          rotate_left
          ·simp only [Act.put, L1_, L2_, L3_, i64_w, i32_w]
           rfl
          refine pure_ (i := 4) (N := some 107) (v := ?_) (a' := ?_) #[false, true, true, true, true, false, false] rfl rfl (by kernel_rfl) (fun _ _ _ h => h) (Or.inl ⟨by rfl, ?_⟩) ?_ ?_
          rotate_left
          ·intro w'
           go_simp
           with_reducible rfl
          rotate_left
          ·simp only [Act.put, L1_, L2_, L3_, i64_w, i32_w]
           rfl
          refine take_ (i := 0) (N := some 103) (v := ?_) (a' := ?_) #[true, true, true, true, true, false, false] rfl rfl (by kernel_rfl) (fun _ _ _ h => h) (Or.inl ⟨by rfl, ?_⟩) hHeld ?_ ?_
          rotate_left
          ·rintro w' ⟨s0, s1, s2, s3, s4⟩
           go_simp
           with_reducible rfl
          rotate_left
          ·simp only [Act.put, L1_, L2_, L3_, i64_w, i32_w]
           rfl
          refine take_ (i := 5) (N := some 108) (v := ?_) (a' := ?_) #[true, true, true, true, true, true, false] rfl rfl (by kernel_rfl) (fun _ _ _ h => h) (Or.inl ⟨by rfl, ?_⟩) hHeld ?_ ?_
          rotate_left
          ·rintro w' ⟨s0, s1, s2, s3, s4⟩
           go_simp
           with_reducible rfl
          rotate_left
          ·simp only [Act.put, L1_, L2_, L3_, i64_w, i32_w]
           rfl
          refine pure_ (i := 6) (N := some 109) (v := ?_) (a' := ?_) #[true, true, true, true, true, true, true] rfl rfl (by kernel_rfl) (fun _ _ _ h => h) (Or.inl ⟨by rfl, ?_⟩) ?_ ?_
          rotate_left
          ·intro w'
           go_simp
           with_reducible rfl
          rotate_left
          ·(try go_ints); (try simp (disch := omega) only [n3_]); simp only [Act.put, L1_, L2_, L3_, i64_w, i32_w]
           rfl
          refine done_ (by kernel_rfl) ?_
          try go_wp2
          go_roundg k2
          case measure => have := HK1.out; have := HK2.out; omega
          case rel => exact ⟨(x2_2), (wrap64 (x10_2 + 1)), (by first | rfl | (simp; done) | (simp [*]; done)), (by (try rw [← Nbq67.out]); exact H'), ⟨by have := HK1.out; have := HK2.out; omega⟩, ⟨by (with_reducible repeat (first | apply Kd.R_alloc | apply Kd.R_drewN | apply Kd.R_drew)); exact HO_2.out⟩, ⟨by (with_reducible repeat (first | apply Kd.Q_alloc | apply Kd.Q_drewN | apply Kd.Q_drew)); exact HO_3.out⟩, ⟨by repeat (first | (with_reducible first | exact HB.out | apply below_alloc | apply pw_below_drewN | apply below_drew1 | refine below_set ?_ GE270.out) | exact HB.out)⟩⟩
        ·replace c68 := Bool.eq_false_iff.mpr c68
         subst c68
         have H1 : (if 0 ≤ (wrap64 (x10_2 + 1)) then (if (wrap64 (x10_2 + 1)) < (y266.length : Int) then (if x2_2.length < 5026338869833 then (spec_ContourRef.l1 k2 (x2_2 ++ [(⟨true, (⟨(rd_T141 y266 (ji63)).f1.f0, (rd_T141 y266 (ji63)).f1.f1⟩ : S124), (⟨(rd_T141 y266 x10_2).f1.f0, (rd_T141 y266 x10_2).f1.f1⟩ : S124), (⟨(rd_T141 y266 (wrap64 (x10_2 + 1))).f1.f0, (rd_T141 y266 (wrap64 (x10_2 + 1))).f1.f1⟩ : S124)⟩ : S129)]) y266 (wrap64 ((wrap64 (x10_2 + 1)) + 1))) else (none)) else (none)) else (none)) = some r := by rw [if_neg (show ¬ (false = true) by decide)] at H; exact H
         clear H
         have H := H1
         clear H1
         obtain ⟨ji83, hji83⟩ : ∃ j_ : Int, (wrap64 (x10_2 + 1)) = j_ := ⟨_, rfl⟩
         replace H : (if 0 ≤ (ji83) then (if (ji83) < (y266.length : Int) then (if x2_2.length < 5026338869833 then (spec_ContourRef.l1 k2 (x2_2 ++ [(⟨true, (⟨(rd_T141 y266 (ji63)).f1.f0, (rd_T141 y266 (ji63)).f1.f1⟩ : S124), (⟨(rd_T141 y266 x10_2).f1.f0, (rd_T141 y266 x10_2).f1.f1⟩ : S124), (⟨(rd_T141 y266 (ji83)).f1.f0, (rd_T141 y266 (ji83)).f1.f1⟩ : S124)⟩ : S129)]) y266 (wrap64 ((ji83) + 1))) else (none)) else (none)) else (none)) = some r := by first | (rw [hji83] at H; exact H) | (simp only [hji83] at H ⊢; exact H)
         have hji83w : (IntKind.i64.wrap (x10_2 + 1)) = ji83 := (i64_w _).trans hji83
         by_cases c84 : 0 ≤ (ji83)
         rotate_left
         ·rw [if_neg c84] at H
          exact absurd H (by simp)
         rw [if_pos c84] at H
         have c84b0 : decide (0 ≤ (ji83)) = true := decide_eq_true c84
         clear c84
         by_cases c85 : (ji83) < (y266.length : Int)
         rotate_left
         ·rw [if_neg c85] at H
          exact absurd H (by simp)
         rw [if_pos c85] at H
         have c85b0 : decide ((ji83) < (y266.length : Int)) = true := decide_eq_true c85
         clear c85
         by_cases c86 : x2_2.length < 5026338869833
         rotate_left
         ·rw [if_neg c86] at H
          exact absurd H (by simp)
         rw [if_pos c86] at H
         have LMc86 := Aside0.mk c86
         clear c86
         obtain ⟨y279, hy279⟩ : ∃ y_ : List (S129), y_ = (x2_2 ++ [(⟨true, (⟨(rd_T141 y266 (ji63)).f1.f0, (rd_T141 y266 (ji63)).f1.f1⟩ : S124), (⟨(rd_T141 y266 x10_2).f1.f0, (rd_T141 y266 x10_2).f1.f1⟩ : S124), (⟨(rd_T141 y266 (ji83)).f1.f0, (rd_T141 y266 (ji83)).f1.f1⟩ : S124)⟩ : S129)]) := ⟨_, rfl⟩
         replace H : (spec_ContourRef.l1 k2 y279 y266 (wrap64 ((ji83) + 1))) = some r := by first | (rw [hy279]; with_reducible exact H) | (have H2_ := (Option.bind_some _ _).symm.trans H; rw [hy279]; with_reducible exact H2_) | (have H2_ := (Option.bind_some _ _).symm.trans H; with_reducible exact H2_) | with_reducible exact H | (rw [hy279]; exact H) | exact H
         have Ny279 := Aside0.mk hy279
         clear hy279
         have H' := Aside0.mk H
         clear H
         obtain ⟨Ao87, co87, eo87, _⟩ := Kd.Q_slice HO_3.out
         subst eo87
         have p269 : 0 ≤ ((ji63) : Int) := of_decide_eq_true (by first | (with_reducible assumption) | assumption)
         have q269 : (ji63) < (y266.length : Int) := of_decide_eq_true (by first | (with_reducible assumption) | assumption)
         obtain ⟨ad269, e269, hx269_0, hx269_1, hx269_2⟩ := at_T141 (Kd.Q_reads' HO_3.out).2.2 (ji63) p269 q269
         (try rw [← Nbq67.out] at hx269_0)
         cases e269
         replace p269 := eq_true p269
         replace q269 := eq_true q269
         try go_wp2_with (first | ((with_reducible refine gate_dst (N := 11) rfl ?_); refine box_event ?hg (N := 11) ?hd (cs := #[.float .f32 0, .float .f32 0]) (t := 124) ?hr ?_; (case hd => rfl); (case hg => rfl); (case hr => first | (go_simp; done) | (go_simp; rfl)); intro gb270 hg w88 hbox hb; have n0_ := Aside0.mk (Kd.R_below (by (with_reducible repeat (first | apply Kd.R_alloc | apply Kd.R_drewN | apply Kd.R_drew)); exact HO_2.out) hb); have n1_ := Aside0.mk (Kd.Q_below (by (with_reducible repeat (first | apply Kd.Q_alloc | apply Kd.Q_drewN | apply Kd.Q_drew)); exact HO_3.out) hb); have n2_ := Aside0.mk (below_step (by repeat (first | (with_reducible first | exact HB.out | apply below_alloc | apply pw_below_drewN | apply below_drew1) | exact HB.out)) hb); have n3_ := Aside0.mk (hbox); have n4_ := Aside0.mk ((by rw [hg]; exact (below_size (by repeat (first | (with_reducible first | exact HB.out | apply below_alloc | apply pw_below_drewN | apply below_drew1) | exact HB.out))) : w.heap.size ≤ gb270)); have n5_ := Aside0.mk ((by rw [hg]; exact (below_size (by repeat (first | (with_reducible first | exact HB.out | apply below_alloc | apply pw_below_drewN | apply below_drew1) | exact HB.out))) : w.heap.size ≤ gb270)); clear HO_2; clear HO_3; clear HB; have HO_2 := n0_; have HO_3 := n1_; have HB := n2_; have BK270 := n3_; have GW270 := n4_; have GE270 := n5_; clear n0_ n1_ n2_ n3_ n4_ n5_; clear hb hbox hg; have hcz89_0 : w88.cell? ⟨gb270, 0, none⟩ = some (.float .f32 0) := (blk_cell BK270.out 0).trans rfl; have hcz89_1 : w88.cell? ⟨gb270, 1, none⟩ = some (.float .f32 0) := (blk_cell BK270.out 1).trans rfl; have hfz89_0 := blk_frozen BK270.out 0; have hfz89_1 := blk_frozen BK270.out 1; have p271 : 0 ≤ (x10_2 : Int) := of_decide_eq_true (by first | (with_reducible assumption) | assumption); have q271 : x10_2 < (y266.length : Int) := of_decide_eq_true (by first | (with_reducible assumption) | assumption); obtain ⟨ad271, e271, hx271_0, hx271_1, hx271_2⟩ := at_T141 (Kd.Q_reads' HO_3.out).2.2 x10_2 p271 q271; (try rw [← Nbq67.out] at hx271_0); obtain rfl : ad269 = ad271 := (by injection e271); have hn271_0 : ad269.block ≠ gb270 := Kd.own_blk (Kd.Q_ne HO_3.out BK270.out (by decide)); have hn271_1 : ad269.block ≠ gb270 := Kd.own_blk (Kd.Q_ne HO_3.out BK270.out (by decide)); replace hx271_0 := (cell_far (p := ⟨gb270, 0, none⟩) (by first | (rw [add_block]; exact hn271_0) | (show (Addr.add _ _).block ≠ _; rw [add_block]; exact hn271_0) | exact hn271_0) (.float .f32 ((rd_T141 y266 (ji63)).f1.f0))).trans hx271_0; replace hx271_1 := (cell_far (p := ⟨gb270, 0, none⟩) (by first | (rw [add_block]; exact hn271_0) | (show (Addr.add _ _).block ≠ _; rw [add_block]; exact hn271_0) | exact hn271_0) (.float .f32 ((rd_T141 y266 (ji63)).f1.f0))).trans hx271_1; replace hx271_2 := (cell_far (p := ⟨gb270, 0, none⟩) (by first | (rw [add_block]; exact hn271_0) | (show (Addr.add _ _).block ≠ _; rw [add_block]; exact hn271_0) | exact hn271_0) (.float .f32 ((rd_T141 y266 (ji63)).f1.f0))).trans hx271_2; replace hx271_0 := (cell_far (p := ⟨gb270, 1, none⟩) (by first | (rw [add_block]; exact hn271_1) | (show (Addr.add _ _).block ≠ _; rw [add_block]; exact hn271_1) | exact hn271_1) (.float .f32 ((rd_T141 y266 (ji63)).f1.f1))).trans hx271_0; replace hx271_1 := (cell_far (p := ⟨gb270, 1, none⟩) (by first | (rw [add_block]; exact hn271_1) | (show (Addr.add _ _).block ≠ _; rw [add_block]; exact hn271_1) | exact hn271_1) (.float .f32 ((rd_T141 y266 (ji63)).f1.f1))).trans hx271_1; replace hx271_2 := (cell_far (p := ⟨gb270, 1, none⟩) (by first | (rw [add_block]; exact hn271_1) | (show (Addr.add _ _).block ≠ _; rw [add_block]; exact hn271_1) | exact hn271_1) (.float .f32 ((rd_T141 y266 (ji63)).f1.f1))).trans hx271_2; clear hn271_0; clear hn271_1; replace p271 := eq_true p271; replace q271 := eq_true q271))
         have n0_ : Aside0 (Kd.R k129 129 ((w88.setCell ⟨gb270, 0, none⟩ (.float .f32 ((rd_T141 y266 (ji63)).f1.f0))).setCell ⟨gb270, 1, none⟩ (.float .f32 ((rd_T141 y266 (ji63)).f1.f1))) w.heap.size (fun _ => True) u2 x2_2) := ⟨by (with_reducible repeat (first | apply Kd.R_alloc | apply Kd.R_drewN | apply Kd.R_drew)); exact Kd.R_mono (Kd.R_far (p := ⟨gb270, 1, none⟩) (Kd.R_far (p := ⟨gb270, 0, none⟩) (Kd.R_types HO_2.out BK270.out (by decide)) (fun _ hk => hk.2) (.float .f32 ((rd_T141 y266 (ji63)).f1.f0))) (fun _ hk => hk.2) (.float .f32 ((rd_T141 y266 (ji63)).f1.f1))) (fun _ hk => trivial)⟩
         have n1_ : Aside0 (Kd.Q k141 141 ((w88.setCell ⟨gb270, 0, none⟩ (.float .f32 ((rd_T141 y266 (ji63)).f1.f0))).setCell ⟨gb270, 1, none⟩ (.float .f32 ((rd_T141 y266 (ji63)).f1.f1))) w.heap.size (fun _ => True) (.slice (some ad269) y266.length co87) y266) := ⟨by (with_reducible repeat (first | apply Kd.Q_alloc | apply Kd.Q_drewN | apply Kd.Q_drew)); exact Kd.Q_mono (Kd.Q_far (p := ⟨gb270, 1, none⟩) (Kd.Q_far (p := ⟨gb270, 0, none⟩) (Kd.Q_types HO_3.out BK270.out (by decide)) (fun _ hk => hk.2) (.float .f32 ((rd_T141 y266 (ji63)).f1.f0))) (fun _ hk => hk.2) (.float .f32 ((rd_T141 y266 (ji63)).f1.f1))) (fun _ hk => trivial)⟩
         have n2_ : Aside0 (((w88.setCell ⟨gb270, 0, none⟩ (.float .f32 ((rd_T141 y266 (ji63)).f1.f0))).setCell ⟨gb270, 1, none⟩ (.float .f32 ((rd_T141 y266 (ji63)).f1.f1))).heap[gb270]? = some (.cells #[.float .f32 ((rd_T141 y266 (ji63)).f1.f0), .float .f32 ((rd_T141 y266 (ji63)).f1.f1)] 124 (0, 0))) := ⟨by (with_reducible repeat (first | apply b1_ | apply b2_ | apply b3_)); refine blk_put (cs := #[.float .f32 ((rd_T141 y266 (ji63)).f1.f0), .float .f32 0]) ?_ 1 _ rfl; (with_reducible repeat (first | apply b1_ | apply b2_ | apply b3_)); refine blk_put (cs := #[.float .f32 0, .float .f32 0]) ?_ 0 _ rfl; (with_reducible repeat (first | apply b1_ | apply b2_ | apply b3_)); exact BK270.out⟩
         have n3_ : Aside0 (Below w.heap.size w ((w88.setCell ⟨gb270, 0, none⟩ (.float .f32 ((rd_T141 y266 (ji63)).f1.f0))).setCell ⟨gb270, 1, none⟩ (.float .f32 ((rd_T141 y266 (ji63)).f1.f1)))) := ⟨by repeat (first | (with_reducible first | exact HB.out | apply below_alloc | apply pw_below_drewN | apply below_drew1 | refine below_set ?_ GE270.out) | exact HB.out)⟩
         (try clear HO_2)
         (try clear HO_3)
         (try clear BK270)
         (try clear HB)
         generalize ((w88.setCell ⟨gb270, 0, none⟩ (.float .f32 ((rd_T141 y266 (ji63)).f1.f0))).setCell ⟨gb270, 1, none⟩ (.float .f32 ((rd_T141 y266 (ji63)).f1.f1))) = w90 at n0_ n1_ n2_ n3_ ⊢
         have HO_2 := n0_
         have HO_3 := n1_
         have BK270 := n2_
         have HB := n3_
         clear n0_ n1_ n2_ n3_
         have n0_ := Aside0.mk (Kd.R_drew HO_2.out)
         have n1_ := Aside0.mk (Kd.Q_drew HO_3.out)
         have n2_ := Aside0.mk (blk_drew BK270.out)
         have n3_ := Aside0.mk (below_drew1 HB.out)
         clear HO_2
         clear HO_3
         clear BK270
         clear HB
         have HO_2 := n0_
         have HO_3 := n1_
         have BK270 := n2_
         have HB := n3_
         clear n0_ n1_ n2_ n3_
         have p277 : 0 ≤ (x10_2 : Int) := of_decide_eq_true (by first | (with_reducible assumption) | assumption)
         have q277 : x10_2 < (y266.length : Int) := of_decide_eq_true (by first | (with_reducible assumption) | assumption)
         obtain ⟨ad277, e277, hx277_0, hx277_1, hx277_2⟩ := at_T141 (Kd.Q_reads' HO_3.out).2.2 x10_2 p277 q277
         (try rw [← Nbq67.out] at hx277_0)
         obtain rfl : ad269 = ad277 := (by injection e277)
         replace p277 := eq_true p277
         replace q277 := eq_true q277
         have p278 : 0 ≤ ((ji83) : Int) := of_decide_eq_true (by first | (with_reducible assumption) | assumption)
         have q278 : (ji83) < (y266.length : Int) := of_decide_eq_true (by first | (with_reducible assumption) | assumption)
         obtain ⟨ad278, e278, hx278_0, hx278_1, hx278_2⟩ := at_T141 (Kd.Q_reads' HO_3.out).2.2 (ji83) p278 q278
         (try rw [← Nbq67.out] at hx278_0)
         obtain rfl : ad269 = ad278 := (by injection e278)
         replace p278 := eq_true p278
         replace q278 := eq_true q278
         refine start_ (n := 17) (S := fun w' => w'.cell? ⟨gb270, 0, none⟩ = some (.float .f32 ((rd_T141 y266 (ji63)).f1.f0)) ∧ w'.cell? ⟨gb270, 1, none⟩ = some (.float .f32 ((rd_T141 y266 (ji63)).f1.f1)) ∧ w'.cell? (ad269.add ((x10_2).toNat * 3)) = some (.bool (false)) ∧ w'.cell? ⟨(ad269.add ((x10_2).toNat * 3)).block, (ad269.add ((x10_2).toNat * 3)).off + 1, none⟩ = some (.float .f32 ((rd_T141 y266 x10_2).f1.f0)) ∧ w'.cell? ⟨(ad269.add ((x10_2).toNat * 3)).block, (ad269.add ((x10_2).toNat * 3)).off + 2, none⟩ = some (.float .f32 ((rd_T141 y266 x10_2).f1.f1)) ∧ w'.cell? (ad269.add (((ji83)).toNat * 3)) = some (.bool ((rd_T141 y266 (ji83)).f0)) ∧ w'.cell? ⟨(ad269.add (((ji83)).toNat * 3)).block, (ad269.add (((ji83)).toNat * 3)).off + 1, none⟩ = some (.float .f32 ((rd_T141 y266 (ji83)).f1.f0)) ∧ w'.cell? ⟨(ad269.add (((ji83)).toNat * 3)).block, (ad269.add (((ji83)).toNat * 3)).off + 2, none⟩ = some (.float .f32 ((rd_T141 y266 (ji83)).f1.f1))) (ds := [14, 15]) #[ff,ff,ff,ff,ff,ff,ff,ff,ff,ff,ff,ff,ff,ff,ff,ff,ff] (by kernel_rfl) rfl rfl ⟨(blk_cell BK270.out 0).trans rfl, (blk_cell BK270.out 1).trans rfl, hx277_0, hx277_1, hx277_2, hx278_0, hx278_1, hx278_2⟩ (fun hHeld => ?_); refine with_tabW spec_ContourRef.tab23 spec_ContourRef.bits23 (fun HT_ HW_ => ?_)
         generalize w90.drew = w91 at HO_2 HO_3 BK270 HB hx277_0 hx277_1 hx277_2 hx278_0 hx278_1 hx278_2 hHeld ⊢
         refine pure_ (i := 0) (N := some 120) (v := ?_) (a' := ?_) #[tt,ff,ff,ff,ff,ff,ff,ff,ff,ff,ff,ff,ff,ff,ff,ff,ff] rfl rfl (any_of HT_.out (by kernel_rfl)) (fun _ _ _ h => h) (Or.inl ⟨by rfl, ?_⟩) ?_ ?_
         rotate_left
         ·intro w'
          go_simp
          with_reducible rfl
         rotate_left
         ·simp only [Act.put, L1_, L2_, L3_, i64_w, i32_w]
          rfl
         refine pure_ (i := 2) (N := some 122) (v := ?_) (a' := ?_) #[tt,ff,tt,ff,ff,ff,ff,ff,ff,ff,ff,ff,ff,ff,ff,ff,ff] rfl rfl (any_of HT_.out (by kernel_rfl)) (fun _ _ _ h => h) (Or.inl ⟨by rfl, ?_⟩) ?_ ?_
         rotate_left
         ·intro w'
          go_simp
          with_reducible rfl
         rotate_left
         ·simp only [Act.put, L1_, L2_, L3_, i64_w, i32_w]
          rfl
         refine pure_ (i := 3) (N := some 123) (v := ?_) (a' := ?_) #[tt,ff,tt,tt,ff,ff,ff,ff,ff,ff,ff,ff,ff,ff,ff,ff,ff] rfl rfl (any_of HT_.out (by kernel_rfl)) (fun _ _ _ h => h) (Or.inl ⟨by rfl, ?_⟩) ?_ ?_
         rotate_left
         ·intro w'
          go_simp
          with_reducible rfl
         rotate_left
         ·simp only [Act.put, L1_, L2_, L3_, i64_w, i32_w]
          rfl
         refine pure_ (i := 4) (N := some 124) (v := ?_) (a' := ?_) #[tt,ff,tt,tt,tt,ff,ff,ff,ff,ff,ff,ff,ff,ff,ff,ff,ff] rfl rfl (any_of HT_.out (by kernel_rfl)) (fun _ _ _ h => h) (Or.inl ⟨by rfl, ?_⟩) ?_ ?_
         rotate_left
         ·intro w'
          go_simp
          with_reducible rfl
         rotate_left
         ·simp only [Act.put, L1_, L2_, L3_, i64_w, i32_w]
          rfl
         refine pure_ (i := 5) (N := some 125) (v := ?_) (a' := ?_) #[tt,ff,tt,tt,tt,tt,ff,ff,ff,ff,ff,ff,ff,ff,ff,ff,ff] rfl rfl (any_of HT_.out (by kernel_rfl)) (fun _ _ _ h => h) (Or.inl ⟨by rfl, ?_⟩) ?_ ?_
         rotate_left
         ·intro w'
          go_simp
          with_reducible rfl
         rotate_left
         ·simp only [Act.put, L1_, L2_, L3_, i64_w, i32_w]
          rfl
         refine pure_ (i := 7) (N := some 127) (v := ?_) (a' := ?_) #[tt,ff,tt,tt,tt,tt,ff,tt,ff,ff,ff,ff,ff,ff,ff,ff,ff] rfl rfl (any_of HT_.out (by kernel_rfl)) (fun _ _ _ h => h) (Or.inl ⟨by rfl, ?_⟩) ?_ ?_
         rotate_left
         ·intro w'
          go_simp
          with_reducible rfl
         rotate_left
         ·simp only [Act.put, L1_, L2_, L3_, i64_w, i32_w]
          rfl
         refine pure_ (i := 8) (N := some 128) (v := ?_) (a' := ?_) #[tt,ff,tt,tt,tt,tt,ff,tt,tt,ff,ff,ff,ff,ff,ff,ff,ff] rfl rfl (any_of HT_.out (by kernel_rfl)) (fun _ _ _ h => h) (Or.inl ⟨by rfl, ?_⟩) ?_ ?_
         rotate_left
         ·intro w'
          go_simp
          with_reducible rfl
         rotate_left
         ·simp only [Act.put, L1_, L2_, L3_, i64_w, i32_w]
          rfl
         refine pure_ (i := 9) (N := some 129) (v := ?_) (a' := ?_) #[tt,ff,tt,tt,tt,tt,ff,tt,tt,tt,ff,ff,ff,ff,ff,ff,ff] rfl rfl (any_of HT_.out (by kernel_rfl)) (fun _ _ _ h => h) (Or.inl ⟨by rfl, ?_⟩) ?_ ?_
         rotate_left
         ·intro w'
          go_simp
          with_reducible rfl
         rotate_left
         ·(try go_ints); (try simp (disch := omega) only [n3_]); simp only [Act.put, L1_, L2_, L3_, i64_w, i32_w]
          rfl
         refine pure_ (i := 10) (N := some 130) (v := ?_) (a' := ?_) #[tt,ff,tt,tt,tt,tt,ff,tt,tt,tt,tt,ff,ff,ff,ff,ff,ff] rfl rfl (any_of HT_.out (by kernel_rfl)) (fun _ _ _ h => h) (Or.inl ⟨by rfl, ?_⟩) ?_ ?_
         rotate_left
         ·intro w'
          go_simp
          with_reducible rfl
         rotate_left
         ·simp only [Act.put, L1_, L2_, L3_, i64_w, i32_w]
          rfl
         refine pure_ (i := 11) (N := some 131) (v := ?_) (a' := ?_) #[tt,ff,tt,tt,tt,tt,ff,tt,tt,tt,tt,tt,ff,ff,ff,ff,ff] rfl rfl (any_of HT_.out (by kernel_rfl)) (fun _ _ _ h => h) (Or.inl ⟨by rfl, ?_⟩) ?_ ?_
         rotate_left
         ·intro w'
          go_simp
          with_reducible rfl
         rotate_left
         ·simp only [Act.put, L1_, L2_, L3_, i64_w, i32_w]
          rfl
         refine take_ (i := 1) (N := some 121) (v := ?_) (a' := ?_) #[tt,tt,tt,tt,tt,tt,ff,tt,tt,tt,tt,tt,ff,ff,ff,ff,ff] rfl rfl (take_ofW HT_.out HW_.out (by kernel_rfl)) (fun _ _ _ h => h) (Or.inl ⟨by rfl, ?_⟩) hHeld ?_ ?_
         rotate_left
         ·rintro w' ⟨s0, s1, s2, s3, s4, s5, s6, s7⟩
          go_simp
          with_reducible rfl
         rotate_left
         ·simp only [Act.put, L1_, L2_, L3_, i64_w, i32_w]
          rfl
         refine take_ (i := 6) (N := some 126) (v := ?_) (a' := ?_) #[tt,tt,tt,tt,tt,tt,tt,tt,tt,tt,tt,tt,ff,ff,ff,ff,ff] rfl rfl (take_ofW HT_.out HW_.out (by kernel_rfl)) (fun _ _ _ h => h) (Or.inl ⟨by rfl, ?_⟩) hHeld ?_ ?_
         rotate_left
         ·rintro w' ⟨s0, s1, s2, s3, s4, s5, s6, s7⟩
          go_simp
          with_reducible rfl
         rotate_left
         ·simp only [Act.put, L1_, L2_, L3_, i64_w, i32_w]
          rfl
         refine take_ (i := 12) (N := some 132) (v := ?_) (a' := ?_) #[tt,tt,tt,tt,tt,tt,tt,tt,tt,tt,tt,tt,tt,ff,ff,ff,ff] rfl rfl (take_ofW HT_.out HW_.out (by kernel_rfl)) (fun _ _ _ h => h) (Or.inl ⟨by rfl, ?_⟩) hHeld ?_ ?_
         rotate_left
         ·rintro w' ⟨s0, s1, s2, s3, s4, s5, s6, s7⟩
          go_simp
          with_reducible rfl
         rotate_left
         ·simp only [Act.put, L1_, L2_, L3_, i64_w, i32_w]
          rfl
         refine pure_ (i := 13) (N := some 133) (v := ?_) (a' := ?_) #[tt,tt,tt,tt,tt,tt,tt,tt,tt,tt,tt,tt,tt,tt,ff,ff,ff] rfl rfl (any_of HT_.out (by kernel_rfl)) (fun _ _ _ h => h) (Or.inl ⟨by rfl, ?_⟩) ?_ ?_
         rotate_left
         ·intro w'
          go_simp
          with_reducible rfl
         rotate_left
         ·simp only [Act.put, L1_, L2_, L3_, i64_w, i32_w]
          rfl
         refine last_ (i := 14) (N := some 134) #[tt,tt,tt,tt,tt,tt,tt,tt,tt,tt,tt,tt,tt,tt,tt,ff,ff] rfl rfl (one_of HT_.out (by kernel_rfl)) (by decide) (fun K hK => ?_)
         refine value_ (w1 := ?_) (v := ?_) (by rfl) rfl ?_ ?_
         rotate_left 2
         ·go_simp
          constructor
          ·rfl
          ·rfl
         refine hK.out _ _ ?_
         clear hK K
         refine norm_ (a' := ?_) ?_ ?_
         rotate_left
         ·show Act.put _ (some 134) _ = _
          simp only [Act.put, L1_, L2_, L3_, i64_w, i32_w]
          rfl
         refine last_ (i := 15) (N := some 135) #[tt,tt,tt,tt,tt,tt,tt,tt,tt,tt,tt,tt,tt,tt,tt,tt,ff] rfl rfl (one_of HT_.out (by kernel_rfl)) (by decide) (fun K hK => ?_)
         refine Kd.R_append_step k129 (w0 := w) w.heap.size (by rfl) (.tmp 120) (.tmp 134) 62 129 (.agg #[(.bool false), (.float .f32 0), (.float .f32 0), (.float .f32 0), (.float .f32 0), (.float .f32 0), (.float .f32 0)]) 28 rfl Try.underlying62 info129 rfl (by decide) (by omega) u2 x2_2 (⟨true, (⟨(rd_T141 y266 (ji63)).f1.f0, (rd_T141 y266 (ji63)).f1.f1⟩ : S124), (⟨(rd_T141 y266 x10_2).f1.f0, (rd_T141 y266 x10_2).f1.f1⟩ : S124), (⟨(rd_T141 y266 (ji83)).f1.f0, (rd_T141 y266 (ji83)).f1.f1⟩ : S124)⟩ : S129) [.bool true, .float .f32 ((rd_T141 y266 (ji63)).f1.f0), .float .f32 ((rd_T141 y266 (ji63)).f1.f1), .float .f32 ((rd_T141 y266 x10_2).f1.f0), .float .f32 ((rd_T141 y266 x10_2).f1.f1), .float .f32 ((rd_T141 y266 (ji83)).f1.f0), .float .f32 ((rd_T141 y266 (ji83)).f1.f1)] (fun _ => True) (fun _ => False) rfl rfl ?aP (fun _ hk => hk.elim) ?aF ?aO ?aB ?aS ?aL ?_
         (case aP => exact k129_mkM _ _ _ (⟨true, (⟨(rd_T141 y266 (ji63)).f1.f0, (rd_T141 y266 (ji63)).f1.f1⟩ : S124), (⟨(rd_T141 y266 x10_2).f1.f0, (rd_T141 y266 x10_2).f1.f1⟩ : S124), (⟨(rd_T141 y266 (ji83)).f1.f0, (rd_T141 y266 (ji83)).f1.f1⟩ : S124)⟩ : S129))
         (case aB => exact (by repeat (first | (with_reducible first | exact HB.out | apply below_alloc | apply pw_below_drewN | apply below_drew1 | refine below_set ?_ GE270.out) | exact HB.out)))
         (case aF => exact (fun _ _ => trivial))
         (case aO => exact (by (with_reducible repeat (first | apply Kd.R_alloc | apply Kd.R_drewN | apply Kd.R_drew)); exact HO_2.out))
         (case aS => exact (below_size (by repeat (first | (with_reducible first | exact HB.out | apply below_alloc | apply pw_below_drewN | apply below_drew1 | refine below_set ?_ GE270.out) | exact HB.out))))
         (case aL => have := LMc86.out; omega)
         intro v280 w92 ho hb hg hat
         rw [← Ny279.out] at ho
         have n0_ := Aside0.mk (Kd.Q_over' (by (with_reducible repeat (first | apply Kd.Q_alloc | apply Kd.Q_drewN | apply Kd.Q_drew)); exact HO_3.out) (Kd.R_typed (by (with_reducible repeat (first | apply Kd.R_alloc | apply Kd.R_drewN | apply Kd.R_drew)); exact HO_2.out)) (by decide) hg)
         have n1_ := Aside0.mk (blk_grown (g := gb270) (o := .cells #[.float .f32 ((rd_T141 y266 (ji63)).f1.f0), .float .f32 ((rd_T141 y266 (ji63)).f1.f1)] 124 (0, 0)) (by (with_reducible repeat (first | apply b1_ | apply b2_ | apply b3_)); exact BK270.out) hg (Kd.R_ne HO_2.out BK270.out (by decide)))
         have n2_ := Aside0.mk (hb)
         have n3_ := Aside0.mk (ho)
         clear HO_3
         clear BK270
         clear HB
         clear HO_2
         have HO_3 := n0_
         have BK270 := n1_
         have HB := n2_
         have HO281 := n3_
         clear n0_ n1_ n2_ n3_
         clear ho hb hg hat
         refine hK.out _ _ ?_
         clear hK K
         refine norm_ (a' := ?_) ?_ ?_
         rotate_left
         ·show Act.put _ (some 135) _ = _
          simp only [Act.put, L1_, L2_, L3_, i64_w, i32_w]
          rfl
         refine pure_ (i := 16) (N := some 2) (v := ?_) (a' := ?_) #[tt,tt,tt,tt,tt,tt,tt,tt,tt,tt,tt,tt,tt,tt,tt,tt,tt] rfl rfl (any_of HT_.out (by kernel_rfl)) (fun _ _ _ h => h) (Or.inl ⟨by rfl, ?_⟩) ?_ ?_
         rotate_left
         ·intro w'
          go_simp
          with_reducible rfl
         rotate_left
         ·simp only [Act.put, L1_, L2_, L3_, i64_w, i32_w]
          rfl
         refine done_ (done_of HT_.out (by kernel_rfl)) ?_
         try go_wp2
         go_roundg k2
         case measure => have := HK1.out; have := HK2.out; omega
         case rel => exact ⟨(y279), (wrap64 ((ji83) + 1)), (by first | rfl | (simp; done) | (simp only [← hji83] <;> (first | rfl | simp)) | (simp [*]; done)), (by (try rw [← Nbq67.out]); exact H'), ⟨by have := HK1.out; have := HK2.out; omega⟩, ⟨by (with_reducible repeat (first | apply Kd.R_alloc | apply Kd.R_drewN | apply Kd.R_drew)); exact HO281.out⟩, ⟨by (with_reducible repeat (first | apply Kd.Q_alloc | apply Kd.Q_drewN | apply Kd.Q_drew)); exact HO_3.out⟩, ⟨by repeat (first | (with_reducible first | exact HB.out | apply below_alloc | apply pw_below_drewN | apply below_drew1 | refine below_set ?_ GE270.out) | exact HB.out)⟩⟩
       ·rw [if_neg c62] at H
        have c62b0 : decide (x10_2 < (y266.length : Int)) = false := decide_eq_false c62
        clear c62
        obtain rfl := Option.some.inj H
        obtain ⟨Ao93, co93, eo93, _⟩ := Kd.Q_slice HO_3.out
        subst eo93
        go_wp2
        go_ret
        exact ⟨_, by first | rfl | (simp [errW_none, errW_some] <;> rfl) | (simp only [← hji51]; first | rfl | (simp [errW_none, errW_some] <;> rfl)) | (simp [*, errW_none, errW_some] <;> rfl), by (with_reducible repeat (first | apply Kd.R_alloc | apply Kd.R_drewN | apply Kd.R_drew)); exact HO_2.out, by repeat (first | (with_reducible first | exact HB.out | apply below_alloc | apply pw_below_drewN | apply below_drew1) | exact HB.out)⟩

end Go.Proofs.Ytlbmfnjhpojghaa.PFnContours
