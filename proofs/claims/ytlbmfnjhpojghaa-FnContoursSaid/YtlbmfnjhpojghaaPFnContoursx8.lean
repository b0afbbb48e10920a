-- Written by a program of this session (xprint) out of the translation; Lean checks it.
import Derived.Test.YtlbmfnjhpojghaaPFnContoursx0
import Derived.Test.YtlbmfnjhpojghaaPFnContoursx2
import Derived.Test.YtlbmfnjhpojghaaPFnContoursx5
import Derived.Test.YtlbmfnjhpojghaaPFnContoursx6
import Derived.Test.YtlbmfnjhpojghaaPFnContoursx7
import Derived.Lib.LazyBuf
namespace Go.Proofs.Ytlbmfnjhpojghaa.PFnContours
open Go.RowKit Go.Proofs.YtlbmfnjhpojghaaW.PrintWords Go.Proofs.YtlbmfnjhpojghaaW.PrintLast Go.Proofs.YtlbmfnjhpojghaaW.PrintMore
attribute [local go_sem] max2_int min2_int max_two min_two max_three min_three max_four min_four   -- for this text's walks alone
set_option linter.unusedVariables false
set_option linter.unusedSimpArgs false

attribute [local go_sem high] eqA129
attribute [local go_sem] f_add f_sub f_mul f_quo f_conv f_same f_int f_max f_store
/-! ### font_ZzContours: function 40 -/
def font_ZzContours.l0 : Nat → List (S198) → List (S133) → Int → Int → Option ((List (S195)))
 | 0, _, _, _, _ => none
 | k + 1, x3, x6, x7, x8 => if x8 < x7 then (if 0 ≤ x8 then (if x8 < (x6.length : Int) then (if x3.length < 11728124029610 then (font_ZzContours.l0 k (x3 ++ [(⟨(⟨(rd_T133 x6 x8).f2, (rd_T133 x6 x8).f3⟩ : S192), (rd_T133 x6 x8).f0, (rd_T133 x6 x8).f1, false⟩ : S198)]) x6 x7 (wrap64 (x8 + 1))) else (none)) else (none)) else (none)) else ((font_buildSegments.f k x3).bind fun t194 => (some t194))
def font_ZzContours.f (k : Nat) (l0 : List (S133)) : Option ((List (S195))) := font_ZzContours.l0 k ([] : List (S198)) l0 (l0.length : Int) 0
theorem font_ZzContours.mono_l : ∀ k, (∀ y0 y1 y2 y3, LeO (font_ZzContours.l0 k y0 y1 y2 y3) (font_ZzContours.l0 (k + 1) y0 y1 y2 y3))
 | 0 => fun _ _ _ _ r h => by simp [font_ZzContours.l0] at h
 | k + 1 => by
  have ih0 := font_ZzContours.mono_l k
  ·intro y0 y1 y2 y3
   unfold font_ZzContours.l0
   repeat' first
   | (with_reducible exact ih0 _ _ _ _)
   | (with_reducible exact font_buildSegments.mono _ _)
   | (with_reducible exact LeO.refl _)
   | (with_reducible exact LeO.none _)
   | (with_reducible refine LeO.ite ?_ ?_)
   | (with_reducible refine LeO.bind ?_ (fun _ => ?_))
   | exact ih0 _ _ _ _
   | exact font_buildSegments.mono _ _
   | exact LeO.none _
   | refine LeO.ite ?_ ?_
   | refine LeO.bind ?_ (fun _ => ?_)
theorem font_ZzContours.mono : ∀ a0 k, LeO (font_ZzContours.f k a0) (font_ZzContours.f (k + 1) a0) := by
 intro a0 k
 have ih0 := font_ZzContours.mono_l k
 unfold font_ZzContours.f
 repeat' first
   | (with_reducible exact ih0 _ _ _ _)
   | (with_reducible exact font_buildSegments.mono _ _)
   | (with_reducible exact LeO.refl _)
   | (with_reducible exact LeO.none _)
   | (with_reducible refine LeO.ite ?_ ?_)
   | (with_reducible refine LeO.bind ?_ (fun _ => ?_))
   | exact ih0 _ _ _ _
   | exact font_buildSegments.mono _ _
   | exact LeO.none _
   | refine LeO.ite ?_ ?_
   | refine LeO.bind ?_ (fun _ => ?_)
set_option maxHeartbeats 8000000 in
set_option maxRecDepth 100000 in
theorem font_ZzContours.calls (k : Nat) (A0 : Option Addr) (c0 : Nat) (l0 : List (S133)) (r : List (S195)) (w : World) (hr0 : Kd.C k133 w A0 l0.length l0) (hc0 : l0.length ≤ c0) (h : font_ZzContours.f k l0 = some r) :
  Calls Try.prog 40 #[.slice A0 l0.length c0] w fun e w' => ∃ v0_ : Value, e = .returned (v0_) ∧ Kd.R k195 195 w' w.heap.size (fun _ => True) v0_ r ∧ Below w.heap.size w w' := by
 have hu133 := Try.underlying133
 have hu192 := Try.underlying192
 have hu198 := Try.underlying198
 have HR0 := Aside0.mk hr0
 have HC0 := Aside0.mk hc0
 clear hr0 hc0
 have HB := Aside0.mk (Below.refl w.heap.size w)
 have H : (font_ZzContours.l0 k ([] : List (S198)) l0 (l0.length : Int) 0) = some r := h
 clear h
 have H' := Aside0.mk H
 clear H
 go_enter Try.func40, Try.ntmps40
 go_wp2
 go_loopg [3, 8] k (fun kq v3 v8 w' => ∃ (x3_1 : List (S198)) (x8_1 : Int), v8 = .int .i64 x8_1 ∧ Aside0 (font_ZzContours.l0 kq x3_1 l0 (l0.length : Int) x8_1 = some r) ∧ Aside0 (kq ≤ k) ∧ Aside0 (Kd.R k198 198 w' w.heap.size (fun _ => True) v3 x3_1) ∧ Aside0 (Below w.heap.size w w'))
 case atStart => exact ⟨(([] : List (S198))), (0), (by first | rfl | (simp; done) | (simp [*]; done)), H', ⟨Nat.le_refl _⟩, ⟨by first | exact Kd.R_nil _ _ _ _ _ | exact Kd.N_nil _ _ _ _ _ | exact Kd.V_nil _ _ _ _ _ | exact Kd.Q_nil _ _ _ _ _ | exact Kd.S_nil _ _ _ _ _⟩, ⟨by repeat (first | (with_reducible first | exact HB.out | apply below_alloc | apply pw_below_drewN | apply below_drew1) | exact HB.out)⟩⟩
 case round =>
  clear H'
  obtain ⟨x3_1, x8_1, rfl, HA, HK1, HO_3, HB⟩ := hrel
  cases gk with
  | zero => exact absurd HA.out (by simp [font_ZzContours.l0])
  | succ k1 =>
   have H := HA.out
   clear HA
   simp only [font_ZzContours.l0] at H
   by_cases c2 : x8_1 < (l0.length : Int)
   ·rw [if_pos c2] at H
    have c2b0 : decide (x8_1 < (l0.length : Int)) = true := decide_eq_true c2
    clear c2
    by_cases c3 : 0 ≤ x8_1
    rotate_left
    ·rw [if_neg c3] at H
     exact absurd H (by simp)
    rw [if_pos c3] at H
    have c3b0 : decide (0 ≤ x8_1) = true := decide_eq_true c3
    clear c3
    by_cases c4 : x8_1 < (l0.length : Int)
    rotate_left
    ·rw [if_neg c4] at H
     exact absurd H (by simp)
    rw [if_pos c4] at H
    have c4b0 : decide (x8_1 < (l0.length : Int)) = true := decide_eq_true c4
    clear c4
    by_cases c5 : x3_1.length < 11728124029610
    rotate_left
    ·rw [if_neg c5] at H
     exact absurd H (by simp)
    rw [if_pos c5] at H
    have LMc5 := Aside0.mk c5
    clear c5
    obtain ⟨y191, hy191⟩ : ∃ y_ : List (S198), y_ = (x3_1 ++ [(⟨(⟨(rd_T133 l0 x8_1).f2, (rd_T133 l0 x8_1).f3⟩ : S192), (rd_T133 l0 x8_1).f0, (rd_T133 l0 x8_1).f1, false⟩ : S198)]) := ⟨_, rfl⟩
    replace H : (font_ZzContours.l0 k1 y191 l0 (l0.length : Int) (wrap64 (x8_1 + 1))) = some r := by first | (rw [hy191]; with_reducible exact H) | (have H2_ := (Option.bind_some _ _).symm.trans H; rw [hy191]; with_reducible exact H2_) | (have H2_ := (Option.bind_some _ _).symm.trans H; with_reducible exact H2_) | with_reducible exact H | (rw [hy191]; exact H) | exact H
    have Ny191 := Aside0.mk hy191
    clear hy191
    have H' := Aside0.mk H
    clear H
    have p189 : 0 ≤ (x8_1 : Int) := of_decide_eq_true (by first | (with_reducible assumption) | assumption)
    have q189 : x8_1 < (l0.length : Int) := of_decide_eq_true (by first | (with_reducible assumption) | assumption)
    obtain ⟨ad189, e189, hx189_0, hx189_1, hx189_2, hx189_3⟩ := at_T133 HR0.out x8_1 p189 q189
    cases e189
    replace hx189_0 := (HB.out.cell (World.block_lt_of_cell? w _ hx189_0)).trans hx189_0
    replace hx189_1 := (HB.out.cell (World.block_lt_of_cell? w _ hx189_1)).trans hx189_1
    replace hx189_2 := (HB.out.cell (World.block_lt_of_cell? w _ hx189_2)).trans hx189_2
    replace hx189_3 := (HB.out.cell (World.block_lt_of_cell? w _ hx189_3)).trans hx189_3
    replace p189 := eq_true p189
    replace q189 := eq_true q189
    go_wp2_with (first | ((with_reducible refine gate_dst (N := 5) rfl ?_); refine box_event ?hg (N := 5) ?hd (cs := #[.bool false, .bool false, .float .f32 0, .float .f32 0]) (t := 133) ?hr ?_; (case hd => rfl); (case hg => rfl); (case hr => first | (go_simp; done) | (go_simp; rfl)); intro gb190 hg w6 hbox hb; have n0_ := Aside0.mk (Kd.R_below (by (with_reducible repeat (first | apply Kd.R_alloc | apply Kd.R_drewN | apply Kd.R_drew)); exact HO_3.out) hb); have n1_ := Aside0.mk (below_step (by repeat (first | (with_reducible first | exact HB.out | apply below_alloc | apply pw_below_drewN | apply below_drew1) | exact HB.out)) hb); have n2_ := Aside0.mk (hbox); have n3_ := Aside0.mk ((by rw [hg]; exact (below_size (by repeat (first | (with_reducible first | exact HB.out | apply below_alloc | apply pw_below_drewN | apply below_drew1) | exact HB.out))) : w.heap.size ≤ gb190)); have n4_ := Aside0.mk ((by rw [hg]; exact (below_size (by repeat (first | (with_reducible first | exact HB.out | apply below_alloc | apply pw_below_drewN | apply below_drew1) | exact HB.out))) : w.heap.size ≤ gb190)); clear HO_3; clear HB; have HO_3 := n0_; have HB := n1_; have BK190 := n2_; have GW190 := n3_; have GE190 := n4_; clear n0_ n1_ n2_ n3_ n4_; clear hb hbox hg; have hcz7_0 : w6.cell? ⟨gb190, 0, none⟩ = some (.bool false) := (blk_cell BK190.out 0).trans rfl; have hcz7_1 : w6.cell? ⟨gb190, 1, none⟩ = some (.bool false) := (blk_cell BK190.out 1).trans rfl; have hcz7_2 : w6.cell? ⟨gb190, 2, none⟩ = some (.float .f32 0) := (blk_cell BK190.out 2).trans rfl; have hcz7_3 : w6.cell? ⟨gb190, 3, none⟩ = some (.float .f32 0) := (blk_cell BK190.out 3).trans rfl; have hfz7_0 := blk_frozen BK190.out 0; have hfz7_1 := blk_frozen BK190.out 1; have hfz7_2 := blk_frozen BK190.out 2; have hfz7_3 := blk_frozen BK190.out 3) | ((with_reducible refine gate_builtin (b := .append) (xs := #[.tmp 12, .tmp 23]) rfl ?_); at_builtin; refine Kd.R_append k198 (w0 := w) w.heap.size rfl (.tmp 12) (.tmp 23) 196 198 (.agg #[(.float .f32 0), (.float .f32 0), (.bool false), (.bool false), (.bool false)]) 12 rfl Try.underlying196 info198 rfl (by decide) (by omega) u3 x3_1 (⟨(⟨(rd_T133 l0 x8_1).f2, (rd_T133 l0 x8_1).f3⟩ : S192), (rd_T133 l0 x8_1).f0, (rd_T133 l0 x8_1).f1, false⟩ : S198) [.float .f32 ((rd_T133 l0 x8_1).f2), .float .f32 ((rd_T133 l0 x8_1).f3), .bool ((rd_T133 l0 x8_1).f0), .bool ((rd_T133 l0 x8_1).f1), .bool false] (fun _ => True) (fun _ => False) rfl (by first | (go_simp; done) | (go_simp; rfl)) ?aP (fun _ hk => hk.elim) ?aF ?aO ?aB ?aS ?aL ?_; (case aP => exact k198_mkM _ _ _ (⟨(⟨(rd_T133 l0 x8_1).f2, (rd_T133 l0 x8_1).f3⟩ : S192), (rd_T133 l0 x8_1).f0, (rd_T133 l0 x8_1).f1, false⟩ : S198)); (case aB => exact (by repeat (first | (with_reducible first | exact HB.out | apply below_alloc | apply pw_below_drewN | apply below_drew1 | refine below_set ?_ GE190.out) | exact HB.out))); (case aF => exact (fun _ _ => trivial)); (case aO => exact (by (with_reducible repeat (first | apply Kd.R_alloc | apply Kd.R_drewN | apply Kd.R_drew)); exact Kd.R_mono (Kd.R_far (p := ⟨gb190, 3, none⟩) (Kd.R_far (p := ⟨gb190, 2, none⟩) (Kd.R_far (p := ⟨gb190, 1, none⟩) (Kd.R_far (p := ⟨gb190, 0, none⟩) (Kd.R_types HO_3.out BK190.out (by decide)) (fun _ hk => hk.2) (.bool ((rd_T133 l0 x8_1).f0))) (fun _ hk => hk.2) (.bool ((rd_T133 l0 x8_1).f1))) (fun _ hk => hk.2) (.float .f32 ((rd_T133 l0 x8_1).f2))) (fun _ hk => hk.2) (.float .f32 ((rd_T133 l0 x8_1).f3))) (fun _ hk => trivial))); (case aS => exact (below_size (by repeat (first | (with_reducible first | exact HB.out | apply below_alloc | apply pw_below_drewN | apply below_drew1 | refine below_set ?_ GE190.out) | exact HB.out)))); (case aL => have := LMc5.out; omega); intro v192 w8 ho hb hg hat; rw [← Ny191.out] at ho; have n0_ := Aside0.mk (blk_grown (g := gb190) (o := .cells #[.bool ((rd_T133 l0 x8_1).f0), .bool ((rd_T133 l0 x8_1).f1), .float .f32 ((rd_T133 l0 x8_1).f2), .float .f32 ((rd_T133 l0 x8_1).f3)] 133 (0, 0)) (by (with_reducible repeat (first | apply b1_ | apply b2_ | apply b3_)); refine blk_put (cs := #[.bool ((rd_T133 l0 x8_1).f0), .bool ((rd_T133 l0 x8_1).f1), .float .f32 ((rd_T133 l0 x8_1).f2), .float .f32 0]) ?_ 3 _ rfl; (with_reducible repeat (first | apply b1_ | apply b2_ | apply b3_)); refine blk_put (cs := #[.bool ((rd_T133 l0 x8_1).f0), .bool ((rd_T133 l0 x8_1).f1), .float .f32 0, .float .f32 0]) ?_ 2 _ rfl; (with_reducible repeat (first | apply b1_ | apply b2_ | apply b3_)); refine blk_put (cs := #[.bool ((rd_T133 l0 x8_1).f0), .bool false, .float .f32 0, .float .f32 0]) ?_ 1 _ rfl; (with_reducible repeat (first | apply b1_ | apply b2_ | apply b3_)); refine blk_put (cs := #[.bool false, .bool false, .float .f32 0, .float .f32 0]) ?_ 0 _ rfl; (with_reducible repeat (first | apply b1_ | apply b2_ | apply b3_)); exact BK190.out) hg (Kd.R_ne HO_3.out BK190.out (by decide))); have n1_ := Aside0.mk (hb); have n2_ := Aside0.mk (ho); clear BK190; clear HB; clear HO_3; have BK190 := n0_; have HB := n1_; have HO193 := n2_; clear n0_ n1_ n2_; clear ho hb hg hat))
    go_roundg k1
    case measure => have := HK1.out; omega
    case rel => exact ⟨(y191), (wrap64 (x8_1 + 1)), (by first | rfl | (simp; done) | (simp [*]; done)), H', ⟨by have := HK1.out; omega⟩, ⟨by (with_reducible repeat (first | apply Kd.R_alloc | apply Kd.R_drewN | apply Kd.R_drew)); exact HO193.out⟩, ⟨by repeat (first | (with_reducible first | exact HB.out | apply below_alloc | apply pw_below_drewN | apply below_drew1 | refine below_set ?_ GE190.out) | exact HB.out)⟩⟩
   ·rw [if_neg c2] at H
    have c2b0 : decide (x8_1 < (l0.length : Int)) = false := decide_eq_false c2
    clear c2
    replace H := Option.bind_eq_some_iff.mp H
    obtain ⟨t194, A90, H⟩ := H
    replace H : (some t194) = some r := H
    have A9 := Aside0.mk A90
    clear A90
    obtain rfl := Option.some.inj H
    obtain ⟨Ao10, co10, eo10⟩ := Kd.R_slice HO_3.out
    subst eo10
    go_wp2_with (first | ((with_reducible refine gate_callee (f := 60) rfl ?_); refine goesL_ (some 27) rfl rfl Try.func60 (by kernel_rfl) rfl #[.slice Ao10 x3_1.length co10] rfl (by (try simp only [List.map_toArray, List.map_cons, List.map_nil]); first | done | rfl | (simp only [List.length_drop, List.length_take]; rfl)) ?_; (with_reducible refine (font_buildSegments.calls k1 _ _ x3_1 t194 _ ?side1 ?side2 A9.out).mono ?_); (case side1 => repeat (first | exact (Kd.R_reads' HO_3.out).2.2 | (with_reducible refine Kd.C_alloc ?_ _) | (with_reducible refine Kd.C_drewN ?_ _) | (with_reducible refine Kd.C_drew ?_))); (case side2 => exact (Kd.R_reads' HO_3.out).2.1); rintro e w11 ⟨v195, rfl, ho0, hb⟩; refine ⟨_, rfl, ?_⟩; have n0_ := Aside0.mk (Kd.R_below (by (with_reducible repeat (first | apply Kd.R_alloc | apply Kd.R_drewN | apply Kd.R_drew)); exact HO_3.out) hb); have n1_ := Aside0.mk (Kd.R_lower ho0 (below_size (by repeat (first | (with_reducible first | exact HB.out | apply below_alloc | apply pw_below_drewN | apply below_drew1) | exact HB.out)))); have n2_ := Aside0.mk (below_step (by repeat (first | (with_reducible first | exact HB.out | apply below_alloc | apply pw_below_drewN | apply below_drew1) | exact HB.out)) hb); clear HO_3; clear HB; have HO_3 := n0_; have HO196 := n1_; have HB := n2_; clear n0_ n1_ n2_; (try clear hb); (try clear hb2); (try clear hk); (try clear hi); (try clear ho0)))
    go_ret
    exact ⟨_, by first | rfl | (simp [errW_none, errW_some] <;> rfl) | (simp [*, errW_none, errW_some] <;> rfl), by (with_reducible repeat (first | apply Kd.R_alloc | apply Kd.R_drewN | apply Kd.R_drew)); exact HO196.out, by repeat (first | (with_reducible first | exact HB.out | apply below_alloc | apply pw_below_drewN | apply below_drew1) | exact HB.out)⟩

/-! ### impl_Contours: function 18 -/
mutual
def impl_Contours.l0 : Nat → List (S133) → List (List (S65)) → Int → Int → Option ((List (S127)))
 | 0, _, _, _, _ => none
 | k + 1, x3, x8, x9, x10 => if x10 < x9 then (if 0 ≤ x10 then (if x10 < (x8.length : Int) then (impl_Contours.l1 k x3 (rd_L3 x8 x10) x8 x9 x10 (rd_L3 x8 x10) ((rd_L3 x8 x10).length : Int) 0) else (none)) else (none)) else ((font_ZzContours.f k x3).bind fun t205 => ((impl_strokes.f k t205).bind fun t208 => (some t208)))
def impl_Contours.l1 : Nat → List (S133) → List (S65) → List (List (S65)) → Int → Int → List (S65) → Int → Int → Option ((List (S127)))
 | 0, _, _, _, _, _, _, _, _ => none
 | k + 1, x3, x5, x8, x9, x10, x14, x15, x16 => if x16 < x15 then (if 0 ≤ x16 then (if x16 < (x14.length : Int) then ((impl_sixteen.f k ((rd_T65 x14 x16).f1)).bind fun t200 => ((impl_sixteen.f k ((rd_T65 x14 x16).f2)).bind fun t201 => (if x3.length < 11728124029610 then (impl_Contours.l1 k (x3 ++ [(⟨(rd_T65 x14 x16).f0, (x16 == (wrap64 ((x5.length : Int) - 1))), floatOfInt .f32 t200, floatOfInt .f32 t201⟩ : S133)]) x5 x8 x9 x10 x14 x15 (wrap64 (x16 + 1))) else (none)))) else (none)) else (none)) else (impl_Contours.l0 k x3 x8 x9 (wrap64 (x10 + 1)))
end
def impl_Contours.f (k : Nat) (l0 : List (List (S65))) : Option ((List (S127))) := impl_Contours.l0 k ([] : List (S133)) l0 (l0.length : Int) 0
theorem impl_Contours.mono_l : ∀ k, (∀ y0 y1 y2 y3, LeO (impl_Contours.l0 k y0 y1 y2 y3) (impl_Contours.l0 (k + 1) y0 y1 y2 y3)) ∧ (∀ y0 y1 y2 y3 y4 y5 y6 y7, LeO (impl_Contours.l1 k y0 y1 y2 y3 y4 y5 y6 y7) (impl_Contours.l1 (k + 1) y0 y1 y2 y3 y4 y5 y6 y7))
 | 0 => ⟨fun _ _ _ _ r h => by simp [impl_Contours.l0] at h, fun _ _ _ _ _ _ _ _ r h => by simp [impl_Contours.l1] at h⟩
 | k + 1 => by
  obtain ⟨ih0, ih1⟩ := impl_Contours.mono_l k
  refine ⟨?_, ?_⟩
  ·intro y0 y1 y2 y3
   unfold impl_Contours.l0
   repeat' first
   | (with_reducible exact ih0 _ _ _ _)
   | (with_reducible exact ih1 _ _ _ _ _ _ _ _)
   | (with_reducible exact font_ZzContours.mono _ _)
   | (with_reducible exact impl_sixteen.mono _ _)
   | (with_reducible exact impl_strokes.mono _ _)
   | (with_reducible exact LeO.refl _)
   | (with_reducible exact LeO.none _)
   | (with_reducible refine LeO.ite ?_ ?_)
   | (with_reducible refine LeO.bind ?_ (fun _ => ?_))
   | exact ih0 _ _ _ _
   | exact ih1 _ _ _ _ _ _ _ _
   | exact font_ZzContours.mono _ _
   | exact impl_sixteen.mono _ _
   | exact impl_strokes.mono _ _
   | exact LeO.none _
   | refine LeO.ite ?_ ?_
   | refine LeO.bind ?_ (fun _ => ?_)
  ·intro y0 y1 y2 y3 y4 y5 y6 y7
   unfold impl_Contours.l1
   repeat' first
   | (with_reducible exact ih0 _ _ _ _)
   | (with_reducible exact ih1 _ _ _ _ _ _ _ _)
   | (with_reducible exact font_ZzContours.mono _ _)
   | (with_reducible exact impl_sixteen.mono _ _)
   | (with_reducible exact impl_strokes.mono _ _)
   | (with_reducible exact LeO.refl _)
   | (with_reducible exact LeO.none _)
   | (with_reducible refine LeO.ite ?_ ?_)
   | (with_reducible refine LeO.bind ?_ (fun _ => ?_))
   | exact ih0 _ _ _ _
   | exact ih1 _ _ _ _ _ _ _ _
   | exact font_ZzContours.mono _ _
   | exact impl_sixteen.mono _ _
   | exact impl_strokes.mono _ _
   | exact LeO.none _
   | refine LeO.ite ?_ ?_
   | refine LeO.bind ?_ (fun _ => ?_)
theorem impl_Contours.mono : ∀ a0 k, LeO (impl_Contours.f k a0) (impl_Contours.f (k + 1) a0) := by
 intro a0 k
 obtain ⟨ih0, ih1⟩ := impl_Contours.mono_l k
 unfold impl_Contours.f
 repeat' first
   | (with_reducible exact ih0 _ _ _ _)
   | (with_reducible exact ih1 _ _ _ _ _ _ _ _)
   | (with_reducible exact font_ZzContours.mono _ _)
   | (with_reducible exact impl_sixteen.mono _ _)
   | (with_reducible exact impl_strokes.mono _ _)
   | (with_reducible exact LeO.refl _)
   | (with_reducible exact LeO.none _)
   | (with_reducible refine LeO.ite ?_ ?_)
   | (with_reducible refine LeO.bind ?_ (fun _ => ?_))
   | exact ih0 _ _ _ _
   | exact ih1 _ _ _ _ _ _ _ _
   | exact font_ZzContours.mono _ _
   | exact impl_sixteen.mono _ _
   | exact impl_strokes.mono _ _
   | exact LeO.none _
   | refine LeO.ite ?_ ?_
   | refine LeO.bind ?_ (fun _ => ?_)
def impl_Contours.T8 : Bool × List (List Nat × List Nat) := (true, [([], []), ([], []), ([1], [1]), ([], []), ([], []), ([4], [4]), ([5], [5]), ([3, 6], [3, 6]), ([], []), ([8], [8]), ([9], [9]), ([10], [10]), ([], []), ([12], [12]), ([13, 10], [13]), ([14], [14]), ([2, 7, 11, 15], [2, 7, 11, 15]), ([16], [16]), ([0, 17, 14], [0, 17]), ([18, 18, 0, 1, 2, 3, 4, 5, 6, 7, 8, 9, 10, 11, 12, 13, 14, 15, 16, 17, 18], [0, 18])])
def impl_Contours.B8 : List Nat := [0, 0, 2, 0, 0, 16, 48, 120, 0, 256, 768, 1792, 0, 4096, 14080, 30464, 65534, 131070, 262143, 524287]
theorem impl_Contours.tab8 : rtab .any (opsOf Try.f18 8) = impl_Contours.T8 := by kernel_rfl
theorem impl_Contours.bits8 : waitsOk impl_Contours.T8.2 impl_Contours.B8 = true := by kernel_rfl
set_option maxHeartbeats 8000000 in
set_option maxRecDepth 100000 in
theorem impl_Contours.calls (k : Nat) (A0 : Option Addr) (c0 : Nat) (l0 : List (List (S65))) (r : List (S127)) (w : World) (hr0 : Kd.C (Kd.slice 65 k65) w A0 l0.length l0) (hc0 : l0.length ≤ c0) (h : impl_Contours.f k l0 = some r) :
  Calls Try.prog 18 #[.slice A0 l0.length c0] w fun e w' => ∃ v0_ : Value, e = .returned (v0_) ∧ Kd.R k127 127 w' w.heap.size (fun _ => True) v0_ r ∧ Below w.heap.size w w' := by
 have hu65 := Try.underlying65
 have hu133 := Try.underlying133
 have HR0 := Aside0.mk hr0
 have HC0 := Aside0.mk hc0
 clear hr0 hc0
 have HB := Aside0.mk (Below.refl w.heap.size w)
 have H : (impl_Contours.l0 k ([] : List (S133)) l0 (l0.length : Int) 0) = some r := h
 clear h
 have H' := Aside0.mk H
 clear H
 go_enter Try.func18, Try.ntmps18
 go_wp2
 go_loopg [3, 10] k (fun kq v3 v10 w' => ∃ (x3_1 : List (S133)) (x10_1 : Int), v10 = .int .i64 x10_1 ∧ Aside0 (impl_Contours.l0 kq x3_1 l0 (l0.length : Int) x10_1 = some r) ∧ Aside0 (kq ≤ k) ∧ Aside0 (Kd.R k133 133 w' w.heap.size (fun _ => True) v3 x3_1) ∧ Aside0 (Below w.heap.size w w'))
 case atStart => exact ⟨(([] : List (S133))), (0), (by first | rfl | (simp; done) | (simp [*]; done)), H', ⟨Nat.le_refl _⟩, ⟨by first | exact Kd.R_nil _ _ _ _ _ | exact Kd.N_nil _ _ _ _ _ | exact Kd.V_nil _ _ _ _ _ | exact Kd.Q_nil _ _ _ _ _ | exact Kd.S_nil _ _ _ _ _⟩, ⟨by repeat (first | (with_reducible first | exact HB.out | apply below_alloc | apply pw_below_drewN | apply below_drew1) | exact HB.out)⟩⟩
 case round =>
  clear H'
  (try clear c1)
  obtain ⟨x3_1, x10_1, rfl, HA, HK1, HO_3, HB⟩ := hrel
  cases gk with
  | zero => exact absurd HA.out (by simp [impl_Contours.l0])
  | succ k1 =>
   have H := HA.out
   clear HA
   simp only [impl_Contours.l0] at H
   by_cases c2 : x10_1 < (l0.length : Int)
   ·rw [if_pos c2] at H
    have c2b0 : decide (x10_1 < (l0.length : Int)) = true := decide_eq_true c2
    clear c2
    by_cases c3 : 0 ≤ x10_1
    rotate_left
    ·rw [if_neg c3] at H
     exact absurd H (by simp)
    rw [if_pos c3] at H
    have c3b0 : decide (0 ≤ x10_1) = true := decide_eq_true c3
    clear c3
    by_cases c4 : x10_1 < (l0.length : Int)
    rotate_left
    ·rw [if_neg c4] at H
     exact absurd H (by simp)
    rw [if_pos c4] at H
    have c4b0 : decide (x10_1 < (l0.length : Int)) = true := decide_eq_true c4
    clear c4
    have H' := Aside0.mk H
    clear H
    have p197 : 0 ≤ (x10_1 : Int) := of_decide_eq_true (by first | (with_reducible assumption) | assumption)
    have q197 : x10_1 < (l0.length : Int) := of_decide_eq_true (by first | (with_reducible assumption) | assumption)
    obtain ⟨ad197, A197_0, c197_0, e197, hx197_0, hl197_0, hi197_0⟩ := at_L3 HR0.out x10_1 p197 q197
    cases e197
    replace hx197_0 := (HB.out.cell (World.block_lt_of_cell? w _ hx197_0)).trans hx197_0
    have HR197_0 := Aside0.mk hi197_0
    have HC197_0 := Aside0.mk hl197_0
    clear hi197_0 hl197_0
    replace p197 := eq_true p197
    replace q197 := eq_true q197
    go_wp2
    go_loopg [3, 16] k1 (fun kq v3 v16 w' => ∃ (x3_2 : List (S133)) (x16_2 : Int), v16 = .int .i64 x16_2 ∧ Aside0 (impl_Contours.l1 kq x3_2 (rd_L3 l0 x10_1) l0 (l0.length : Int) x10_1 (rd_L3 l0 x10_1) ((rd_L3 l0 x10_1).length : Int) x16_2 = some r) ∧ Aside0 (kq ≤ k1) ∧ Aside0 (Kd.R k133 133 w' w.heap.size (fun _ => True) v3 x3_2) ∧ Aside0 (Below w.heap.size w w'))
    case atStart => exact ⟨(x3_1), (0), (by first | rfl | (simp; done) | (simp [*]; done)), H', ⟨Nat.le_refl _⟩, ⟨by (with_reducible repeat (first | apply Kd.R_alloc | apply Kd.R_drewN | apply Kd.R_drew)); exact HO_3.out⟩, ⟨by repeat (first | (with_reducible first | exact HB.out | apply below_alloc | apply pw_below_drewN | apply below_drew1) | exact HB.out)⟩⟩
    case round =>
     clear H'
     (try clear c1); (try clear p1); (try clear q1); (try clear hx1); (try clear c2); (try clear c2b0); (try clear p2); (try clear c3); (try clear c3b0); (try clear c4); (try clear c4b0); (try clear hx197_0); (try clear p197); (try clear q197)
     obtain ⟨x3_2, x16_2, rfl, HA, HK2, HO_3, HB⟩ := hrel
     cases gk with
     | zero => exact absurd HA.out (by simp [impl_Contours.l1])
     | succ k2 =>
      have H := HA.out
      clear HA
      simp only [impl_Contours.l1] at H
      by_cases c5 : x16_2 < ((rd_L3 l0 x10_1).length : Int)
      ·rw [if_pos c5] at H
       have c5b0 : decide (x16_2 < ((rd_L3 l0 x10_1).length : Int)) = true := decide_eq_true c5
       clear c5
       by_cases c6 : 0 ≤ x16_2
       rotate_left
       ·rw [if_neg c6] at H
        exact absurd H (by simp)
       rw [if_pos c6] at H
       have c6b0 : decide (0 ≤ x16_2) = true := decide_eq_true c6
       clear c6
       by_cases c7 : x16_2 < ((rd_L3 l0 x10_1).length : Int)
       rotate_left
       ·rw [if_neg c7] at H
        exact absurd H (by simp)
       rw [if_pos c7] at H
       have c7b0 : decide (x16_2 < ((rd_L3 l0 x10_1).length : Int)) = true := decide_eq_true c7
       clear c7
       replace H := Option.bind_eq_some_iff.mp H
       obtain ⟨t200, A80, H⟩ := H
       replace H : ((impl_sixteen.f k2 ((rd_T65 (rd_L3 l0 x10_1) x16_2).f2)).bind fun t201 => (if x3_2.length < 11728124029610 then (impl_Contours.l1 k2 (x3_2 ++ [(⟨(rd_T65 (rd_L3 l0 x10_1) x16_2).f0, (x16_2 == (wrap64 (((rd_L3 l0 x10_1).length : Int) - 1))), floatOfInt .f32 t200, floatOfInt .f32 t201⟩ : S133)]) (rd_L3 l0 x10_1) l0 (l0.length : Int) x10_1 (rd_L3 l0 x10_1) ((rd_L3 l0 x10_1).length : Int) (wrap64 (x16_2 + 1))) else (none))) = some r := H
       have A8 := Aside0.mk A80
       clear A80
       replace H := Option.bind_eq_some_iff.mp H
       obtain ⟨t201, A90, H⟩ := H
       replace H : (if x3_2.length < 11728124029610 then (impl_Contours.l1 k2 (x3_2 ++ [(⟨(rd_T65 (rd_L3 l0 x10_1) x16_2).f0, (x16_2 == (wrap64 (((rd_L3 l0 x10_1).length : Int) - 1))), floatOfInt .f32 t200, floatOfInt .f32 t201⟩ : S133)]) (rd_L3 l0 x10_1) l0 (l0.length : Int) x10_1 (rd_L3 l0 x10_1) ((rd_L3 l0 x10_1).length : Int) (wrap64 (x16_2 + 1))) else (none)) = some r := H
       have A9 := Aside0.mk A90
       clear A90
       by_cases c10 : x3_2.length < 11728124029610
       rotate_left
       ·rw [if_neg c10] at H
        exact absurd H (by simp)
       rw [if_pos c10] at H
       have LMc10 := Aside0.mk c10
       clear c10
       obtain ⟨y202, hy202⟩ : ∃ y_ : List (S133), y_ = (x3_2 ++ [(⟨(rd_T65 (rd_L3 l0 x10_1) x16_2).f0, (x16_2 == (wrap64 (((rd_L3 l0 x10_1).length : Int) - 1))), floatOfInt .f32 t200, floatOfInt .f32 t201⟩ : S133)]) := ⟨_, rfl⟩
       replace H : (impl_Contours.l1 k2 y202 (rd_L3 l0 x10_1) l0 (l0.length : Int) x10_1 (rd_L3 l0 x10_1) ((rd_L3 l0 x10_1).length : Int) (wrap64 (x16_2 + 1))) = some r := by first | (rw [hy202]; with_reducible exact H) | (have H2_ := (Option.bind_some _ _).symm.trans H; rw [hy202]; with_reducible exact H2_) | (have H2_ := (Option.bind_some _ _).symm.trans H; with_reducible exact H2_) | with_reducible exact H | (rw [hy202]; exact H) | exact H
       have Ny202 := Aside0.mk hy202
       clear hy202
       have H' := Aside0.mk H
       clear H
       have p198 : 0 ≤ (x16_2 : Int) := of_decide_eq_true (by first | (with_reducible assumption) | assumption)
       have q198 : x16_2 < ((rd_L3 l0 x10_1).length : Int) := of_decide_eq_true (by first | (with_reducible assumption) | assumption)
       obtain ⟨ad198, e198, hx198_0, hx198_1, hx198_2⟩ := at_T65 HR197_0.out x16_2 p198 q198
       cases e198
       replace hx198_0 := (HB.out.cell (World.block_lt_of_cell? w _ hx198_0)).trans hx198_0
       replace hx198_1 := (HB.out.cell (World.block_lt_of_cell? w _ hx198_1)).trans hx198_1
       replace hx198_2 := (HB.out.cell (World.block_lt_of_cell? w _ hx198_2)).trans hx198_2
       replace p198 := eq_true p198
       replace q198 := eq_true q198
       try go_wp2_with (first | ((with_reducible refine gate_dst (N := 7) rfl ?_); refine box_event ?hg (N := 7) ?hd (cs := #[.bool false, .int .i64 0, .int .i64 0]) (t := 65) ?hr ?_; (case hd => rfl); (case hg => rfl); (case hr => first | (go_simp; done) | (go_simp; rfl)); intro gb199 hg w11 hbox hb; have n0_ := Aside0.mk (Kd.R_below (by (with_reducible repeat (first | apply Kd.R_alloc | apply Kd.R_drewN | apply Kd.R_drew)); exact HO_3.out) hb); have n1_ := Aside0.mk (below_step (by repeat (first | (with_reducible first | exact HB.out | apply below_alloc | apply pw_below_drewN | apply below_drew1) | exact HB.out)) hb); have n2_ := Aside0.mk (hbox); have n3_ := Aside0.mk ((by rw [hg]; exact (below_size (by repeat (first | (with_reducible first | exact HB.out | apply below_alloc | apply pw_below_drewN | apply below_drew1) | exact HB.out))) : w.heap.size ≤ gb199)); have n4_ := Aside0.mk ((by rw [hg]; exact (below_size (by repeat (first | (with_reducible first | exact HB.out | apply below_alloc | apply pw_below_drewN | apply below_drew1) | exact HB.out))) : w.heap.size ≤ gb199)); clear HO_3; clear HB; have HO_3 := n0_; have HB := n1_; have BK199 := n2_; have GW199 := n3_; have GE199 := n4_; clear n0_ n1_ n2_ n3_ n4_; clear hb hbox hg; have hcz12_0 : w11.cell? ⟨gb199, 0, none⟩ = some (.bool false) := (blk_cell BK199.out 0).trans rfl; have hcz12_1 : w11.cell? ⟨gb199, 1, none⟩ = some (.int .i64 0) := (blk_cell BK199.out 1).trans rfl; have hcz12_2 : w11.cell? ⟨gb199, 2, none⟩ = some (.int .i64 0) := (blk_cell BK199.out 2).trans rfl; have hfz12_0 := blk_frozen BK199.out 0; have hfz12_1 := blk_frozen BK199.out 1; have hfz12_2 := blk_frozen BK199.out 2))
       have n0_ : Aside0 (Kd.R k133 133 (((w11.setCell ⟨gb199, 0, none⟩ (.bool ((rd_T65 (rd_L3 l0 x10_1) x16_2).f0))).setCell ⟨gb199, 1, none⟩ (.int .i64 ((rd_T65 (rd_L3 l0 x10_1) x16_2).f1))).setCell ⟨gb199, 2, none⟩ (.int .i64 ((rd_T65 (rd_L3 l0 x10_1) x16_2).f2))) w.heap.size (fun _ => True) u3 x3_2) := ⟨by (with_reducible repeat (first | apply Kd.R_alloc | apply Kd.R_drewN | apply Kd.R_drew)); exact Kd.R_mono (Kd.R_far (p := ⟨gb199, 2, none⟩) (Kd.R_far (p := ⟨gb199, 1, none⟩) (Kd.R_far (p := ⟨gb199, 0, none⟩) (Kd.R_types HO_3.out BK199.out (by decide)) (fun _ hk => hk.2) (.bool ((rd_T65 (rd_L3 l0 x10_1) x16_2).f0))) (fun _ hk => hk.2) (.int .i64 ((rd_T65 (rd_L3 l0 x10_1) x16_2).f1))) (fun _ hk => hk.2) (.int .i64 ((rd_T65 (rd_L3 l0 x10_1) x16_2).f2))) (fun _ hk => trivial)⟩
       have n1_ : Aside0 ((((w11.setCell ⟨gb199, 0, none⟩ (.bool ((rd_T65 (rd_L3 l0 x10_1) x16_2).f0))).setCell ⟨gb199, 1, none⟩ (.int .i64 ((rd_T65 (rd_L3 l0 x10_1) x16_2).f1))).setCell ⟨gb199, 2, none⟩ (.int .i64 ((rd_T65 (rd_L3 l0 x10_1) x16_2).f2))).heap[gb199]? = some (.cells #[.bool ((rd_T65 (rd_L3 l0 x10_1) x16_2).f0), .int .i64 ((rd_T65 (rd_L3 l0 x10_1) x16_2).f1), .int .i64 ((rd_T65 (rd_L3 l0 x10_1) x16_2).f2)] 65 (0, 0))) := ⟨by (with_reducible repeat (first | apply b1_ | apply b2_ | apply b3_)); refine blk_put (cs := #[.bool ((rd_T65 (rd_L3 l0 x10_1) x16_2).f0), .int .i64 ((rd_T65 (rd_L3 l0 x10_1) x16_2).f1), .int .i64 0]) ?_ 2 _ rfl; (with_reducible repeat (first | apply b1_ | apply b2_ | apply b3_)); refine blk_put (cs := #[.bool ((rd_T65 (rd_L3 l0 x10_1) x16_2).f0), .int .i64 0, .int .i64 0]) ?_ 1 _ rfl; (with_reducible repeat (first | apply b1_ | apply b2_ | apply b3_)); refine blk_put (cs := #[.bool false, .int .i64 0, .int .i64 0]) ?_ 0 _ rfl; (with_reducible repeat (first | apply b1_ | apply b2_ | apply b3_)); exact BK199.out⟩
       have n2_ : Aside0 (Below w.heap.size w (((w11.setCell ⟨gb199, 0, none⟩ (.bool ((rd_T65 (rd_L3 l0 x10_1) x16_2).f0))).setCell ⟨gb199, 1, none⟩ (.int .i64 ((rd_T65 (rd_L3 l0 x10_1) x16_2).f1))).setCell ⟨gb199, 2, none⟩ (.int .i64 ((rd_T65 (rd_L3 l0 x10_1) x16_2).f2)))) := ⟨by repeat (first | (with_reducible first | exact HB.out | apply below_alloc | apply pw_below_drewN | apply below_drew1 | refine below_set ?_ GE199.out) | exact HB.out)⟩
       (try clear HO_3)
       (try clear BK199)
       (try clear HB)
       generalize (((w11.setCell ⟨gb199, 0, none⟩ (.bool ((rd_T65 (rd_L3 l0 x10_1) x16_2).f0))).setCell ⟨gb199, 1, none⟩ (.int .i64 ((rd_T65 (rd_L3 l0 x10_1) x16_2).f1))).setCell ⟨gb199, 2, none⟩ (.int .i64 ((rd_T65 (rd_L3 l0 x10_1) x16_2).f2))) = w13 at n0_ n1_ n2_ ⊢
       have HO_3 := n0_
       have BK199 := n1_
       have HB := n2_
       clear n0_ n1_ n2_
       have n0_ := Aside0.mk (Kd.R_drew HO_3.out)
       have n1_ := Aside0.mk (blk_drew BK199.out)
       have n2_ := Aside0.mk (below_drew1 HB.out)
       clear HO_3
       clear BK199
       clear HB
       have HO_3 := n0_
       have BK199 := n1_
       have HB := n2_
       clear n0_ n1_ n2_
       refine start_ (n := 20) (S := fun w' => w'.cell? ⟨gb199, 0, none⟩ = some (.bool ((rd_T65 (rd_L3 l0 x10_1) x16_2).f0)) ∧ w'.cell? ⟨gb199, 1, none⟩ = some (.int .i64 ((rd_T65 (rd_L3 l0 x10_1) x16_2).f1)) ∧ w'.cell? ⟨gb199, 2, none⟩ = some (.int .i64 ((rd_T65 (rd_L3 l0 x10_1) x16_2).f2))) (ds := []) #[ff,ff,ff,ff,ff,ff,ff,ff,ff,ff,ff,ff,ff,ff,ff,ff,ff,ff,ff,ff] (by kernel_rfl) rfl rfl ⟨(blk_cell BK199.out 0).trans rfl, (blk_cell BK199.out 1).trans rfl, (blk_cell BK199.out 2).trans rfl⟩ (fun hHeld => ?_); refine with_tabW impl_Contours.tab8 impl_Contours.bits8 (fun HT_ HW_ => ?_)
       generalize w13.drew = w14 at HO_3 BK199 HB hHeld ⊢
       refine pure_ (i := 0) (N := some 21) (v := ?_) (a' := ?_) #[tt,ff,ff,ff,ff,ff,ff,ff,ff,ff,ff,ff,ff,ff,ff,ff,ff,ff,ff,ff] rfl rfl (any_of HT_.out (by kernel_rfl)) (fun _ _ _ h => h) (Or.inl ⟨by rfl, ?_⟩) ?_ ?_
       rotate_left
       ·intro w'
        go_simp
        with_reducible rfl
       rotate_left
       ·simp only [Act.put, L1_, L2_, L3_, i64_w, i32_w]
        rfl
       refine pure_ (i := 1) (N := some 22) (v := ?_) (a' := ?_) #[tt,tt,ff,ff,ff,ff,ff,ff,ff,ff,ff,ff,ff,ff,ff,ff,ff,ff,ff,ff] rfl rfl (any_of HT_.out (by kernel_rfl)) (fun _ _ _ h => h) (Or.inl ⟨by rfl, ?_⟩) ?_ ?_
       rotate_left
       ·intro w'
        go_simp
        with_reducible rfl
       rotate_left
       ·simp only [Act.put, L1_, L2_, L3_, i64_w, i32_w]
        rfl
       refine pure_ (i := 3) (N := some 24) (v := ?_) (a' := ?_) #[tt,tt,ff,tt,ff,ff,ff,ff,ff,ff,ff,ff,ff,ff,ff,ff,ff,ff,ff,ff] rfl rfl (any_of HT_.out (by kernel_rfl)) (fun _ _ _ h => h) (Or.inl ⟨by rfl, ?_⟩) ?_ ?_
       rotate_left
       ·intro w'
        go_simp
        with_reducible rfl
       rotate_left
       ·simp only [Act.put, L1_, L2_, L3_, i64_w, i32_w]
        rfl
       refine pure_ (i := 4) (N := some 25) (v := ?_) (a' := ?_) #[tt,tt,ff,tt,tt,ff,ff,ff,ff,ff,ff,ff,ff,ff,ff,ff,ff,ff,ff,ff] rfl rfl (any_of HT_.out (by kernel_rfl)) (fun _ _ _ h => h) (Or.inl ⟨by rfl, ?_⟩) ?_ ?_
       rotate_left
       ·intro w'
        go_simp
        with_reducible rfl
       rotate_left
       ·simp only [Act.put, L1_, L2_, L3_, i64_w, i32_w]
        rfl
       refine pure_ (i := 5) (N := some 26) (v := ?_) (a' := ?_) #[tt,tt,ff,tt,tt,tt,ff,ff,ff,ff,ff,ff,ff,ff,ff,ff,ff,ff,ff,ff] rfl rfl (any_of HT_.out (by kernel_rfl)) (fun _ _ _ h => h) (Or.inl ⟨by rfl, ?_⟩) ?_ ?_
       rotate_left
       ·intro w'
        go_simp
        with_reducible rfl
       rotate_left
       ·simp only [Act.put, L1_, L2_, L3_, i64_w, i32_w]
        rfl
       refine pure_ (i := 6) (N := some 27) (v := ?_) (a' := ?_) #[tt,tt,ff,tt,tt,tt,tt,ff,ff,ff,ff,ff,ff,ff,ff,ff,ff,ff,ff,ff] rfl rfl (any_of HT_.out (by kernel_rfl)) (fun _ _ _ h => h) (Or.inl ⟨by rfl, ?_⟩) ?_ ?_
       rotate_left
       ·intro w'
        go_simp
        with_reducible rfl
       rotate_left
       ·(try go_ints); (try simp (disch := omega) only [n3_]); simp only [Act.put, L1_, L2_, L3_, i64_w, i32_w]
        rfl
       refine pure_ (i := 7) (N := some 28) (v := ?_) (a' := ?_) #[tt,tt,ff,tt,tt,tt,tt,tt,ff,ff,ff,ff,ff,ff,ff,ff,ff,ff,ff,ff] rfl rfl (any_of HT_.out (by kernel_rfl)) (fun _ _ _ h => h) (Or.inl ⟨by rfl, ?_⟩) ?_ ?_
       rotate_left
       ·intro w'
        go_simp
        with_reducible rfl
       rotate_left
       ·(try go_ints); (try simp (disch := omega) only [n3_]); simp only [Act.put, L1_, L2_, L3_, i64_w, i32_w]
        rfl
       refine pure_ (i := 8) (N := some 29) (v := ?_) (a' := ?_) #[tt,tt,ff,tt,tt,tt,tt,tt,tt,ff,ff,ff,ff,ff,ff,ff,ff,ff,ff,ff] rfl rfl (any_of HT_.out (by kernel_rfl)) (fun _ _ _ h => h) (Or.inl ⟨by rfl, ?_⟩) ?_ ?_
       rotate_left
       ·intro w'
        go_simp
        with_reducible rfl
       rotate_left
       ·simp only [Act.put, L1_, L2_, L3_, i64_w, i32_w]
        rfl
       refine pure_ (i := 12) (N := some 33) (v := ?_) (a' := ?_) #[tt,tt,ff,tt,tt,tt,tt,tt,tt,ff,ff,ff,tt,ff,ff,ff,ff,ff,ff,ff] rfl rfl (any_of HT_.out (by kernel_rfl)) (fun _ _ _ h => h) (Or.inl ⟨by rfl, ?_⟩) ?_ ?_
       rotate_left
       ·intro w'
        go_simp
        with_reducible rfl
       rotate_left
       ·simp only [Act.put, L1_, L2_, L3_, i64_w, i32_w]
        rfl
       refine take_ (i := 2) (N := some 23) (v := ?_) (a' := ?_) #[tt,tt,tt,tt,tt,tt,tt,tt,tt,ff,ff,ff,tt,ff,ff,ff,ff,ff,ff,ff] rfl rfl (take_ofW HT_.out HW_.out (by kernel_rfl)) (fun _ _ _ h => h) (Or.inl ⟨by rfl, ?_⟩) hHeld ?_ ?_
       rotate_left
       ·rintro w' ⟨s0, s1, s2⟩
        go_simp
        with_reducible rfl
       rotate_left
       ·simp only [Act.put, L1_, L2_, L3_, i64_w, i32_w]
        rfl
       refine take_ (i := 9) (N := some 30) (v := ?_) (a' := ?_) #[tt,tt,tt,tt,tt,tt,tt,tt,tt,tt,ff,ff,tt,ff,ff,ff,ff,ff,ff,ff] rfl rfl (take_ofW HT_.out HW_.out (by kernel_rfl)) (fun _ _ _ h => h) (Or.inl ⟨by rfl, ?_⟩) hHeld ?_ ?_
       rotate_left
       ·rintro w' ⟨s0, s1, s2⟩
        go_simp
        with_reducible rfl
       rotate_left
       ·simp only [Act.put, L1_, L2_, L3_, i64_w, i32_w]
        rfl
       refine take_ (i := 13) (N := some 34) (v := ?_) (a' := ?_) #[tt,tt,tt,tt,tt,tt,tt,tt,tt,tt,ff,ff,tt,tt,ff,ff,ff,ff,ff,ff] rfl rfl (take_ofW HT_.out HW_.out (by kernel_rfl)) (fun _ _ _ h => h) (Or.inl ⟨by rfl, ?_⟩) hHeld ?_ ?_
       rotate_left
       ·rintro w' ⟨s0, s1, s2⟩
        go_simp
        with_reducible rfl
       rotate_left
       ·simp only [Act.put, L1_, L2_, L3_, i64_w, i32_w]
        rfl
       refine one_ (i := 10) (N := some 31) #[tt,tt,tt,tt,tt,tt,tt,tt,tt,tt,tt,ff,tt,tt,ff,ff,ff,ff,ff,ff] rfl rfl (one_of HT_.out (by kernel_rfl)) (by decide) (fun K hK => ?_)
       refine goes_ Try.func38 (by kernel_rfl) rfl #[.int .i64 ((rd_T65 (rd_L3 l0 x10_1) x16_2).f1)] (by rfl) rfl rfl (by (try simp only [List.map_toArray, List.map_cons, List.map_nil]); first | done | rfl | (simp only [List.length_drop, List.length_take]; rfl)) ?_
       with_reducible refine (impl_sixteen.calls k2 ((rd_T65 (rd_L3 l0 x10_1) x16_2).f1) t200 _ A8.out).mono ?_
       rintro e w' ⟨rfl, ⟨nd, rfl⟩⟩
       refine ⟨_, rfl, ?_⟩
       refine hK.out _ _ ⟨(blk_cell BK199.out 0).trans rfl, (blk_cell BK199.out 1).trans rfl, (blk_cell BK199.out 2).trans rfl⟩ (fun hHeld => ?_)
       clear hK K
       refine norm_ (a' := ?_) ?_ ?_
       rotate_left
       ·show Act.put _ (some 31) _ = _
        simp only [Act.put, L1_, L2_, L3_, i64_w, i32_w]
        rfl
       refine pure_ (i := 11) (N := some 32) (v := ?_) (a' := ?_) #[tt,tt,tt,tt,tt,tt,tt,tt,tt,tt,tt,tt,tt,tt,ff,ff,ff,ff,ff,ff] rfl rfl (any_of HT_.out (by kernel_rfl)) (fun _ _ _ h => h) (Or.inl ⟨by rfl, ?_⟩) ?_ ?_
       rotate_left
       ·intro w'
        go_simp
        with_reducible rfl
       rotate_left
       ·(try go_ints); (try simp (disch := omega) only [n3_]); simp only [Act.put, L1_, L2_, L3_, i64_w, i32_w]
        rfl
       refine one_ (i := 14) (N := some 35) #[tt,tt,tt,tt,tt,tt,tt,tt,tt,tt,tt,tt,tt,tt,tt,ff,ff,ff,ff,ff] rfl rfl (one_of HT_.out (by kernel_rfl)) (by decide) (fun K hK => ?_)
       refine goes_ Try.func38 (by kernel_rfl) rfl #[.int .i64 ((rd_T65 (rd_L3 l0 x10_1) x16_2).f2)] (by rfl) rfl rfl (by (try simp only [List.map_toArray, List.map_cons, List.map_nil]); first | done | rfl | (simp only [List.length_drop, List.length_take]; rfl)) ?_
       with_reducible refine (impl_sixteen.calls k2 ((rd_T65 (rd_L3 l0 x10_1) x16_2).f2) t201 _ A9.out).mono ?_
       rintro e w' ⟨rfl, ⟨nd, rfl⟩⟩
       refine ⟨_, rfl, ?_⟩
       refine hK.out _ _ ⟨(blk_cell BK199.out 0).trans rfl, (blk_cell BK199.out 1).trans rfl, (blk_cell BK199.out 2).trans rfl⟩ (fun hHeld => ?_)
       clear hK K
       refine norm_ (a' := ?_) ?_ ?_
       rotate_left
       ·show Act.put _ (some 35) _ = _
        simp only [Act.put, L1_, L2_, L3_, i64_w, i32_w]
        rfl
       refine pure_ (i := 15) (N := some 36) (v := ?_) (a' := ?_) #[tt,tt,tt,tt,tt,tt,tt,tt,tt,tt,tt,tt,tt,tt,tt,tt,ff,ff,ff,ff] rfl rfl (any_of HT_.out (by kernel_rfl)) (fun _ _ _ h => h) (Or.inl ⟨by rfl, ?_⟩) ?_ ?_
       rotate_left
       ·intro w'
        go_simp
        with_reducible rfl
       rotate_left
       ·(try go_ints); (try simp (disch := omega) only [n3_]); simp only [Act.put, L1_, L2_, L3_, i64_w, i32_w]
        rfl
       refine pure_ (i := 16) (N := some 37) (v := ?_) (a' := ?_) #[tt,tt,tt,tt,tt,tt,tt,tt,tt,tt,tt,tt,tt,tt,tt,tt,tt,ff,ff,ff] rfl rfl (any_of HT_.out (by kernel_rfl)) (fun _ _ _ h => h) (Or.inl ⟨by rfl, ?_⟩) ?_ ?_
       rotate_left
       ·intro w'
        go_simp
        with_reducible rfl
       rotate_left
       ·simp only [Act.put, L1_, L2_, L3_, i64_w, i32_w]
        rfl
       refine one_ (i := 17) (N := some 38) #[tt,tt,tt,tt,tt,tt,tt,tt,tt,tt,tt,tt,tt,tt,tt,tt,tt,tt,ff,ff] rfl rfl (one_of HT_.out (by kernel_rfl)) (by decide) (fun K hK => ?_)
       refine value_ (w1 := ?_) (v := ?_) (by rfl) rfl ?_ ?_
       rotate_left 2
       ·go_simp
        constructor
        ·rfl
        ·rfl
       refine hK.out _ _ ⟨(blk_cell (blk_alloc BK199.out _) 0).trans rfl, (blk_cell (blk_alloc BK199.out _) 1).trans rfl, (blk_cell (blk_alloc BK199.out _) 2).trans rfl⟩ (fun hHeld => ?_)
       clear hK K
       refine norm_ (a' := ?_) ?_ ?_
       rotate_left
       ·show Act.put _ (some 38) _ = _
        simp only [Act.put, L1_, L2_, L3_, i64_w, i32_w]
        rfl
       refine one_ (i := 18) (N := some 39) #[tt,tt,tt,tt,tt,tt,tt,tt,tt,tt,tt,tt,tt,tt,tt,tt,tt,tt,tt,ff] rfl rfl (one_of HT_.out (by kernel_rfl)) (by decide) (fun K hK => ?_)
       refine Kd.R_append_step k133 (w0 := w) w.heap.size (by rfl) (.tmp 21) (.tmp 38) 130 133 (.agg #[(.bool false), (.bool false), (.float .f32 0), (.float .f32 0)]) 12 rfl Try.underlying130 info133 rfl (by decide) (by omega) u3 x3_2 (⟨(rd_T65 (rd_L3 l0 x10_1) x16_2).f0, (x16_2 == (wrap64 (((rd_L3 l0 x10_1).length : Int) - 1))), floatOfInt .f32 t200, floatOfInt .f32 t201⟩ : S133) [.bool ((rd_T65 (rd_L3 l0 x10_1) x16_2).f0), .bool (x16_2 == (wrap64 (((rd_L3 l0 x10_1).length : Int) - 1))), .float .f32 (floatOfInt .f32 t200), .float .f32 (floatOfInt .f32 t201)] (fun _ => True) (fun _ => False) rfl rfl ?aP (fun _ hk => hk.elim) ?aF ?aO ?aB ?aS ?aL ?_
       (case aP => exact k133_mkM _ _ _ (⟨(rd_T65 (rd_L3 l0 x10_1) x16_2).f0, (x16_2 == (wrap64 (((rd_L3 l0 x10_1).length : Int) - 1))), floatOfInt .f32 t200, floatOfInt .f32 t201⟩ : S133))
       (case aB => exact (by repeat (first | (with_reducible first | exact HB.out | apply below_alloc | apply pw_below_drewN | apply below_drew1 | refine below_set ?_ GE199.out) | exact HB.out)))
       (case aF => exact (fun _ _ => trivial))
       (case aO => exact (by (with_reducible repeat (first | apply Kd.R_alloc | apply Kd.R_drewN | apply Kd.R_drew)); exact HO_3.out))
       (case aS => exact (below_size (by repeat (first | (with_reducible first | exact HB.out | apply below_alloc | apply pw_below_drewN | apply below_drew1 | refine below_set ?_ GE199.out) | exact HB.out))))
       (case aL => have := LMc10.out; omega)
       intro v203 w15 ho hb hg hat
       rw [← Ny202.out] at ho
       have n0_ := Aside0.mk (blk_grown (g := gb199) (o := .cells #[.bool ((rd_T65 (rd_L3 l0 x10_1) x16_2).f0), .int .i64 ((rd_T65 (rd_L3 l0 x10_1) x16_2).f1), .int .i64 ((rd_T65 (rd_L3 l0 x10_1) x16_2).f2)] 65 (0, 0)) (by (with_reducible repeat (first | apply b1_ | apply b2_ | apply b3_)); exact BK199.out) hg (Kd.R_ne HO_3.out BK199.out (by decide)))
       have n1_ := Aside0.mk (hb)
       have n2_ := Aside0.mk (ho)
       clear BK199
       clear HB
       clear HO_3
       have BK199 := n0_
       have HB := n1_
       have HO204 := n2_
       clear n0_ n1_ n2_
       clear ho hb hg hat
       refine hK.out _ _ ⟨(blk_cell BK199.out 0).trans rfl, (blk_cell BK199.out 1).trans rfl, (blk_cell BK199.out 2).trans rfl⟩ (fun hHeld => ?_)
       clear hK K
       refine norm_ (a' := ?_) ?_ ?_
       rotate_left
       ·show Act.put _ (some 39) _ = _
        simp only [Act.put, L1_, L2_, L3_, i64_w, i32_w]
        rfl
       refine pure_ (i := 19) (N := some 3) (v := ?_) (a' := ?_) #[tt,tt,tt,tt,tt,tt,tt,tt,tt,tt,tt,tt,tt,tt,tt,tt,tt,tt,tt,tt] rfl rfl (any_of HT_.out (by kernel_rfl)) (fun _ _ _ h => h) (Or.inl ⟨by rfl, ?_⟩) ?_ ?_
       rotate_left
       ·intro w'
        go_simp
        with_reducible rfl
       rotate_left
       ·simp only [Act.put, L1_, L2_, L3_, i64_w, i32_w]
        rfl
       refine done_ (done_of HT_.out (by kernel_rfl)) ?_
       try go_wp2
       go_roundg k2
       case measure => have := HK1.out; have := HK2.out; omega
       case rel => exact ⟨(y202), (wrap64 (x16_2 + 1)), (by first | rfl | (simp; done) | (simp [*]; done)), H', ⟨by have := HK1.out; have := HK2.out; omega⟩, ⟨by (with_reducible repeat (first | apply Kd.R_alloc | apply Kd.R_drewN | apply Kd.R_drew)); exact HO204.out⟩, ⟨by repeat (first | (with_reducible first | exact HB.out | apply below_alloc | apply pw_below_drewN | apply below_drew1 | refine below_set ?_ GE199.out) | exact HB.out)⟩⟩
      ·rw [if_neg c5] at H
       have c5b0 : decide (x16_2 < ((rd_L3 l0 x10_1).length : Int)) = false := decide_eq_false c5
       clear c5
       have H' := Aside0.mk H
       clear H
       go_wp2
       go_roundg k2
       case measure => have := HK1.out; have := HK2.out; omega
       case rel => exact ⟨(x3_2), (wrap64 (x10_1 + 1)), (by first | rfl | (simp; done) | (simp [*]; done)), H', ⟨by have := HK1.out; have := HK2.out; omega⟩, ⟨by (with_reducible repeat (first | apply Kd.R_alloc | apply Kd.R_drewN | apply Kd.R_drew)); exact HO_3.out⟩, ⟨by repeat (first | (with_reducible first | exact HB.out | apply below_alloc | apply pw_below_drewN | apply below_drew1) | exact HB.out)⟩⟩
   ·rw [if_neg c2] at H
    have c2b0 : decide (x10_1 < (l0.length : Int)) = false := decide_eq_false c2
    clear c2
    replace H := Option.bind_eq_some_iff.mp H
    obtain ⟨t205, A160, H⟩ := H
    replace H : ((impl_strokes.f k1 t205).bind fun t208 => (some t208)) = some r := H
    have A16 := Aside0.mk A160
    clear A160
    replace H := Option.bind_eq_some_iff.mp H
    obtain ⟨t208, A170, H⟩ := H
    replace H : (some t208) = some r := H
    have A17 := Aside0.mk A170
    clear A170
    obtain rfl := Option.some.inj H
    obtain ⟨Ao18, co18, eo18⟩ := Kd.R_slice HO_3.out
    subst eo18
    go_wp2_with (first | ((with_reducible refine gate_callee (f := 40) rfl ?_); refine goesL_ (some 43) rfl rfl Try.func40 (by kernel_rfl) rfl #[.slice Ao18 x3_1.length co18] rfl (by (try simp only [List.map_toArray, List.map_cons, List.map_nil]); first | done | rfl | (simp only [List.length_drop, List.length_take]; rfl)) ?_; (with_reducible refine (font_ZzContours.calls k1 _ _ x3_1 t205 _ ?side1 ?side2 A16.out).mono ?_); (case side1 => repeat (first | exact (Kd.R_reads' HO_3.out).2.2 | (with_reducible refine Kd.C_alloc ?_ _) | (with_reducible refine Kd.C_drewN ?_ _) | (with_reducible refine Kd.C_drew ?_))); (case side2 => exact (Kd.R_reads' HO_3.out).2.1); rintro e w19 ⟨v206, rfl, ho0, hb⟩; refine ⟨_, rfl, ?_⟩; have n0_ := Aside0.mk (Kd.R_below (by (with_reducible repeat (first | apply Kd.R_alloc | apply Kd.R_drewN | apply Kd.R_drew)); exact HO_3.out) hb); have n1_ := Aside0.mk (Kd.R_lower ho0 (below_size (by repeat (first | (with_reducible first | exact HB.out | apply below_alloc | apply pw_below_drewN | apply below_drew1) | exact HB.out)))); have n2_ := Aside0.mk (below_step (by repeat (first | (with_reducible first | exact HB.out | apply below_alloc | apply pw_below_drewN | apply below_drew1) | exact HB.out)) hb); clear HO_3; clear HB; have HO_3 := n0_; have HO207 := n1_; have HB := n2_; clear n0_ n1_ n2_; (try clear hb); (try clear hb2); (try clear hk); (try clear hi); (try clear ho0); obtain ⟨Ao20, co20, eo20⟩ := Kd.R_slice HO207.out; subst eo20) | ((with_reducible refine gate_callee (f := 39) rfl ?_); refine goesL_ (some 44) rfl rfl Try.func39 (by kernel_rfl) rfl #[.slice Ao20 t205.length co20] rfl (by (try simp only [List.map_toArray, List.map_cons, List.map_nil]); first | done | rfl | (simp only [List.length_drop, List.length_take]; rfl)) ?_; (with_reducible refine (impl_strokes.calls k1 _ _ t205 t208 _ ?side1 ?side2 A17.out).mono ?_); (case side1 => repeat (first | exact (Kd.R_reads' HO207.out).2.2 | (with_reducible refine Kd.C_alloc ?_ _) | (with_reducible refine Kd.C_drewN ?_ _) | (with_reducible refine Kd.C_drew ?_))); (case side2 => exact (Kd.R_reads' HO207.out).2.1); rintro e w21 ⟨v209, rfl, ho0, hb⟩; refine ⟨_, rfl, ?_⟩; have n0_ := Aside0.mk (Kd.R_below (by (with_reducible repeat (first | apply Kd.R_alloc | apply Kd.R_drewN | apply Kd.R_drew)); exact HO_3.out) hb); have n1_ := Aside0.mk (Kd.R_below (by (with_reducible repeat (first | apply Kd.R_alloc | apply Kd.R_drewN | apply Kd.R_drew)); exact HO207.out) hb); have n2_ := Aside0.mk (Kd.R_lower ho0 (below_size (by repeat (first | (with_reducible first | exact HB.out | apply below_alloc | apply pw_below_drewN | apply below_drew1) | exact HB.out)))); have n3_ := Aside0.mk (below_step (by repeat (first | (with_reducible first | exact HB.out | apply below_alloc | apply pw_below_drewN | apply below_drew1) | exact HB.out)) hb); clear HO_3; clear HO207; clear HB; have HO_3 := n0_; have HO207 := n1_; have HO210 := n2_; have HB := n3_; clear n0_ n1_ n2_ n3_; (try clear hb); (try clear hb2); (try clear hk); (try clear hi); (try clear ho0)))
    go_ret
    exact ⟨_, by first | rfl | (simp [errW_none, errW_some] <;> rfl) | (simp [*, errW_none, errW_some] <;> rfl), by (with_reducible repeat (first | apply Kd.R_alloc | apply Kd.R_drewN | apply Kd.R_drew)); exact HO210.out, by repeat (first | (with_reducible first | exact HB.out | apply below_alloc | apply pw_below_drewN | apply below_drew1) | exact HB.out)⟩

/-! ### spec_Piece_41: function 41 -/
def spec_Piece_41.l0 : Nat → List (S129) → List (S129) → Int → Int → Option (Bool)
 | 0, _, _, _, _ => none
 | k + 1, x0, x1, x12, x13 => if x13 < x12 then (if 0 ≤ x13 then (if x13 < (x0.length : Int) then (if x13 < (x1.length : Int) then (if (!(((rd_T129 x0 x13).f0) == ((rd_T129 x1 x13).f0)) || ((!(FloatKind.f32.format.order ((rd_T129 x0 x13).f1.f0) ((rd_T129 x1 x13).f1.f0) == some .eq) || (!(FloatKind.f32.format.order ((rd_T129 x0 x13).f1.f1) ((rd_T129 x1 x13).f1.f1) == some .eq))) || ((!(FloatKind.f32.format.order ((rd_T129 x0 x13).f2.f0) ((rd_T129 x1 x13).f2.f0) == some .eq) || (!(FloatKind.f32.format.order ((rd_T129 x0 x13).f2.f1) ((rd_T129 x1 x13).f2.f1) == some .eq))) || ((!(FloatKind.f32.format.order ((rd_T129 x0 x13).f3.f0) ((rd_T129 x1 x13).f3.f0) == some .eq) || (!(FloatKind.f32.format.order ((rd_T129 x0 x13).f3.f1) ((rd_T129 x1 x13).f3.f1) == some .eq))))))) = true then (some false) else (spec_Piece_41.l0 k x0 x1 x12 (wrap64 (x13 + 1)))) else (none)) else (none)) else (none)) else (some true)
def spec_Piece_41.f (k : Nat) (l0 : List (S129)) (l1 : List (S129)) : Option (Bool) := if (l0.length : Int) = (l1.length : Int) then (spec_Piece_41.l0 k l0 l1 (l0.length : Int) 0) else (some false)
theorem spec_Piece_41.mono_l : ∀ k, (∀ y0 y1 y2 y3, LeO (spec_Piece_41.l0 k y0 y1 y2 y3) (spec_Piece_41.l0 (k + 1) y0 y1 y2 y3))
 | 0 => fun _ _ _ _ r h => by simp [spec_Piece_41.l0] at h
 | k + 1 => by
  have ih0 := spec_Piece_41.mono_l k
  ·intro y0 y1 y2 y3
   unfold spec_Piece_41.l0
   repeat' first
   | (with_reducible exact ih0 _ _ _ _)
   | (with_reducible exact LeO.refl _)
   | (with_reducible exact LeO.none _)
   | (with_reducible refine LeO.ite ?_ ?_)
   | (with_reducible refine LeO.bind ?_ (fun _ => ?_))
   | exact ih0 _ _ _ _
   | exact LeO.none _
   | refine LeO.ite ?_ ?_
   | refine LeO.bind ?_ (fun _ => ?_)
theorem spec_Piece_41.mono : ∀ a0 a1 k, LeO (spec_Piece_41.f k a0 a1) (spec_Piece_41.f (k + 1) a0 a1) := by
 intro a0 a1 k
 have ih0 := spec_Piece_41.mono_l k
 unfold spec_Piece_41.f
 repeat' first
   | (with_reducible exact ih0 _ _ _ _)
   | (with_reducible exact LeO.refl _)
   | (with_reducible exact LeO.none _)
   | (with_reducible refine LeO.ite ?_ ?_)
   | (with_reducible refine LeO.bind ?_ (fun _ => ?_))
   | exact ih0 _ _ _ _
   | exact LeO.none _
   | refine LeO.ite ?_ ?_
   | refine LeO.bind ?_ (fun _ => ?_)
set_option maxHeartbeats 8000000 in
set_option maxRecDepth 100000 in
theorem spec_Piece_41.calls (k : Nat) (A0 : Option Addr) (c0 : Nat) (l0 : List (S129)) (A1 : Option Addr) (c1 : Nat) (l1 : List (S129)) (r : Bool) (w : World) (hr0 : Kd.C k129 w A0 l0.length l0) (hc0 : l0.length ≤ c0) (hr1 : Kd.C k129 w A1 l1.length l1) (hc1 : l1.length ≤ c1) (h : spec_Piece_41.f k l0 l1 = some r) :
  Calls Try.prog 41 #[.slice A0 l0.length c0, .slice A1 l1.length c1] w fun e w' => e = .returned (.bool r) ∧ Drawn0 w w' := by
 have hu129 := Try.underlying129
 have HR0 := Aside0.mk hr0
 have HC0 := Aside0.mk hc0
 clear hr0 hc0
 have HR1 := Aside0.mk hr1
 have HC1 := Aside0.mk hc1
 clear hr1 hc1
 have H : (if (l0.length : Int) = (l1.length : Int) then (spec_Piece_41.l0 k l0 l1 (l0.length : Int) 0) else (some false)) = some r := h
 clear h
 by_cases c3 : (l0.length : Int) = (l1.length : Int)
 ·rw [if_pos c3] at H
  have c3b0 : ((l0.length : Int) == (l1.length : Int)) = true := beq_iff_eq.mpr c3
  have c3b1 : ((l0.length : Int) != (l1.length : Int)) = false := bne_eq_false_iff_eq.mpr c3
  have c3b2 : (l0.length == l1.length) = true := by first | simpa using c3 | (simp at c3 ⊢; omega)
  clear c3
  have H' := Aside0.mk H
  clear H
  go_enter Try.func41, Try.ntmps41
  go_wp2
  repeat (go_quiet (fail); try go_wp2)
  go_loopg [13] k (fun kq v13 w' => ∃ (x13_1 : Int), v13 = .int .i64 x13_1 ∧ Aside0 (spec_Piece_41.l0 kq l0 l1 (l0.length : Int) x13_1 = some r) ∧ Aside0 (kq ≤ k) ∧ Drawn0 w w')
  case atStart => exact ⟨(0), (by first | rfl | (simp; done) | (simp [*]; done)), H', ⟨Nat.le_refl _⟩, by repeat (first | exact Drawn0.refl _ | apply Drawn0.step)⟩
  case round =>
   clear H'
   (try clear c1); (try clear p2); (try clear c3); (try clear c3b0); (try clear c3b1); (try clear c3b2)
   obtain ⟨x13_1, rfl, HA, HK1, ⟨m1, rfl⟩⟩ := hrel
   cases gk with
   | zero => exact absurd HA.out (by simp [spec_Piece_41.l0])
   | succ k1 =>
    have H := HA.out
    clear HA
    simp only [spec_Piece_41.l0] at H
    by_cases c4 : x13_1 < (l0.length : Int)
    ·rw [if_pos c4] at H
     have c4b0 : decide (x13_1 < (l0.length : Int)) = true := decide_eq_true c4
     clear c4
     by_cases c5 : 0 ≤ x13_1
     rotate_left
     ·rw [if_neg c5] at H
      exact absurd H (by simp)
     rw [if_pos c5] at H
     have c5b0 : decide (0 ≤ x13_1) = true := decide_eq_true c5
     clear c5
     by_cases c6 : x13_1 < (l0.length : Int)
     rotate_left
     ·rw [if_neg c6] at H
      exact absurd H (by simp)
     rw [if_pos c6] at H
     have c6b0 : decide (x13_1 < (l0.length : Int)) = true := decide_eq_true c6
     clear c6
     by_cases c7 : x13_1 < (l1.length : Int)
     rotate_left
     ·rw [if_neg c7] at H
      exact absurd H (by simp)
     rw [if_pos c7] at H
     have c7b0 : decide (x13_1 < (l1.length : Int)) = true := decide_eq_true c7
     clear c7
     by_cases c8 : (!(((rd_T129 l0 x13_1).f0) == ((rd_T129 l1 x13_1).f0)) || ((!(FloatKind.f32.format.order ((rd_T129 l0 x13_1).f1.f0) ((rd_T129 l1 x13_1).f1.f0) == some .eq) || (!(FloatKind.f32.format.order ((rd_T129 l0 x13_1).f1.f1) ((rd_T129 l1 x13_1).f1.f1) == some .eq))) || ((!(FloatKind.f32.format.order ((rd_T129 l0 x13_1).f2.f0) ((rd_T129 l1 x13_1).f2.f0) == some .eq) || (!(FloatKind.f32.format.order ((rd_T129 l0 x13_1).f2.f1) ((rd_T129 l1 x13_1).f2.f1) == some .eq))) || ((!(FloatKind.f32.format.order ((rd_T129 l0 x13_1).f3.f0) ((rd_T129 l1 x13_1).f3.f0) == some .eq) || (!(FloatKind.f32.format.order ((rd_T129 l0 x13_1).f3.f1) ((rd_T129 l1 x13_1).f3.f1) == some .eq))))))) = true
     ·rw [if_pos c8] at H
      have c8b0 : (!(((rd_T129 l0 x13_1).f0) == ((rd_T129 l1 x13_1).f0)) || ((!(FloatKind.f32.format.order ((rd_T129 l0 x13_1).f1.f0) ((rd_T129 l1 x13_1).f1.f0) == some .eq) || (!(FloatKind.f32.format.order ((rd_T129 l0 x13_1).f1.f1) ((rd_T129 l1 x13_1).f1.f1) == some .eq))) || ((!(FloatKind.f32.format.order ((rd_T129 l0 x13_1).f2.f0) ((rd_T129 l1 x13_1).f2.f0) == some .eq) || (!(FloatKind.f32.format.order ((rd_T129 l0 x13_1).f2.f1) ((rd_T129 l1 x13_1).f2.f1) == some .eq))) || ((!(FloatKind.f32.format.order ((rd_T129 l0 x13_1).f3.f0) ((rd_T129 l1 x13_1).f3.f0) == some .eq) || (!(FloatKind.f32.format.order ((rd_T129 l0 x13_1).f3.f1) ((rd_T129 l1 x13_1).f3.f1) == some .eq))))))) = true := c8
      clear c8
      obtain rfl := Option.some.inj H
      have p211 : 0 ≤ (x13_1 : Int) := of_decide_eq_true (by first | (with_reducible assumption) | assumption)
      have q211 : x13_1 < (l0.length : Int) := of_decide_eq_true (by first | (with_reducible assumption) | assumption)
      obtain ⟨ad211, e211, hx211_0, hx211_1, hx211_2, hx211_3, hx211_4, hx211_5, hx211_6⟩ := at_T129 HR0.out x13_1 p211 q211
      cases e211
      replace p211 := eq_true p211
      replace q211 := eq_true q211
      have p212 : 0 ≤ (x13_1 : Int) := of_decide_eq_true (by first | (with_reducible assumption) | assumption)
      have q212 : x13_1 < (l1.length : Int) := of_decide_eq_true (by first | (with_reducible assumption) | assumption)
      obtain ⟨ad212, e212, hx212_0, hx212_1, hx212_2, hx212_3, hx212_4, hx212_5, hx212_6⟩ := at_T129 HR1.out x13_1 p212 q212
      cases e212
      replace p212 := eq_true p212
      replace q212 := eq_true q212
      go_wp2
      repeat (go_quiet (fail); try go_wp2)
      go_ret
      exact ⟨by first | rfl | (simp; done) | (simp [*]; done), by repeat (first | exact Drawn0.refl _ | apply Drawn0.step)⟩
     ·rw [if_neg c8] at H
      have c8b0 : (!(((rd_T129 l0 x13_1).f0) == ((rd_T129 l1 x13_1).f0)) || ((!(FloatKind.f32.format.order ((rd_T129 l0 x13_1).f1.f0) ((rd_T129 l1 x13_1).f1.f0) == some .eq) || (!(FloatKind.f32.format.order ((rd_T129 l0 x13_1).f1.f1) ((rd_T129 l1 x13_1).f1.f1) == some .eq))) || ((!(FloatKind.f32.format.order ((rd_T129 l0 x13_1).f2.f0) ((rd_T129 l1 x13_1).f2.f0) == some .eq) || (!(FloatKind.f32.format.order ((rd_T129 l0 x13_1).f2.f1) ((rd_T129 l1 x13_1).f2.f1) == some .eq))) || ((!(FloatKind.f32.format.order ((rd_T129 l0 x13_1).f3.f0) ((rd_T129 l1 x13_1).f3.f0) == some .eq) || (!(FloatKind.f32.format.order ((rd_T129 l0 x13_1).f3.f1) ((rd_T129 l1 x13_1).f3.f1) == some .eq))))))) = false := by simpa using c8
      clear c8
      have H' := Aside0.mk H
      clear H
      have p211 : 0 ≤ (x13_1 : Int) := of_decide_eq_true (by first | (with_reducible assumption) | assumption)
      have q211 : x13_1 < (l0.length : Int) := of_decide_eq_true (by first | (with_reducible assumption) | assumption)
      obtain ⟨ad211, e211, hx211_0, hx211_1, hx211_2, hx211_3, hx211_4, hx211_5, hx211_6⟩ := at_T129 HR0.out x13_1 p211 q211
      cases e211
      replace p211 := eq_true p211
      replace q211 := eq_true q211
      have p212 : 0 ≤ (x13_1 : Int) := of_decide_eq_true (by first | (with_reducible assumption) | assumption)
      have q212 : x13_1 < (l1.length : Int) := of_decide_eq_true (by first | (with_reducible assumption) | assumption)
      obtain ⟨ad212, e212, hx212_0, hx212_1, hx212_2, hx212_3, hx212_4, hx212_5, hx212_6⟩ := at_T129 HR1.out x13_1 p212 q212
      cases e212
      replace p212 := eq_true p212
      replace q212 := eq_true q212
      go_wp2
      repeat (go_quiet (fail); try go_wp2)
      go_roundg k1
      case measure => have := HK1.out; omega
      case rel => exact ⟨(wrap64 (x13_1 + 1)), (by first | rfl | (simp; done) | (simp [*]; done)), H', ⟨by have := HK1.out; omega⟩, by repeat (first | exact Drawn0.refl _ | apply Drawn0.step)⟩
    ·rw [if_neg c4] at H
     have c4b0 : decide (x13_1 < (l0.length : Int)) = false := decide_eq_false c4
     clear c4
     obtain rfl := Option.some.inj H
     go_wp2
     repeat (go_quiet (fail); try go_wp2)
     go_ret
     exact ⟨by first | rfl | (simp; done) | (simp [*]; done), by repeat (first | exact Drawn0.refl _ | apply Drawn0.step)⟩
 ·rw [if_neg c3] at H
  have c3b0 : ((l0.length : Int) == (l1.length : Int)) = false := beq_eq_false_iff_ne.mpr c3
  have c3b1 : ((l0.length : Int) != (l1.length : Int)) = true := bne_iff_ne.mpr c3
  have c3b2 : (l0.length == l1.length) = false := by first | simpa using c3 | (simp at c3 ⊢; omega)
  obtain rfl := Option.some.inj H
  go_enter Try.func41, Try.ntmps41
  go_wp2
  repeat (go_quiet (fail); try go_wp2)
  go_ret
  exact ⟨by first | rfl | (simp; done) | (simp [*]; done), by repeat (first | exact Drawn0.refl _ | apply Drawn0.step)⟩

/-! ### spec_Piece_42: function 42 -/
def spec_Piece_42.f (l0 : List (S129)) : Option ((List (S129))) := (some (([] : List (S129)) : List (S129))).bind fun y213 => (if y213.length + l0.length < 5026338869833 then (some (y213 ++ l0)) else (none))
set_option maxHeartbeats 8000000 in
set_option maxRecDepth 100000 in
theorem spec_Piece_42.calls (A0 : Option Addr) (c0 : Nat) (l0 : List (S129)) (r : List (S129)) (w : World) (hr0 : Kd.C k129 w A0 l0.length l0) (hc0 : l0.length ≤ c0) (h : spec_Piece_42.f l0 = some r) :
  Calls Try.prog 42 #[.slice A0 l0.length c0] w fun e w' => ∃ v0_ : Value, e = .returned (v0_) ∧ Kd.R k129 129 w' w.heap.size (fun _ => True) v0_ r ∧ Below w.heap.size w w' := by
 have HR0 := Aside0.mk hr0
 have HC0 := Aside0.mk hc0
 clear hr0 hc0
 have HB := Aside0.mk (Below.refl w.heap.size w)
 have H : ((some (([] : List (S129)) : List (S129))).bind fun y213 => (if y213.length + l0.length < 5026338869833 then (some (y213 ++ l0)) else (none))) = some r := h
 clear h
 obtain ⟨y213, hy213⟩ : ∃ y_ : List (S129), y_ = (([] : List (S129))) := ⟨_, rfl⟩
 replace H : (if y213.length + l0.length < 5026338869833 then (some (y213 ++ l0)) else (none)) = some r := by first | (rw [hy213]; with_reducible exact H) | (have H2_ := (Option.bind_some _ _).symm.trans H; rw [hy213]; with_reducible exact H2_) | (have H2_ := (Option.bind_some _ _).symm.trans H; with_reducible exact H2_) | with_reducible exact H | (rw [hy213]; exact H) | exact H
 have Ny213 := Aside0.mk hy213
 clear hy213
 by_cases c2 : y213.length + l0.length < 5026338869833
 rotate_left
 ·rw [if_neg c2] at H
  exact absurd H (by simp)
 rw [if_pos c2] at H
 have LMc2 := Aside0.mk c2
 clear c2
 obtain ⟨y216, hy216⟩ : ∃ y_ : List (S129), y_ = (y213 ++ l0) := ⟨_, rfl⟩
 replace H : (some y216) = some r := by first | (rw [hy216]; with_reducible exact H) | (have H2_ := (Option.bind_some _ _).symm.trans H; rw [hy216]; with_reducible exact H2_) | (have H2_ := (Option.bind_some _ _).symm.trans H; with_reducible exact H2_) | with_reducible exact H | (rw [hy216]; exact H) | exact H
 have Ny216 := Aside0.mk hy216
 clear hy216
 obtain rfl := Option.some.inj H
 have hnil_ : ∀ (A_ : Option Addr) (n_ c_ : Nat) (W_ : World), (binOp .eql 62 (.slice A_ n_ c_) (.slice none 0 0)).run Try.prog W_ = .ok (.bool A_.isNone) W_ := fun A_ n_ c_ W_ => Go.run_eql_slice_nil W_ 62 129 A_ n_ c_ Try.underlying62
 rcases A0 with _ | ad0
 ·have hl0 : l0.length = 0 := by
   rcases Nat.eq_zero_or_pos l0.length with h_ | h_
   ·exact h_
   ·obtain ⟨ad_, h1_, _⟩ := HR0.out.2.2 h_
    cases h1_
  have hn0 : y216 = [] := by rw [Ny216.out, Ny213.out, List.eq_nil_of_length_eq_zero hl0]; rfl
  go_enter Try.func42, Try.ntmps42
  go_wp2
  go_ret
  exact ⟨_, rfl, by first | exact Kd.R_nil _ _ _ _ _ | (rw [hn0]; exact Kd.R_nil _ _ _ _ _), HB.out⟩
 go_enter Try.func42, Try.ntmps42
 go_wp2_with (first | ((with_reducible refine gate_dst (N := 5) rfl ?_); refine Kd.R_lit k129 _ 129 ?hg (N := 5) ?hd (xs := ([] : List (S129))) (inner := []) (ok := fun _ => True) (okp := fun _ => True) ?hr ?hp (fun _ hk => hk) trivial (Below.refl _ _) (Nat.le_refl _) (by simp) ?_; (case hd => rfl); (case hg => rfl); (case hr => first | (go_simp; done) | (go_simp; rfl)); (case hp => exact (Reps.none _ _)); intro v214 w3 ho4 hb hg_ hnew_; clear hg_ hnew_; (first | rw [← Ny213.out] at ho4 | (simp only [Int.reduceToNat] at ho4; rw [← Ny213.out] at ho4)); have n0_ := Aside0.mk (Kd.R_lower ho4 (below_size (by repeat (first | (with_reducible first | exact HB.out | apply below_alloc | apply pw_below_drewN | apply below_drew1) | exact HB.out)))); have n1_ := Aside0.mk (below_step (by repeat (first | (with_reducible first | exact HB.out | apply below_alloc | apply pw_below_drewN | apply below_drew1) | exact HB.out)) hb); clear HB; have HO215 := n0_; have HB := n1_; clear n0_ n1_; clear hb ho4) | ((with_reducible refine gate_builtin (b := .append) (xs := #[.tmp 5, .tmp 6]) rfl ?_); at_builtin; refine Kd.R_append_rows k129 (w0 := w) w.heap.size rfl (.tmp 5) (.tmp 6) 62 129 (.agg #[(.bool false), (.float .f32 0), (.float .f32 0), (.float .f32 0), (.float .f32 0), (.float .f32 0), (.float .f32 0)]) 28 rfl Try.underlying62 info129 rfl (by decide) (by omega) v214 y213 l0 _ _ _ (fun _ => True) (fun _ => False) rfl rfl ?aO ?aR (fun _ _ h => h) (fun _ h => h.elim) ?aF ?aB ?aS ?aL ?_; (case aR => repeat (first | exact (Kd.C_below HR0.out HB.out) | (with_reducible refine Kd.C_alloc ?_ _) | (with_reducible refine Kd.C_drewN ?_ _) | (with_reducible refine Kd.C_drew ?_))); (case aB => exact (by repeat (first | (with_reducible first | exact HB.out | apply below_alloc | apply pw_below_drewN | apply below_drew1) | exact HB.out))); (case aF => exact (fun _ _ => trivial)); (case aO => exact (by (with_reducible repeat (first | apply Kd.R_alloc | apply Kd.R_drewN | apply Kd.R_drew)); exact HO215.out)); (case aS => exact (below_size (by repeat (first | (with_reducible first | exact HB.out | apply below_alloc | apply pw_below_drewN | apply below_drew1) | exact HB.out)))); (case aL => have := LMc2.out; omega); intro v217 w5 ho hb hg hat; rw [← Ny216.out] at ho; have n0_ := Aside0.mk (hb); have n1_ := Aside0.mk (ho); clear HB; clear HO215; have HB := n0_; have HO218 := n1_; clear n0_ n1_; clear ho hb hg hat))
 go_ret
 exact ⟨_, by first | rfl | (simp [errW_none, errW_some] <;> rfl) | (simp [*, errW_none, errW_some] <;> rfl), by (with_reducible repeat (first | apply Kd.R_alloc | apply Kd.R_drewN | apply Kd.R_drew)); exact HO218.out, by repeat (first | (with_reducible first | exact HB.out | apply below_alloc | apply pw_below_drewN | apply below_drew1) | exact HB.out)⟩

end Go.Proofs.Ytlbmfnjhpojghaa.PFnContours
