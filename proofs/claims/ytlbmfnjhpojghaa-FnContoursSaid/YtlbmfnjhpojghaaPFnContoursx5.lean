-- Written by a program of this session (xprint) out of the translation; Lean checks it.
import Derived.Test.YtlbmfnjhpojghaaPFnContoursx0
import Derived.Handy
namespace Go.Proofs.Ytlbmfnjhpojghaa.PFnContours
open Go.RowKit Go.Proofs.YtlbmfnjhpojghaaW.PrintWords Go.Proofs.YtlbmfnjhpojghaaW.PrintLast Go.Proofs.YtlbmfnjhpojghaaW.PrintMore
attribute [local go_sem] max2_int min2_int max_two min_two max_three min_three max_four min_four   -- for this text's walks alone
set_option linter.unusedVariables false
set_option linter.unusedSimpArgs false

attribute [local go_sem] f_add f_sub f_mul f_quo f_conv f_same f_int f_max f_store
/-! ### impl_sixteen: function 38 -/
def impl_sixteen.j0 : Nat → Int → Bool → Option (Int)
 | 0, _, _ => none
 | k + 1, x0, x8 => if x8 = true then (some 0) else (some (IntKind.i16.wrap (x0)))
def impl_sixteen.f (k : Nat) (a0 : Int) : Option (Int) := if a0 < (-32768) then (impl_sixteen.j0 k a0 true) else (impl_sixteen.j0 k a0 (decide (a0 > 32767)))
theorem impl_sixteen.mono_l : ∀ k, (∀ y0 y1, LeO (impl_sixteen.j0 k y0 y1) (impl_sixteen.j0 (k + 1) y0 y1))
 | 0 => fun _ _ r h => by simp [impl_sixteen.j0] at h
 | k + 1 => by
  have ih0 := impl_sixteen.mono_l k
  ·intro y0 y1
   unfold impl_sixteen.j0
   repeat' first
   | (with_reducible exact ih0 _ _)
   | (with_reducible exact LeO.refl _)
   | (with_reducible exact LeO.none _)
   | (with_reducible refine LeO.ite ?_ ?_)
   | (with_reducible refine LeO.bind ?_ (fun _ => ?_))
   | exact ih0 _ _
   | exact LeO.none _
   | refine LeO.ite ?_ ?_
   | refine LeO.bind ?_ (fun _ => ?_)
theorem impl_sixteen.mono : ∀ a0 k, LeO (impl_sixteen.f k a0) (impl_sixteen.f (k + 1) a0) := by
 intro a0 k
 have ih0 := impl_sixteen.mono_l k
 unfold impl_sixteen.f
 repeat' first
   | (with_reducible exact ih0 _ _)
   | (with_reducible exact LeO.refl _)
   | (with_reducible exact LeO.none _)
   | (with_reducible refine LeO.ite ?_ ?_)
   | (with_reducible refine LeO.bind ?_ (fun _ => ?_))
   | exact ih0 _ _
   | exact LeO.none _
   | refine LeO.ite ?_ ?_
   | refine LeO.bind ?_ (fun _ => ?_)
set_option maxHeartbeats 8000000 in
set_option maxRecDepth 100000 in
theorem impl_sixteen.calls (k : Nat) (a0 : Int) (r : Int) (w : World) (h : impl_sixteen.f k a0 = some r) :
  Calls Try.prog 38 #[.int .i64 a0] w fun e w' => e = .returned (.int .i16 r) ∧ Drawn0 w w' := by
 have H : (if a0 < (-32768) then (impl_sixteen.j0 k a0 true) else (impl_sixteen.j0 k a0 (decide (a0 > 32767)))) = some r := h
 clear h
 have HC2 := Aside0.mk H
 clear H
 go_enter Try.func38, Try.ntmps38
 go_upto_region 1 with (fail)
 go_cut [8] (fun v8 wc => ∃ (kq : Nat) (x8_1 : Bool), v8 = .bool x8_1 ∧ Aside0 (impl_sixteen.j0 kq a0 x8_1 = some r) ∧ Aside0 (kq ≤ k) ∧ Drawn0 w wc)
 case first =>
  have H := HC2.out
  clear HC2
  by_cases c3 : a0 < (-32768)
  ·rw [if_pos c3] at H
   have c3b0 : decide (a0 < (-32768)) = true := decide_eq_true c3
   clear c3
   (first | rw [c3b0] | (simp only [i64_w, i32_w]; rw [c3b0]) | skip)
   have H' := Aside0.mk H
   clear H
   go_wp2
   go_meet
   case rel => exact ⟨_, (true), (by first | rfl | (simp; done) | (simp [*]; done)), H', ⟨by first | omega | exact Nat.le_refl _⟩, by repeat (first | exact Drawn0.refl _ | apply Drawn0.step)⟩
  ·rw [if_neg c3] at H
   have c3b0 : decide (a0 < (-32768)) = false := decide_eq_false c3
   clear c3
   (first | rw [c3b0] | (simp only [i64_w, i32_w]; rw [c3b0]) | skip)
   have H' := Aside0.mk H
   clear H
   go_wp2
   go_meet
   case rel => exact ⟨_, (decide (a0 > 32767)), (by first | rfl | (simp; done) | (simp [*]; done)), H', ⟨by first | omega | exact Nat.le_refl _⟩, by repeat (first | exact Drawn0.refl _ | apply Drawn0.step)⟩
 case rest =>
  clear HC2
  (try clear p2); (try clear c3); (try clear c3b0)
  obtain ⟨kq, x8_1, rfl, HA, HJ1, ⟨mc1, rfl⟩⟩ := hcut
  cases kq with
  | zero => exact absurd HA.out (by simp [impl_sixteen.j0])
  | succ kj1 =>
   have H := HA.out
   clear HA
   simp only [impl_sixteen.j0] at H
   by_cases c4 : x8_1 = true
   ·subst c4
    have H1 : (some 0) = some r := by rw [if_pos rfl] at H; exact H
    clear H
    have H := H1
    clear H1
    obtain rfl := Option.some.inj H
    go_wp2
    go_ret
    exact ⟨by first | rfl | (simp; done) | (simp [*]; done), by repeat (first | exact Drawn0.refl _ | apply Drawn0.step)⟩
   ·replace c4 := Bool.eq_false_iff.mpr c4
    subst c4
    have H1 : (some (IntKind.i16.wrap (a0))) = some r := by rw [if_neg (show ¬ (false = true) by decide)] at H; exact H
    clear H
    have H := H1
    clear H1
    obtain rfl := Option.some.inj H
    go_wp2
    go_ret
    exact ⟨by first | rfl | (simp; done) | (simp [*]; done), by repeat (first | exact Drawn0.refl _ | apply Drawn0.step)⟩

/-! ### impl_strokes: function 39 -/
def impl_strokes.l0 : Nat → List (S127) → List (S195) → Int → Int → Option ((List (S127)))
 | 0, _, _, _, _ => none
 | k + 1, x2, x8, x9, x10 => if x10 < x9 then (if 0 ≤ x10 then (if x10 < (x8.length : Int) then (if x2.length < 4398046511104 then (impl_strokes.l0 k (x2 ++ [(⟨wrap64 ((rd_T195 x8 x10).f0), (⟨(rd_T195 x8 x10).f1.f0.f0, (rd_T195 x8 x10).f1.f1.f0, (rd_T195 x8 x10).f1.f2.f0⟩ : S125), (⟨(rd_T195 x8 x10).f1.f0.f1, (rd_T195 x8 x10).f1.f1.f1, (rd_T195 x8 x10).f1.f2.f1⟩ : S125)⟩ : S127)]) x8 x9 (wrap64 (x10 + 1))) else (none)) else (none)) else (none)) else (some x2)
def impl_strokes.f (k : Nat) (l0 : List (S195)) : Option ((List (S127))) := impl_strokes.l0 k ([] : List (S127)) l0 (l0.length : Int) 0
theorem impl_strokes.mono_l : ∀ k, (∀ y0 y1 y2 y3, LeO (impl_strokes.l0 k y0 y1 y2 y3) (impl_strokes.l0 (k + 1) y0 y1 y2 y3))
 | 0 => fun _ _ _ _ r h => by simp [impl_strokes.l0] at h
 | k + 1 => by
  have ih0 := impl_strokes.mono_l k
  ·intro y0 y1 y2 y3
   unfold impl_strokes.l0
   repeat' first
   | (with_reducible exact ih0 _ _ _ _)
   | (with_reducible exact LeO.refl _)
   | (with_reducible exact LeO.none _)
   | (with_reducible refine LeO.ite ?_ ?_)
   | (with_reducible refine LeO.bind ?_ (fun _ => ?_))
   | exact ih0 _ _ _ _
   | exact LeO.none _
   | refine LeO.ite ?_ ?_
   | refine LeO.bind ?_ (fun _ => ?_)
theorem impl_strokes.mono : ∀ a0 k, LeO (impl_strokes.f k a0) (impl_strokes.f (k + 1) a0) := by
 intro a0 k
 have ih0 := impl_strokes.mono_l k
 unfold impl_strokes.f
 repeat' first
   | (with_reducible exact ih0 _ _ _ _)
   | (with_reducible exact LeO.refl _)
   | (with_reducible exact LeO.none _)
   | (with_reducible refine LeO.ite ?_ ?_)
   | (with_reducible refine LeO.bind ?_ (fun _ => ?_))
   | exact ih0 _ _ _ _
   | exact LeO.none _
   | refine LeO.ite ?_ ?_
   | refine LeO.bind ?_ (fun _ => ?_)
def impl_strokes.T8 : Bool × List (List Nat × List Nat) := (true, [([], []), ([], []), ([], []), ([2], [2]), ([], []), ([4], [4]), ([], []), ([6, 0, 0, 2, 3], [0, 6]), ([7, 3, 0, 2, 3], [3, 7]), ([], []), ([9, 1, 0, 1, 2, 3, 4, 5, 6, 7, 8], [1, 9]), ([10, 5, 8, 0, 1, 2, 3, 4, 5, 6, 7, 8], [5, 10])])
def impl_strokes.B8 : List Nat := [0, 0, 0, 4, 0, 16, 0, 77, 205, 0, 1023, 2047]
theorem impl_strokes.tab8 : rtab .any (opsOf Try.f39 8) = impl_strokes.T8 := by kernel_rfl
theorem impl_strokes.bits8 : waitsOk impl_strokes.T8.2 impl_strokes.B8 = true := by kernel_rfl
set_option maxHeartbeats 8000000 in
set_option maxRecDepth 100000 in
theorem impl_strokes.calls (k : Nat) (A0 : Option Addr) (c0 : Nat) (l0 : List (S195)) (r : List (S127)) (w : World) (hr0 : Kd.C k195 w A0 l0.length l0) (hc0 : l0.length ≤ c0) (h : impl_strokes.f k l0 = some r) :
  Calls Try.prog 39 #[.slice A0 l0.length c0] w fun e w' => ∃ v0_ : Value, e = .returned (v0_) ∧ Kd.R k127 127 w' w.heap.size (fun _ => True) v0_ r ∧ Below w.heap.size w w' := by
 have hu195 := Try.underlying195
 have hu127 := Try.underlying127
 have hu193 := Try.underlying193
 have hu192 := Try.underlying192
 have hfd193_0 : ∀ (x0_ x1_ x2_ x3_ x4_ x5_ : Value) (W : World), (Instr.index 193 (.agg #[x0_, x1_, x2_, x3_, x4_, x5_]) (.int .i64 0)).run Try.prog W = .ok (.agg #[x0_, x1_]) W := fun x0_ x1_ x2_ x3_ x4_ x5_ W => by kernel_rfl
 have hfd193_1 : ∀ (x0_ x1_ x2_ x3_ x4_ x5_ : Value) (W : World), (Instr.index 193 (.agg #[x0_, x1_, x2_, x3_, x4_, x5_]) (.int .i64 1)).run Try.prog W = .ok (.agg #[x2_, x3_]) W := fun x0_ x1_ x2_ x3_ x4_ x5_ W => by kernel_rfl
 have hfd193_2 : ∀ (x0_ x1_ x2_ x3_ x4_ x5_ : Value) (W : World), (Instr.index 193 (.agg #[x0_, x1_, x2_, x3_, x4_, x5_]) (.int .i64 2)).run Try.prog W = .ok (.agg #[x4_, x5_]) W := fun x0_ x1_ x2_ x3_ x4_ x5_ W => by kernel_rfl
 have HR0 := Aside0.mk hr0
 have HC0 := Aside0.mk hc0
 clear hr0 hc0
 have HB := Aside0.mk (Below.refl w.heap.size w)
 have H : (impl_strokes.l0 k ([] : List (S127)) l0 (l0.length : Int) 0) = some r := h
 clear h
 have H' := Aside0.mk H
 clear H
 go_enter Try.func39, Try.ntmps39
 go_wp2
 go_loopg [2, 10] k (fun kq v2 v10 w' => ∃ (x2_1 : List (S127)) (x10_1 : Int), v10 = .int .i64 x10_1 ∧ Aside0 (impl_strokes.l0 kq x2_1 l0 (l0.length : Int) x10_1 = some r) ∧ Aside0 (kq ≤ k) ∧ Aside0 (Kd.R k127 127 w' w.heap.size (fun _ => True) v2 x2_1) ∧ Aside0 (Below w.heap.size w w'))
 case atStart => exact ⟨(([] : List (S127))), (0), (by first | rfl | (simp; done) | (simp [*]; done)), H', ⟨Nat.le_refl _⟩, ⟨by first | exact Kd.R_nil _ _ _ _ _ | exact Kd.N_nil _ _ _ _ _ | exact Kd.V_nil _ _ _ _ _ | exact Kd.Q_nil _ _ _ _ _ | exact Kd.S_nil _ _ _ _ _⟩, ⟨by repeat (first | (with_reducible first | exact HB.out | apply below_alloc | apply pw_below_drewN | apply below_drew1) | exact HB.out)⟩⟩
 case round =>
  clear H'
  obtain ⟨x2_1, x10_1, rfl, HA, HK1, HO_2, HB⟩ := hrel
  cases gk with
  | zero => exact absurd HA.out (by simp [impl_strokes.l0])
  | succ k1 =>
   have H := HA.out
   clear HA
   simp only [impl_strokes.l0] at H
   by_cases c2 : x10_1 < (l0.length : Int)
   ·rw [if_pos c2] at H
    have c2b0 : decide (x10_1 < (l0.length : Int)) = true := decide_eq_true c2
    clear c2
    by_cases c3 : 0 ≤ x10_1
    rotate_left
    ·rw [if_neg c3] at H
     exact absurd H (by simp)
    rw [if_pos c3] at H
    have c3b0 : decide (0 ≤ x10_1) = true := decide_eq_true c3
    clear c3
    by_cases c4 : x10_1 < (l0.length : Int)
    rotate_left
    ·rw [if_neg c4] at H
     exact absurd H (by simp)
    rw [if_pos c4] at H
    have c4b0 : decide (x10_1 < (l0.length : Int)) = true := decide_eq_true c4
    clear c4
    by_cases c5 : x2_1.length < 4398046511104
    rotate_left
    ·rw [if_neg c5] at H
     exact absurd H (by simp)
    rw [if_pos c5] at H
    have LMc5 := Aside0.mk c5
    clear c5
    obtain ⟨y138, hy138⟩ : ∃ y_ : List (S127), y_ = (x2_1 ++ [(⟨wrap64 ((rd_T195 l0 x10_1).f0), (⟨(rd_T195 l0 x10_1).f1.f0.f0, (rd_T195 l0 x10_1).f1.f1.f0, (rd_T195 l0 x10_1).f1.f2.f0⟩ : S125), (⟨(rd_T195 l0 x10_1).f1.f0.f1, (rd_T195 l0 x10_1).f1.f1.f1, (rd_T195 l0 x10_1).f1.f2.f1⟩ : S125)⟩ : S127)]) := ⟨_, rfl⟩
    replace H : (impl_strokes.l0 k1 y138 l0 (l0.length : Int) (wrap64 (x10_1 + 1))) = some r := by first | (rw [hy138]; with_reducible exact H) | (have H2_ := (Option.bind_some _ _).symm.trans H; rw [hy138]; with_reducible exact H2_) | (have H2_ := (Option.bind_some _ _).symm.trans H; with_reducible exact H2_) | with_reducible exact H | (rw [hy138]; exact H) | exact H
    have Ny138 := Aside0.mk hy138
    clear hy138
    have H' := Aside0.mk H
    clear H
    have p132 : 0 ≤ (x10_1 : Int) := of_decide_eq_true (by first | (with_reducible assumption) | assumption)
    have q132 : x10_1 < (l0.length : Int) := of_decide_eq_true (by first | (with_reducible assumption) | assumption)
    obtain ⟨ad132, e132, hx132_0, hx132_1, hx132_2, hx132_3, hx132_4, hx132_5, hx132_6⟩ := at_T195 HR0.out x10_1 p132 q132
    cases e132
    replace hx132_0 := (HB.out.cell (World.block_lt_of_cell? w _ hx132_0)).trans hx132_0
    replace hx132_1 := (HB.out.cell (World.block_lt_of_cell? w _ hx132_1)).trans hx132_1
    replace hx132_2 := (HB.out.cell (World.block_lt_of_cell? w _ hx132_2)).trans hx132_2
    replace hx132_3 := (HB.out.cell (World.block_lt_of_cell? w _ hx132_3)).trans hx132_3
    replace hx132_4 := (HB.out.cell (World.block_lt_of_cell? w _ hx132_4)).trans hx132_4
    replace hx132_5 := (HB.out.cell (World.block_lt_of_cell? w _ hx132_5)).trans hx132_5
    replace hx132_6 := (HB.out.cell (World.block_lt_of_cell? w _ hx132_6)).trans hx132_6
    replace p132 := eq_true p132
    replace q132 := eq_true q132
    go_wp2_with (first | ((with_reducible refine gate_dst (N := 4) rfl ?_); refine box_event ?hg (N := 4) ?hd (cs := #[.int .u8 0, .float .f32 0, .float .f32 0, .float .f32 0, .float .f32 0, .float .f32 0, .float .f32 0]) (t := 195) ?hr ?_; (case hd => rfl); (case hg => rfl); (case hr => first | (go_simp; done) | (go_simp; rfl)); intro gb133 hg w6 hbox hb; have n0_ := Aside0.mk (Kd.R_below (by (with_reducible repeat (first | apply Kd.R_alloc | apply Kd.R_drewN | apply Kd.R_drew)); exact HO_2.out) hb); have n1_ := Aside0.mk (below_step (by repeat (first | (with_reducible first | exact HB.out | apply below_alloc | apply pw_below_drewN | apply below_drew1) | exact HB.out)) hb); have n2_ := Aside0.mk (hbox); have n3_ := Aside0.mk ((by rw [hg]; exact (below_size (by repeat (first | (with_reducible first | exact HB.out | apply below_alloc | apply pw_below_drewN | apply below_drew1) | exact HB.out))) : w.heap.size ≤ gb133)); have n4_ := Aside0.mk ((by rw [hg]; exact (below_size (by repeat (first | (with_reducible first | exact HB.out | apply below_alloc | apply pw_below_drewN | apply below_drew1) | exact HB.out))) : w.heap.size ≤ gb133)); clear HO_2; clear HB; have HO_2 := n0_; have HB := n1_; have BK133 := n2_; have GW133 := n3_; have GE133 := n4_; clear n0_ n1_ n2_ n3_ n4_; clear hb hbox hg; have hcz7_0 : w6.cell? ⟨gb133, 0, none⟩ = some (.int .u8 0) := (blk_cell BK133.out 0).trans rfl; have hcz7_1 : w6.cell? ⟨gb133, 1, none⟩ = some (.float .f32 0) := (blk_cell BK133.out 1).trans rfl; have hcz7_2 : w6.cell? ⟨gb133, 2, none⟩ = some (.float .f32 0) := (blk_cell BK133.out 2).trans rfl; have hcz7_3 : w6.cell? ⟨gb133, 3, none⟩ = some (.float .f32 0) := (blk_cell BK133.out 3).trans rfl; have hcz7_4 : w6.cell? ⟨gb133, 4, none⟩ = some (.float .f32 0) := (blk_cell BK133.out 4).trans rfl; have hcz7_5 : w6.cell? ⟨gb133, 5, none⟩ = some (.float .f32 0) := (blk_cell BK133.out 5).trans rfl; have hcz7_6 : w6.cell? ⟨gb133, 6, none⟩ = some (.float .f32 0) := (blk_cell BK133.out 6).trans rfl; have hfz7_0 := blk_frozen BK133.out 0; have hfz7_1 := blk_frozen BK133.out 1; have hfz7_2 := blk_frozen BK133.out 2; have hfz7_3 := blk_frozen BK133.out 3; have hfz7_4 := blk_frozen BK133.out 4; have hfz7_5 := blk_frozen BK133.out 5; have hfz7_6 := blk_frozen BK133.out 6) | ((with_reducible refine gate_dst (N := 5) rfl ?_); refine box_event ?hg (N := 5) ?hd (cs := #[.int .i64 0, .float .f32 0, .float .f32 0, .float .f32 0, .float .f32 0, .float .f32 0, .float .f32 0]) (t := 127) ?hr ?_; (case hd => rfl); (case hg => rfl); (case hr => first | (go_simp; done) | (go_simp; rfl)); intro gb134 hg w8 hbox hb; have n0_ := Aside0.mk (Kd.R_below (Kd.R_elderB (by (with_reducible repeat (first | apply Kd.R_alloc | apply Kd.R_drewN | apply Kd.R_drew)); exact (Kd.R_mono (Kd.R_far (p := ⟨gb133, 6, none⟩) (Kd.R_far (p := ⟨gb133, 5, none⟩) (Kd.R_far (p := ⟨gb133, 4, none⟩) (Kd.R_far (p := ⟨gb133, 3, none⟩) (Kd.R_far (p := ⟨gb133, 2, none⟩) (Kd.R_far (p := ⟨gb133, 1, none⟩) (Kd.R_far (p := ⟨gb133, 0, none⟩) (Kd.R_types HO_2.out BK133.out (by decide)) (fun _ hk => hk.2) (.int .u8 ((rd_T195 l0 x10_1).f0))) (fun _ hk => hk.2) (.float .f32 ((rd_T195 l0 x10_1).f1.f0.f0))) (fun _ hk => hk.2) (.float .f32 ((rd_T195 l0 x10_1).f1.f0.f1))) (fun _ hk => hk.2) (.float .f32 ((rd_T195 l0 x10_1).f1.f1.f0))) (fun _ hk => hk.2) (.float .f32 ((rd_T195 l0 x10_1).f1.f1.f1))) (fun _ hk => hk.2) (.float .f32 ((rd_T195 l0 x10_1).f1.f2.f0))) (fun _ hk => hk.2) (.float .f32 ((rd_T195 l0 x10_1).f1.f2.f1))) (fun _ h_ => h_.1))) gb134 (Nat.le_of_eq hg.symm)) hb); have n1_ := Aside0.mk (blk_below (g := gb133) (o := .cells #[.int .u8 ((rd_T195 l0 x10_1).f0), .float .f32 ((rd_T195 l0 x10_1).f1.f0.f0), .float .f32 ((rd_T195 l0 x10_1).f1.f0.f1), .float .f32 ((rd_T195 l0 x10_1).f1.f1.f0), .float .f32 ((rd_T195 l0 x10_1).f1.f1.f1), .float .f32 ((rd_T195 l0 x10_1).f1.f2.f0), .float .f32 ((rd_T195 l0 x10_1).f1.f2.f1)] 195 (0, 0)) (by (with_reducible repeat (first | apply b1_ | apply b2_ | apply b3_)); refine blk_put (cs := #[.int .u8 ((rd_T195 l0 x10_1).f0), .float .f32 ((rd_T195 l0 x10_1).f1.f0.f0), .float .f32 ((rd_T195 l0 x10_1).f1.f0.f1), .float .f32 ((rd_T195 l0 x10_1).f1.f1.f0), .float .f32 ((rd_T195 l0 x10_1).f1.f1.f1), .float .f32 ((rd_T195 l0 x10_1).f1.f2.f0), .float .f32 0]) ?_ 6 _ rfl; (with_reducible repeat (first | apply b1_ | apply b2_ | apply b3_)); refine blk_put (cs := #[.int .u8 ((rd_T195 l0 x10_1).f0), .float .f32 ((rd_T195 l0 x10_1).f1.f0.f0), .float .f32 ((rd_T195 l0 x10_1).f1.f0.f1), .float .f32 ((rd_T195 l0 x10_1).f1.f1.f0), .float .f32 ((rd_T195 l0 x10_1).f1.f1.f1), .float .f32 0, .float .f32 0]) ?_ 5 _ rfl; (with_reducible repeat (first | apply b1_ | apply b2_ | apply b3_)); refine blk_put (cs := #[.int .u8 ((rd_T195 l0 x10_1).f0), .float .f32 ((rd_T195 l0 x10_1).f1.f0.f0), .float .f32 ((rd_T195 l0 x10_1).f1.f0.f1), .float .f32 ((rd_T195 l0 x10_1).f1.f1.f0), .float .f32 0, .float .f32 0, .float .f32 0]) ?_ 4 _ rfl; (with_reducible repeat (first | apply b1_ | apply b2_ | apply b3_)); refine blk_put (cs := #[.int .u8 ((rd_T195 l0 x10_1).f0), .float .f32 ((rd_T195 l0 x10_1).f1.f0.f0), .float .f32 ((rd_T195 l0 x10_1).f1.f0.f1), .float .f32 0, .float .f32 0, .float .f32 0, .float .f32 0]) ?_ 3 _ rfl; (with_reducible repeat (first | apply b1_ | apply b2_ | apply b3_)); refine blk_put (cs := #[.int .u8 ((rd_T195 l0 x10_1).f0), .float .f32 ((rd_T195 l0 x10_1).f1.f0.f0), .float .f32 0, .float .f32 0, .float .f32 0, .float .f32 0, .float .f32 0]) ?_ 2 _ rfl; (with_reducible repeat (first | apply b1_ | apply b2_ | apply b3_)); refine blk_put (cs := #[.int .u8 ((rd_T195 l0 x10_1).f0), .float .f32 0, .float .f32 0, .float .f32 0, .float .f32 0, .float .f32 0, .float .f32 0]) ?_ 1 _ rfl; (with_reducible repeat (first | apply b1_ | apply b2_ | apply b3_)); refine blk_put (cs := #[.int .u8 0, .float .f32 0, .float .f32 0, .float .f32 0, .float .f32 0, .float .f32 0, .float .f32 0]) ?_ 0 _ rfl; (with_reducible repeat (first | apply b1_ | apply b2_ | apply b3_)); exact BK133.out) hb); have n2_ := Aside0.mk (below_step (by repeat (first | (with_reducible first | exact HB.out | apply below_alloc | apply pw_below_drewN | apply below_drew1 | refine below_set ?_ GE133.out) | exact HB.out)) hb); have n3_ := Aside0.mk (hbox); have n4_ := Aside0.mk ((by rw [hg]; exact (below_size (by repeat (first | (with_reducible first | exact HB.out | apply below_alloc | apply pw_below_drewN | apply below_drew1 | refine below_set ?_ GE133.out) | exact HB.out))) : w.heap.size ≤ gb134)); have n5_ := Aside0.mk ((by rw [hg]; exact (below_size (by repeat (first | (with_reducible first | exact HB.out | apply below_alloc | apply pw_below_drewN | apply below_drew1 | refine below_set ?_ GE133.out) | exact HB.out))) : w.heap.size ≤ gb134)); have n6_ := Aside0.mk ((by rw [hg]; exact Nat.ne_of_lt (blk_lt (g := gb133) (o := .cells #[.int .u8 ((rd_T195 l0 x10_1).f0), .float .f32 ((rd_T195 l0 x10_1).f1.f0.f0), .float .f32 ((rd_T195 l0 x10_1).f1.f0.f1), .float .f32 ((rd_T195 l0 x10_1).f1.f1.f0), .float .f32 ((rd_T195 l0 x10_1).f1.f1.f1), .float .f32 ((rd_T195 l0 x10_1).f1.f2.f0), .float .f32 ((rd_T195 l0 x10_1).f1.f2.f1)] 195 (0, 0)) (by (with_reducible repeat (first | apply b1_ | apply b2_ | apply b3_)); refine blk_put (cs := #[.int .u8 ((rd_T195 l0 x10_1).f0), .float .f32 ((rd_T195 l0 x10_1).f1.f0.f0), .float .f32 ((rd_T195 l0 x10_1).f1.f0.f1), .float .f32 ((rd_T195 l0 x10_1).f1.f1.f0), .float .f32 ((rd_T195 l0 x10_1).f1.f1.f1), .float .f32 ((rd_T195 l0 x10_1).f1.f2.f0), .float .f32 0]) ?_ 6 _ rfl; (with_reducible repeat (first | apply b1_ | apply b2_ | apply b3_)); refine blk_put (cs := #[.int .u8 ((rd_T195 l0 x10_1).f0), .float .f32 ((rd_T195 l0 x10_1).f1.f0.f0), .float .f32 ((rd_T195 l0 x10_1).f1.f0.f1), .float .f32 ((rd_T195 l0 x10_1).f1.f1.f0), .float .f32 ((rd_T195 l0 x10_1).f1.f1.f1), .float .f32 0, .float .f32 0]) ?_ 5 _ rfl; (with_reducible repeat (first | apply b1_ | apply b2_ | apply b3_)); refine blk_put (cs := #[.int .u8 ((rd_T195 l0 x10_1).f0), .float .f32 ((rd_T195 l0 x10_1).f1.f0.f0), .float .f32 ((rd_T195 l0 x10_1).f1.f0.f1), .float .f32 ((rd_T195 l0 x10_1).f1.f1.f0), .float .f32 0, .float .f32 0, .float .f32 0]) ?_ 4 _ rfl; (with_reducible repeat (first | apply b1_ | apply b2_ | apply b3_)); refine blk_put (cs := #[.int .u8 ((rd_T195 l0 x10_1).f0), .float .f32 ((rd_T195 l0 x10_1).f1.f0.f0), .float .f32 ((rd_T195 l0 x10_1).f1.f0.f1), .float .f32 0, .float .f32 0, .float .f32 0, .float .f32 0]) ?_ 3 _ rfl; (with_reducible repeat (first | apply b1_ | apply b2_ | apply b3_)); refine blk_put (cs := #[.int .u8 ((rd_T195 l0 x10_1).f0), .float .f32 ((rd_T195 l0 x10_1).f1.f0.f0), .float .f32 0, .float .f32 0, .float .f32 0, .float .f32 0, .float .f32 0]) ?_ 2 _ rfl; (with_reducible repeat (first | apply b1_ | apply b2_ | apply b3_)); refine blk_put (cs := #[.int .u8 ((rd_T195 l0 x10_1).f0), .float .f32 0, .float .f32 0, .float .f32 0, .float .f32 0, .float .f32 0, .float .f32 0]) ?_ 1 _ rfl; (with_reducible repeat (first | apply b1_ | apply b2_ | apply b3_)); refine blk_put (cs := #[.int .u8 0, .float .f32 0, .float .f32 0, .float .f32 0, .float .f32 0, .float .f32 0, .float .f32 0]) ?_ 0 _ rfl; (with_reducible repeat (first | apply b1_ | apply b2_ | apply b3_)); exact BK133.out)) : gb133 ≠ gb134)); have n7_ := Aside0.mk ((by rw [hg]; exact Nat.ne_of_gt (blk_lt (g := gb133) (o := .cells #[.int .u8 ((rd_T195 l0 x10_1).f0), .float .f32 ((rd_T195 l0 x10_1).f1.f0.f0), .float .f32 ((rd_T195 l0 x10_1).f1.f0.f1), .float .f32 ((rd_T195 l0 x10_1).f1.f1.f0), .float .f32 ((rd_T195 l0 x10_1).f1.f1.f1), .float .f32 ((rd_T195 l0 x10_1).f1.f2.f0), .float .f32 ((rd_T195 l0 x10_1).f1.f2.f1)] 195 (0, 0)) (by (with_reducible repeat (first | apply b1_ | apply b2_ | apply b3_)); refine blk_put (cs := #[.int .u8 ((rd_T195 l0 x10_1).f0), .float .f32 ((rd_T195 l0 x10_1).f1.f0.f0), .float .f32 ((rd_T195 l0 x10_1).f1.f0.f1), .float .f32 ((rd_T195 l0 x10_1).f1.f1.f0), .float .f32 ((rd_T195 l0 x10_1).f1.f1.f1), .float .f32 ((rd_T195 l0 x10_1).f1.f2.f0), .float .f32 0]) ?_ 6 _ rfl; (with_reducible repeat (first | apply b1_ | apply b2_ | apply b3_)); refine blk_put (cs := #[.int .u8 ((rd_T195 l0 x10_1).f0), .float .f32 ((rd_T195 l0 x10_1).f1.f0.f0), .float .f32 ((rd_T195 l0 x10_1).f1.f0.f1), .float .f32 ((rd_T195 l0 x10_1).f1.f1.f0), .float .f32 ((rd_T195 l0 x10_1).f1.f1.f1), .float .f32 0, .float .f32 0]) ?_ 5 _ rfl; (with_reducible repeat (first | apply b1_ | apply b2_ | apply b3_)); refine blk_put (cs := #[.int .u8 ((rd_T195 l0 x10_1).f0), .float .f32 ((rd_T195 l0 x10_1).f1.f0.f0), .float .f32 ((rd_T195 l0 x10_1).f1.f0.f1), .float .f32 ((rd_T195 l0 x10_1).f1.f1.f0), .float .f32 0, .float .f32 0, .float .f32 0]) ?_ 4 _ rfl; (with_reducible repeat (first | apply b1_ | apply b2_ | apply b3_)); refine blk_put (cs := #[.int .u8 ((rd_T195 l0 x10_1).f0), .float .f32 ((rd_T195 l0 x10_1).f1.f0.f0), .float .f32 ((rd_T195 l0 x10_1).f1.f0.f1), .float .f32 0, .float .f32 0, .float .f32 0, .float .f32 0]) ?_ 3 _ rfl; (with_reducible repeat (first | apply b1_ | apply b2_ | apply b3_)); refine blk_put (cs := #[.int .u8 ((rd_T195 l0 x10_1).f0), .float .f32 ((rd_T195 l0 x10_1).f1.f0.f0), .float .f32 0, .float .f32 0, .float .f32 0, .float .f32 0, .float .f32 0]) ?_ 2 _ rfl; (with_reducible repeat (first | apply b1_ | apply b2_ | apply b3_)); refine blk_put (cs := #[.int .u8 ((rd_T195 l0 x10_1).f0), .float .f32 0, .float .f32 0, .float .f32 0, .float .f32 0, .float .f32 0, .float .f32 0]) ?_ 1 _ rfl; (with_reducible repeat (first | apply b1_ | apply b2_ | apply b3_)); refine blk_put (cs := #[.int .u8 0, .float .f32 0, .float .f32 0, .float .f32 0, .float .f32 0, .float .f32 0, .float .f32 0]) ?_ 0 _ rfl; (with_reducible repeat (first | apply b1_ | apply b2_ | apply b3_)); exact BK133.out)) : gb134 ≠ gb133)); clear HO_2; clear BK133; clear HB; have HO_2 := n0_; have BK133 := n1_; have HB := n2_; have BK134 := n3_; have GW134 := n4_; have GE134 := n5_; have NB133_134 := n6_; have NB134_133 := n7_; clear n0_ n1_ n2_ n3_ n4_ n5_ n6_ n7_; clear hb hbox hg; have hnb9 := NB134_133.out; have hnc9 := NB133_134.out; have hcz10_0 : w8.cell? ⟨gb134, 0, none⟩ = some (.int .i64 0) := (blk_cell BK134.out 0).trans rfl; have hcz10_1 : w8.cell? ⟨gb134, 1, none⟩ = some (.float .f32 0) := (blk_cell BK134.out 1).trans rfl; have hcz10_2 : w8.cell? ⟨gb134, 2, none⟩ = some (.float .f32 0) := (blk_cell BK134.out 2).trans rfl; have hcz10_3 : w8.cell? ⟨gb134, 3, none⟩ = some (.float .f32 0) := (blk_cell BK134.out 3).trans rfl; have hcz10_4 : w8.cell? ⟨gb134, 4, none⟩ = some (.float .f32 0) := (blk_cell BK134.out 4).trans rfl; have hcz10_5 : w8.cell? ⟨gb134, 5, none⟩ = some (.float .f32 0) := (blk_cell BK134.out 5).trans rfl; have hcz10_6 : w8.cell? ⟨gb134, 6, none⟩ = some (.float .f32 0) := (blk_cell BK134.out 6).trans rfl; have hfz10_0 := blk_frozen BK134.out 0; have hfz10_1 := blk_frozen BK134.out 1; have hfz10_2 := blk_frozen BK134.out 2; have hfz10_3 := blk_frozen BK134.out 3; have hfz10_4 := blk_frozen BK134.out 4; have hfz10_5 := blk_frozen BK134.out 5; have hfz10_6 := blk_frozen BK134.out 6; have hcz11_0 : w8.cell? ⟨gb133, 0, none⟩ = some (.int .u8 ((rd_T195 l0 x10_1).f0)) := (blk_cell BK133.out 0).trans rfl; have hcz11_1 : w8.cell? ⟨gb133, 1, none⟩ = some (.float .f32 ((rd_T195 l0 x10_1).f1.f0.f0)) := (blk_cell BK133.out 1).trans rfl; have hcz11_2 : w8.cell? ⟨gb133, 2, none⟩ = some (.float .f32 ((rd_T195 l0 x10_1).f1.f0.f1)) := (blk_cell BK133.out 2).trans rfl; have hcz11_3 : w8.cell? ⟨gb133, 3, none⟩ = some (.float .f32 ((rd_T195 l0 x10_1).f1.f1.f0)) := (blk_cell BK133.out 3).trans rfl; have hcz11_4 : w8.cell? ⟨gb133, 4, none⟩ = some (.float .f32 ((rd_T195 l0 x10_1).f1.f1.f1)) := (blk_cell BK133.out 4).trans rfl; have hcz11_5 : w8.cell? ⟨gb133, 5, none⟩ = some (.float .f32 ((rd_T195 l0 x10_1).f1.f2.f0)) := (blk_cell BK133.out 5).trans rfl; have hcz11_6 : w8.cell? ⟨gb133, 6, none⟩ = some (.float .f32 ((rd_T195 l0 x10_1).f1.f2.f1)) := (blk_cell BK133.out 6).trans rfl; have hfz11_0 := blk_frozen BK133.out 0; have hfz11_1 := blk_frozen BK133.out 1; have hfz11_2 := blk_frozen BK133.out 2; have hfz11_3 := blk_frozen BK133.out 3; have hfz11_4 := blk_frozen BK133.out 4; have hfz11_5 := blk_frozen BK133.out 5; have hfz11_6 := blk_frozen BK133.out 6))
    refine wp_loop_rounds 4 ?_
    rw [rounds_succ]
    go_wp2_with (first | ((with_reducible refine gate_dst (N := 7) rfl ?_); refine box_event ?hg (N := 7) ?hd (cs := #[.float .f32 0, .float .f32 0]) (t := 192) ?hr ?_; (case hd => rfl); (case hg => rfl); (case hr => first | (go_simp; done) | (go_simp; rfl)); intro gb135 hg w12 hbox hb; have n0_ := Aside0.mk (Kd.R_below (by (with_reducible repeat (first | apply Kd.R_alloc | apply Kd.R_drewN | apply Kd.R_drew)); exact (Kd.R_mono (Kd.R_far (p := ⟨gb134, 6, none⟩) (Kd.R_far (p := ⟨gb134, 5, none⟩) (Kd.R_far (p := ⟨gb134, 4, none⟩) (Kd.R_far (p := ⟨gb134, 3, none⟩) (Kd.R_far (p := ⟨gb134, 2, none⟩) (Kd.R_far (p := ⟨gb134, 1, none⟩) (Kd.R_far (p := ⟨gb134, 0, none⟩) (Kd.R_mono HO_2.out (fun k_ hk => (⟨hk, hk.2⟩ : _ ∧ k_ ≠ gb134))) (fun _ hk => hk.2) (.int .i64 (wrap64 ((rd_T195 l0 x10_1).f0)))) (fun _ hk => hk.2) (.float .f32 0)) (fun _ hk => hk.2) (.float .f32 0)) (fun _ hk => hk.2) (.float .f32 0)) (fun _ hk => hk.2) (.float .f32 0)) (fun _ hk => hk.2) (.float .f32 0)) (fun _ hk => hk.2) (.float .f32 0)) (fun _ h_ => h_.1))) hb); have n1_ := Aside0.mk (blk_below (g := gb133) (o := .cells #[.int .u8 ((rd_T195 l0 x10_1).f0), .float .f32 ((rd_T195 l0 x10_1).f1.f0.f0), .float .f32 ((rd_T195 l0 x10_1).f1.f0.f1), .float .f32 ((rd_T195 l0 x10_1).f1.f1.f0), .float .f32 ((rd_T195 l0 x10_1).f1.f1.f1), .float .f32 ((rd_T195 l0 x10_1).f1.f2.f0), .float .f32 ((rd_T195 l0 x10_1).f1.f2.f1)] 195 (0, 0)) (by (with_reducible repeat (first | apply b1_ | apply b2_ | apply b3_)); refine blk_far ?_ NB133_134.out _; (with_reducible repeat (first | apply b1_ | apply b2_ | apply b3_)); refine blk_far ?_ NB133_134.out _; (with_reducible repeat (first | apply b1_ | apply b2_ | apply b3_)); refine blk_far ?_ NB133_134.out _; (with_reducible repeat (first | apply b1_ | apply b2_ | apply b3_)); refine blk_far ?_ NB133_134.out _; (with_reducible repeat (first | apply b1_ | apply b2_ | apply b3_)); refine blk_far ?_ NB133_134.out _; (with_reducible repeat (first | apply b1_ | apply b2_ | apply b3_)); refine blk_far ?_ NB133_134.out _; (with_reducible repeat (first | apply b1_ | apply b2_ | apply b3_)); refine blk_far ?_ NB133_134.out _; (with_reducible repeat (first | apply b1_ | apply b2_ | apply b3_)); exact BK133.out) hb); have n2_ := Aside0.mk (blk_below (g := gb134) (o := .cells #[.int .i64 (wrap64 ((rd_T195 l0 x10_1).f0)), .float .f32 0, .float .f32 0, .float .f32 0, .float .f32 0, .float .f32 0, .float .f32 0] 127 (0, 0)) (by (with_reducible repeat (first | apply b1_ | apply b2_ | apply b3_)); refine blk_put (cs := #[.int .i64 (wrap64 ((rd_T195 l0 x10_1).f0)), .float .f32 0, .float .f32 0, .float .f32 0, .float .f32 0, .float .f32 0, .float .f32 0]) ?_ 6 _ rfl; (with_reducible repeat (first | apply b1_ | apply b2_ | apply b3_)); refine blk_put (cs := #[.int .i64 (wrap64 ((rd_T195 l0 x10_1).f0)), .float .f32 0, .float .f32 0, .float .f32 0, .float .f32 0, .float .f32 0, .float .f32 0]) ?_ 5 _ rfl; (with_reducible repeat (first | apply b1_ | apply b2_ | apply b3_)); refine blk_put (cs := #[.int .i64 (wrap64 ((rd_T195 l0 x10_1).f0)), .float .f32 0, .float .f32 0, .float .f32 0, .float .f32 0, .float .f32 0, .float .f32 0]) ?_ 4 _ rfl; (with_reducible repeat (first | apply b1_ | apply b2_ | apply b3_)); refine blk_put (cs := #[.int .i64 (wrap64 ((rd_T195 l0 x10_1).f0)), .float .f32 0, .float .f32 0, .float .f32 0, .float .f32 0, .float .f32 0, .float .f32 0]) ?_ 3 _ rfl; (with_reducible repeat (first | apply b1_ | apply b2_ | apply b3_)); refine blk_put (cs := #[.int .i64 (wrap64 ((rd_T195 l0 x10_1).f0)), .float .f32 0, .float .f32 0, .float .f32 0, .float .f32 0, .float .f32 0, .float .f32 0]) ?_ 2 _ rfl; (with_reducible repeat (first | apply b1_ | apply b2_ | apply b3_)); refine blk_put (cs := #[.int .i64 (wrap64 ((rd_T195 l0 x10_1).f0)), .float .f32 0, .float .f32 0, .float .f32 0, .float .f32 0, .float .f32 0, .float .f32 0]) ?_ 1 _ rfl; (with_reducible repeat (first | apply b1_ | apply b2_ | apply b3_)); refine blk_put (cs := #[.int .i64 0, .float .f32 0, .float .f32 0, .float .f32 0, .float .f32 0, .float .f32 0, .float .f32 0]) ?_ 0 _ rfl; (with_reducible repeat (first | apply b1_ | apply b2_ | apply b3_)); exact BK134.out) hb); have n3_ := Aside0.mk (below_step (by repeat (first | (with_reducible first | exact HB.out | apply below_alloc | apply pw_below_drewN | apply below_drew1 | refine below_set ?_ GE133.out | refine below_set ?_ GE134.out) | exact HB.out)) hb); have n4_ := Aside0.mk (hbox); have n5_ := Aside0.mk ((by rw [hg]; exact (below_size (by repeat (first | (with_reducible first | exact HB.out | apply below_alloc | apply pw_below_drewN | apply below_drew1 | refine below_set ?_ GE133.out | refine below_set ?_ GE134.out) | exact HB.out))) : w.heap.size ≤ gb135)); have n6_ := Aside0.mk ((by rw [hg]; exact (below_size (by repeat (first | (with_reducible first | exact HB.out | apply below_alloc | apply pw_below_drewN | apply below_drew1 | refine below_set ?_ GE133.out | refine below_set ?_ GE134.out) | exact HB.out))) : w.heap.size ≤ gb135)); have n7_ := Aside0.mk ((by rw [hg]; exact Nat.ne_of_lt (blk_lt (g := gb133) (o := .cells #[.int .u8 ((rd_T195 l0 x10_1).f0), .float .f32 ((rd_T195 l0 x10_1).f1.f0.f0), .float .f32 ((rd_T195 l0 x10_1).f1.f0.f1), .float .f32 ((rd_T195 l0 x10_1).f1.f1.f0), .float .f32 ((rd_T195 l0 x10_1).f1.f1.f1), .float .f32 ((rd_T195 l0 x10_1).f1.f2.f0), .float .f32 ((rd_T195 l0 x10_1).f1.f2.f1)] 195 (0, 0)) (by (with_reducible repeat (first | apply b1_ | apply b2_ | apply b3_)); refine blk_far ?_ NB133_134.out _; (with_reducible repeat (first | apply b1_ | apply b2_ | apply b3_)); refine blk_far ?_ NB133_134.out _; (with_reducible repeat (first | apply b1_ | apply b2_ | apply b3_)); refine blk_far ?_ NB133_134.out _; (with_reducible repeat (first | apply b1_ | apply b2_ | apply b3_)); refine blk_far ?_ NB133_134.out _; (with_reducible repeat (first | apply b1_ | apply b2_ | apply b3_)); refine blk_far ?_ NB133_134.out _; (with_reducible repeat (first | apply b1_ | apply b2_ | apply b3_)); refine blk_far ?_ NB133_134.out _; (with_reducible repeat (first | apply b1_ | apply b2_ | apply b3_)); refine blk_far ?_ NB133_134.out _; (with_reducible repeat (first | apply b1_ | apply b2_ | apply b3_)); exact BK133.out)) : gb133 ≠ gb135)); have n8_ := Aside0.mk ((by rw [hg]; exact Nat.ne_of_gt (blk_lt (g := gb133) (o := .cells #[.int .u8 ((rd_T195 l0 x10_1).f0), .float .f32 ((rd_T195 l0 x10_1).f1.f0.f0), .float .f32 ((rd_T195 l0 x10_1).f1.f0.f1), .float .f32 ((rd_T195 l0 x10_1).f1.f1.f0), .float .f32 ((rd_T195 l0 x10_1).f1.f1.f1), .float .f32 ((rd_T195 l0 x10_1).f1.f2.f0), .float .f32 ((rd_T195 l0 x10_1).f1.f2.f1)] 195 (0, 0)) (by (with_reducible repeat (first | apply b1_ | apply b2_ | apply b3_)); refine blk_far ?_ NB133_134.out _; (with_reducible repeat (first | apply b1_ | apply b2_ | apply b3_)); refine blk_far ?_ NB133_134.out _; (with_reducible repeat (first | apply b1_ | apply b2_ | apply b3_)); refine blk_far ?_ NB133_134.out _; (with_reducible repeat (first | apply b1_ | apply b2_ | apply b3_)); refine blk_far ?_ NB133_134.out _; (with_reducible repeat (first | apply b1_ | apply b2_ | apply b3_)); refine blk_far ?_ NB133_134.out _; (with_reducible repeat (first | apply b1_ | apply b2_ | apply b3_)); refine blk_far ?_ NB133_134.out _; (with_reducible repeat (first | apply b1_ | apply b2_ | apply b3_)); refine blk_far ?_ NB133_134.out _; (with_reducible repeat (first | apply b1_ | apply b2_ | apply b3_)); exact BK133.out)) : gb135 ≠ gb133)); have n9_ := Aside0.mk ((by rw [hg]; exact Nat.ne_of_lt (blk_lt (g := gb134) (o := .cells #[.int .i64 (wrap64 ((rd_T195 l0 x10_1).f0)), .float .f32 0, .float .f32 0, .float .f32 0, .float .f32 0, .float .f32 0, .float .f32 0] 127 (0, 0)) (by (with_reducible repeat (first | apply b1_ | apply b2_ | apply b3_)); refine blk_put (cs := #[.int .i64 (wrap64 ((rd_T195 l0 x10_1).f0)), .float .f32 0, .float .f32 0, .float .f32 0, .float .f32 0, .float .f32 0, .float .f32 0]) ?_ 6 _ rfl; (with_reducible repeat (first | apply b1_ | apply b2_ | apply b3_)); refine blk_put (cs := #[.int .i64 (wrap64 ((rd_T195 l0 x10_1).f0)), .float .f32 0, .float .f32 0, .float .f32 0, .float .f32 0, .float .f32 0, .float .f32 0]) ?_ 5 _ rfl; (with_reducible repeat (first | apply b1_ | apply b2_ | apply b3_)); refine blk_put (cs := #[.int .i64 (wrap64 ((rd_T195 l0 x10_1).f0)), .float .f32 0, .float .f32 0, .float .f32 0, .float .f32 0, .float .f32 0, .float .f32 0]) ?_ 4 _ rfl; (with_reducible repeat (first | apply b1_ | apply b2_ | apply b3_)); refine blk_put (cs := #[.int .i64 (wrap64 ((rd_T195 l0 x10_1).f0)), .float .f32 0, .float .f32 0, .float .f32 0, .float .f32 0, .float .f32 0, .float .f32 0]) ?_ 3 _ rfl; (with_reducible repeat (first | apply b1_ | apply b2_ | apply b3_)); refine blk_put (cs := #[.int .i64 (wrap64 ((rd_T195 l0 x10_1).f0)), .float .f32 0, .float .f32 0, .float .f32 0, .float .f32 0, .float .f32 0, .float .f32 0]) ?_ 2 _ rfl; (with_reducible repeat (first | apply b1_ | apply b2_ | apply b3_)); refine blk_put (cs := #[.int .i64 (wrap64 ((rd_T195 l0 x10_1).f0)), .float .f32 0, .float .f32 0, .float .f32 0, .float .f32 0, .float .f32 0, .float .f32 0]) ?_ 1 _ rfl; (with_reducible repeat (first | apply b1_ | apply b2_ | apply b3_)); refine blk_put (cs := #[.int .i64 0, .float .f32 0, .float .f32 0, .float .f32 0, .float .f32 0, .float .f32 0, .float .f32 0]) ?_ 0 _ rfl; (with_reducible repeat (first | apply b1_ | apply b2_ | apply b3_)); exact BK134.out)) : gb134 ≠ gb135)); have n10_ := Aside0.mk ((by rw [hg]; exact Nat.ne_of_gt (blk_lt (g := gb134) (o := .cells #[.int .i64 (wrap64 ((rd_T195 l0 x10_1).f0)), .float .f32 0, .float .f32 0, .float .f32 0, .float .f32 0, .float .f32 0, .float .f32 0] 127 (0, 0)) (by (with_reducible repeat (first | apply b1_ | apply b2_ | apply b3_)); refine blk_put (cs := #[.int .i64 (wrap64 ((rd_T195 l0 x10_1).f0)), .float .f32 0, .float .f32 0, .float .f32 0, .float .f32 0, .float .f32 0, .float .f32 0]) ?_ 6 _ rfl; (with_reducible repeat (first | apply b1_ | apply b2_ | apply b3_)); refine blk_put (cs := #[.int .i64 (wrap64 ((rd_T195 l0 x10_1).f0)), .float .f32 0, .float .f32 0, .float .f32 0, .float .f32 0, .float .f32 0, .float .f32 0]) ?_ 5 _ rfl; (with_reducible repeat (first | apply b1_ | apply b2_ | apply b3_)); refine blk_put (cs := #[.int .i64 (wrap64 ((rd_T195 l0 x10_1).f0)), .float .f32 0, .float .f32 0, .float .f32 0, .float .f32 0, .float .f32 0, .float .f32 0]) ?_ 4 _ rfl; (with_reducible repeat (first | apply b1_ | apply b2_ | apply b3_)); refine blk_put (cs := #[.int .i64 (wrap64 ((rd_T195 l0 x10_1).f0)), .float .f32 0, .float .f32 0, .float .f32 0, .float .f32 0, .float .f32 0, .float .f32 0]) ?_ 3 _ rfl; (with_reducible repeat (first | apply b1_ | apply b2_ | apply b3_)); refine blk_put (cs := #[.int .i64 (wrap64 ((rd_T195 l0 x10_1).f0)), .float .f32 0, .float .f32 0, .float .f32 0, .float .f32 0, .float .f32 0, .float .f32 0]) ?_ 2 _ rfl; (with_reducible repeat (first | apply b1_ | apply b2_ | apply b3_)); refine blk_put (cs := #[.int .i64 (wrap64 ((rd_T195 l0 x10_1).f0)), .float .f32 0, .float .f32 0, .float .f32 0, .float .f32 0, .float .f32 0, .float .f32 0]) ?_ 1 _ rfl; (with_reducible repeat (first | apply b1_ | apply b2_ | apply b3_)); refine blk_put (cs := #[.int .i64 0, .float .f32 0, .float .f32 0, .float .f32 0, .float .f32 0, .float .f32 0, .float .f32 0]) ?_ 0 _ rfl; (with_reducible repeat (first | apply b1_ | apply b2_ | apply b3_)); exact BK134.out)) : gb135 ≠ gb134)); clear HO_2; clear BK133; clear BK134; clear HB; have HO_2 := n0_; have BK133 := n1_; have BK134 := n2_; have HB := n3_; have BK135 := n4_; have GW135 := n5_; have GE135 := n6_; have NB133_135 := n7_; have NB135_133 := n8_; have NB134_135 := n9_; have NB135_134 := n10_; clear n0_ n1_ n2_ n3_ n4_ n5_ n6_ n7_ n8_ n9_ n10_; clear hb hbox hg; have hnb13 := NB135_133.out; have hnc13 := NB133_135.out; have hnb14 := NB135_134.out; have hnc14 := NB134_135.out; have hcz15_0 : w12.cell? ⟨gb135, 0, none⟩ = some (.float .f32 0) := (blk_cell BK135.out 0).trans rfl; have hcz15_1 : w12.cell? ⟨gb135, 1, none⟩ = some (.float .f32 0) := (blk_cell BK135.out 1).trans rfl; have hfz15_0 := blk_frozen BK135.out 0; have hfz15_1 := blk_frozen BK135.out 1))
    have n0_ : Aside0 (Kd.R k127 127 ((w12.setCell ⟨gb135, 0, none⟩ (.float .f32 ((rd_T195 l0 x10_1).f1.f0.f0))).setCell ⟨gb135, 1, none⟩ (.float .f32 ((rd_T195 l0 x10_1).f1.f0.f1))) w.heap.size (fun k_ => k_ ≠ gb134) u2 x2_1) := ⟨by (with_reducible repeat (first | apply Kd.R_alloc | apply Kd.R_drewN | apply Kd.R_drew)); exact Kd.R_mono (Kd.R_far (p := ⟨gb135, 1, none⟩) (Kd.R_far (p := ⟨gb135, 0, none⟩) (Kd.R_types HO_2.out BK135.out (by decide)) (fun _ hk => hk.2) (.float .f32 ((rd_T195 l0 x10_1).f1.f0.f0))) (fun _ hk => hk.2) (.float .f32 ((rd_T195 l0 x10_1).f1.f0.f1))) (fun _ hk => hk.1.2)⟩
    have n1_ : Aside0 (((w12.setCell ⟨gb135, 0, none⟩ (.float .f32 ((rd_T195 l0 x10_1).f1.f0.f0))).setCell ⟨gb135, 1, none⟩ (.float .f32 ((rd_T195 l0 x10_1).f1.f0.f1))).heap[gb133]? = some (.cells #[.int .u8 ((rd_T195 l0 x10_1).f0), .float .f32 ((rd_T195 l0 x10_1).f1.f0.f0), .float .f32 ((rd_T195 l0 x10_1).f1.f0.f1), .float .f32 ((rd_T195 l0 x10_1).f1.f1.f0), .float .f32 ((rd_T195 l0 x10_1).f1.f1.f1), .float .f32 ((rd_T195 l0 x10_1).f1.f2.f0), .float .f32 ((rd_T195 l0 x10_1).f1.f2.f1)] 195 (0, 0))) := ⟨by (with_reducible repeat (first | apply b1_ | apply b2_ | apply b3_)); refine blk_far ?_ NB133_135.out _; (with_reducible repeat (first | apply b1_ | apply b2_ | apply b3_)); refine blk_far ?_ NB133_135.out _; (with_reducible repeat (first | apply b1_ | apply b2_ | apply b3_)); exact BK133.out⟩
    have n2_ : Aside0 (((w12.setCell ⟨gb135, 0, none⟩ (.float .f32 ((rd_T195 l0 x10_1).f1.f0.f0))).setCell ⟨gb135, 1, none⟩ (.float .f32 ((rd_T195 l0 x10_1).f1.f0.f1))).heap[gb134]? = some (.cells #[.int .i64 (wrap64 ((rd_T195 l0 x10_1).f0)), .float .f32 0, .float .f32 0, .float .f32 0, .float .f32 0, .float .f32 0, .float .f32 0] 127 (0, 0))) := ⟨by (with_reducible repeat (first | apply b1_ | apply b2_ | apply b3_)); refine blk_far ?_ NB134_135.out _; (with_reducible repeat (first | apply b1_ | apply b2_ | apply b3_)); refine blk_far ?_ NB134_135.out _; (with_reducible repeat (first | apply b1_ | apply b2_ | apply b3_)); exact BK134.out⟩
    have n3_ : Aside0 (((w12.setCell ⟨gb135, 0, none⟩ (.float .f32 ((rd_T195 l0 x10_1).f1.f0.f0))).setCell ⟨gb135, 1, none⟩ (.float .f32 ((rd_T195 l0 x10_1).f1.f0.f1))).heap[gb135]? = some (.cells #[.float .f32 ((rd_T195 l0 x10_1).f1.f0.f0), .float .f32 ((rd_T195 l0 x10_1).f1.f0.f1)] 192 (0, 0))) := ⟨by (with_reducible repeat (first | apply b1_ | apply b2_ | apply b3_)); refine blk_put (cs := #[.float .f32 ((rd_T195 l0 x10_1).f1.f0.f0), .float .f32 0]) ?_ 1 _ rfl; (with_reducible repeat (first | apply b1_ | apply b2_ | apply b3_)); refine blk_put (cs := #[.float .f32 0, .float .f32 0]) ?_ 0 _ rfl; (with_reducible repeat (first | apply b1_ | apply b2_ | apply b3_)); exact BK135.out⟩
    have n4_ : Aside0 (Below w.heap.size w ((w12.setCell ⟨gb135, 0, none⟩ (.float .f32 ((rd_T195 l0 x10_1).f1.f0.f0))).setCell ⟨gb135, 1, none⟩ (.float .f32 ((rd_T195 l0 x10_1).f1.f0.f1)))) := ⟨by repeat (first | (with_reducible first | exact HB.out | apply below_alloc | apply pw_below_drewN | apply below_drew1 | refine below_set ?_ GE133.out | refine below_set ?_ GE134.out | refine below_set ?_ GE135.out) | exact HB.out)⟩
    (try clear HO_2)
    (try clear BK133)
    (try clear BK134)
    (try clear BK135)
    (try clear HB)
    generalize ((w12.setCell ⟨gb135, 0, none⟩ (.float .f32 ((rd_T195 l0 x10_1).f1.f0.f0))).setCell ⟨gb135, 1, none⟩ (.float .f32 ((rd_T195 l0 x10_1).f1.f0.f1))) = w16 at n0_ n1_ n2_ n3_ n4_ ⊢
    have HO_2 := n0_
    have BK133 := n1_
    have BK134 := n2_
    have BK135 := n3_
    have HB := n4_
    clear n0_ n1_ n2_ n3_ n4_
    have n0_ := Aside0.mk (Kd.R_drew HO_2.out)
    have n1_ := Aside0.mk (blk_drew BK133.out)
    have n2_ := Aside0.mk (blk_drew BK134.out)
    have n3_ := Aside0.mk (blk_drew BK135.out)
    have n4_ := Aside0.mk (below_drew1 HB.out)
    clear HO_2
    clear BK133
    clear BK134
    clear BK135
    clear HB
    have HO_2 := n0_
    have BK133 := n1_
    have BK134 := n2_
    have BK135 := n3_
    have HB := n4_
    clear n0_ n1_ n2_ n3_ n4_
    refine start_ (n := 12) (S := fun w' => w'.cell? ⟨gb135, 0, none⟩ = some (.float .f32 ((rd_T195 l0 x10_1).f1.f0.f0)) ∧ w'.cell? ⟨gb135, 1, none⟩ = some (.float .f32 ((rd_T195 l0 x10_1).f1.f0.f1))) (ds := []) #[ff,ff,ff,ff,ff,ff,ff,ff,ff,ff,ff,ff] (by kernel_rfl) rfl rfl ⟨(blk_cell BK135.out 0).trans rfl, (blk_cell BK135.out 1).trans rfl⟩ (fun hHeld => ?_); refine with_tabW impl_strokes.tab8 impl_strokes.bits8 (fun HT_ HW_ => ?_)
    generalize w16.drew = w17 at HO_2 BK133 BK134 BK135 HB hHeld ⊢
    refine pure_ (i := 0) (N := some 24) (v := ?_) (a' := ?_) #[tt,ff,ff,ff,ff,ff,ff,ff,ff,ff,ff,ff] rfl rfl (any_of HT_.out (by kernel_rfl)) (fun _ _ _ h => h) (Or.inl ⟨by rfl, ?_⟩) ?_ ?_
    rotate_left
    ·intro w'
     go_simp
     with_reducible rfl
    rotate_left
    ·simp only [Act.put, L1_, L2_, L3_, i64_w, i32_w]
     rfl
    refine pure_ (i := 1) (N := some 25) (v := ?_) (a' := ?_) #[tt,tt,ff,ff,ff,ff,ff,ff,ff,ff,ff,ff] rfl rfl (any_of HT_.out (by kernel_rfl)) (fun _ _ _ h => h) (Or.inl ⟨by rfl, ?_⟩) ?_ ?_
    rotate_left
    ·intro w'
     go_simp
     with_reducible rfl
    rotate_left
    ·simp only [Act.put, L1_, L2_, L3_, i64_w, i32_w]
     rfl
    refine pure_ (i := 2) (N := some 26) (v := ?_) (a' := ?_) #[tt,tt,tt,ff,ff,ff,ff,ff,ff,ff,ff,ff] rfl rfl (any_of HT_.out (by kernel_rfl)) (fun _ _ _ h => h) (Or.inl ⟨by rfl, ?_⟩) ?_ ?_
    rotate_left
    ·intro w'
     go_simp
     with_reducible rfl
    rotate_left
    ·simp only [Act.put, L1_, L2_, L3_, i64_w, i32_w]
     rfl
    refine pure_ (i := 4) (N := some 28) (v := ?_) (a' := ?_) #[tt,tt,tt,ff,tt,ff,ff,ff,ff,ff,ff,ff] rfl rfl (any_of HT_.out (by kernel_rfl)) (fun _ _ _ h => h) (Or.inl ⟨by rfl, ?_⟩) ?_ ?_
    rotate_left
    ·intro w'
     go_simp
     with_reducible rfl
    rotate_left
    ·simp only [Act.put, L1_, L2_, L3_, i64_w, i32_w]
     rfl
    refine pure_ (i := 6) (N := some 30) (v := ?_) (a' := ?_) #[tt,tt,tt,ff,tt,ff,tt,ff,ff,ff,ff,ff] rfl rfl (any_of HT_.out (by kernel_rfl)) (fun _ _ _ h => h) (Or.inl ⟨by rfl, ?_⟩) ?_ ?_
    rotate_left
    ·intro w'
     go_simp
     with_reducible rfl
    rotate_left
    ·simp only [Act.put, L1_, L2_, L3_, i64_w, i32_w]
     rfl
    refine pure_ (i := 9) (N := some 32) (v := ?_) (a' := ?_) #[tt,tt,tt,ff,tt,ff,tt,ff,ff,tt,ff,ff] rfl rfl (any_of HT_.out (by kernel_rfl)) (fun _ _ _ h => h) (Or.inl ⟨by rfl, ?_⟩) ?_ ?_
    rotate_left
    ·intro w'
     go_simp
     with_reducible rfl
    rotate_left
    ·simp only [Act.put, L1_, L2_, L3_, i64_w, i32_w]
     rfl
    refine take_ (i := 3) (N := some 27) (v := ?_) (a' := ?_) #[tt,tt,tt,tt,tt,ff,tt,ff,ff,tt,ff,ff] rfl rfl (take_ofW HT_.out HW_.out (by kernel_rfl)) (fun _ _ _ h => h) (Or.inl ⟨by rfl, ?_⟩) hHeld ?_ ?_
    rotate_left
    ·rintro w' ⟨s0, s1⟩
     go_simp
     with_reducible rfl
    rotate_left
    ·simp only [Act.put, L1_, L2_, L3_, i64_w, i32_w]
     rfl
    refine pure_ (i := 7) (N := some 31) (v := ?_) (a' := ?_) #[tt,tt,tt,tt,tt,ff,tt,tt,ff,tt,ff,ff] rfl rfl (any_of HT_.out (by kernel_rfl)) (fun _ _ _ h => h) (Or.inl ⟨by rfl, ?_⟩) ?_ ?_
    rotate_left
    ·intro w'
     go_simp
     with_reducible rfl
    rotate_left
    ·simp only [Act.put, L1_, L2_, L3_, i64_w, i32_w]
     rfl
    refine take_ (i := 5) (N := some 29) (v := ?_) (a' := ?_) #[tt,tt,tt,tt,tt,tt,tt,tt,ff,tt,ff,ff] rfl rfl (take_ofW HT_.out HW_.out (by kernel_rfl)) (fun _ _ _ h => h) (Or.inl ⟨by rfl, ?_⟩) hHeld ?_ ?_
    rotate_left
    ·rintro w' ⟨s0, s1⟩
     go_simp
     with_reducible rfl
    rotate_left
    ·simp only [Act.put, L1_, L2_, L3_, i64_w, i32_w]
     rfl
    refine one_ (i := 8) (N := none) #[tt,tt,tt,tt,tt,tt,tt,tt,tt,tt,ff,ff] rfl rfl (one_of HT_.out (by kernel_rfl)) (by decide) (fun K hK => ?_)
    have hs18 : w17.cell? ⟨gb134, 1, none⟩ = some (.float .f32 0) := (blk_cell BK134.out 1).trans rfl
    have hfs18 := blk_frozen BK134.out 1
    have hns18_0 := NB133_134.out
    have hns18_2 := NB135_134.out
    have hms18_0 := NB134_133.out
    have hms18_2 := NB134_135.out
    refine skip_ (w1 := ?_) (by rfl) rfl ?_ ?_
    rotate_left
    ·go_simp
     rfl
    refine hK.out _ _ ⟨((cell_far (p := ⟨gb134, _, none⟩) NB135_134.out _).trans (hHeld.1)), ((cell_far (p := ⟨gb134, _, none⟩) NB135_134.out _).trans (hHeld.2))⟩ (fun hHeld => ?_)
    clear hK K
    refine pure_ (i := 10) (N := some 33) (v := ?_) (a' := ?_) #[tt,tt,tt,tt,tt,tt,tt,tt,tt,tt,tt,ff] rfl rfl (any_of HT_.out (by kernel_rfl)) (fun _ _ _ h => h) (Or.inl ⟨by rfl, ?_⟩) ?_ ?_
    rotate_left
    ·intro w'
     go_simp
     with_reducible rfl
    rotate_left
    ·simp only [Act.put, L1_, L2_, L3_, i64_w, i32_w]
     rfl
    refine one_ (i := 11) (N := none) #[tt,tt,tt,tt,tt,tt,tt,tt,tt,tt,tt,tt] rfl rfl (one_of HT_.out (by kernel_rfl)) (by decide) (fun K hK => ?_)
    have hs19 : w17.cell? ⟨gb134, 4, none⟩ = some (.float .f32 0) := (blk_cell BK134.out 4).trans rfl
    have hfs19 := blk_frozen BK134.out 4
    have hns19_0 := NB133_134.out
    have hns19_2 := NB135_134.out
    have hms19_0 := NB134_133.out
    have hms19_2 := NB134_135.out
    refine skip_ (w1 := ?_) (by rfl) rfl ?_ ?_
    rotate_left
    ·go_simp
     rfl
    refine hK.out _ _ ⟨((cell_far (p := ⟨gb134, _, none⟩) NB135_134.out _).trans (hHeld.1)), ((cell_far (p := ⟨gb134, _, none⟩) NB135_134.out _).trans (hHeld.2))⟩ (fun hHeld => ?_)
    clear hK K
    refine done_ (done_of HT_.out (by kernel_rfl)) ?_
    go_wp2
    rw [rounds_succ]
    go_wp2_with (first | ((with_reducible refine gate_dst (N := 7) rfl ?_); refine box_event ?hg (N := 7) ?hd (cs := #[.float .f32 0, .float .f32 0]) (t := 192) ?hr ?_; (case hd => rfl); (case hg => rfl); (case hr => first | (go_simp; done) | (go_simp; rfl)); intro gb136 hg w20 hbox hb; have n0_ := Aside0.mk (Kd.R_below (by (with_reducible repeat (first | apply Kd.R_alloc | apply Kd.R_drewN | apply Kd.R_drew)); exact (Kd.R_mono (Kd.R_far (p := ⟨gb134, 4, none⟩) (Kd.R_far (p := ⟨gb134, 1, none⟩) (Kd.R_mono HO_2.out (fun k_ hk => (⟨hk, hk⟩ : _ ∧ k_ ≠ gb134))) (fun _ hk => hk.2) (.float .f32 ((rd_T195 l0 x10_1).f1.f0.f0))) (fun _ hk => hk.2) (.float .f32 ((rd_T195 l0 x10_1).f1.f0.f1))) (fun _ h_ => h_.1))) hb); have n1_ := Aside0.mk (blk_below (g := gb133) (o := .cells #[.int .u8 ((rd_T195 l0 x10_1).f0), .float .f32 ((rd_T195 l0 x10_1).f1.f0.f0), .float .f32 ((rd_T195 l0 x10_1).f1.f0.f1), .float .f32 ((rd_T195 l0 x10_1).f1.f1.f0), .float .f32 ((rd_T195 l0 x10_1).f1.f1.f1), .float .f32 ((rd_T195 l0 x10_1).f1.f2.f0), .float .f32 ((rd_T195 l0 x10_1).f1.f2.f1)] 195 (0, 0)) (by (with_reducible repeat (first | apply b1_ | apply b2_ | apply b3_)); refine blk_far ?_ NB133_134.out _; (with_reducible repeat (first | apply b1_ | apply b2_ | apply b3_)); refine blk_far ?_ NB133_134.out _; (with_reducible repeat (first | apply b1_ | apply b2_ | apply b3_)); exact BK133.out) hb); have n2_ := Aside0.mk (blk_below (g := gb134) (o := .cells #[.int .i64 (wrap64 ((rd_T195 l0 x10_1).f0)), .float .f32 ((rd_T195 l0 x10_1).f1.f0.f0), .float .f32 0, .float .f32 0, .float .f32 ((rd_T195 l0 x10_1).f1.f0.f1), .float .f32 0, .float .f32 0] 127 (0, 0)) (by (with_reducible repeat (first | apply b1_ | apply b2_ | apply b3_)); refine blk_put (cs := #[.int .i64 (wrap64 ((rd_T195 l0 x10_1).f0)), .float .f32 ((rd_T195 l0 x10_1).f1.f0.f0), .float .f32 0, .float .f32 0, .float .f32 0, .float .f32 0, .float .f32 0]) ?_ 4 _ rfl; (with_reducible repeat (first | apply b1_ | apply b2_ | apply b3_)); refine blk_put (cs := #[.int .i64 (wrap64 ((rd_T195 l0 x10_1).f0)), .float .f32 0, .float .f32 0, .float .f32 0, .float .f32 0, .float .f32 0, .float .f32 0]) ?_ 1 _ rfl; (with_reducible repeat (first | apply b1_ | apply b2_ | apply b3_)); exact BK134.out) hb); have n3_ := Aside0.mk (blk_below (g := gb135) (o := .cells #[.float .f32 ((rd_T195 l0 x10_1).f1.f0.f0), .float .f32 ((rd_T195 l0 x10_1).f1.f0.f1)] 192 (0, 0)) (by (with_reducible repeat (first | apply b1_ | apply b2_ | apply b3_)); refine blk_far ?_ NB135_134.out _; (with_reducible repeat (first | apply b1_ | apply b2_ | apply b3_)); refine blk_far ?_ NB135_134.out _; (with_reducible repeat (first | apply b1_ | apply b2_ | apply b3_)); exact BK135.out) hb); have n4_ := Aside0.mk (below_step (by repeat (first | (with_reducible first | exact HB.out | apply below_alloc | apply pw_below_drewN | apply below_drew1 | refine below_set ?_ GE133.out | refine below_set ?_ GE134.out | refine below_set ?_ GE135.out) | exact HB.out)) hb); have n5_ := Aside0.mk (hbox); have n6_ := Aside0.mk ((by rw [hg]; exact (below_size (by repeat (first | (with_reducible first | exact HB.out | apply below_alloc | apply pw_below_drewN | apply below_drew1 | refine below_set ?_ GE133.out | refine below_set ?_ GE134.out | refine below_set ?_ GE135.out) | exact HB.out))) : w.heap.size ≤ gb136)); have n7_ := Aside0.mk ((by rw [hg]; exact (below_size (by repeat (first | (with_reducible first | exact HB.out | apply below_alloc | apply pw_below_drewN | apply below_drew1 | refine below_set ?_ GE133.out | refine below_set ?_ GE134.out | refine below_set ?_ GE135.out) | exact HB.out))) : w.heap.size ≤ gb136)); have n8_ := Aside0.mk ((by rw [hg]; exact Nat.ne_of_lt (blk_lt (g := gb133) (o := .cells #[.int .u8 ((rd_T195 l0 x10_1).f0), .float .f32 ((rd_T195 l0 x10_1).f1.f0.f0), .float .f32 ((rd_T195 l0 x10_1).f1.f0.f1), .float .f32 ((rd_T195 l0 x10_1).f1.f1.f0), .float .f32 ((rd_T195 l0 x10_1).f1.f1.f1), .float .f32 ((rd_T195 l0 x10_1).f1.f2.f0), .float .f32 ((rd_T195 l0 x10_1).f1.f2.f1)] 195 (0, 0)) (by (with_reducible repeat (first | apply b1_ | apply b2_ | apply b3_)); refine blk_far ?_ NB133_134.out _; (with_reducible repeat (first | apply b1_ | apply b2_ | apply b3_)); refine blk_far ?_ NB133_134.out _; (with_reducible repeat (first | apply b1_ | apply b2_ | apply b3_)); exact BK133.out)) : gb133 ≠ gb136)); have n9_ := Aside0.mk ((by rw [hg]; exact Nat.ne_of_gt (blk_lt (g := gb133) (o := .cells #[.int .u8 ((rd_T195 l0 x10_1).f0), .float .f32 ((rd_T195 l0 x10_1).f1.f0.f0), .float .f32 ((rd_T195 l0 x10_1).f1.f0.f1), .float .f32 ((rd_T195 l0 x10_1).f1.f1.f0), .float .f32 ((rd_T195 l0 x10_1).f1.f1.f1), .float .f32 ((rd_T195 l0 x10_1).f1.f2.f0), .float .f32 ((rd_T195 l0 x10_1).f1.f2.f1)] 195 (0, 0)) (by (with_reducible repeat (first | apply b1_ | apply b2_ | apply b3_)); refine blk_far ?_ NB133_134.out _; (with_reducible repeat (first | apply b1_ | apply b2_ | apply b3_)); refine blk_far ?_ NB133_134.out _; (with_reducible repeat (first | apply b1_ | apply b2_ | apply b3_)); exact BK133.out)) : gb136 ≠ gb133)); have n10_ := Aside0.mk ((by rw [hg]; exact Nat.ne_of_lt (blk_lt (g := gb134) (o := .cells #[.int .i64 (wrap64 ((rd_T195 l0 x10_1).f0)), .float .f32 ((rd_T195 l0 x10_1).f1.f0.f0), .float .f32 0, .float .f32 0, .float .f32 ((rd_T195 l0 x10_1).f1.f0.f1), .float .f32 0, .float .f32 0] 127 (0, 0)) (by (with_reducible repeat (first | apply b1_ | apply b2_ | apply b3_)); refine blk_put (cs := #[.int .i64 (wrap64 ((rd_T195 l0 x10_1).f0)), .float .f32 ((rd_T195 l0 x10_1).f1.f0.f0), .float .f32 0, .float .f32 0, .float .f32 0, .float .f32 0, .float .f32 0]) ?_ 4 _ rfl; (with_reducible repeat (first | apply b1_ | apply b2_ | apply b3_)); refine blk_put (cs := #[.int .i64 (wrap64 ((rd_T195 l0 x10_1).f0)), .float .f32 0, .float .f32 0, .float .f32 0, .float .f32 0, .float .f32 0, .float .f32 0]) ?_ 1 _ rfl; (with_reducible repeat (first | apply b1_ | apply b2_ | apply b3_)); exact BK134.out)) : gb134 ≠ gb136)); have n11_ := Aside0.mk ((by rw [hg]; exact Nat.ne_of_gt (blk_lt (g := gb134) (o := .cells #[.int .i64 (wrap64 ((rd_T195 l0 x10_1).f0)), .float .f32 ((rd_T195 l0 x10_1).f1.f0.f0), .float .f32 0, .float .f32 0, .float .f32 ((rd_T195 l0 x10_1).f1.f0.f1), .float .f32 0, .float .f32 0] 127 (0, 0)) (by (with_reducible repeat (first | apply b1_ | apply b2_ | apply b3_)); refine blk_put (cs := #[.int .i64 (wrap64 ((rd_T195 l0 x10_1).f0)), .float .f32 ((rd_T195 l0 x10_1).f1.f0.f0), .float .f32 0, .float .f32 0, .float .f32 0, .float .f32 0, .float .f32 0]) ?_ 4 _ rfl; (with_reducible repeat (first | apply b1_ | apply b2_ | apply b3_)); refine blk_put (cs := #[.int .i64 (wrap64 ((rd_T195 l0 x10_1).f0)), .float .f32 0, .float .f32 0, .float .f32 0, .float .f32 0, .float .f32 0, .float .f32 0]) ?_ 1 _ rfl; (with_reducible repeat (first | apply b1_ | apply b2_ | apply b3_)); exact BK134.out)) : gb136 ≠ gb134)); have n12_ := Aside0.mk ((by rw [hg]; exact Nat.ne_of_lt (blk_lt (g := gb135) (o := .cells #[.float .f32 ((rd_T195 l0 x10_1).f1.f0.f0), .float .f32 ((rd_T195 l0 x10_1).f1.f0.f1)] 192 (0, 0)) (by (with_reducible repeat (first | apply b1_ | apply b2_ | apply b3_)); refine blk_far ?_ NB135_134.out _; (with_reducible repeat (first | apply b1_ | apply b2_ | apply b3_)); refine blk_far ?_ NB135_134.out _; (with_reducible repeat (first | apply b1_ | apply b2_ | apply b3_)); exact BK135.out)) : gb135 ≠ gb136)); have n13_ := Aside0.mk ((by rw [hg]; exact Nat.ne_of_gt (blk_lt (g := gb135) (o := .cells #[.float .f32 ((rd_T195 l0 x10_1).f1.f0.f0), .float .f32 ((rd_T195 l0 x10_1).f1.f0.f1)] 192 (0, 0)) (by (with_reducible repeat (first | apply b1_ | apply b2_ | apply b3_)); refine blk_far ?_ NB135_134.out _; (with_reducible repeat (first | apply b1_ | apply b2_ | apply b3_)); refine blk_far ?_ NB135_134.out _; (with_reducible repeat (first | apply b1_ | apply b2_ | apply b3_)); exact BK135.out)) : gb136 ≠ gb135)); clear HO_2; clear BK133; clear BK134; clear BK135; clear HB; have HO_2 := n0_; have BK133 := n1_; have BK134 := n2_; have BK135 := n3_; have HB := n4_; have BK136 := n5_; have GW136 := n6_; have GE136 := n7_; have NB133_136 := n8_; have NB136_133 := n9_; have NB134_136 := n10_; have NB136_134 := n11_; have NB135_136 := n12_; have NB136_135 := n13_; clear n0_ n1_ n2_ n3_ n4_ n5_ n6_ n7_ n8_ n9_ n10_ n11_ n12_ n13_; clear hb hbox hg; have hnb21 := NB136_133.out; have hnc21 := NB133_136.out; have hnb22 := NB136_134.out; have hnc22 := NB134_136.out; have hnb23 := NB136_135.out; have hnc23 := NB135_136.out; have hcz24_0 : w20.cell? ⟨gb136, 0, none⟩ = some (.float .f32 0) := (blk_cell BK136.out 0).trans rfl; have hcz24_1 : w20.cell? ⟨gb136, 1, none⟩ = some (.float .f32 0) := (blk_cell BK136.out 1).trans rfl; have hfz24_0 := blk_frozen BK136.out 0; have hfz24_1 := blk_frozen BK136.out 1))
    have n0_ : Aside0 (Kd.R k127 127 ((w20.setCell ⟨gb136, 0, none⟩ (.float .f32 ((rd_T195 l0 x10_1).f1.f1.f0))).setCell ⟨gb136, 1, none⟩ (.float .f32 ((rd_T195 l0 x10_1).f1.f1.f1))) w.heap.size (fun k_ => k_ ≠ gb134) u2 x2_1) := ⟨by (with_reducible repeat (first | apply Kd.R_alloc | apply Kd.R_drewN | apply Kd.R_drew)); exact Kd.R_mono (Kd.R_far (p := ⟨gb136, 1, none⟩) (Kd.R_far (p := ⟨gb136, 0, none⟩) (Kd.R_types HO_2.out BK136.out (by decide)) (fun _ hk => hk.2) (.float .f32 ((rd_T195 l0 x10_1).f1.f1.f0))) (fun _ hk => hk.2) (.float .f32 ((rd_T195 l0 x10_1).f1.f1.f1))) (fun _ hk => hk.1)⟩
    have n1_ : Aside0 (((w20.setCell ⟨gb136, 0, none⟩ (.float .f32 ((rd_T195 l0 x10_1).f1.f1.f0))).setCell ⟨gb136, 1, none⟩ (.float .f32 ((rd_T195 l0 x10_1).f1.f1.f1))).heap[gb133]? = some (.cells #[.int .u8 ((rd_T195 l0 x10_1).f0), .float .f32 ((rd_T195 l0 x10_1).f1.f0.f0), .float .f32 ((rd_T195 l0 x10_1).f1.f0.f1), .float .f32 ((rd_T195 l0 x10_1).f1.f1.f0), .float .f32 ((rd_T195 l0 x10_1).f1.f1.f1), .float .f32 ((rd_T195 l0 x10_1).f1.f2.f0), .float .f32 ((rd_T195 l0 x10_1).f1.f2.f1)] 195 (0, 0))) := ⟨by (with_reducible repeat (first | apply b1_ | apply b2_ | apply b3_)); refine blk_far ?_ NB133_136.out _; (with_reducible repeat (first | apply b1_ | apply b2_ | apply b3_)); refine blk_far ?_ NB133_136.out _; (with_reducible repeat (first | apply b1_ | apply b2_ | apply b3_)); exact BK133.out⟩
    have n2_ : Aside0 (((w20.setCell ⟨gb136, 0, none⟩ (.float .f32 ((rd_T195 l0 x10_1).f1.f1.f0))).setCell ⟨gb136, 1, none⟩ (.float .f32 ((rd_T195 l0 x10_1).f1.f1.f1))).heap[gb134]? = some (.cells #[.int .i64 (wrap64 ((rd_T195 l0 x10_1).f0)), .float .f32 ((rd_T195 l0 x10_1).f1.f0.f0), .float .f32 0, .float .f32 0, .float .f32 ((rd_T195 l0 x10_1).f1.f0.f1), .float .f32 0, .float .f32 0] 127 (0, 0))) := ⟨by (with_reducible repeat (first | apply b1_ | apply b2_ | apply b3_)); refine blk_far ?_ NB134_136.out _; (with_reducible repeat (first | apply b1_ | apply b2_ | apply b3_)); refine blk_far ?_ NB134_136.out _; (with_reducible repeat (first | apply b1_ | apply b2_ | apply b3_)); exact BK134.out⟩
    have n3_ : Aside0 (((w20.setCell ⟨gb136, 0, none⟩ (.float .f32 ((rd_T195 l0 x10_1).f1.f1.f0))).setCell ⟨gb136, 1, none⟩ (.float .f32 ((rd_T195 l0 x10_1).f1.f1.f1))).heap[gb135]? = some (.cells #[.float .f32 ((rd_T195 l0 x10_1).f1.f0.f0), .float .f32 ((rd_T195 l0 x10_1).f1.f0.f1)] 192 (0, 0))) := ⟨by (with_reducible repeat (first | apply b1_ | apply b2_ | apply b3_)); refine blk_far ?_ NB135_136.out _; (with_reducible repeat (first | apply b1_ | apply b2_ | apply b3_)); refine blk_far ?_ NB135_136.out _; (with_reducible repeat (first | apply b1_ | apply b2_ | apply b3_)); exact BK135.out⟩
    have n4_ : Aside0 (((w20.setCell ⟨gb136, 0, none⟩ (.float .f32 ((rd_T195 l0 x10_1).f1.f1.f0))).setCell ⟨gb136, 1, none⟩ (.float .f32 ((rd_T195 l0 x10_1).f1.f1.f1))).heap[gb136]? = some (.cells #[.float .f32 ((rd_T195 l0 x10_1).f1.f1.f0), .float .f32 ((rd_T195 l0 x10_1).f1.f1.f1)] 192 (0, 0))) := ⟨by (with_reducible repeat (first | apply b1_ | apply b2_ | apply b3_)); refine blk_put (cs := #[.float .f32 ((rd_T195 l0 x10_1).f1.f1.f0), .float .f32 0]) ?_ 1 _ rfl; (with_reducible repeat (first | apply b1_ | apply b2_ | apply b3_)); refine blk_put (cs := #[.float .f32 0, .float .f32 0]) ?_ 0 _ rfl; (with_reducible repeat (first | apply b1_ | apply b2_ | apply b3_)); exact BK136.out⟩
    have n5_ : Aside0 (Below w.heap.size w ((w20.setCell ⟨gb136, 0, none⟩ (.float .f32 ((rd_T195 l0 x10_1).f1.f1.f0))).setCell ⟨gb136, 1, none⟩ (.float .f32 ((rd_T195 l0 x10_1).f1.f1.f1)))) := ⟨by repeat (first | (with_reducible first | exact HB.out | apply below_alloc | apply pw_below_drewN | apply below_drew1 | refine below_set ?_ GE133.out | refine below_set ?_ GE134.out | refine below_set ?_ GE135.out | refine below_set ?_ GE136.out) | exact HB.out)⟩
    (try clear HO_2)
    (try clear BK133)
    (try clear BK134)
    (try clear BK135)
    (try clear BK136)
    (try clear HB)
    generalize ((w20.setCell ⟨gb136, 0, none⟩ (.float .f32 ((rd_T195 l0 x10_1).f1.f1.f0))).setCell ⟨gb136, 1, none⟩ (.float .f32 ((rd_T195 l0 x10_1).f1.f1.f1))) = w25 at n0_ n1_ n2_ n3_ n4_ n5_ ⊢
    have HO_2 := n0_
    have BK133 := n1_
    have BK134 := n2_
    have BK135 := n3_
    have BK136 := n4_
    have HB := n5_
    clear n0_ n1_ n2_ n3_ n4_ n5_
    have n0_ := Aside0.mk (Kd.R_drew HO_2.out)
    have n1_ := Aside0.mk (blk_drew BK133.out)
    have n2_ := Aside0.mk (blk_drew BK134.out)
    have n3_ := Aside0.mk (blk_drew BK135.out)
    have n4_ := Aside0.mk (blk_drew BK136.out)
    have n5_ := Aside0.mk (below_drew1 HB.out)
    clear HO_2
    clear BK133
    clear BK134
    clear BK135
    clear BK136
    clear HB
    have HO_2 := n0_
    have BK133 := n1_
    have BK134 := n2_
    have BK135 := n3_
    have BK136 := n4_
    have HB := n5_
    clear n0_ n1_ n2_ n3_ n4_ n5_
    refine start_ (n := 12) (S := fun w' => w'.cell? ⟨gb136, 0, none⟩ = some (.float .f32 ((rd_T195 l0 x10_1).f1.f1.f0)) ∧ w'.cell? ⟨gb136, 1, none⟩ = some (.float .f32 ((rd_T195 l0 x10_1).f1.f1.f1))) (ds := []) #[ff,ff,ff,ff,ff,ff,ff,ff,ff,ff,ff,ff] (by kernel_rfl) rfl rfl ⟨(blk_cell BK136.out 0).trans rfl, (blk_cell BK136.out 1).trans rfl⟩ (fun hHeld => ?_); refine with_tabW impl_strokes.tab8 impl_strokes.bits8 (fun HT_ HW_ => ?_)
    generalize w25.drew = w26 at HO_2 BK133 BK134 BK135 BK136 HB hHeld ⊢
    refine pure_ (i := 0) (N := some 24) (v := ?_) (a' := ?_) #[tt,ff,ff,ff,ff,ff,ff,ff,ff,ff,ff,ff] rfl rfl (any_of HT_.out (by kernel_rfl)) (fun _ _ _ h => h) (Or.inl ⟨by rfl, ?_⟩) ?_ ?_
    rotate_left
    ·intro w'
     go_simp
     with_reducible rfl
    rotate_left
    ·simp only [Act.put, L1_, L2_, L3_, i64_w, i32_w]
     rfl
    refine pure_ (i := 1) (N := some 25) (v := ?_) (a' := ?_) #[tt,tt,ff,ff,ff,ff,ff,ff,ff,ff,ff,ff] rfl rfl (any_of HT_.out (by kernel_rfl)) (fun _ _ _ h => h) (Or.inl ⟨by rfl, ?_⟩) ?_ ?_
    rotate_left
    ·intro w'
     go_simp
     with_reducible rfl
    rotate_left
    ·simp only [Act.put, L1_, L2_, L3_, i64_w, i32_w]
     rfl
    refine pure_ (i := 2) (N := some 26) (v := ?_) (a' := ?_) #[tt,tt,tt,ff,ff,ff,ff,ff,ff,ff,ff,ff] rfl rfl (any_of HT_.out (by kernel_rfl)) (fun _ _ _ h => h) (Or.inl ⟨by rfl, ?_⟩) ?_ ?_
    rotate_left
    ·intro w'
     go_simp
     with_reducible rfl
    rotate_left
    ·simp only [Act.put, L1_, L2_, L3_, i64_w, i32_w]
     rfl
    refine pure_ (i := 4) (N := some 28) (v := ?_) (a' := ?_) #[tt,tt,tt,ff,tt,ff,ff,ff,ff,ff,ff,ff] rfl rfl (any_of HT_.out (by kernel_rfl)) (fun _ _ _ h => h) (Or.inl ⟨by rfl, ?_⟩) ?_ ?_
    rotate_left
    ·intro w'
     go_simp
     with_reducible rfl
    rotate_left
    ·simp only [Act.put, L1_, L2_, L3_, i64_w, i32_w]
     rfl
    refine pure_ (i := 6) (N := some 30) (v := ?_) (a' := ?_) #[tt,tt,tt,ff,tt,ff,tt,ff,ff,ff,ff,ff] rfl rfl (any_of HT_.out (by kernel_rfl)) (fun _ _ _ h => h) (Or.inl ⟨by rfl, ?_⟩) ?_ ?_
    rotate_left
    ·intro w'
     go_simp
     with_reducible rfl
    rotate_left
    ·simp only [Act.put, L1_, L2_, L3_, i64_w, i32_w]
     rfl
    refine pure_ (i := 9) (N := some 32) (v := ?_) (a' := ?_) #[tt,tt,tt,ff,tt,ff,tt,ff,ff,tt,ff,ff] rfl rfl (any_of HT_.out (by kernel_rfl)) (fun _ _ _ h => h) (Or.inl ⟨by rfl, ?_⟩) ?_ ?_
    rotate_left
    ·intro w'
     go_simp
     with_reducible rfl
    rotate_left
    ·simp only [Act.put, L1_, L2_, L3_, i64_w, i32_w]
     rfl
    refine take_ (i := 3) (N := some 27) (v := ?_) (a' := ?_) #[tt,tt,tt,tt,tt,ff,tt,ff,ff,tt,ff,ff] rfl rfl (take_ofW HT_.out HW_.out (by kernel_rfl)) (fun _ _ _ h => h) (Or.inl ⟨by rfl, ?_⟩) hHeld ?_ ?_
    rotate_left
    ·rintro w' ⟨s0, s1⟩
     go_simp
     with_reducible rfl
    rotate_left
    ·simp only [Act.put, L1_, L2_, L3_, i64_w, i32_w]
     rfl
    refine pure_ (i := 7) (N := some 31) (v := ?_) (a' := ?_) #[tt,tt,tt,tt,tt,ff,tt,tt,ff,tt,ff,ff] rfl rfl (any_of HT_.out (by kernel_rfl)) (fun _ _ _ h => h) (Or.inl ⟨by rfl, ?_⟩) ?_ ?_
    rotate_left
    ·intro w'
     go_simp
     with_reducible rfl
    rotate_left
    ·simp only [Act.put, L1_, L2_, L3_, i64_w, i32_w]
     rfl
    refine take_ (i := 5) (N := some 29) (v := ?_) (a' := ?_) #[tt,tt,tt,tt,tt,tt,tt,tt,ff,tt,ff,ff] rfl rfl (take_ofW HT_.out HW_.out (by kernel_rfl)) (fun _ _ _ h => h) (Or.inl ⟨by rfl, ?_⟩) hHeld ?_ ?_
    rotate_left
    ·rintro w' ⟨s0, s1⟩
     go_simp
     with_reducible rfl
    rotate_left
    ·simp only [Act.put, L1_, L2_, L3_, i64_w, i32_w]
     rfl
    refine one_ (i := 8) (N := none) #[tt,tt,tt,tt,tt,tt,tt,tt,tt,tt,ff,ff] rfl rfl (one_of HT_.out (by kernel_rfl)) (by decide) (fun K hK => ?_)
    have hs27 : w26.cell? ⟨gb134, 2, none⟩ = some (.float .f32 0) := (blk_cell BK134.out 2).trans rfl
    have hfs27 := blk_frozen BK134.out 2
    have hns27_0 := NB133_134.out
    have hns27_2 := NB135_134.out
    have hns27_3 := NB136_134.out
    have hms27_0 := NB134_133.out
    have hms27_2 := NB134_135.out
    have hms27_3 := NB134_136.out
    refine skip_ (w1 := ?_) (by rfl) rfl ?_ ?_
    rotate_left
    ·go_simp
     rfl
    refine hK.out _ _ ⟨((cell_far (p := ⟨gb134, _, none⟩) NB136_134.out _).trans (hHeld.1)), ((cell_far (p := ⟨gb134, _, none⟩) NB136_134.out _).trans (hHeld.2))⟩ (fun hHeld => ?_)
    clear hK K
    refine pure_ (i := 10) (N := some 33) (v := ?_) (a' := ?_) #[tt,tt,tt,tt,tt,tt,tt,tt,tt,tt,tt,ff] rfl rfl (any_of HT_.out (by kernel_rfl)) (fun _ _ _ h => h) (Or.inl ⟨by rfl, ?_⟩) ?_ ?_
    rotate_left
    ·intro w'
     go_simp
     with_reducible rfl
    rotate_left
    ·simp only [Act.put, L1_, L2_, L3_, i64_w, i32_w]
     rfl
    refine one_ (i := 11) (N := none) #[tt,tt,tt,tt,tt,tt,tt,tt,tt,tt,tt,tt] rfl rfl (one_of HT_.out (by kernel_rfl)) (by decide) (fun K hK => ?_)
    have hs28 : w26.cell? ⟨gb134, 5, none⟩ = some (.float .f32 0) := (blk_cell BK134.out 5).trans rfl
    have hfs28 := blk_frozen BK134.out 5
    have hns28_0 := NB133_134.out
    have hns28_2 := NB135_134.out
    have hns28_3 := NB136_134.out
    have hms28_0 := NB134_133.out
    have hms28_2 := NB134_135.out
    have hms28_3 := NB134_136.out
    refine skip_ (w1 := ?_) (by rfl) rfl ?_ ?_
    rotate_left
    ·go_simp
     rfl
    refine hK.out _ _ ⟨((cell_far (p := ⟨gb134, _, none⟩) NB136_134.out _).trans (hHeld.1)), ((cell_far (p := ⟨gb134, _, none⟩) NB136_134.out _).trans (hHeld.2))⟩ (fun hHeld => ?_)
    clear hK K
    refine done_ (done_of HT_.out (by kernel_rfl)) ?_
    go_wp2
    rw [rounds_succ]
    go_wp2_with (first | ((with_reducible refine gate_dst (N := 7) rfl ?_); refine box_event ?hg (N := 7) ?hd (cs := #[.float .f32 0, .float .f32 0]) (t := 192) ?hr ?_; (case hd => rfl); (case hg => rfl); (case hr => first | (go_simp; done) | (go_simp; rfl)); intro gb137 hg w29 hbox hb; have n0_ := Aside0.mk (Kd.R_below (by (with_reducible repeat (first | apply Kd.R_alloc | apply Kd.R_drewN | apply Kd.R_drew)); exact (Kd.R_mono (Kd.R_far (p := ⟨gb134, 5, none⟩) (Kd.R_far (p := ⟨gb134, 2, none⟩) (Kd.R_mono HO_2.out (fun k_ hk => (⟨hk, hk⟩ : _ ∧ k_ ≠ gb134))) (fun _ hk => hk.2) (.float .f32 ((rd_T195 l0 x10_1).f1.f1.f0))) (fun _ hk => hk.2) (.float .f32 ((rd_T195 l0 x10_1).f1.f1.f1))) (fun _ h_ => h_.1))) hb); have n1_ := Aside0.mk (blk_below (g := gb133) (o := .cells #[.int .u8 ((rd_T195 l0 x10_1).f0), .float .f32 ((rd_T195 l0 x10_1).f1.f0.f0), .float .f32 ((rd_T195 l0 x10_1).f1.f0.f1), .float .f32 ((rd_T195 l0 x10_1).f1.f1.f0), .float .f32 ((rd_T195 l0 x10_1).f1.f1.f1), .float .f32 ((rd_T195 l0 x10_1).f1.f2.f0), .float .f32 ((rd_T195 l0 x10_1).f1.f2.f1)] 195 (0, 0)) (by (with_reducible repeat (first | apply b1_ | apply b2_ | apply b3_)); refine blk_far ?_ NB133_134.out _; (with_reducible repeat (first | apply b1_ | apply b2_ | apply b3_)); refine blk_far ?_ NB133_134.out _; (with_reducible repeat (first | apply b1_ | apply b2_ | apply b3_)); exact BK133.out) hb); have n2_ := Aside0.mk (blk_below (g := gb134) (o := .cells #[.int .i64 (wrap64 ((rd_T195 l0 x10_1).f0)), .float .f32 ((rd_T195 l0 x10_1).f1.f0.f0), .float .f32 ((rd_T195 l0 x10_1).f1.f1.f0), .float .f32 0, .float .f32 ((rd_T195 l0 x10_1).f1.f0.f1), .float .f32 ((rd_T195 l0 x10_1).f1.f1.f1), .float .f32 0] 127 (0, 0)) (by (with_reducible repeat (first | apply b1_ | apply b2_ | apply b3_)); refine blk_put (cs := #[.int .i64 (wrap64 ((rd_T195 l0 x10_1).f0)), .float .f32 ((rd_T195 l0 x10_1).f1.f0.f0), .float .f32 ((rd_T195 l0 x10_1).f1.f1.f0), .float .f32 0, .float .f32 ((rd_T195 l0 x10_1).f1.f0.f1), .float .f32 0, .float .f32 0]) ?_ 5 _ rfl; (with_reducible repeat (first | apply b1_ | apply b2_ | apply b3_)); refine blk_put (cs := #[.int .i64 (wrap64 ((rd_T195 l0 x10_1).f0)), .float .f32 ((rd_T195 l0 x10_1).f1.f0.f0), .float .f32 0, .float .f32 0, .float .f32 ((rd_T195 l0 x10_1).f1.f0.f1), .float .f32 0, .float .f32 0]) ?_ 2 _ rfl; (with_reducible repeat (first | apply b1_ | apply b2_ | apply b3_)); exact BK134.out) hb); have n3_ := Aside0.mk (blk_below (g := gb135) (o := .cells #[.float .f32 ((rd_T195 l0 x10_1).f1.f0.f0), .float .f32 ((rd_T195 l0 x10_1).f1.f0.f1)] 192 (0, 0)) (by (with_reducible repeat (first | apply b1_ | apply b2_ | apply b3_)); refine blk_far ?_ NB135_134.out _; (with_reducible repeat (first | apply b1_ | apply b2_ | apply b3_)); refine blk_far ?_ NB135_134.out _; (with_reducible repeat (first | apply b1_ | apply b2_ | apply b3_)); exact BK135.out) hb); have n4_ := Aside0.mk (blk_below (g := gb136) (o := .cells #[.float .f32 ((rd_T195 l0 x10_1).f1.f1.f0), .float .f32 ((rd_T195 l0 x10_1).f1.f1.f1)] 192 (0, 0)) (by (with_reducible repeat (first | apply b1_ | apply b2_ | apply b3_)); refine blk_far ?_ NB136_134.out _; (with_reducible repeat (first | apply b1_ | apply b2_ | apply b3_)); refine blk_far ?_ NB136_134.out _; (with_reducible repeat (first | apply b1_ | apply b2_ | apply b3_)); exact BK136.out) hb); have n5_ := Aside0.mk (below_step (by repeat (first | (with_reducible first | exact HB.out | apply below_alloc | apply pw_below_drewN | apply below_drew1 | refine below_set ?_ GE133.out | refine below_set ?_ GE134.out | refine below_set ?_ GE135.out | refine below_set ?_ GE136.out) | exact HB.out)) hb); have n6_ := Aside0.mk (hbox); have n7_ := Aside0.mk ((by rw [hg]; exact (below_size (by repeat (first | (with_reducible first | exact HB.out | apply below_alloc | apply pw_below_drewN | apply below_drew1 | refine below_set ?_ GE133.out | refine below_set ?_ GE134.out | refine below_set ?_ GE135.out | refine below_set ?_ GE136.out) | exact HB.out))) : w.heap.size ≤ gb137)); have n8_ := Aside0.mk ((by rw [hg]; exact (below_size (by repeat (first | (with_reducible first | exact HB.out | apply below_alloc | apply pw_below_drewN | apply below_drew1 | refine below_set ?_ GE133.out | refine below_set ?_ GE134.out | refine below_set ?_ GE135.out | refine below_set ?_ GE136.out) | exact HB.out))) : w.heap.size ≤ gb137)); have n9_ := Aside0.mk ((by rw [hg]; exact Nat.ne_of_lt (blk_lt (g := gb133) (o := .cells #[.int .u8 ((rd_T195 l0 x10_1).f0), .float .f32 ((rd_T195 l0 x10_1).f1.f0.f0), .float .f32 ((rd_T195 l0 x10_1).f1.f0.f1), .float .f32 ((rd_T195 l0 x10_1).f1.f1.f0), .float .f32 ((rd_T195 l0 x10_1).f1.f1.f1), .float .f32 ((rd_T195 l0 x10_1).f1.f2.f0), .float .f32 ((rd_T195 l0 x10_1).f1.f2.f1)] 195 (0, 0)) (by (with_reducible repeat (first | apply b1_ | apply b2_ | apply b3_)); refine blk_far ?_ NB133_134.out _; (with_reducible repeat (first | apply b1_ | apply b2_ | apply b3_)); refine blk_far ?_ NB133_134.out _; (with_reducible repeat (first | apply b1_ | apply b2_ | apply b3_)); exact BK133.out)) : gb133 ≠ gb137)); have n10_ := Aside0.mk ((by rw [hg]; exact Nat.ne_of_gt (blk_lt (g := gb133) (o := .cells #[.int .u8 ((rd_T195 l0 x10_1).f0), .float .f32 ((rd_T195 l0 x10_1).f1.f0.f0), .float .f32 ((rd_T195 l0 x10_1).f1.f0.f1), .float .f32 ((rd_T195 l0 x10_1).f1.f1.f0), .float .f32 ((rd_T195 l0 x10_1).f1.f1.f1), .float .f32 ((rd_T195 l0 x10_1).f1.f2.f0), .float .f32 ((rd_T195 l0 x10_1).f1.f2.f1)] 195 (0, 0)) (by (with_reducible repeat (first | apply b1_ | apply b2_ | apply b3_)); refine blk_far ?_ NB133_134.out _; (with_reducible repeat (first | apply b1_ | apply b2_ | apply b3_)); refine blk_far ?_ NB133_134.out _; (with_reducible repeat (first | apply b1_ | apply b2_ | apply b3_)); exact BK133.out)) : gb137 ≠ gb133)); have n11_ := Aside0.mk ((by rw [hg]; exact Nat.ne_of_lt (blk_lt (g := gb134) (o := .cells #[.int .i64 (wrap64 ((rd_T195 l0 x10_1).f0)), .float .f32 ((rd_T195 l0 x10_1).f1.f0.f0), .float .f32 ((rd_T195 l0 x10_1).f1.f1.f0), .float .f32 0, .float .f32 ((rd_T195 l0 x10_1).f1.f0.f1), .float .f32 ((rd_T195 l0 x10_1).f1.f1.f1), .float .f32 0] 127 (0, 0)) (by (with_reducible repeat (first | apply b1_ | apply b2_ | apply b3_)); refine blk_put (cs := #[.int .i64 (wrap64 ((rd_T195 l0 x10_1).f0)), .float .f32 ((rd_T195 l0 x10_1).f1.f0.f0), .float .f32 ((rd_T195 l0 x10_1).f1.f1.f0), .float .f32 0, .float .f32 ((rd_T195 l0 x10_1).f1.f0.f1), .float .f32 0, .float .f32 0]) ?_ 5 _ rfl; (with_reducible repeat (first | apply b1_ | apply b2_ | apply b3_)); refine blk_put (cs := #[.int .i64 (wrap64 ((rd_T195 l0 x10_1).f0)), .float .f32 ((rd_T195 l0 x10_1).f1.f0.f0), .float .f32 0, .float .f32 0, .float .f32 ((rd_T195 l0 x10_1).f1.f0.f1), .float .f32 0, .float .f32 0]) ?_ 2 _ rfl; (with_reducible repeat (first | apply b1_ | apply b2_ | apply b3_)); exact BK134.out)) : gb134 ≠ gb137)); have n12_ := Aside0.mk ((by rw [hg]; exact Nat.ne_of_gt (blk_lt (g := gb134) (o := .cells #[.int .i64 (wrap64 ((rd_T195 l0 x10_1).f0)), .float .f32 ((rd_T195 l0 x10_1).f1.f0.f0), .float .f32 ((rd_T195 l0 x10_1).f1.f1.f0), .float .f32 0, .float .f32 ((rd_T195 l0 x10_1).f1.f0.f1), .float .f32 ((rd_T195 l0 x10_1).f1.f1.f1), .float .f32 0] 127 (0, 0)) (by (with_reducible repeat (first | apply b1_ | apply b2_ | apply b3_)); refine blk_put (cs := #[.int .i64 (wrap64 ((rd_T195 l0 x10_1).f0)), .float .f32 ((rd_T195 l0 x10_1).f1.f0.f0), .float .f32 ((rd_T195 l0 x10_1).f1.f1.f0), .float .f32 0, .float .f32 ((rd_T195 l0 x10_1).f1.f0.f1), .float .f32 0, .float .f32 0]) ?_ 5 _ rfl; (with_reducible repeat (first | apply b1_ | apply b2_ | apply b3_)); refine blk_put (cs := #[.int .i64 (wrap64 ((rd_T195 l0 x10_1).f0)), .float .f32 ((rd_T195 l0 x10_1).f1.f0.f0), .float .f32 0, .float .f32 0, .float .f32 ((rd_T195 l0 x10_1).f1.f0.f1), .float .f32 0, .float .f32 0]) ?_ 2 _ rfl; (with_reducible repeat (first | apply b1_ | apply b2_ | apply b3_)); exact BK134.out)) : gb137 ≠ gb134)); have n13_ := Aside0.mk ((by rw [hg]; exact Nat.ne_of_lt (blk_lt (g := gb135) (o := .cells #[.float .f32 ((rd_T195 l0 x10_1).f1.f0.f0), .float .f32 ((rd_T195 l0 x10_1).f1.f0.f1)] 192 (0, 0)) (by (with_reducible repeat (first | apply b1_ | apply b2_ | apply b3_)); refine blk_far ?_ NB135_134.out _; (with_reducible repeat (first | apply b1_ | apply b2_ | apply b3_)); refine blk_far ?_ NB135_134.out _; (with_reducible repeat (first | apply b1_ | apply b2_ | apply b3_)); exact BK135.out)) : gb135 ≠ gb137)); have n14_ := Aside0.mk ((by rw [hg]; exact Nat.ne_of_gt (blk_lt (g := gb135) (o := .cells #[.float .f32 ((rd_T195 l0 x10_1).f1.f0.f0), .float .f32 ((rd_T195 l0 x10_1).f1.f0.f1)] 192 (0, 0)) (by (with_reducible repeat (first | apply b1_ | apply b2_ | apply b3_)); refine blk_far ?_ NB135_134.out _; (with_reducible repeat (first | apply b1_ | apply b2_ | apply b3_)); refine blk_far ?_ NB135_134.out _; (with_reducible repeat (first | apply b1_ | apply b2_ | apply b3_)); exact BK135.out)) : gb137 ≠ gb135)); have n15_ := Aside0.mk ((by rw [hg]; exact Nat.ne_of_lt (blk_lt (g := gb136) (o := .cells #[.float .f32 ((rd_T195 l0 x10_1).f1.f1.f0), .float .f32 ((rd_T195 l0 x10_1).f1.f1.f1)] 192 (0, 0)) (by (with_reducible repeat (first | apply b1_ | apply b2_ | apply b3_)); refine blk_far ?_ NB136_134.out _; (with_reducible repeat (first | apply b1_ | apply b2_ | apply b3_)); refine blk_far ?_ NB136_134.out _; (with_reducible repeat (first | apply b1_ | apply b2_ | apply b3_)); exact BK136.out)) : gb136 ≠ gb137)); have n16_ := Aside0.mk ((by rw [hg]; exact Nat.ne_of_gt (blk_lt (g := gb136) (o := .cells #[.float .f32 ((rd_T195 l0 x10_1).f1.f1.f0), .float .f32 ((rd_T195 l0 x10_1).f1.f1.f1)] 192 (0, 0)) (by (with_reducible repeat (first | apply b1_ | apply b2_ | apply b3_)); refine blk_far ?_ NB136_134.out _; (with_reducible repeat (first | apply b1_ | apply b2_ | apply b3_)); refine blk_far ?_ NB136_134.out _; (with_reducible repeat (first | apply b1_ | apply b2_ | apply b3_)); exact BK136.out)) : gb137 ≠ gb136)); clear HO_2; clear BK133; clear BK134; clear BK135; clear BK136; clear HB; have HO_2 := n0_; have BK133 := n1_; have BK134 := n2_; have BK135 := n3_; have BK136 := n4_; have HB := n5_; have BK137 := n6_; have GW137 := n7_; have GE137 := n8_; have NB133_137 := n9_; have NB137_133 := n10_; have NB134_137 := n11_; have NB137_134 := n12_; have NB135_137 := n13_; have NB137_135 := n14_; have NB136_137 := n15_; have NB137_136 := n16_; clear n0_ n1_ n2_ n3_ n4_ n5_ n6_ n7_ n8_ n9_ n10_ n11_ n12_ n13_ n14_ n15_ n16_; clear hb hbox hg; have hnb30 := NB137_133.out; have hnc30 := NB133_137.out; have hnb31 := NB137_134.out; have hnc31 := NB134_137.out; have hnb32 := NB137_135.out; have hnc32 := NB135_137.out; have hnb33 := NB137_136.out; have hnc33 := NB136_137.out; have hcz34_0 : w29.cell? ⟨gb137, 0, none⟩ = some (.float .f32 0) := (blk_cell BK137.out 0).trans rfl; have hcz34_1 : w29.cell? ⟨gb137, 1, none⟩ = some (.float .f32 0) := (blk_cell BK137.out 1).trans rfl; have hfz34_0 := blk_frozen BK137.out 0; have hfz34_1 := blk_frozen BK137.out 1))
    have n0_ : Aside0 (Kd.R k127 127 ((w29.setCell ⟨gb137, 0, none⟩ (.float .f32 ((rd_T195 l0 x10_1).f1.f2.f0))).setCell ⟨gb137, 1, none⟩ (.float .f32 ((rd_T195 l0 x10_1).f1.f2.f1))) w.heap.size (fun k_ => k_ ≠ gb134) u2 x2_1) := ⟨by (with_reducible repeat (first | apply Kd.R_alloc | apply Kd.R_drewN | apply Kd.R_drew)); exact Kd.R_mono (Kd.R_far (p := ⟨gb137, 1, none⟩) (Kd.R_far (p := ⟨gb137, 0, none⟩) (Kd.R_types HO_2.out BK137.out (by decide)) (fun _ hk => hk.2) (.float .f32 ((rd_T195 l0 x10_1).f1.f2.f0))) (fun _ hk => hk.2) (.float .f32 ((rd_T195 l0 x10_1).f1.f2.f1))) (fun _ hk => hk.1)⟩
    have n1_ : Aside0 (((w29.setCell ⟨gb137, 0, none⟩ (.float .f32 ((rd_T195 l0 x10_1).f1.f2.f0))).setCell ⟨gb137, 1, none⟩ (.float .f32 ((rd_T195 l0 x10_1).f1.f2.f1))).heap[gb133]? = some (.cells #[.int .u8 ((rd_T195 l0 x10_1).f0), .float .f32 ((rd_T195 l0 x10_1).f1.f0.f0), .float .f32 ((rd_T195 l0 x10_1).f1.f0.f1), .float .f32 ((rd_T195 l0 x10_1).f1.f1.f0), .float .f32 ((rd_T195 l0 x10_1).f1.f1.f1), .float .f32 ((rd_T195 l0 x10_1).f1.f2.f0), .float .f32 ((rd_T195 l0 x10_1).f1.f2.f1)] 195 (0, 0))) := ⟨by (with_reducible repeat (first | apply b1_ | apply b2_ | apply b3_)); refine blk_far ?_ NB133_137.out _; (with_reducible repeat (first | apply b1_ | apply b2_ | apply b3_)); refine blk_far ?_ NB133_137.out _; (with_reducible repeat (first | apply b1_ | apply b2_ | apply b3_)); exact BK133.out⟩
    have n2_ : Aside0 (((w29.setCell ⟨gb137, 0, none⟩ (.float .f32 ((rd_T195 l0 x10_1).f1.f2.f0))).setCell ⟨gb137, 1, none⟩ (.float .f32 ((rd_T195 l0 x10_1).f1.f2.f1))).heap[gb134]? = some (.cells #[.int .i64 (wrap64 ((rd_T195 l0 x10_1).f0)), .float .f32 ((rd_T195 l0 x10_1).f1.f0.f0), .float .f32 ((rd_T195 l0 x10_1).f1.f1.f0), .float .f32 0, .float .f32 ((rd_T195 l0 x10_1).f1.f0.f1), .float .f32 ((rd_T195 l0 x10_1).f1.f1.f1), .float .f32 0] 127 (0, 0))) := ⟨by (with_reducible repeat (first | apply b1_ | apply b2_ | apply b3_)); refine blk_far ?_ NB134_137.out _; (with_reducible repeat (first | apply b1_ | apply b2_ | apply b3_)); refine blk_far ?_ NB134_137.out _; (with_reducible repeat (first | apply b1_ | apply b2_ | apply b3_)); exact BK134.out⟩
    have n3_ : Aside0 (((w29.setCell ⟨gb137, 0, none⟩ (.float .f32 ((rd_T195 l0 x10_1).f1.f2.f0))).setCell ⟨gb137, 1, none⟩ (.float .f32 ((rd_T195 l0 x10_1).f1.f2.f1))).heap[gb135]? = some (.cells #[.float .f32 ((rd_T195 l0 x10_1).f1.f0.f0), .float .f32 ((rd_T195 l0 x10_1).f1.f0.f1)] 192 (0, 0))) := ⟨by (with_reducible repeat (first | apply b1_ | apply b2_ | apply b3_)); refine blk_far ?_ NB135_137.out _; (with_reducible repeat (first | apply b1_ | apply b2_ | apply b3_)); refine blk_far ?_ NB135_137.out _; (with_reducible repeat (first | apply b1_ | apply b2_ | apply b3_)); exact BK135.out⟩
    have n4_ : Aside0 (((w29.setCell ⟨gb137, 0, none⟩ (.float .f32 ((rd_T195 l0 x10_1).f1.f2.f0))).setCell ⟨gb137, 1, none⟩ (.float .f32 ((rd_T195 l0 x10_1).f1.f2.f1))).heap[gb136]? = some (.cells #[.float .f32 ((rd_T195 l0 x10_1).f1.f1.f0), .float .f32 ((rd_T195 l0 x10_1).f1.f1.f1)] 192 (0, 0))) := ⟨by (with_reducible repeat (first | apply b1_ | apply b2_ | apply b3_)); refine blk_far ?_ NB136_137.out _; (with_reducible repeat (first | apply b1_ | apply b2_ | apply b3_)); refine blk_far ?_ NB136_137.out _; (with_reducible repeat (first | apply b1_ | apply b2_ | apply b3_)); exact BK136.out⟩
    have n5_ : Aside0 (((w29.setCell ⟨gb137, 0, none⟩ (.float .f32 ((rd_T195 l0 x10_1).f1.f2.f0))).setCell ⟨gb137, 1, none⟩ (.float .f32 ((rd_T195 l0 x10_1).f1.f2.f1))).heap[gb137]? = some (.cells #[.float .f32 ((rd_T195 l0 x10_1).f1.f2.f0), .float .f32 ((rd_T195 l0 x10_1).f1.f2.f1)] 192 (0, 0))) := ⟨by (with_reducible repeat (first | apply b1_ | apply b2_ | apply b3_)); refine blk_put (cs := #[.float .f32 ((rd_T195 l0 x10_1).f1.f2.f0), .float .f32 0]) ?_ 1 _ rfl; (with_reducible repeat (first | apply b1_ | apply b2_ | apply b3_)); refine blk_put (cs := #[.float .f32 0, .float .f32 0]) ?_ 0 _ rfl; (with_reducible repeat (first | apply b1_ | apply b2_ | apply b3_)); exact BK137.out⟩
    have n6_ : Aside0 (Below w.heap.size w ((w29.setCell ⟨gb137, 0, none⟩ (.float .f32 ((rd_T195 l0 x10_1).f1.f2.f0))).setCell ⟨gb137, 1, none⟩ (.float .f32 ((rd_T195 l0 x10_1).f1.f2.f1)))) := ⟨by repeat (first | (with_reducible first | exact HB.out | apply below_alloc | apply pw_below_drewN | apply below_drew1 | refine below_set ?_ GE133.out | refine below_set ?_ GE134.out | refine below_set ?_ GE135.out | refine below_set ?_ GE136.out | refine below_set ?_ GE137.out) | exact HB.out)⟩
    (try clear HO_2)
    (try clear BK133)
    (try clear BK134)
    (try clear BK135)
    (try clear BK136)
    (try clear BK137)
    (try clear HB)
    generalize ((w29.setCell ⟨gb137, 0, none⟩ (.float .f32 ((rd_T195 l0 x10_1).f1.f2.f0))).setCell ⟨gb137, 1, none⟩ (.float .f32 ((rd_T195 l0 x10_1).f1.f2.f1))) = w35 at n0_ n1_ n2_ n3_ n4_ n5_ n6_ ⊢
    have HO_2 := n0_
    have BK133 := n1_
    have BK134 := n2_
    have BK135 := n3_
    have BK136 := n4_
    have BK137 := n5_
    have HB := n6_
    clear n0_ n1_ n2_ n3_ n4_ n5_ n6_
    have n0_ := Aside0.mk (Kd.R_drew HO_2.out)
    have n1_ := Aside0.mk (blk_drew BK133.out)
    have n2_ := Aside0.mk (blk_drew BK134.out)
    have n3_ := Aside0.mk (blk_drew BK135.out)
    have n4_ := Aside0.mk (blk_drew BK136.out)
    have n5_ := Aside0.mk (blk_drew BK137.out)
    have n6_ := Aside0.mk (below_drew1 HB.out)
    clear HO_2
    clear BK133
    clear BK134
    clear BK135
    clear BK136
    clear BK137
    clear HB
    have HO_2 := n0_
    have BK133 := n1_
    have BK134 := n2_
    have BK135 := n3_
    have BK136 := n4_
    have BK137 := n5_
    have HB := n6_
    clear n0_ n1_ n2_ n3_ n4_ n5_ n6_
    refine start_ (n := 12) (S := fun w' => w'.cell? ⟨gb137, 0, none⟩ = some (.float .f32 ((rd_T195 l0 x10_1).f1.f2.f0)) ∧ w'.cell? ⟨gb137, 1, none⟩ = some (.float .f32 ((rd_T195 l0 x10_1).f1.f2.f1))) (ds := []) #[ff,ff,ff,ff,ff,ff,ff,ff,ff,ff,ff,ff] (by kernel_rfl) rfl rfl ⟨(blk_cell BK137.out 0).trans rfl, (blk_cell BK137.out 1).trans rfl⟩ (fun hHeld => ?_); refine with_tabW impl_strokes.tab8 impl_strokes.bits8 (fun HT_ HW_ => ?_)
    generalize w35.drew = w36 at HO_2 BK133 BK134 BK135 BK136 BK137 HB hHeld ⊢
    refine pure_ (i := 0) (N := some 24) (v := ?_) (a' := ?_) #[tt,ff,ff,ff,ff,ff,ff,ff,ff,ff,ff,ff] rfl rfl (any_of HT_.out (by kernel_rfl)) (fun _ _ _ h => h) (Or.inl ⟨by rfl, ?_⟩) ?_ ?_
    rotate_left
    ·intro w'
     go_simp
     with_reducible rfl
    rotate_left
    ·simp only [Act.put, L1_, L2_, L3_, i64_w, i32_w]
     rfl
    refine pure_ (i := 1) (N := some 25) (v := ?_) (a' := ?_) #[tt,tt,ff,ff,ff,ff,ff,ff,ff,ff,ff,ff] rfl rfl (any_of HT_.out (by kernel_rfl)) (fun _ _ _ h => h) (Or.inl ⟨by rfl, ?_⟩) ?_ ?_
    rotate_left
    ·intro w'
     go_simp
     with_reducible rfl
    rotate_left
    ·simp only [Act.put, L1_, L2_, L3_, i64_w, i32_w]
     rfl
    refine pure_ (i := 2) (N := some 26) (v := ?_) (a' := ?_) #[tt,tt,tt,ff,ff,ff,ff,ff,ff,ff,ff,ff] rfl rfl (any_of HT_.out (by kernel_rfl)) (fun _ _ _ h => h) (Or.inl ⟨by rfl, ?_⟩) ?_ ?_
    rotate_left
    ·intro w'
     go_simp
     with_reducible rfl
    rotate_left
    ·simp only [Act.put, L1_, L2_, L3_, i64_w, i32_w]
     rfl
    refine pure_ (i := 4) (N := some 28) (v := ?_) (a' := ?_) #[tt,tt,tt,ff,tt,ff,ff,ff,ff,ff,ff,ff] rfl rfl (any_of HT_.out (by kernel_rfl)) (fun _ _ _ h => h) (Or.inl ⟨by rfl, ?_⟩) ?_ ?_
    rotate_left
    ·intro w'
     go_simp
     with_reducible rfl
    rotate_left
    ·simp only [Act.put, L1_, L2_, L3_, i64_w, i32_w]
     rfl
    refine pure_ (i := 6) (N := some 30) (v := ?_) (a' := ?_) #[tt,tt,tt,ff,tt,ff,tt,ff,ff,ff,ff,ff] rfl rfl (any_of HT_.out (by kernel_rfl)) (fun _ _ _ h => h) (Or.inl ⟨by rfl, ?_⟩) ?_ ?_
    rotate_left
    ·intro w'
     go_simp
     with_reducible rfl
    rotate_left
    ·simp only [Act.put, L1_, L2_, L3_, i64_w, i32_w]
     rfl
    refine pure_ (i := 9) (N := some 32) (v := ?_) (a' := ?_) #[tt,tt,tt,ff,tt,ff,tt,ff,ff,tt,ff,ff] rfl rfl (any_of HT_.out (by kernel_rfl)) (fun _ _ _ h => h) (Or.inl ⟨by rfl, ?_⟩) ?_ ?_
    rotate_left
    ·intro w'
     go_simp
     with_reducible rfl
    rotate_left
    ·simp only [Act.put, L1_, L2_, L3_, i64_w, i32_w]
     rfl
    refine take_ (i := 3) (N := some 27) (v := ?_) (a' := ?_) #[tt,tt,tt,tt,tt,ff,tt,ff,ff,tt,ff,ff] rfl rfl (take_ofW HT_.out HW_.out (by kernel_rfl)) (fun _ _ _ h => h) (Or.inl ⟨by rfl, ?_⟩) hHeld ?_ ?_
    rotate_left
    ·rintro w' ⟨s0, s1⟩
     go_simp
     with_reducible rfl
    rotate_left
    ·simp only [Act.put, L1_, L2_, L3_, i64_w, i32_w]
     rfl
    refine pure_ (i := 7) (N := some 31) (v := ?_) (a' := ?_) #[tt,tt,tt,tt,tt,ff,tt,tt,ff,tt,ff,ff] rfl rfl (any_of HT_.out (by kernel_rfl)) (fun _ _ _ h => h) (Or.inl ⟨by rfl, ?_⟩) ?_ ?_
    rotate_left
    ·intro w'
     go_simp
     with_reducible rfl
    rotate_left
    ·simp only [Act.put, L1_, L2_, L3_, i64_w, i32_w]
     rfl
    refine take_ (i := 5) (N := some 29) (v := ?_) (a' := ?_) #[tt,tt,tt,tt,tt,tt,tt,tt,ff,tt,ff,ff] rfl rfl (take_ofW HT_.out HW_.out (by kernel_rfl)) (fun _ _ _ h => h) (Or.inl ⟨by rfl, ?_⟩) hHeld ?_ ?_
    rotate_left
    ·rintro w' ⟨s0, s1⟩
     go_simp
     with_reducible rfl
    rotate_left
    ·simp only [Act.put, L1_, L2_, L3_, i64_w, i32_w]
     rfl
    refine one_ (i := 8) (N := none) #[tt,tt,tt,tt,tt,tt,tt,tt,tt,tt,ff,ff] rfl rfl (one_of HT_.out (by kernel_rfl)) (by decide) (fun K hK => ?_)
    have hs37 : w36.cell? ⟨gb134, 3, none⟩ = some (.float .f32 0) := (blk_cell BK134.out 3).trans rfl
    have hfs37 := blk_frozen BK134.out 3
    have hns37_0 := NB133_134.out
    have hns37_2 := NB135_134.out
    have hns37_3 := NB136_134.out
    have hns37_4 := NB137_134.out
    have hms37_0 := NB134_133.out
    have hms37_2 := NB134_135.out
    have hms37_3 := NB134_136.out
    have hms37_4 := NB134_137.out
    refine skip_ (w1 := ?_) (by rfl) rfl ?_ ?_
    rotate_left
    ·go_simp
     rfl
    refine hK.out _ _ ⟨((cell_far (p := ⟨gb134, _, none⟩) NB137_134.out _).trans (hHeld.1)), ((cell_far (p := ⟨gb134, _, none⟩) NB137_134.out _).trans (hHeld.2))⟩ (fun hHeld => ?_)
    clear hK K
    refine pure_ (i := 10) (N := some 33) (v := ?_) (a' := ?_) #[tt,tt,tt,tt,tt,tt,tt,tt,tt,tt,tt,ff] rfl rfl (any_of HT_.out (by kernel_rfl)) (fun _ _ _ h => h) (Or.inl ⟨by rfl, ?_⟩) ?_ ?_
    rotate_left
    ·intro w'
     go_simp
     with_reducible rfl
    rotate_left
    ·simp only [Act.put, L1_, L2_, L3_, i64_w, i32_w]
     rfl
    refine one_ (i := 11) (N := none) #[tt,tt,tt,tt,tt,tt,tt,tt,tt,tt,tt,tt] rfl rfl (one_of HT_.out (by kernel_rfl)) (by decide) (fun K hK => ?_)
    have hs38 : w36.cell? ⟨gb134, 6, none⟩ = some (.float .f32 0) := (blk_cell BK134.out 6).trans rfl
    have hfs38 := blk_frozen BK134.out 6
    have hns38_0 := NB133_134.out
    have hns38_2 := NB135_134.out
    have hns38_3 := NB136_134.out
    have hns38_4 := NB137_134.out
    have hms38_0 := NB134_133.out
    have hms38_2 := NB134_135.out
    have hms38_3 := NB134_136.out
    have hms38_4 := NB134_137.out
    refine skip_ (w1 := ?_) (by rfl) rfl ?_ ?_
    rotate_left
    ·go_simp
     rfl
    refine hK.out _ _ ⟨((cell_far (p := ⟨gb134, _, none⟩) NB137_134.out _).trans (hHeld.1)), ((cell_far (p := ⟨gb134, _, none⟩) NB137_134.out _).trans (hHeld.2))⟩ (fun hHeld => ?_)
    clear hK K
    refine done_ (done_of HT_.out (by kernel_rfl)) ?_
    have hcz39_0 : w36.cell? ⟨gb134, 0, none⟩ = some (.int .i64 (wrap64 ((rd_T195 l0 x10_1).f0))) := (blk_cell BK134.out 0).trans rfl
    have hcz39_1 : w36.cell? ⟨gb134, 1, none⟩ = some (.float .f32 ((rd_T195 l0 x10_1).f1.f0.f0)) := (blk_cell BK134.out 1).trans rfl
    have hcz39_2 : w36.cell? ⟨gb134, 2, none⟩ = some (.float .f32 ((rd_T195 l0 x10_1).f1.f1.f0)) := (blk_cell BK134.out 2).trans rfl
    have hcz39_3 : w36.cell? ⟨gb134, 3, none⟩ = some (.float .f32 0) := (blk_cell BK134.out 3).trans rfl
    have hcz39_4 : w36.cell? ⟨gb134, 4, none⟩ = some (.float .f32 ((rd_T195 l0 x10_1).f1.f0.f1)) := (blk_cell BK134.out 4).trans rfl
    have hcz39_5 : w36.cell? ⟨gb134, 5, none⟩ = some (.float .f32 ((rd_T195 l0 x10_1).f1.f1.f1)) := (blk_cell BK134.out 5).trans rfl
    have hcz39_6 : w36.cell? ⟨gb134, 6, none⟩ = some (.float .f32 0) := (blk_cell BK134.out 6).trans rfl
    have hfz39_0 := blk_frozen BK134.out 0
    have hfz39_1 := blk_frozen BK134.out 1
    have hfz39_2 := blk_frozen BK134.out 2
    have hfz39_3 := blk_frozen BK134.out 3
    have hfz39_4 := blk_frozen BK134.out 4
    have hfz39_5 := blk_frozen BK134.out 5
    have hfz39_6 := blk_frozen BK134.out 6
    go_wp2
    rw [rounds_succ]
    go_wp2_with (first | ((with_reducible refine gate_builtin (b := .append) (xs := #[.tmp 35, .tmp 37]) rfl ?_); at_builtin; refine Kd.R_append k127 (w0 := w) w.heap.size rfl (.tmp 35) (.tmp 37) 58 127 (.agg #[(.int .i64 0), (.float .f32 0), (.float .f32 0), (.float .f32 0), (.float .f32 0), (.float .f32 0), (.float .f32 0)]) 32 rfl Try.underlying58 info127 rfl (by decide) (by omega) u2 x2_1 (⟨wrap64 ((rd_T195 l0 x10_1).f0), (⟨(rd_T195 l0 x10_1).f1.f0.f0, (rd_T195 l0 x10_1).f1.f1.f0, (rd_T195 l0 x10_1).f1.f2.f0⟩ : S125), (⟨(rd_T195 l0 x10_1).f1.f0.f1, (rd_T195 l0 x10_1).f1.f1.f1, (rd_T195 l0 x10_1).f1.f2.f1⟩ : S125)⟩ : S127) [.int .i64 (wrap64 ((rd_T195 l0 x10_1).f0)), .float .f32 ((rd_T195 l0 x10_1).f1.f0.f0), .float .f32 ((rd_T195 l0 x10_1).f1.f1.f0), .float .f32 ((rd_T195 l0 x10_1).f1.f2.f0), .float .f32 ((rd_T195 l0 x10_1).f1.f0.f1), .float .f32 ((rd_T195 l0 x10_1).f1.f1.f1), .float .f32 ((rd_T195 l0 x10_1).f1.f2.f1)] (fun k_ => k_ ≠ gb134) (fun _ => False) rfl (by first | (go_simp; done) | (go_simp; rfl)) ?aP (fun _ hk => hk.elim) ?aF ?aO ?aB ?aS ?aL ?_; (case aP => exact k127_mkM _ _ _ (⟨wrap64 ((rd_T195 l0 x10_1).f0), (⟨(rd_T195 l0 x10_1).f1.f0.f0, (rd_T195 l0 x10_1).f1.f1.f0, (rd_T195 l0 x10_1).f1.f2.f0⟩ : S125), (⟨(rd_T195 l0 x10_1).f1.f0.f1, (rd_T195 l0 x10_1).f1.f1.f1, (rd_T195 l0 x10_1).f1.f2.f1⟩ : S125)⟩ : S127)); (case aB => exact (by repeat (first | (with_reducible first | exact HB.out | apply below_alloc | apply pw_below_drewN | apply below_drew1 | refine below_set ?_ GE133.out | refine below_set ?_ GE134.out | refine below_set ?_ GE135.out | refine below_set ?_ GE136.out | refine below_set ?_ GE137.out) | exact HB.out))); (case aF => exact (fun k_ hk => Kd.freshB (g := gb134) (o := .cells #[.int .i64 (wrap64 ((rd_T195 l0 x10_1).f0)), .float .f32 ((rd_T195 l0 x10_1).f1.f0.f0), .float .f32 ((rd_T195 l0 x10_1).f1.f1.f0), .float .f32 ((rd_T195 l0 x10_1).f1.f2.f0), .float .f32 ((rd_T195 l0 x10_1).f1.f0.f1), .float .f32 ((rd_T195 l0 x10_1).f1.f1.f1), .float .f32 ((rd_T195 l0 x10_1).f1.f2.f1)] 127 (0, 0)) (by (with_reducible repeat (first | apply b1_ | apply b2_ | apply b3_)); refine blk_put (cs := #[.int .i64 (wrap64 ((rd_T195 l0 x10_1).f0)), .float .f32 ((rd_T195 l0 x10_1).f1.f0.f0), .float .f32 ((rd_T195 l0 x10_1).f1.f1.f0), .float .f32 ((rd_T195 l0 x10_1).f1.f2.f0), .float .f32 ((rd_T195 l0 x10_1).f1.f0.f1), .float .f32 ((rd_T195 l0 x10_1).f1.f1.f1), .float .f32 0]) ?_ 6 _ rfl; (with_reducible repeat (first | apply b1_ | apply b2_ | apply b3_)); refine blk_put (cs := #[.int .i64 (wrap64 ((rd_T195 l0 x10_1).f0)), .float .f32 ((rd_T195 l0 x10_1).f1.f0.f0), .float .f32 ((rd_T195 l0 x10_1).f1.f1.f0), .float .f32 0, .float .f32 ((rd_T195 l0 x10_1).f1.f0.f1), .float .f32 ((rd_T195 l0 x10_1).f1.f1.f1), .float .f32 0]) ?_ 3 _ rfl; (with_reducible repeat (first | apply b1_ | apply b2_ | apply b3_)); exact BK134.out) k_ hk)); (case aO => exact (by (with_reducible repeat (first | apply Kd.R_alloc | apply Kd.R_drewN | apply Kd.R_drew)); exact Kd.R_mono (Kd.R_far (p := ⟨gb134, 6, none⟩) (Kd.R_far (p := ⟨gb134, 3, none⟩) (Kd.R_mono HO_2.out (fun k_ hk => (⟨hk, hk⟩ : _ ∧ k_ ≠ gb134))) (fun _ hk => hk.2) (.float .f32 ((rd_T195 l0 x10_1).f1.f2.f0))) (fun _ hk => hk.2) (.float .f32 ((rd_T195 l0 x10_1).f1.f2.f1))) (fun _ hk => hk.1))); (case aS => exact (below_size (by repeat (first | (with_reducible first | exact HB.out | apply below_alloc | apply pw_below_drewN | apply below_drew1 | refine below_set ?_ GE133.out | refine below_set ?_ GE134.out | refine below_set ?_ GE135.out | refine below_set ?_ GE136.out | refine below_set ?_ GE137.out) | exact HB.out)))); (case aL => have := LMc5.out; omega); intro v139 w40 ho hb hg hat; rw [← Ny138.out] at ho; have n0_ := Aside0.mk (blk_grown (g := gb133) (o := .cells #[.int .u8 ((rd_T195 l0 x10_1).f0), .float .f32 ((rd_T195 l0 x10_1).f1.f0.f0), .float .f32 ((rd_T195 l0 x10_1).f1.f0.f1), .float .f32 ((rd_T195 l0 x10_1).f1.f1.f0), .float .f32 ((rd_T195 l0 x10_1).f1.f1.f1), .float .f32 ((rd_T195 l0 x10_1).f1.f2.f0), .float .f32 ((rd_T195 l0 x10_1).f1.f2.f1)] 195 (0, 0)) (by (with_reducible repeat (first | apply b1_ | apply b2_ | apply b3_)); refine blk_far ?_ NB133_134.out _; (with_reducible repeat (first | apply b1_ | apply b2_ | apply b3_)); refine blk_far ?_ NB133_134.out _; (with_reducible repeat (first | apply b1_ | apply b2_ | apply b3_)); exact BK133.out) hg (Kd.R_ne HO_2.out BK133.out (by decide))); have n1_ := Aside0.mk (blk_grown (g := gb134) (o := .cells #[.int .i64 (wrap64 ((rd_T195 l0 x10_1).f0)), .float .f32 ((rd_T195 l0 x10_1).f1.f0.f0), .float .f32 ((rd_T195 l0 x10_1).f1.f1.f0), .float .f32 ((rd_T195 l0 x10_1).f1.f2.f0), .float .f32 ((rd_T195 l0 x10_1).f1.f0.f1), .float .f32 ((rd_T195 l0 x10_1).f1.f1.f1), .float .f32 ((rd_T195 l0 x10_1).f1.f2.f1)] 127 (0, 0)) (by (with_reducible repeat (first | apply b1_ | apply b2_ | apply b3_)); refine blk_put (cs := #[.int .i64 (wrap64 ((rd_T195 l0 x10_1).f0)), .float .f32 ((rd_T195 l0 x10_1).f1.f0.f0), .float .f32 ((rd_T195 l0 x10_1).f1.f1.f0), .float .f32 ((rd_T195 l0 x10_1).f1.f2.f0), .float .f32 ((rd_T195 l0 x10_1).f1.f0.f1), .float .f32 ((rd_T195 l0 x10_1).f1.f1.f1), .float .f32 0]) ?_ 6 _ rfl; (with_reducible repeat (first | apply b1_ | apply b2_ | apply b3_)); refine blk_put (cs := #[.int .i64 (wrap64 ((rd_T195 l0 x10_1).f0)), .float .f32 ((rd_T195 l0 x10_1).f1.f0.f0), .float .f32 ((rd_T195 l0 x10_1).f1.f1.f0), .float .f32 0, .float .f32 ((rd_T195 l0 x10_1).f1.f0.f1), .float .f32 ((rd_T195 l0 x10_1).f1.f1.f1), .float .f32 0]) ?_ 3 _ rfl; (with_reducible repeat (first | apply b1_ | apply b2_ | apply b3_)); exact BK134.out) hg (Kd.R_away HO_2.out (fun _ hk => hk))); have n2_ := Aside0.mk (blk_grown (g := gb135) (o := .cells #[.float .f32 ((rd_T195 l0 x10_1).f1.f0.f0), .float .f32 ((rd_T195 l0 x10_1).f1.f0.f1)] 192 (0, 0)) (by (with_reducible repeat (first | apply b1_ | apply b2_ | apply b3_)); refine blk_far ?_ NB135_134.out _; (with_reducible repeat (first | apply b1_ | apply b2_ | apply b3_)); refine blk_far ?_ NB135_134.out _; (with_reducible repeat (first | apply b1_ | apply b2_ | apply b3_)); exact BK135.out) hg (Kd.R_ne HO_2.out BK135.out (by decide))); have n3_ := Aside0.mk (blk_grown (g := gb136) (o := .cells #[.float .f32 ((rd_T195 l0 x10_1).f1.f1.f0), .float .f32 ((rd_T195 l0 x10_1).f1.f1.f1)] 192 (0, 0)) (by (with_reducible repeat (first | apply b1_ | apply b2_ | apply b3_)); refine blk_far ?_ NB136_134.out _; (with_reducible repeat (first | apply b1_ | apply b2_ | apply b3_)); refine blk_far ?_ NB136_134.out _; (with_reducible repeat (first | apply b1_ | apply b2_ | apply b3_)); exact BK136.out) hg (Kd.R_ne HO_2.out BK136.out (by decide))); have n4_ := Aside0.mk (blk_grown (g := gb137) (o := .cells #[.float .f32 ((rd_T195 l0 x10_1).f1.f2.f0), .float .f32 ((rd_T195 l0 x10_1).f1.f2.f1)] 192 (0, 0)) (by (with_reducible repeat (first | apply b1_ | apply b2_ | apply b3_)); refine blk_far ?_ NB137_134.out _; (with_reducible repeat (first | apply b1_ | apply b2_ | apply b3_)); refine blk_far ?_ NB137_134.out _; (with_reducible repeat (first | apply b1_ | apply b2_ | apply b3_)); exact BK137.out) hg (Kd.R_ne HO_2.out BK137.out (by decide))); have n5_ := Aside0.mk (hb); have n6_ := Aside0.mk (ho); clear BK133; clear BK134; clear BK135; clear BK136; clear BK137; clear HB; clear HO_2; have BK133 := n0_; have BK134 := n1_; have BK135 := n2_; have BK136 := n3_; have BK137 := n4_; have HB := n5_; have HO140 := n6_; clear n0_ n1_ n2_ n3_ n4_ n5_ n6_; clear ho hb hg hat))
    go_roundg k1
    case measure => have := HK1.out; omega
    case rel => exact ⟨(y138), (wrap64 (x10_1 + 1)), (by first | rfl | (simp; done) | (simp [*]; done)), H', ⟨by have := HK1.out; omega⟩, ⟨by (with_reducible repeat (first | apply Kd.R_alloc | apply Kd.R_drewN | apply Kd.R_drew)); exact Kd.R_mono HO140.out (fun _ hk => trivial)⟩, ⟨by repeat (first | (with_reducible first | exact HB.out | apply below_alloc | apply pw_below_drewN | apply below_drew1 | refine below_set ?_ GE133.out | refine below_set ?_ GE134.out | refine below_set ?_ GE135.out | refine below_set ?_ GE136.out | refine below_set ?_ GE137.out) | exact HB.out)⟩⟩
   ·rw [if_neg c2] at H
    have c2b0 : decide (x10_1 < (l0.length : Int)) = false := decide_eq_false c2
    clear c2
    obtain rfl := Option.some.inj H
    go_wp2
    go_ret
    exact ⟨_, by first | rfl | (simp [errW_none, errW_some] <;> rfl) | (simp [*, errW_none, errW_some] <;> rfl), by (with_reducible repeat (first | apply Kd.R_alloc | apply Kd.R_drewN | apply Kd.R_drew)); exact HO_2.out, by repeat (first | (with_reducible first | exact HB.out | apply below_alloc | apply pw_below_drewN | apply below_drew1) | exact HB.out)⟩

/-! ### font_midPoint: function 70 -/
def font_midPoint.f (a0_0 : Nat) (a0_1 : Nat) (a1_0 : Nat) (a1_1 : Nat) : Option (Nat × Nat) := if fok .add .f32 a0_0 a1_0 = true then (if fok .quo .f32 (fv .add .f32 a0_0 a1_0) 1073741824 = true then (if fok .add .f32 a0_1 a1_1 = true then (if fok .quo .f32 (fv .add .f32 a0_1 a1_1) 1073741824 = true then (some (fv .quo .f32 (fv .add .f32 a0_0 a1_0) 1073741824, fv .quo .f32 (fv .add .f32 a0_1 a1_1) 1073741824)) else (none)) else (none)) else (none)) else (none)
set_option maxHeartbeats 8000000 in
set_option maxRecDepth 100000 in
theorem font_midPoint.calls (a0_0 : Nat) (a0_1 : Nat) (a1_0 : Nat) (a1_1 : Nat) (r1 : Nat) (r2 : Nat) (w : World) (h : font_midPoint.f a0_0 a0_1 a1_0 a1_1 = some (r1, r2)) :
  Calls Try.prog 70 #[.agg #[.float .f32 a0_0, .float .f32 a0_1], .agg #[.float .f32 a1_0, .float .f32 a1_1]] w fun e w' => e = .returned (.agg #[.float .f32 r1, .float .f32 r2]) ∧ Below w.heap.size w w' := by
 have hu192 := Try.underlying192
 have HB := Aside0.mk (Below.refl w.heap.size w)
 have H : (if fok .add .f32 a0_0 a1_0 = true then (if fok .quo .f32 (fv .add .f32 a0_0 a1_0) 1073741824 = true then (if fok .add .f32 a0_1 a1_1 = true then (if fok .quo .f32 (fv .add .f32 a0_1 a1_1) 1073741824 = true then (some (fv .quo .f32 (fv .add .f32 a0_0 a1_0) 1073741824, fv .quo .f32 (fv .add .f32 a0_1 a1_1) 1073741824)) else (none)) else (none)) else (none)) else (none)) = some (r1, r2) := h
 clear h
 by_cases c3 : fok .add .f32 a0_0 a1_0 = true
 rotate_left
 ·rw [if_neg c3] at H
  exact absurd H (by simp)
 rw [if_pos c3] at H
 have c3b0 := eq_true c3
 have c3b1 : decide (fok .add .f32 a0_0 a1_0 = true) = true := decide_eq_true c3
 clear c3
 by_cases c4 : fok .quo .f32 (fv .add .f32 a0_0 a1_0) 1073741824 = true
 rotate_left
 ·rw [if_neg c4] at H
  exact absurd H (by simp)
 rw [if_pos c4] at H
 have c4b0 := eq_true c4
 have c4b1 : decide (fok .quo .f32 (fv .add .f32 a0_0 a1_0) 1073741824 = true) = true := decide_eq_true c4
 clear c4
 by_cases c5 : fok .add .f32 a0_1 a1_1 = true
 rotate_left
 ·rw [if_neg c5] at H
  exact absurd H (by simp)
 rw [if_pos c5] at H
 have c5b0 := eq_true c5
 have c5b1 : decide (fok .add .f32 a0_1 a1_1 = true) = true := decide_eq_true c5
 clear c5
 by_cases c6 : fok .quo .f32 (fv .add .f32 a0_1 a1_1) 1073741824 = true
 rotate_left
 ·rw [if_neg c6] at H
  exact absurd H (by simp)
 rw [if_pos c6] at H
 have c6b0 := eq_true c6
 have c6b1 : decide (fok .quo .f32 (fv .add .f32 a0_1 a1_1) 1073741824 = true) = true := decide_eq_true c6
 clear c6
 simp only [Option.some.injEq, Prod.mk.injEq] at H
 obtain ⟨rfl, rfl⟩ := H
 go_enter Try.func70, Try.ntmps70
 go_wp2_with (first | ((with_reducible refine gate_dst (N := 2) rfl ?_); refine box_event ?hg (N := 2) ?hd (cs := #[.float .f32 a0_0, .float .f32 a0_1]) (t := 192) ?hr ?_; (case hd => rfl); (case hg => rfl); (case hr => first | (go_simp; done) | (go_simp; rfl)); intro gb141 hg w7 hbox hb; have n0_ := Aside0.mk (below_step (by repeat (first | (with_reducible first | exact HB.out | apply below_alloc | apply pw_below_drewN | apply below_drew1) | exact HB.out)) hb); have n1_ := Aside0.mk (hbox); have n2_ := Aside0.mk ((by rw [hg]; exact (below_size (by repeat (first | (with_reducible first | exact HB.out | apply below_alloc | apply pw_below_drewN | apply below_drew1) | exact HB.out))) : w.heap.size ≤ gb141)); have n3_ := Aside0.mk ((by rw [hg]; exact (below_size (by repeat (first | (with_reducible first | exact HB.out | apply below_alloc | apply pw_below_drewN | apply below_drew1) | exact HB.out))) : w.heap.size ≤ gb141)); clear HB; have HB := n0_; have BK141 := n1_; have GW141 := n2_; have GE141 := n3_; clear n0_ n1_ n2_ n3_; clear hb hbox hg) | ((with_reducible refine gate_dst (N := 3) rfl ?_); refine box_event ?hg (N := 3) ?hd (cs := #[.float .f32 a1_0, .float .f32 a1_1]) (t := 192) ?hr ?_; (case hd => rfl); (case hg => rfl); (case hr => first | (go_simp; done) | (go_simp; rfl)); intro gb142 hg w8 hbox hb; have n0_ := Aside0.mk (blk_below (g := gb141) (o := .cells #[.float .f32 a0_0, .float .f32 a0_1] 192 (0, 0)) (by (with_reducible repeat (first | apply b1_ | apply b2_ | apply b3_)); exact BK141.out) hb); have n1_ := Aside0.mk (below_step (by repeat (first | (with_reducible first | exact HB.out | apply below_alloc | apply pw_below_drewN | apply below_drew1 | refine below_set ?_ GE141.out) | exact HB.out)) hb); have n2_ := Aside0.mk (hbox); have n3_ := Aside0.mk ((by rw [hg]; exact (below_size (by repeat (first | (with_reducible first | exact HB.out | apply below_alloc | apply pw_below_drewN | apply below_drew1 | refine below_set ?_ GE141.out) | exact HB.out))) : w.heap.size ≤ gb142)); have n4_ := Aside0.mk ((by rw [hg]; exact (below_size (by repeat (first | (with_reducible first | exact HB.out | apply below_alloc | apply pw_below_drewN | apply below_drew1 | refine below_set ?_ GE141.out) | exact HB.out))) : w.heap.size ≤ gb142)); have n5_ := Aside0.mk ((by rw [hg]; exact Nat.ne_of_lt (blk_lt (g := gb141) (o := .cells #[.float .f32 a0_0, .float .f32 a0_1] 192 (0, 0)) (by (with_reducible repeat (first | apply b1_ | apply b2_ | apply b3_)); exact BK141.out)) : gb141 ≠ gb142)); have n6_ := Aside0.mk ((by rw [hg]; exact Nat.ne_of_gt (blk_lt (g := gb141) (o := .cells #[.float .f32 a0_0, .float .f32 a0_1] 192 (0, 0)) (by (with_reducible repeat (first | apply b1_ | apply b2_ | apply b3_)); exact BK141.out)) : gb142 ≠ gb141)); clear BK141; clear HB; have BK141 := n0_; have HB := n1_; have BK142 := n2_; have GW142 := n3_; have GE142 := n4_; have NB141_142 := n5_; have NB142_141 := n6_; clear n0_ n1_ n2_ n3_ n4_ n5_ n6_; clear hb hbox hg) | ((with_reducible refine gate_dst (N := 4) rfl ?_); refine box_event ?hg (N := 4) ?hd (cs := #[.float .f32 0, .float .f32 0]) (t := 192) ?hr ?_; (case hd => rfl); (case hg => rfl); (case hr => first | (go_simp; done) | (go_simp; rfl)); intro gb143 hg w9 hbox hb; have n0_ := Aside0.mk (blk_below (g := gb141) (o := .cells #[.float .f32 a0_0, .float .f32 a0_1] 192 (0, 0)) (by (with_reducible repeat (first | apply b1_ | apply b2_ | apply b3_)); exact BK141.out) hb); have n1_ := Aside0.mk (blk_below (g := gb142) (o := .cells #[.float .f32 a1_0, .float .f32 a1_1] 192 (0, 0)) (by (with_reducible repeat (first | apply b1_ | apply b2_ | apply b3_)); exact BK142.out) hb); have n2_ := Aside0.mk (below_step (by repeat (first | (with_reducible first | exact HB.out | apply below_alloc | apply pw_below_drewN | apply below_drew1 | refine below_set ?_ GE141.out | refine below_set ?_ GE142.out) | exact HB.out)) hb); have n3_ := Aside0.mk (hbox); have n4_ := Aside0.mk ((by rw [hg]; exact (below_size (by repeat (first | (with_reducible first | exact HB.out | apply below_alloc | apply pw_below_drewN | apply below_drew1 | refine below_set ?_ GE141.out | refine below_set ?_ GE142.out) | exact HB.out))) : w.heap.size ≤ gb143)); have n5_ := Aside0.mk ((by rw [hg]; exact (below_size (by repeat (first | (with_reducible first | exact HB.out | apply below_alloc | apply pw_below_drewN | apply below_drew1 | refine below_set ?_ GE141.out | refine below_set ?_ GE142.out) | exact HB.out))) : w.heap.size ≤ gb143)); have n6_ := Aside0.mk ((by rw [hg]; exact Nat.ne_of_lt (blk_lt (g := gb141) (o := .cells #[.float .f32 a0_0, .float .f32 a0_1] 192 (0, 0)) (by (with_reducible repeat (first | apply b1_ | apply b2_ | apply b3_)); exact BK141.out)) : gb141 ≠ gb143)); have n7_ := Aside0.mk ((by rw [hg]; exact Nat.ne_of_gt (blk_lt (g := gb141) (o := .cells #[.float .f32 a0_0, .float .f32 a0_1] 192 (0, 0)) (by (with_reducible repeat (first | apply b1_ | apply b2_ | apply b3_)); exact BK141.out)) : gb143 ≠ gb141)); have n8_ := Aside0.mk ((by rw [hg]; exact Nat.ne_of_lt (blk_lt (g := gb142) (o := .cells #[.float .f32 a1_0, .float .f32 a1_1] 192 (0, 0)) (by (with_reducible repeat (first | apply b1_ | apply b2_ | apply b3_)); exact BK142.out)) : gb142 ≠ gb143)); have n9_ := Aside0.mk ((by rw [hg]; exact Nat.ne_of_gt (blk_lt (g := gb142) (o := .cells #[.float .f32 a1_0, .float .f32 a1_1] 192 (0, 0)) (by (with_reducible repeat (first | apply b1_ | apply b2_ | apply b3_)); exact BK142.out)) : gb143 ≠ gb142)); clear BK141; clear BK142; clear HB; have BK141 := n0_; have BK142 := n1_; have HB := n2_; have BK143 := n3_; have GW143 := n4_; have GE143 := n5_; have NB141_143 := n6_; have NB143_141 := n7_; have NB142_143 := n8_; have NB143_142 := n9_; clear n0_ n1_ n2_ n3_ n4_ n5_ n6_ n7_ n8_ n9_; clear hb hbox hg; have hnb10 := NB141_142.out; have hnc10 := NB142_141.out; have hnb11 := NB141_143.out; have hnc11 := NB143_141.out; have hcz12_0 : w9.cell? ⟨gb141, 0, none⟩ = some (.float .f32 a0_0) := (blk_cell BK141.out 0).trans rfl; have hcz12_1 : w9.cell? ⟨gb141, 1, none⟩ = some (.float .f32 a0_1) := (blk_cell BK141.out 1).trans rfl; have hfz12_0 := blk_frozen BK141.out 0; have hfz12_1 := blk_frozen BK141.out 1; have hnb13 := NB142_143.out; have hnc13 := NB143_142.out; have hcz14_0 : w9.cell? ⟨gb142, 0, none⟩ = some (.float .f32 a1_0) := (blk_cell BK142.out 0).trans rfl; have hcz14_1 : w9.cell? ⟨gb142, 1, none⟩ = some (.float .f32 a1_1) := (blk_cell BK142.out 1).trans rfl; have hfz14_0 := blk_frozen BK142.out 0; have hfz14_1 := blk_frozen BK142.out 1; have hcz15_0 : w9.cell? ⟨gb143, 0, none⟩ = some (.float .f32 0) := (blk_cell BK143.out 0).trans rfl; have hcz15_1 : w9.cell? ⟨gb143, 1, none⟩ = some (.float .f32 0) := (blk_cell BK143.out 1).trans rfl; have hfz15_0 := blk_frozen BK143.out 0; have hfz15_1 := blk_frozen BK143.out 1))
 refine bodyPost_ret (results_cell_row rfl _ _ gb143 192 #[.float .f32 (fv .quo .f32 (fv .add .f32 a0_0 a1_0) 1073741824), .float .f32 (fv .quo .f32 (fv .add .f32 a0_1 a1_1) 1073741824)] (0, 0) _ rfl (by (with_reducible repeat (first | apply b1_ | apply b2_ | apply b3_)); refine blk_put (cs := #[.float .f32 (fv .quo .f32 (fv .add .f32 a0_0 a1_0) 1073741824), .float .f32 0]) ?_ 1 _ rfl; (with_reducible repeat (first | apply b1_ | apply b2_ | apply b3_)); refine blk_put (cs := #[.float .f32 0, .float .f32 0]) ?_ 0 _ rfl; (with_reducible repeat (first | apply b1_ | apply b2_ | apply b3_)); exact BK143.out) Try.underlying192 rfl (by kernel_rfl)) rfl ?_
 exact ⟨by first | rfl | (simp [errW_none, errW_some] <;> rfl) | (simp [*, errW_none, errW_some] <;> rfl), by repeat (first | (with_reducible first | exact HB.out | apply below_alloc | apply pw_below_drewN | apply below_drew1 | refine below_set ?_ GE141.out | refine below_set ?_ GE142.out | refine below_set ?_ GE143.out) | exact HB.out)⟩

end Go.Proofs.Ytlbmfnjhpojghaa.PFnContours
