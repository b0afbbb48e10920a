-- Written by a program of this session (xprint) out of the translation; Lean checks it.
import Derived.Test.YtkfphiccfnfkdaaPFnBearingsx0
import Derived.Test.YtkfphiccfnfkdaaPFnBearingsx1
import Derived.Test.YtkfphiccfnfkdaaPFnBearingsx2
namespace Go.Proofs.Ytkfphiccfnfkdaa.PFnBearings
open Go.RowKit Go.Proofs.YtkfphiccfnfkdaaW.PrintWords Go.Proofs.YtkfphiccfnfkdaaW.PrintLast Go.Proofs.YtkfphiccfnfkdaaW.PrintMore
attribute [local go_sem] max2_int min2_int max_two min_two max_three min_three max_four min_four   -- for this text's walks alone
set_option linter.unusedVariables false
set_option linter.unusedSimpArgs false

/-! ### impl_within: function 70 -/
def impl_within.f (a0 : Int) : Option (Bool) := if a0 ≥ (-1048576) then (some (decide (a0 ≤ 1048576))) else (some false)
set_option maxHeartbeats 60000000 in
set_option maxRecDepth 100000 in
theorem impl_within.calls (a0 : Int) (r : Bool) (w : World) (h : impl_within.f a0 = some r) :
  Calls Try.prog 70 #[.int .i64 a0] w fun e w' => e = .returned (.bool r) ∧ Drawn0 w w' := by
 have H : (if a0 ≥ (-1048576) then (some (decide (a0 ≤ 1048576))) else (some false)) = some r := h
 clear h
 by_cases c2 : a0 ≥ (-1048576)
 ·rw [if_pos c2] at H
  have c2b0 : decide ((-1048576) ≤ a0) = true := decide_eq_true c2
  clear c2
  obtain rfl := Option.some.inj H
  go_enter Try.func70, Try.ntmps70
  go_wp2
  go_ret
  exact ⟨by first | rfl | (simp; done) | (simp [*]; done), by repeat (first | exact Drawn0.refl _ | apply Drawn0.step)⟩
 ·rw [if_neg c2] at H
  have c2b0 : decide ((-1048576) ≤ a0) = false := decide_eq_false c2
  clear c2
  obtain rfl := Option.some.inj H
  go_enter Try.func70, Try.ntmps70
  go_wp2
  go_ret
  exact ⟨by first | rfl | (simp; done) | (simp [*]; done), by repeat (first | exact Drawn0.refl _ | apply Drawn0.step)⟩

/-! ### impl_outGlyph: function 46 -/
def impl_outGlyph.l0 : Nat → Bool → Bool → List Int → Int → Int → Int → Int → Int → Int → Int → Int → Int → Int → Int → Int → Option (Int × Int × Int × Int × Int × Int × Int × Int × Int × Int × Int × Int × Int × Int × Int × Int × Bool)
 | 0, _, _, _, _, _, _, _, _, _, _, _, _, _, _, _ => none
 | k + 1, x1, x5, x22, x23, x24, x117000, x117001, x117002, x117003, x117004, x117005, x117006, x117007, x117008, x117009 => if x24 < x23 then (if 0 ≤ x24 then (if x24 < (x22.length : Int) then (if x5 = true then ((impl_within.f (rd x22 x24)).bind fun t122 => (impl_outGlyph.l0 k x1 t122 x22 x23 (wrap64 (x24 + 1)) x117000 x117001 x117002 x117003 x117004 x117005 x117006 x117007 x117008 x117009)) else (impl_outGlyph.l0 k x1 false x22 x23 (wrap64 (x24 + 1)) x117000 x117001 x117002 x117003 x117004 x117005 x117006 x117007 x117008 x117009)) else (none)) else (none)) else (if x1 = true then (some (wrap32 (x117000), wrap32 (x117001), wrap32 (x117002), wrap32 (x117003), wrap32 (x117004), 0, wrap32 (x117004), wrap32 (x117005), wrap32 (x117006), x117007, x117008, x117009, 0, 0, 0, 0, x5)) else (some (wrap32 (x117000), wrap32 (x117001), wrap32 (x117002), wrap32 (x117003), wrap32 (x117004), wrap32 (x117004), 0, wrap32 (x117005), wrap32 (x117006), x117007, x117008, x117009, 0, 0, 0, 0, x5)))
def impl_outGlyph.f (k : Nat) (a0_0 : Int) (a0_1 : Int) (a0_2 : Int) (a0_3 : Int) (a0_4 : Int) (a0_5 : Int) (a0_6 : Int) (a0_7 : Int) (a0_8 : Int) (a0_9 : Int) (a1 : Bool) : Option (Int × Int × Int × Int × Int × Int × Int × Int × Int × Int × Int × Int × Int × Int × Int × Int × Bool) := (some (([a0_0, a0_1, a0_2, a0_3, a0_4, a0_5, a0_6] : List Int) : List Int)).bind fun y118 => (impl_outGlyph.l0 k a1 true y118 (y118.length : Int) 0 a0_0 a0_1 a0_2 a0_3 a0_4 a0_5 a0_6 a0_7 a0_8 a0_9)
theorem impl_outGlyph.mono_l : ∀ k, (∀ y0 y1 y2 y3 y4 y5 y6 y7 y8 y9 y10 y11 y12 y13 y14, LeO (impl_outGlyph.l0 k y0 y1 y2 y3 y4 y5 y6 y7 y8 y9 y10 y11 y12 y13 y14) (impl_outGlyph.l0 (k + 1) y0 y1 y2 y3 y4 y5 y6 y7 y8 y9 y10 y11 y12 y13 y14))
 | 0 => fun _ _ _ _ _ _ _ _ _ _ _ _ _ _ _ r h => by simp [impl_outGlyph.l0] at h
 | k + 1 => by
  have ih0 := impl_outGlyph.mono_l k
  ·intro y0 y1 y2 y3 y4 y5 y6 y7 y8 y9 y10 y11 y12 y13 y14
   unfold impl_outGlyph.l0
   repeat' first
   | (with_reducible exact ih0 _ _ _ _ _ _ _ _ _ _ _ _ _ _ _)
   | (with_reducible exact LeO.refl _)
   | (with_reducible exact LeO.none _)
   | (with_reducible refine LeO.ite ?_ ?_)
   | (with_reducible refine LeO.bind ?_ (fun _ => ?_))
   | exact ih0 _ _ _ _ _ _ _ _ _ _ _ _ _ _ _
   | exact LeO.none _
   | refine LeO.ite ?_ ?_
   | refine LeO.bind ?_ (fun _ => ?_)
theorem impl_outGlyph.mono : ∀ a0 a1 a2 a3 a4 a5 a6 a7 a8 a9 a10 k, LeO (impl_outGlyph.f k a0 a1 a2 a3 a4 a5 a6 a7 a8 a9 a10) (impl_outGlyph.f (k + 1) a0 a1 a2 a3 a4 a5 a6 a7 a8 a9 a10) := by
 intro a0 a1 a2 a3 a4 a5 a6 a7 a8 a9 a10 k
 have ih0 := impl_outGlyph.mono_l k
 unfold impl_outGlyph.f
 repeat' first
   | (with_reducible exact ih0 _ _ _ _ _ _ _ _ _ _ _ _ _ _ _)
   | (with_reducible exact LeO.refl _)
   | (with_reducible exact LeO.none _)
   | (with_reducible refine LeO.ite ?_ ?_)
   | (with_reducible refine LeO.bind ?_ (fun _ => ?_))
   | exact ih0 _ _ _ _ _ _ _ _ _ _ _ _ _ _ _
   | exact LeO.none _
   | refine LeO.ite ?_ ?_
   | refine LeO.bind ?_ (fun _ => ?_)
set_option maxHeartbeats 60000000 in
set_option maxRecDepth 100000 in
theorem impl_outGlyph.calls (k : Nat) (a0_0 : Int) (a0_1 : Int) (a0_2 : Int) (a0_3 : Int) (a0_4 : Int) (a0_5 : Int) (a0_6 : Int) (a0_7 : Int) (a0_8 : Int) (a0_9 : Int) (a1 : Bool) (r1 : Int) (r2 : Int) (r3 : Int) (r4 : Int) (r5 : Int) (r6 : Int) (r7 : Int) (r8 : Int) (r9 : Int) (r10 : Int) (r11 : Int) (r12 : Int) (r13 : Int) (r14 : Int) (r15 : Int) (r16 : Int) (r17 : Bool) (w : World) (h : impl_outGlyph.f k a0_0 a0_1 a0_2 a0_3 a0_4 a0_5 a0_6 a0_7 a0_8 a0_9 a1 = some (r1, r2, r3, r4, r5, r6, r7, r8, r9, r10, r11, r12, r13, r14, r15, r16, r17)) :
  Calls Try.prog 46 #[.agg #[.int .i64 a0_0, .int .i64 a0_1, .int .i64 a0_2, .int .i64 a0_3, .int .i64 a0_4, .int .i64 a0_5, .int .i64 a0_6, .int .i64 a0_7, .int .i64 a0_8, .int .i64 a0_9], .bool a1] w fun e w' => e = .returned (.tuple #[.agg #[.int .i32 r1, .int .i32 r2, .int .i32 r3, .int .i32 r4, .int .i32 r5, .int .i32 r6, .int .i32 r7, .int .i32 r8, .int .i32 r9, .int .i64 r10, .int .i64 r11, .int .i64 r12, .int .u32 r13, .int .u32 r14, .int .i32 r15, .int .i32 r16], .bool r17]) ∧ Below w.heap.size w w' := by
 have hu36 := Try.underlying36
 have hu86 := Try.underlying86
 have HB := Aside0.mk (Below.refl w.heap.size w)
 have H : ((some (([a0_0, a0_1, a0_2, a0_3, a0_4, a0_5, a0_6] : List Int) : List Int)).bind fun y118 => (impl_outGlyph.l0 k a1 true y118 (y118.length : Int) 0 a0_0 a0_1 a0_2 a0_3 a0_4 a0_5 a0_6 a0_7 a0_8 a0_9)) = some (r1, r2, r3, r4, r5, r6, r7, r8, r9, r10, r11, r12, r13, r14, r15, r16, r17) := h
 clear h
 obtain ⟨y118, hy118⟩ : ∃ y_ : List Int, y_ = (([a0_0, a0_1, a0_2, a0_3, a0_4, a0_5, a0_6] : List Int)) := ⟨_, rfl⟩
 replace H : (impl_outGlyph.l0 k a1 true y118 (y118.length : Int) 0 a0_0 a0_1 a0_2 a0_3 a0_4 a0_5 a0_6 a0_7 a0_8 a0_9) = some (r1, r2, r3, r4, r5, r6, r7, r8, r9, r10, r11, r12, r13, r14, r15, r16, r17) := by first | (rw [hy118]; with_reducible exact H) | (have H2_ := (Option.bind_some _ _).symm.trans H; rw [hy118]; with_reducible exact H2_) | (have H2_ := (Option.bind_some _ _).symm.trans H; with_reducible exact H2_) | with_reducible exact H | (rw [hy118]; exact H) | exact H
 have Ny118 := Aside0.mk hy118
 clear hy118
 have H' := Aside0.mk H
 clear H
 go_enter Try.func46, Try.ntmps46
 go_wp2_with (first | ((with_reducible refine gate_dst (N := 2) rfl ?_); refine box_event ?hg (N := 2) ?hd (cs := #[.int .i64 a0_0, .int .i64 a0_1, .int .i64 a0_2, .int .i64 a0_3, .int .i64 a0_4, .int .i64 a0_5, .int .i64 a0_6, .int .i64 a0_7, .int .i64 a0_8, .int .i64 a0_9]) (t := 36) ?hr ?_; (case hd => rfl); (case hg => rfl); (case hr => first | (go_simp; done) | (go_simp; rfl)); intro gb116 hg w3 hbox hb; have n0_ := Aside0.mk (below_step (by repeat (first | (with_reducible first | exact HB.out | apply below_alloc | apply pw_below_drewN | apply below_drew1) | exact HB.out)) hb); have n1_ := Aside0.mk (hbox); have n2_ := Aside0.mk ((by rw [hg]; exact (below_size (by repeat (first | (with_reducible first | exact HB.out | apply below_alloc | apply pw_below_drewN | apply below_drew1) | exact HB.out))) : w.heap.size ≤ gb116)); have n3_ := Aside0.mk ((by rw [hg]; exact (below_size (by repeat (first | (with_reducible first | exact HB.out | apply below_alloc | apply pw_below_drewN | apply below_drew1) | exact HB.out))) : w.heap.size ≤ gb116)); clear HB; have HB := n0_; have BK116 := n1_; have GW116 := n2_; have GE116 := n3_; clear n0_ n1_ n2_ n3_; clear hb hbox hg) | ((with_reducible refine gate_dst (N := 4) rfl ?_); refine box_event ?hg (N := 4) ?hd (cs := #[.int .i32 0, .int .i32 0, .int .i32 0, .int .i32 0, .int .i32 0, .int .i32 0, .int .i32 0, .int .i32 0, .int .i32 0, .int .i64 0, .int .i64 0, .int .i64 0, .int .u32 0, .int .u32 0, .int .i32 0, .int .i32 0]) (t := 86) ?hr ?_; (case hd => rfl); (case hg => rfl); (case hr => first | (go_simp; done) | (go_simp; rfl)); intro gb117 hg w4 hbox hb; have n0_ := Aside0.mk (blk_below (g := gb116) (o := .cells #[.int .i64 a0_0, .int .i64 a0_1, .int .i64 a0_2, .int .i64 a0_3, .int .i64 a0_4, .int .i64 a0_5, .int .i64 a0_6, .int .i64 a0_7, .int .i64 a0_8, .int .i64 a0_9] 36 (0, 0)) (by (with_reducible repeat (first | refine b1_ ?_ _ | refine b2_ ?_ | refine b3_ ?_ _)); exact BK116.out) hb); have n1_ := Aside0.mk (below_step (by repeat (first | (with_reducible first | exact HB.out | apply below_alloc | apply pw_below_drewN | apply below_drew1 | refine below_set ?_ GE116.out) | exact HB.out)) hb); have n2_ := Aside0.mk (hbox); have n3_ := Aside0.mk ((by rw [hg]; exact (below_size (by repeat (first | (with_reducible first | exact HB.out | apply below_alloc | apply pw_below_drewN | apply below_drew1 | refine below_set ?_ GE116.out) | exact HB.out))) : w.heap.size ≤ gb117)); have n4_ := Aside0.mk ((by rw [hg]; exact (below_size (by repeat (first | (with_reducible first | exact HB.out | apply below_alloc | apply pw_below_drewN | apply below_drew1 | refine below_set ?_ GE116.out) | exact HB.out))) : w.heap.size ≤ gb117)); have n5_ := Aside0.mk ((by rw [hg]; exact Nat.ne_of_lt (blk_lt (g := gb116) (o := .cells #[.int .i64 a0_0, .int .i64 a0_1, .int .i64 a0_2, .int .i64 a0_3, .int .i64 a0_4, .int .i64 a0_5, .int .i64 a0_6, .int .i64 a0_7, .int .i64 a0_8, .int .i64 a0_9] 36 (0, 0)) (by (with_reducible repeat (first | refine b1_ ?_ _ | refine b2_ ?_ | refine b3_ ?_ _)); exact BK116.out)) : gb116 ≠ gb117)); have n6_ := Aside0.mk ((by rw [hg]; exact Nat.ne_of_gt (blk_lt (g := gb116) (o := .cells #[.int .i64 a0_0, .int .i64 a0_1, .int .i64 a0_2, .int .i64 a0_3, .int .i64 a0_4, .int .i64 a0_5, .int .i64 a0_6, .int .i64 a0_7, .int .i64 a0_8, .int .i64 a0_9] 36 (0, 0)) (by (with_reducible repeat (first | refine b1_ ?_ _ | refine b2_ ?_ | refine b3_ ?_ _)); exact BK116.out)) : gb117 ≠ gb116)); clear BK116; clear HB; have BK116 := n0_; have HB := n1_; have BK117 := n2_; have GW117 := n3_; have GE117 := n4_; have NB116_117 := n5_; have NB117_116 := n6_; clear n0_ n1_ n2_ n3_ n4_ n5_ n6_; clear hb hbox hg; have hnb5 := NB116_117.out; have hnc5 := NB117_116.out; have hcz6_0 : w4.cell? ⟨gb116, 0, none⟩ = some (.int .i64 a0_0) := (blk_cell BK116.out 0).trans rfl; have hcz6_1 : w4.cell? ⟨gb116, 1, none⟩ = some (.int .i64 a0_1) := (blk_cell BK116.out 1).trans rfl; have hcz6_2 : w4.cell? ⟨gb116, 2, none⟩ = some (.int .i64 a0_2) := (blk_cell BK116.out 2).trans rfl; have hcz6_3 : w4.cell? ⟨gb116, 3, none⟩ = some (.int .i64 a0_3) := (blk_cell BK116.out 3).trans rfl; have hcz6_4 : w4.cell? ⟨gb116, 4, none⟩ = some (.int .i64 a0_4) := (blk_cell BK116.out 4).trans rfl; have hcz6_5 : w4.cell? ⟨gb116, 5, none⟩ = some (.int .i64 a0_5) := (blk_cell BK116.out 5).trans rfl; have hcz6_6 : w4.cell? ⟨gb116, 6, none⟩ = some (.int .i64 a0_6) := (blk_cell BK116.out 6).trans rfl; have hcz6_7 : w4.cell? ⟨gb116, 7, none⟩ = some (.int .i64 a0_7) := (blk_cell BK116.out 7).trans rfl; have hcz6_8 : w4.cell? ⟨gb116, 8, none⟩ = some (.int .i64 a0_8) := (blk_cell BK116.out 8).trans rfl; have hcz6_9 : w4.cell? ⟨gb116, 9, none⟩ = some (.int .i64 a0_9) := (blk_cell BK116.out 9).trans rfl; have hfz6_0 := blk_frozen BK116.out 0; have hfz6_1 := blk_frozen BK116.out 1; have hfz6_2 := blk_frozen BK116.out 2; have hfz6_3 := blk_frozen BK116.out 3; have hfz6_4 := blk_frozen BK116.out 4; have hfz6_5 := blk_frozen BK116.out 5; have hfz6_6 := blk_frozen BK116.out 6; have hfz6_7 := blk_frozen BK116.out 7; have hfz6_8 := blk_frozen BK116.out 8; have hfz6_9 := blk_frozen BK116.out 9) | ((with_reducible refine gate_dst (N := 22) rfl ?_); refine Kd.R_lit (Kd.int .i64) _ 3 ?hg (N := 22) ?hd (xs := ([a0_0, a0_1, a0_2, a0_3, a0_4, a0_5, a0_6] : List Int)) (inner := [.int .i64 a0_0, .int .i64 a0_1, .int .i64 a0_2, .int .i64 a0_3, .int .i64 a0_4, .int .i64 a0_5, .int .i64 a0_6]) (ok := fun _ => True) (okp := fun _ => True) ?hr ?hp (fun _ hk => hk) trivial (Below.refl _ _) (Nat.le_refl _) (by simp) ?_; (case hd => rfl); (case hg => rfl); (case hr => first | (go_simp; done) | (go_simp; rfl)); (case hp => exact (Reps.one (show Kd.M (Kd.int .i64) _ _ _ a0_0 [.int .i64 a0_0] from rfl) (Reps.one (show Kd.M (Kd.int .i64) _ _ _ a0_1 [.int .i64 a0_1] from rfl) (Reps.one (show Kd.M (Kd.int .i64) _ _ _ a0_2 [.int .i64 a0_2] from rfl) (Reps.one (show Kd.M (Kd.int .i64) _ _ _ a0_3 [.int .i64 a0_3] from rfl) (Reps.one (show Kd.M (Kd.int .i64) _ _ _ a0_4 [.int .i64 a0_4] from rfl) (Reps.one (show Kd.M (Kd.int .i64) _ _ _ a0_5 [.int .i64 a0_5] from rfl) (Reps.one (show Kd.M (Kd.int .i64) _ _ _ a0_6 [.int .i64 a0_6] from rfl) (Reps.none _ _))))))))); intro v119 w7 ho8 hb hg_ hnew_; clear hg_ hnew_; (first | rw [← Ny118.out] at ho8 | (simp only [Int.reduceToNat] at ho8; rw [← Ny118.out] at ho8)); have n0_ := Aside0.mk (Kd.R_lower ho8 (below_size (by repeat (first | (with_reducible first | exact HB.out | apply below_alloc | apply pw_below_drewN | apply below_drew1 | refine below_set ?_ GE116.out | refine below_set ?_ GE117.out) | exact HB.out)))); have n1_ := Aside0.mk (blk_below (g := gb116) (o := .cells #[.int .i64 a0_0, .int .i64 a0_1, .int .i64 a0_2, .int .i64 a0_3, .int .i64 a0_4, .int .i64 a0_5, .int .i64 a0_6, .int .i64 a0_7, .int .i64 a0_8, .int .i64 a0_9] 36 (0, 0)) (by (with_reducible repeat (first | refine b1_ ?_ _ | refine b2_ ?_ | refine b3_ ?_ _)); exact BK116.out) hb); have n2_ := Aside0.mk (blk_below (g := gb117) (o := .cells #[.int .i32 0, .int .i32 0, .int .i32 0, .int .i32 0, .int .i32 0, .int .i32 0, .int .i32 0, .int .i32 0, .int .i32 0, .int .i64 0, .int .i64 0, .int .i64 0, .int .u32 0, .int .u32 0, .int .i32 0, .int .i32 0] 86 (0, 0)) (by (with_reducible repeat (first | refine b1_ ?_ _ | refine b2_ ?_ | refine b3_ ?_ _)); exact BK117.out) hb); have n3_ := Aside0.mk (below_step (by repeat (first | (with_reducible first | exact HB.out | apply below_alloc | apply pw_below_drewN | apply below_drew1 | refine below_set ?_ GE116.out | refine below_set ?_ GE117.out) | exact HB.out)) hb); clear BK116; clear BK117; clear HB; have HO120 := n0_; have BK116 := n1_; have BK117 := n2_; have HB := n3_; clear n0_ n1_ n2_ n3_; clear hb ho8; obtain ⟨Ao9, co9, eo9⟩ := Kd.R_slice HO120.out; subst eo9))
 go_loopg [5, 24] k (fun kq v5 v24 w' => ∃ (x5_1 : Bool) (x24_1 : Int), v5 = .bool x5_1 ∧ v24 = .int .i64 x24_1 ∧ Aside0 (impl_outGlyph.l0 kq a1 x5_1 y118 (y118.length : Int) x24_1 a0_0 a0_1 a0_2 a0_3 a0_4 a0_5 a0_6 a0_7 a0_8 a0_9 = some (r1, r2, r3, r4, r5, r6, r7, r8, r9, r10, r11, r12, r13, r14, r15, r16, r17)) ∧ Aside0 (kq ≤ k) ∧ Aside0 (Kd.R (Kd.int .i64) 3 w' w.heap.size (fun _ => True) (.slice Ao9 y118.length co9) y118) ∧ Aside0 (w'.heap[gb116]? = some (.cells #[.int .i64 a0_0, .int .i64 a0_1, .int .i64 a0_2, .int .i64 a0_3, .int .i64 a0_4, .int .i64 a0_5, .int .i64 a0_6, .int .i64 a0_7, .int .i64 a0_8, .int .i64 a0_9] 36 (0, 0))) ∧ Aside0 (w'.heap[gb117]? = some (.cells #[.int .i32 0, .int .i32 0, .int .i32 0, .int .i32 0, .int .i32 0, .int .i32 0, .int .i32 0, .int .i32 0, .int .i32 0, .int .i64 0, .int .i64 0, .int .i64 0, .int .u32 0, .int .u32 0, .int .i32 0, .int .i32 0] 86 (0, 0))) ∧ Aside0 (Below w.heap.size w w'))
 case atStart => exact ⟨(true), (0), (by first | rfl | (simp; done) | (simp [*]; done)), (by first | rfl | (simp; done) | (simp [*]; done)), H', ⟨Nat.le_refl _⟩, ⟨by (with_reducible repeat (first | apply Kd.R_alloc | apply Kd.R_drewN | apply Kd.R_drew)); exact HO120.out⟩, ⟨by (with_reducible repeat (first | refine b1_ ?_ _ | refine b2_ ?_ | refine b3_ ?_ _)); exact BK116.out⟩, ⟨by (with_reducible repeat (first | refine b1_ ?_ _ | refine b2_ ?_ | refine b3_ ?_ _)); exact BK117.out⟩, ⟨by repeat (first | (with_reducible first | exact HB.out | apply below_alloc | apply pw_below_drewN | apply below_drew1 | refine below_set ?_ GE116.out | refine below_set ?_ GE117.out) | exact HB.out)⟩⟩
 case round =>
  clear H'
  try clear p2
  try clear c4
  try clear c5
  try clear hcz6_0
  try clear hcz6_1
  try clear hcz6_2
  try clear hcz6_3
  try clear hcz6_4
  try clear hcz6_5
  try clear hcz6_6
  try clear hcz6_7
  try clear hcz6_8
  try clear hcz6_9
  try clear hfz6_0
  try clear hfz6_1
  try clear hfz6_2
  try clear hfz6_3
  try clear hfz6_4
  try clear hfz6_5
  try clear hfz6_6
  try clear hfz6_7
  try clear hfz6_8
  try clear hfz6_9
  obtain ⟨x5_1, x24_1, rfl, rfl, HA, HK1, HO_22, BK116, BK117, HB⟩ := hrel
  cases gk with
  | zero => exact absurd HA.out (by simp [impl_outGlyph.l0])
  | succ k1 =>
   have H := HA.out
   clear HA
   simp only [impl_outGlyph.l0] at H
   by_cases c10 : x24_1 < (y118.length : Int)
   ·rw [if_pos c10] at H
    have c10b0 : decide (x24_1 < (y118.length : Int)) = true := decide_eq_true c10
    clear c10
    by_cases c11 : 0 ≤ x24_1
    ·rw [if_pos c11] at H
     have c11b0 : decide (0 ≤ x24_1) = true := decide_eq_true c11
     clear c11
     by_cases c12 : x24_1 < (y118.length : Int)
     ·rw [if_pos c12] at H
      have c12b0 : decide (x24_1 < (y118.length : Int)) = true := decide_eq_true c12
      clear c12
      by_cases c13 : x5_1 = true
      ·subst c13
       have H1 : ((impl_within.f (rd y118 x24_1)).bind fun t122 => (impl_outGlyph.l0 k1 a1 t122 y118 (y118.length : Int) (wrap64 (x24_1 + 1)) a0_0 a0_1 a0_2 a0_3 a0_4 a0_5 a0_6 a0_7 a0_8 a0_9)) = some (r1, r2, r3, r4, r5, r6, r7, r8, r9, r10, r11, r12, r13, r14, r15, r16, r17) := by rw [if_pos rfl] at H; exact H
       clear H
       have H := H1
       clear H1
       replace H := Option.bind_eq_some_iff.mp H
       obtain ⟨t122, A140, H⟩ := H
       replace H : (impl_outGlyph.l0 k1 a1 t122 y118 (y118.length : Int) (wrap64 (x24_1 + 1)) a0_0 a0_1 a0_2 a0_3 a0_4 a0_5 a0_6 a0_7 a0_8 a0_9) = some (r1, r2, r3, r4, r5, r6, r7, r8, r9, r10, r11, r12, r13, r14, r15, r16, r17) := H
       have A14 := Aside0.mk A140
       clear A140
       have H' := Aside0.mk H
       clear H
       have p121 : 0 ≤ (x24_1 : Int) := of_decide_eq_true (by first | (with_reducible assumption) | assumption)
       have q121 : x24_1 < (y118.length : Int) := of_decide_eq_true (by first | (with_reducible assumption) | assumption)
       obtain ⟨ad121, e121, hx121_0⟩ := Kd.at_int (Kd.R_reads' HO_22.out).2.2 x24_1 p121 q121
       cases e121
       replace p121 := eq_true p121
       replace q121 := eq_true q121
       go_wp2_with (first | (go_at_call 70; (with_reducible refine (impl_within.calls (rd y118 x24_1) t122 _ A14.out).mono ?_); rintro e w' ⟨rfl, ⟨nd, rfl⟩⟩))
       go_roundg k1
       case measure => have := HK1.out; omega
       case rel => exact ⟨(t122), (wrap64 (x24_1 + 1)), (by first | rfl | (simp; done) | (simp [*]; done)), (by first | rfl | (simp; done) | (simp [*]; done)), H', ⟨by have := HK1.out; omega⟩, ⟨by (with_reducible repeat (first | apply Kd.R_alloc | apply Kd.R_drewN | apply Kd.R_drew)); exact HO_22.out⟩, ⟨by (with_reducible repeat (first | refine b1_ ?_ _ | refine b2_ ?_ | refine b3_ ?_ _)); exact BK116.out⟩, ⟨by (with_reducible repeat (first | refine b1_ ?_ _ | refine b2_ ?_ | refine b3_ ?_ _)); exact BK117.out⟩, ⟨by repeat (first | (with_reducible first | exact HB.out | apply below_alloc | apply pw_below_drewN | apply below_drew1 | refine below_set ?_ GE116.out | refine below_set ?_ GE117.out) | exact HB.out)⟩⟩
      ·replace c13 := Bool.eq_false_iff.mpr c13
       subst c13
       have H1 : (impl_outGlyph.l0 k1 a1 false y118 (y118.length : Int) (wrap64 (x24_1 + 1)) a0_0 a0_1 a0_2 a0_3 a0_4 a0_5 a0_6 a0_7 a0_8 a0_9) = some (r1, r2, r3, r4, r5, r6, r7, r8, r9, r10, r11, r12, r13, r14, r15, r16, r17) := by rw [if_neg (show ¬ (false = true) by decide)] at H; exact H
       clear H
       have H := H1
       clear H1
       have H' := Aside0.mk H
       clear H
       have p121 : 0 ≤ (x24_1 : Int) := of_decide_eq_true (by first | (with_reducible assumption) | assumption)
       have q121 : x24_1 < (y118.length : Int) := of_decide_eq_true (by first | (with_reducible assumption) | assumption)
       obtain ⟨ad121, e121, hx121_0⟩ := Kd.at_int (Kd.R_reads' HO_22.out).2.2 x24_1 p121 q121
       cases e121
       replace p121 := eq_true p121
       replace q121 := eq_true q121
       go_wp2
       go_roundg k1
       case measure => have := HK1.out; omega
       case rel => exact ⟨(false), (wrap64 (x24_1 + 1)), (by first | rfl | (simp; done) | (simp [*]; done)), (by first | rfl | (simp; done) | (simp [*]; done)), H', ⟨by have := HK1.out; omega⟩, ⟨by (with_reducible repeat (first | apply Kd.R_alloc | apply Kd.R_drewN | apply Kd.R_drew)); exact HO_22.out⟩, ⟨by (with_reducible repeat (first | refine b1_ ?_ _ | refine b2_ ?_ | refine b3_ ?_ _)); exact BK116.out⟩, ⟨by (with_reducible repeat (first | refine b1_ ?_ _ | refine b2_ ?_ | refine b3_ ?_ _)); exact BK117.out⟩, ⟨by repeat (first | (with_reducible first | exact HB.out | apply below_alloc | apply pw_below_drewN | apply below_drew1 | refine below_set ?_ GE116.out | refine below_set ?_ GE117.out) | exact HB.out)⟩⟩
     ·rw [if_neg c12] at H
      exact absurd H (by simp)
    ·rw [if_neg c11] at H
     exact absurd H (by simp)
   ·rw [if_neg c10] at H
    have c10b0 : decide (x24_1 < (y118.length : Int)) = false := decide_eq_false c10
    clear c10
    by_cases c15 : a1 = true
    ·subst c15
     have H1 : (some (wrap32 (a0_0), wrap32 (a0_1), wrap32 (a0_2), wrap32 (a0_3), wrap32 (a0_4), 0, wrap32 (a0_4), wrap32 (a0_5), wrap32 (a0_6), a0_7, a0_8, a0_9, 0, 0, 0, 0, x5_1)) = some (r1, r2, r3, r4, r5, r6, r7, r8, r9, r10, r11, r12, r13, r14, r15, r16, r17) := by rw [if_pos rfl] at H; exact H
     clear H
     have H := H1
     clear H1
     simp only [Option.some.injEq, Prod.mk.injEq] at H
     obtain ⟨rfl, rfl, rfl, rfl, rfl, rfl, rfl, rfl, rfl, rfl, rfl, rfl, rfl, rfl, rfl, rfl, rfl⟩ := H
     have hnb16 := NB116_117.out
     have hnc16 := NB117_116.out
     have hcz17_0 : wr.cell? ⟨gb116, 0, none⟩ = some (.int .i64 a0_0) := (blk_cell BK116.out 0).trans rfl
     have hcz17_1 : wr.cell? ⟨gb116, 1, none⟩ = some (.int .i64 a0_1) := (blk_cell BK116.out 1).trans rfl
     have hcz17_2 : wr.cell? ⟨gb116, 2, none⟩ = some (.int .i64 a0_2) := (blk_cell BK116.out 2).trans rfl
     have hcz17_3 : wr.cell? ⟨gb116, 3, none⟩ = some (.int .i64 a0_3) := (blk_cell BK116.out 3).trans rfl
     have hcz17_4 : wr.cell? ⟨gb116, 4, none⟩ = some (.int .i64 a0_4) := (blk_cell BK116.out 4).trans rfl
     have hcz17_5 : wr.cell? ⟨gb116, 5, none⟩ = some (.int .i64 a0_5) := (blk_cell BK116.out 5).trans rfl
     have hcz17_6 : wr.cell? ⟨gb116, 6, none⟩ = some (.int .i64 a0_6) := (blk_cell BK116.out 6).trans rfl
     have hcz17_7 : wr.cell? ⟨gb116, 7, none⟩ = some (.int .i64 a0_7) := (blk_cell BK116.out 7).trans rfl
     have hcz17_8 : wr.cell? ⟨gb116, 8, none⟩ = some (.int .i64 a0_8) := (blk_cell BK116.out 8).trans rfl
     have hcz17_9 : wr.cell? ⟨gb116, 9, none⟩ = some (.int .i64 a0_9) := (blk_cell BK116.out 9).trans rfl
     have hfz17_0 := blk_frozen BK116.out 0
     have hfz17_1 := blk_frozen BK116.out 1
     have hfz17_2 := blk_frozen BK116.out 2
     have hfz17_3 := blk_frozen BK116.out 3
     have hfz17_4 := blk_frozen BK116.out 4
     have hfz17_5 := blk_frozen BK116.out 5
     have hfz17_6 := blk_frozen BK116.out 6
     have hfz17_7 := blk_frozen BK116.out 7
     have hfz17_8 := blk_frozen BK116.out 8
     have hfz17_9 := blk_frozen BK116.out 9
     have hcz18_0 : wr.cell? ⟨gb117, 0, none⟩ = some (.int .i32 0) := (blk_cell BK117.out 0).trans rfl
     have hcz18_1 : wr.cell? ⟨gb117, 1, none⟩ = some (.int .i32 0) := (blk_cell BK117.out 1).trans rfl
     have hcz18_2 : wr.cell? ⟨gb117, 2, none⟩ = some (.int .i32 0) := (blk_cell BK117.out 2).trans rfl
     have hcz18_3 : wr.cell? ⟨gb117, 3, none⟩ = some (.int .i32 0) := (blk_cell BK117.out 3).trans rfl
     have hcz18_4 : wr.cell? ⟨gb117, 4, none⟩ = some (.int .i32 0) := (blk_cell BK117.out 4).trans rfl
     have hcz18_5 : wr.cell? ⟨gb117, 5, none⟩ = some (.int .i32 0) := (blk_cell BK117.out 5).trans rfl
     have hcz18_6 : wr.cell? ⟨gb117, 6, none⟩ = some (.int .i32 0) := (blk_cell BK117.out 6).trans rfl
     have hcz18_7 : wr.cell? ⟨gb117, 7, none⟩ = some (.int .i32 0) := (blk_cell BK117.out 7).trans rfl
     have hcz18_8 : wr.cell? ⟨gb117, 8, none⟩ = some (.int .i32 0) := (blk_cell BK117.out 8).trans rfl
     have hcz18_9 : wr.cell? ⟨gb117, 9, none⟩ = some (.int .i64 0) := (blk_cell BK117.out 9).trans rfl
     have hcz18_10 : wr.cell? ⟨gb117, 10, none⟩ = some (.int .i64 0) := (blk_cell BK117.out 10).trans rfl
     have hcz18_11 : wr.cell? ⟨gb117, 11, none⟩ = some (.int .i64 0) := (blk_cell BK117.out 11).trans rfl
     have hcz18_12 : wr.cell? ⟨gb117, 12, none⟩ = some (.int .u32 0) := (blk_cell BK117.out 12).trans rfl
     have hcz18_13 : wr.cell? ⟨gb117, 13, none⟩ = some (.int .u32 0) := (blk_cell BK117.out 13).trans rfl
     have hcz18_14 : wr.cell? ⟨gb117, 14, none⟩ = some (.int .i32 0) := (blk_cell BK117.out 14).trans rfl
     have hcz18_15 : wr.cell? ⟨gb117, 15, none⟩ = some (.int .i32 0) := (blk_cell BK117.out 15).trans rfl
     have hfz18_0 := blk_frozen BK117.out 0
     have hfz18_1 := blk_frozen BK117.out 1
     have hfz18_2 := blk_frozen BK117.out 2
     have hfz18_3 := blk_frozen BK117.out 3
     have hfz18_4 := blk_frozen BK117.out 4
     have hfz18_5 := blk_frozen BK117.out 5
     have hfz18_6 := blk_frozen BK117.out 6
     have hfz18_7 := blk_frozen BK117.out 7
     have hfz18_8 := blk_frozen BK117.out 8
     have hfz18_9 := blk_frozen BK117.out 9
     have hfz18_10 := blk_frozen BK117.out 10
     have hfz18_11 := blk_frozen BK117.out 11
     have hfz18_12 := blk_frozen BK117.out 12
     have hfz18_13 := blk_frozen BK117.out 13
     have hfz18_14 := blk_frozen BK117.out 14
     have hfz18_15 := blk_frozen BK117.out 15
     go_upto_region 8 with (fail)
     generalize hW7 : World.setCell _ _ _ = W7
     have B7 : W7.heap[gb117]? = some (.cells #[.int .i32 (wrap32 (a0_0)), .int .i32 (wrap32 (a0_1)), .int .i32 (wrap32 (a0_2)), .int .i32 (wrap32 (a0_3)), .int .i32 (wrap32 (a0_4)), .int .i32 0, .int .i32 0, .int .i32 (wrap32 (a0_5)), .int .i32 (wrap32 (a0_6)), .int .i64 a0_7, .int .i64 a0_8, .int .i64 a0_9, .int .u32 0, .int .u32 0, .int .i32 0, .int .i32 0] 86 (0, 0)) := by
       rw [← hW7]
       refine blk_put (cs := #[.int .i32 (wrap32 (a0_0)), .int .i32 (wrap32 (a0_1)), .int .i32 (wrap32 (a0_2)), .int .i32 (wrap32 (a0_3)), .int .i32 (wrap32 (a0_4)), .int .i32 0, .int .i32 0, .int .i32 (wrap32 (a0_5)), .int .i32 (wrap32 (a0_6)), .int .i64 a0_7, .int .i64 a0_8, .int .i64 a0_9, .int .u32 0, .int .u32 0, .int .i32 0, .int .i32 0]) ?_ 15 _ rfl
       refine blk_put (cs := #[.int .i32 (wrap32 (a0_0)), .int .i32 (wrap32 (a0_1)), .int .i32 (wrap32 (a0_2)), .int .i32 (wrap32 (a0_3)), .int .i32 (wrap32 (a0_4)), .int .i32 0, .int .i32 0, .int .i32 (wrap32 (a0_5)), .int .i32 (wrap32 (a0_6)), .int .i64 a0_7, .int .i64 a0_8, .int .i64 a0_9, .int .u32 0, .int .u32 0, .int .i32 0, .int .i32 0]) ?_ 14 _ rfl
       refine blk_put (cs := #[.int .i32 (wrap32 (a0_0)), .int .i32 (wrap32 (a0_1)), .int .i32 (wrap32 (a0_2)), .int .i32 (wrap32 (a0_3)), .int .i32 (wrap32 (a0_4)), .int .i32 0, .int .i32 0, .int .i32 (wrap32 (a0_5)), .int .i32 (wrap32 (a0_6)), .int .i64 a0_7, .int .i64 a0_8, .int .i64 a0_9, .int .u32 0, .int .u32 0, .int .i32 0, .int .i32 0]) ?_ 13 _ rfl
       refine blk_put (cs := #[.int .i32 (wrap32 (a0_0)), .int .i32 (wrap32 (a0_1)), .int .i32 (wrap32 (a0_2)), .int .i32 (wrap32 (a0_3)), .int .i32 (wrap32 (a0_4)), .int .i32 0, .int .i32 0, .int .i32 (wrap32 (a0_5)), .int .i32 (wrap32 (a0_6)), .int .i64 a0_7, .int .i64 a0_8, .int .i64 a0_9, .int .u32 0, .int .u32 0, .int .i32 0, .int .i32 0]) ?_ 12 _ rfl
       refine blk_put (cs := #[.int .i32 (wrap32 (a0_0)), .int .i32 (wrap32 (a0_1)), .int .i32 (wrap32 (a0_2)), .int .i32 (wrap32 (a0_3)), .int .i32 (wrap32 (a0_4)), .int .i32 0, .int .i32 0, .int .i32 (wrap32 (a0_5)), .int .i32 (wrap32 (a0_6)), .int .i64 a0_7, .int .i64 a0_8, .int .i64 0, .int .u32 0, .int .u32 0, .int .i32 0, .int .i32 0]) ?_ 11 _ rfl
       refine blk_put (cs := #[.int .i32 (wrap32 (a0_0)), .int .i32 (wrap32 (a0_1)), .int .i32 (wrap32 (a0_2)), .int .i32 (wrap32 (a0_3)), .int .i32 (wrap32 (a0_4)), .int .i32 0, .int .i32 0, .int .i32 (wrap32 (a0_5)), .int .i32 (wrap32 (a0_6)), .int .i64 a0_7, .int .i64 0, .int .i64 0, .int .u32 0, .int .u32 0, .int .i32 0, .int .i32 0]) ?_ 10 _ rfl
       refine blk_put (cs := #[.int .i32 (wrap32 (a0_0)), .int .i32 (wrap32 (a0_1)), .int .i32 (wrap32 (a0_2)), .int .i32 (wrap32 (a0_3)), .int .i32 (wrap32 (a0_4)), .int .i32 0, .int .i32 0, .int .i32 (wrap32 (a0_5)), .int .i32 (wrap32 (a0_6)), .int .i64 0, .int .i64 0, .int .i64 0, .int .u32 0, .int .u32 0, .int .i32 0, .int .i32 0]) ?_ 9 _ rfl
       refine blk_put (cs := #[.int .i32 (wrap32 (a0_0)), .int .i32 (wrap32 (a0_1)), .int .i32 (wrap32 (a0_2)), .int .i32 (wrap32 (a0_3)), .int .i32 (wrap32 (a0_4)), .int .i32 0, .int .i32 0, .int .i32 (wrap32 (a0_5)), .int .i32 0, .int .i64 0, .int .i64 0, .int .i64 0, .int .u32 0, .int .u32 0, .int .i32 0, .int .i32 0]) ?_ 8 _ rfl
       refine blk_put (cs := #[.int .i32 (wrap32 (a0_0)), .int .i32 (wrap32 (a0_1)), .int .i32 (wrap32 (a0_2)), .int .i32 (wrap32 (a0_3)), .int .i32 (wrap32 (a0_4)), .int .i32 0, .int .i32 0, .int .i32 0, .int .i32 0, .int .i64 0, .int .i64 0, .int .i64 0, .int .u32 0, .int .u32 0, .int .i32 0, .int .i32 0]) ?_ 7 _ rfl
       refine blk_put (cs := #[.int .i32 (wrap32 (a0_0)), .int .i32 (wrap32 (a0_1)), .int .i32 (wrap32 (a0_2)), .int .i32 (wrap32 (a0_3)), .int .i32 (wrap32 (a0_4)), .int .i32 0, .int .i32 0, .int .i32 0, .int .i32 0, .int .i64 0, .int .i64 0, .int .i64 0, .int .u32 0, .int .u32 0, .int .i32 0, .int .i32 0]) ?_ 6 _ rfl
       refine blk_put (cs := #[.int .i32 (wrap32 (a0_0)), .int .i32 (wrap32 (a0_1)), .int .i32 (wrap32 (a0_2)), .int .i32 (wrap32 (a0_3)), .int .i32 (wrap32 (a0_4)), .int .i32 0, .int .i32 0, .int .i32 0, .int .i32 0, .int .i64 0, .int .i64 0, .int .i64 0, .int .u32 0, .int .u32 0, .int .i32 0, .int .i32 0]) ?_ 5 _ rfl
       refine blk_put (cs := #[.int .i32 (wrap32 (a0_0)), .int .i32 (wrap32 (a0_1)), .int .i32 (wrap32 (a0_2)), .int .i32 (wrap32 (a0_3)), .int .i32 0, .int .i32 0, .int .i32 0, .int .i32 0, .int .i32 0, .int .i64 0, .int .i64 0, .int .i64 0, .int .u32 0, .int .u32 0, .int .i32 0, .int .i32 0]) ?_ 4 _ rfl
       refine blk_put (cs := #[.int .i32 (wrap32 (a0_0)), .int .i32 (wrap32 (a0_1)), .int .i32 (wrap32 (a0_2)), .int .i32 0, .int .i32 0, .int .i32 0, .int .i32 0, .int .i32 0, .int .i32 0, .int .i64 0, .int .i64 0, .int .i64 0, .int .u32 0, .int .u32 0, .int .i32 0, .int .i32 0]) ?_ 3 _ rfl
       refine blk_put (cs := #[.int .i32 (wrap32 (a0_0)), .int .i32 (wrap32 (a0_1)), .int .i32 0, .int .i32 0, .int .i32 0, .int .i32 0, .int .i32 0, .int .i32 0, .int .i32 0, .int .i64 0, .int .i64 0, .int .i64 0, .int .u32 0, .int .u32 0, .int .i32 0, .int .i32 0]) ?_ 2 _ rfl
       refine blk_put (cs := #[.int .i32 (wrap32 (a0_0)), .int .i32 0, .int .i32 0, .int .i32 0, .int .i32 0, .int .i32 0, .int .i32 0, .int .i32 0, .int .i32 0, .int .i64 0, .int .i64 0, .int .i64 0, .int .u32 0, .int .u32 0, .int .i32 0, .int .i32 0]) ?_ 1 _ rfl
       refine blk_put (cs := #[.int .i32 0, .int .i32 0, .int .i32 0, .int .i32 0, .int .i32 0, .int .i32 0, .int .i32 0, .int .i32 0, .int .i32 0, .int .i64 0, .int .i64 0, .int .i64 0, .int .u32 0, .int .u32 0, .int .i32 0, .int .i32 0]) ?_ 0 _ rfl
       exact BK117.out
     have D7 : Below w.heap.size w W7 := by
       rw [← hW7]
       iterate 16 refine below_set ?_ GE117.out
       exact HB.out
     clear hW7
     try clear hcz17_0
     try clear hcz17_1
     try clear hcz17_2
     try clear hcz17_3
     try clear hcz17_4
     try clear hcz17_5
     try clear hcz17_6
     try clear hcz17_7
     try clear hcz17_8
     try clear hcz17_9
     try clear hfz17_0
     try clear hfz17_1
     try clear hfz17_2
     try clear hfz17_3
     try clear hfz17_4
     try clear hfz17_5
     try clear hfz17_6
     try clear hfz17_7
     try clear hfz17_8
     try clear hfz17_9
     try clear hcz18_0
     try clear hcz18_1
     try clear hcz18_2
     try clear hcz18_3
     try clear hcz18_4
     try clear hcz18_5
     try clear hcz18_6
     try clear hcz18_7
     try clear hcz18_8
     try clear hcz18_9
     try clear hcz18_10
     try clear hcz18_11
     try clear hcz18_12
     try clear hcz18_13
     try clear hcz18_14
     try clear hcz18_15
     try clear hfz18_0
     try clear hfz18_1
     try clear hfz18_2
     try clear hfz18_3
     try clear hfz18_4
     try clear hfz18_5
     try clear hfz18_6
     try clear hfz18_7
     try clear hfz18_8
     try clear hfz18_9
     try clear hfz18_10
     try clear hfz18_11
     try clear hfz18_12
     try clear hfz18_13
     try clear hfz18_14
     try clear hfz18_15
     have hc7_4 : W7.cell? ⟨gb117, 4, none⟩ = some (.int .i32 (wrap32 (a0_4))) := (blk_cell B7 4).trans rfl
     have hf7_4 := blk_frozen B7 4
     have hc7_5 : W7.cell? ⟨gb117, 5, none⟩ = some (.int .i32 0) := (blk_cell B7 5).trans rfl
     have hf7_5 := blk_frozen B7 5
     have hc7_6 : W7.cell? ⟨gb117, 6, none⟩ = some (.int .i32 0) := (blk_cell B7 6).trans rfl
     have hf7_6 := blk_frozen B7 6
     go_upto_region 11 with (fail)
     generalize hW8 : World.setCell _ _ _ = W8
     have B8 : W8.heap[gb117]? = some (.cells #[.int .i32 (wrap32 (a0_0)), .int .i32 (wrap32 (a0_1)), .int .i32 (wrap32 (a0_2)), .int .i32 (wrap32 (a0_3)), .int .i32 (wrap32 (a0_4)), .int .i32 0, .int .i32 (wrap32 (a0_4)), .int .i32 (wrap32 (a0_5)), .int .i32 (wrap32 (a0_6)), .int .i64 a0_7, .int .i64 a0_8, .int .i64 a0_9, .int .u32 0, .int .u32 0, .int .i32 0, .int .i32 0] 86 (0, 0)) := by
       rw [← hW8]
       exact blk_put (cs := #[.int .i32 (wrap32 (a0_0)), .int .i32 (wrap32 (a0_1)), .int .i32 (wrap32 (a0_2)), .int .i32 (wrap32 (a0_3)), .int .i32 (wrap32 (a0_4)), .int .i32 0, .int .i32 0, .int .i32 (wrap32 (a0_5)), .int .i32 (wrap32 (a0_6)), .int .i64 a0_7, .int .i64 a0_8, .int .i64 a0_9, .int .u32 0, .int .u32 0, .int .i32 0, .int .i32 0]) B7 6 _ rfl
     have D8 : Below w.heap.size w W8 := by
       rw [← hW8]
       exact below_set D7 GE117.out
     clear hW8
     clear hc7_4 hf7_4
     clear hc7_5 hf7_5
     clear hc7_6 hf7_6
     have hc8_0 : W8.cell? ⟨gb117, 0, none⟩ = some (.int .i32 (wrap32 (a0_0))) := (blk_cell B8 0).trans rfl
     have hf8_0 := blk_frozen B8 0
     have hc8_1 : W8.cell? ⟨gb117, 1, none⟩ = some (.int .i32 (wrap32 (a0_1))) := (blk_cell B8 1).trans rfl
     have hf8_1 := blk_frozen B8 1
     have hc8_2 : W8.cell? ⟨gb117, 2, none⟩ = some (.int .i32 (wrap32 (a0_2))) := (blk_cell B8 2).trans rfl
     have hf8_2 := blk_frozen B8 2
     have hc8_3 : W8.cell? ⟨gb117, 3, none⟩ = some (.int .i32 (wrap32 (a0_3))) := (blk_cell B8 3).trans rfl
     have hf8_3 := blk_frozen B8 3
     have hc8_4 : W8.cell? ⟨gb117, 4, none⟩ = some (.int .i32 (wrap32 (a0_4))) := (blk_cell B8 4).trans rfl
     have hf8_4 := blk_frozen B8 4
     have hc8_5 : W8.cell? ⟨gb117, 5, none⟩ = some (.int .i32 0) := (blk_cell B8 5).trans rfl
     have hf8_5 := blk_frozen B8 5
     have hc8_6 : W8.cell? ⟨gb117, 6, none⟩ = some (.int .i32 (wrap32 (a0_4))) := (blk_cell B8 6).trans rfl
     have hf8_6 := blk_frozen B8 6
     have hc8_7 : W8.cell? ⟨gb117, 7, none⟩ = some (.int .i32 (wrap32 (a0_5))) := (blk_cell B8 7).trans rfl
     have hf8_7 := blk_frozen B8 7
     have hc8_8 : W8.cell? ⟨gb117, 8, none⟩ = some (.int .i32 (wrap32 (a0_6))) := (blk_cell B8 8).trans rfl
     have hf8_8 := blk_frozen B8 8
     have hc8_9 : W8.cell? ⟨gb117, 9, none⟩ = some (.int .i64 a0_7) := (blk_cell B8 9).trans rfl
     have hf8_9 := blk_frozen B8 9
     have hc8_10 : W8.cell? ⟨gb117, 10, none⟩ = some (.int .i64 a0_8) := (blk_cell B8 10).trans rfl
     have hf8_10 := blk_frozen B8 10
     have hc8_11 : W8.cell? ⟨gb117, 11, none⟩ = some (.int .i64 a0_9) := (blk_cell B8 11).trans rfl
     have hf8_11 := blk_frozen B8 11
     have hc8_12 : W8.cell? ⟨gb117, 12, none⟩ = some (.int .u32 0) := (blk_cell B8 12).trans rfl
     have hf8_12 := blk_frozen B8 12
     have hc8_13 : W8.cell? ⟨gb117, 13, none⟩ = some (.int .u32 0) := (blk_cell B8 13).trans rfl
     have hf8_13 := blk_frozen B8 13
     have hc8_14 : W8.cell? ⟨gb117, 14, none⟩ = some (.int .i32 0) := (blk_cell B8 14).trans rfl
     have hf8_14 := blk_frozen B8 14
     have hc8_15 : W8.cell? ⟨gb117, 15, none⟩ = some (.int .i32 0) := (blk_cell B8 15).trans rfl
     have hf8_15 := blk_frozen B8 15
     go_wp2
     refine bodyPost_ret (results_ct rfl _ _ gb117 86 #[.int .i32 (wrap32 (a0_0)), .int .i32 (wrap32 (a0_1)), .int .i32 (wrap32 (a0_2)), .int .i32 (wrap32 (a0_3)), .int .i32 (wrap32 (a0_4)), .int .i32 0, .int .i32 (wrap32 (a0_4)), .int .i32 (wrap32 (a0_5)), .int .i32 (wrap32 (a0_6)), .int .i64 a0_7, .int .i64 a0_8, .int .i64 a0_9, .int .u32 0, .int .u32 0, .int .i32 0, .int .i32 0] (0, 0) _ rfl (by
       refine blk_put (cs := #[.int .i32 (wrap32 (a0_0)), .int .i32 (wrap32 (a0_1)), .int .i32 (wrap32 (a0_2)), .int .i32 (wrap32 (a0_3)), .int .i32 (wrap32 (a0_4)), .int .i32 0, .int .i32 (wrap32 (a0_4)), .int .i32 (wrap32 (a0_5)), .int .i32 (wrap32 (a0_6)), .int .i64 a0_7, .int .i64 a0_8, .int .i64 a0_9, .int .u32 0, .int .u32 0, .int .i32 0, .int .i32 0]) ?_ 15 _ rfl
       refine blk_put (cs := #[.int .i32 (wrap32 (a0_0)), .int .i32 (wrap32 (a0_1)), .int .i32 (wrap32 (a0_2)), .int .i32 (wrap32 (a0_3)), .int .i32 (wrap32 (a0_4)), .int .i32 0, .int .i32 (wrap32 (a0_4)), .int .i32 (wrap32 (a0_5)), .int .i32 (wrap32 (a0_6)), .int .i64 a0_7, .int .i64 a0_8, .int .i64 a0_9, .int .u32 0, .int .u32 0, .int .i32 0, .int .i32 0]) ?_ 14 _ rfl
       refine blk_put (cs := #[.int .i32 (wrap32 (a0_0)), .int .i32 (wrap32 (a0_1)), .int .i32 (wrap32 (a0_2)), .int .i32 (wrap32 (a0_3)), .int .i32 (wrap32 (a0_4)), .int .i32 0, .int .i32 (wrap32 (a0_4)), .int .i32 (wrap32 (a0_5)), .int .i32 (wrap32 (a0_6)), .int .i64 a0_7, .int .i64 a0_8, .int .i64 a0_9, .int .u32 0, .int .u32 0, .int .i32 0, .int .i32 0]) ?_ 13 _ rfl
       refine blk_put (cs := #[.int .i32 (wrap32 (a0_0)), .int .i32 (wrap32 (a0_1)), .int .i32 (wrap32 (a0_2)), .int .i32 (wrap32 (a0_3)), .int .i32 (wrap32 (a0_4)), .int .i32 0, .int .i32 (wrap32 (a0_4)), .int .i32 (wrap32 (a0_5)), .int .i32 (wrap32 (a0_6)), .int .i64 a0_7, .int .i64 a0_8, .int .i64 a0_9, .int .u32 0, .int .u32 0, .int .i32 0, .int .i32 0]) ?_ 12 _ rfl
       refine blk_put (cs := #[.int .i32 (wrap32 (a0_0)), .int .i32 (wrap32 (a0_1)), .int .i32 (wrap32 (a0_2)), .int .i32 (wrap32 (a0_3)), .int .i32 (wrap32 (a0_4)), .int .i32 0, .int .i32 (wrap32 (a0_4)), .int .i32 (wrap32 (a0_5)), .int .i32 (wrap32 (a0_6)), .int .i64 a0_7, .int .i64 a0_8, .int .i64 a0_9, .int .u32 0, .int .u32 0, .int .i32 0, .int .i32 0]) ?_ 11 _ rfl
       refine blk_put (cs := #[.int .i32 (wrap32 (a0_0)), .int .i32 (wrap32 (a0_1)), .int .i32 (wrap32 (a0_2)), .int .i32 (wrap32 (a0_3)), .int .i32 (wrap32 (a0_4)), .int .i32 0, .int .i32 (wrap32 (a0_4)), .int .i32 (wrap32 (a0_5)), .int .i32 (wrap32 (a0_6)), .int .i64 a0_7, .int .i64 a0_8, .int .i64 a0_9, .int .u32 0, .int .u32 0, .int .i32 0, .int .i32 0]) ?_ 10 _ rfl
       refine blk_put (cs := #[.int .i32 (wrap32 (a0_0)), .int .i32 (wrap32 (a0_1)), .int .i32 (wrap32 (a0_2)), .int .i32 (wrap32 (a0_3)), .int .i32 (wrap32 (a0_4)), .int .i32 0, .int .i32 (wrap32 (a0_4)), .int .i32 (wrap32 (a0_5)), .int .i32 (wrap32 (a0_6)), .int .i64 a0_7, .int .i64 a0_8, .int .i64 a0_9, .int .u32 0, .int .u32 0, .int .i32 0, .int .i32 0]) ?_ 9 _ rfl
       refine blk_put (cs := #[.int .i32 (wrap32 (a0_0)), .int .i32 (wrap32 (a0_1)), .int .i32 (wrap32 (a0_2)), .int .i32 (wrap32 (a0_3)), .int .i32 (wrap32 (a0_4)), .int .i32 0, .int .i32 (wrap32 (a0_4)), .int .i32 (wrap32 (a0_5)), .int .i32 (wrap32 (a0_6)), .int .i64 a0_7, .int .i64 a0_8, .int .i64 a0_9, .int .u32 0, .int .u32 0, .int .i32 0, .int .i32 0]) ?_ 8 _ rfl
       refine blk_put (cs := #[.int .i32 (wrap32 (a0_0)), .int .i32 (wrap32 (a0_1)), .int .i32 (wrap32 (a0_2)), .int .i32 (wrap32 (a0_3)), .int .i32 (wrap32 (a0_4)), .int .i32 0, .int .i32 (wrap32 (a0_4)), .int .i32 (wrap32 (a0_5)), .int .i32 (wrap32 (a0_6)), .int .i64 a0_7, .int .i64 a0_8, .int .i64 a0_9, .int .u32 0, .int .u32 0, .int .i32 0, .int .i32 0]) ?_ 7 _ rfl
       refine blk_put (cs := #[.int .i32 (wrap32 (a0_0)), .int .i32 (wrap32 (a0_1)), .int .i32 (wrap32 (a0_2)), .int .i32 (wrap32 (a0_3)), .int .i32 (wrap32 (a0_4)), .int .i32 0, .int .i32 (wrap32 (a0_4)), .int .i32 (wrap32 (a0_5)), .int .i32 (wrap32 (a0_6)), .int .i64 a0_7, .int .i64 a0_8, .int .i64 a0_9, .int .u32 0, .int .u32 0, .int .i32 0, .int .i32 0]) ?_ 6 _ rfl
       refine blk_put (cs := #[.int .i32 (wrap32 (a0_0)), .int .i32 (wrap32 (a0_1)), .int .i32 (wrap32 (a0_2)), .int .i32 (wrap32 (a0_3)), .int .i32 (wrap32 (a0_4)), .int .i32 0, .int .i32 (wrap32 (a0_4)), .int .i32 (wrap32 (a0_5)), .int .i32 (wrap32 (a0_6)), .int .i64 a0_7, .int .i64 a0_8, .int .i64 a0_9, .int .u32 0, .int .u32 0, .int .i32 0, .int .i32 0]) ?_ 5 _ rfl
       refine blk_put (cs := #[.int .i32 (wrap32 (a0_0)), .int .i32 (wrap32 (a0_1)), .int .i32 (wrap32 (a0_2)), .int .i32 (wrap32 (a0_3)), .int .i32 (wrap32 (a0_4)), .int .i32 0, .int .i32 (wrap32 (a0_4)), .int .i32 (wrap32 (a0_5)), .int .i32 (wrap32 (a0_6)), .int .i64 a0_7, .int .i64 a0_8, .int .i64 a0_9, .int .u32 0, .int .u32 0, .int .i32 0, .int .i32 0]) ?_ 4 _ rfl
       refine blk_put (cs := #[.int .i32 (wrap32 (a0_0)), .int .i32 (wrap32 (a0_1)), .int .i32 (wrap32 (a0_2)), .int .i32 (wrap32 (a0_3)), .int .i32 (wrap32 (a0_4)), .int .i32 0, .int .i32 (wrap32 (a0_4)), .int .i32 (wrap32 (a0_5)), .int .i32 (wrap32 (a0_6)), .int .i64 a0_7, .int .i64 a0_8, .int .i64 a0_9, .int .u32 0, .int .u32 0, .int .i32 0, .int .i32 0]) ?_ 3 _ rfl
       refine blk_put (cs := #[.int .i32 (wrap32 (a0_0)), .int .i32 (wrap32 (a0_1)), .int .i32 (wrap32 (a0_2)), .int .i32 (wrap32 (a0_3)), .int .i32 (wrap32 (a0_4)), .int .i32 0, .int .i32 (wrap32 (a0_4)), .int .i32 (wrap32 (a0_5)), .int .i32 (wrap32 (a0_6)), .int .i64 a0_7, .int .i64 a0_8, .int .i64 a0_9, .int .u32 0, .int .u32 0, .int .i32 0, .int .i32 0]) ?_ 2 _ rfl
       refine blk_put (cs := #[.int .i32 (wrap32 (a0_0)), .int .i32 (wrap32 (a0_1)), .int .i32 (wrap32 (a0_2)), .int .i32 (wrap32 (a0_3)), .int .i32 (wrap32 (a0_4)), .int .i32 0, .int .i32 (wrap32 (a0_4)), .int .i32 (wrap32 (a0_5)), .int .i32 (wrap32 (a0_6)), .int .i64 a0_7, .int .i64 a0_8, .int .i64 a0_9, .int .u32 0, .int .u32 0, .int .i32 0, .int .i32 0]) ?_ 1 _ rfl
       refine blk_put (cs := #[.int .i32 (wrap32 (a0_0)), .int .i32 (wrap32 (a0_1)), .int .i32 (wrap32 (a0_2)), .int .i32 (wrap32 (a0_3)), .int .i32 (wrap32 (a0_4)), .int .i32 0, .int .i32 (wrap32 (a0_4)), .int .i32 (wrap32 (a0_5)), .int .i32 (wrap32 (a0_6)), .int .i64 a0_7, .int .i64 a0_8, .int .i64 a0_9, .int .u32 0, .int .u32 0, .int .i32 0, .int .i32 0]) ?_ 0 _ rfl
       exact B8) Try.underlying86 rfl (by kernel_rfl)) rfl ?_
     refine ⟨rfl, ?_⟩
     iterate 16 refine below_set ?_ GE117.out
     exact D8
    ·replace c15 := Bool.eq_false_iff.mpr c15
     subst c15
     have H1 : (some (wrap32 (a0_0), wrap32 (a0_1), wrap32 (a0_2), wrap32 (a0_3), wrap32 (a0_4), wrap32 (a0_4), 0, wrap32 (a0_5), wrap32 (a0_6), a0_7, a0_8, a0_9, 0, 0, 0, 0, x5_1)) = some (r1, r2, r3, r4, r5, r6, r7, r8, r9, r10, r11, r12, r13, r14, r15, r16, r17) := by rw [if_neg (show ¬ (false = true) by decide)] at H; exact H
     clear H
     have H := H1
     clear H1
     simp only [Option.some.injEq, Prod.mk.injEq] at H
     obtain ⟨rfl, rfl, rfl, rfl, rfl, rfl, rfl, rfl, rfl, rfl, rfl, rfl, rfl, rfl, rfl, rfl, rfl⟩ := H
     have hnb19 := NB116_117.out
     have hnc19 := NB117_116.out
     have hcz20_0 : wr.cell? ⟨gb116, 0, none⟩ = some (.int .i64 a0_0) := (blk_cell BK116.out 0).trans rfl
     have hcz20_1 : wr.cell? ⟨gb116, 1, none⟩ = some (.int .i64 a0_1) := (blk_cell BK116.out 1).trans rfl
     have hcz20_2 : wr.cell? ⟨gb116, 2, none⟩ = some (.int .i64 a0_2) := (blk_cell BK116.out 2).trans rfl
     have hcz20_3 : wr.cell? ⟨gb116, 3, none⟩ = some (.int .i64 a0_3) := (blk_cell BK116.out 3).trans rfl
     have hcz20_4 : wr.cell? ⟨gb116, 4, none⟩ = some (.int .i64 a0_4) := (blk_cell BK116.out 4).trans rfl
     have hcz20_5 : wr.cell? ⟨gb116, 5, none⟩ = some (.int .i64 a0_5) := (blk_cell BK116.out 5).trans rfl
     have hcz20_6 : wr.cell? ⟨gb116, 6, none⟩ = some (.int .i64 a0_6) := (blk_cell BK116.out 6).trans rfl
     have hcz20_7 : wr.cell? ⟨gb116, 7, none⟩ = some (.int .i64 a0_7) := (blk_cell BK116.out 7).trans rfl
     have hcz20_8 : wr.cell? ⟨gb116, 8, none⟩ = some (.int .i64 a0_8) := (blk_cell BK116.out 8).trans rfl
     have hcz20_9 : wr.cell? ⟨gb116, 9, none⟩ = some (.int .i64 a0_9) := (blk_cell BK116.out 9).trans rfl
     have hfz20_0 := blk_frozen BK116.out 0
     have hfz20_1 := blk_frozen BK116.out 1
     have hfz20_2 := blk_frozen BK116.out 2
     have hfz20_3 := blk_frozen BK116.out 3
     have hfz20_4 := blk_frozen BK116.out 4
     have hfz20_5 := blk_frozen BK116.out 5
     have hfz20_6 := blk_frozen BK116.out 6
     have hfz20_7 := blk_frozen BK116.out 7
     have hfz20_8 := blk_frozen BK116.out 8
     have hfz20_9 := blk_frozen BK116.out 9
     have hcz21_0 : wr.cell? ⟨gb117, 0, none⟩ = some (.int .i32 0) := (blk_cell BK117.out 0).trans rfl
     have hcz21_1 : wr.cell? ⟨gb117, 1, none⟩ = some (.int .i32 0) := (blk_cell BK117.out 1).trans rfl
     have hcz21_2 : wr.cell? ⟨gb117, 2, none⟩ = some (.int .i32 0) := (blk_cell BK117.out 2).trans rfl
     have hcz21_3 : wr.cell? ⟨gb117, 3, none⟩ = some (.int .i32 0) := (blk_cell BK117.out 3).trans rfl
     have hcz21_4 : wr.cell? ⟨gb117, 4, none⟩ = some (.int .i32 0) := (blk_cell BK117.out 4).trans rfl
     have hcz21_5 : wr.cell? ⟨gb117, 5, none⟩ = some (.int .i32 0) := (blk_cell BK117.out 5).trans rfl
     have hcz21_6 : wr.cell? ⟨gb117, 6, none⟩ = some (.int .i32 0) := (blk_cell BK117.out 6).trans rfl
     have hcz21_7 : wr.cell? ⟨gb117, 7, none⟩ = some (.int .i32 0) := (blk_cell BK117.out 7).trans rfl
     have hcz21_8 : wr.cell? ⟨gb117, 8, none⟩ = some (.int .i32 0) := (blk_cell BK117.out 8).trans rfl
     have hcz21_9 : wr.cell? ⟨gb117, 9, none⟩ = some (.int .i64 0) := (blk_cell BK117.out 9).trans rfl
     have hcz21_10 : wr.cell? ⟨gb117, 10, none⟩ = some (.int .i64 0) := (blk_cell BK117.out 10).trans rfl
     have hcz21_11 : wr.cell? ⟨gb117, 11, none⟩ = some (.int .i64 0) := (blk_cell BK117.out 11).trans rfl
     have hcz21_12 : wr.cell? ⟨gb117, 12, none⟩ = some (.int .u32 0) := (blk_cell BK117.out 12).trans rfl
     have hcz21_13 : wr.cell? ⟨gb117, 13, none⟩ = some (.int .u32 0) := (blk_cell BK117.out 13).trans rfl
     have hcz21_14 : wr.cell? ⟨gb117, 14, none⟩ = some (.int .i32 0) := (blk_cell BK117.out 14).trans rfl
     have hcz21_15 : wr.cell? ⟨gb117, 15, none⟩ = some (.int .i32 0) := (blk_cell BK117.out 15).trans rfl
     have hfz21_0 := blk_frozen BK117.out 0
     have hfz21_1 := blk_frozen BK117.out 1
     have hfz21_2 := blk_frozen BK117.out 2
     have hfz21_3 := blk_frozen BK117.out 3
     have hfz21_4 := blk_frozen BK117.out 4
     have hfz21_5 := blk_frozen BK117.out 5
     have hfz21_6 := blk_frozen BK117.out 6
     have hfz21_7 := blk_frozen BK117.out 7
     have hfz21_8 := blk_frozen BK117.out 8
     have hfz21_9 := blk_frozen BK117.out 9
     have hfz21_10 := blk_frozen BK117.out 10
     have hfz21_11 := blk_frozen BK117.out 11
     have hfz21_12 := blk_frozen BK117.out 12
     have hfz21_13 := blk_frozen BK117.out 13
     have hfz21_14 := blk_frozen BK117.out 14
     have hfz21_15 := blk_frozen BK117.out 15
     go_upto_region 8 with (fail)
     generalize hW7 : World.setCell _ _ _ = W7
     have B7 : W7.heap[gb117]? = some (.cells #[.int .i32 (wrap32 (a0_0)), .int .i32 (wrap32 (a0_1)), .int .i32 (wrap32 (a0_2)), .int .i32 (wrap32 (a0_3)), .int .i32 (wrap32 (a0_4)), .int .i32 0, .int .i32 0, .int .i32 (wrap32 (a0_5)), .int .i32 (wrap32 (a0_6)), .int .i64 a0_7, .int .i64 a0_8, .int .i64 a0_9, .int .u32 0, .int .u32 0, .int .i32 0, .int .i32 0] 86 (0, 0)) := by
       rw [← hW7]
       refine blk_put (cs := #[.int .i32 (wrap32 (a0_0)), .int .i32 (wrap32 (a0_1)), .int .i32 (wrap32 (a0_2)), .int .i32 (wrap32 (a0_3)), .int .i32 (wrap32 (a0_4)), .int .i32 0, .int .i32 0, .int .i32 (wrap32 (a0_5)), .int .i32 (wrap32 (a0_6)), .int .i64 a0_7, .int .i64 a0_8, .int .i64 a0_9, .int .u32 0, .int .u32 0, .int .i32 0, .int .i32 0]) ?_ 15 _ rfl
       refine blk_put (cs := #[.int .i32 (wrap32 (a0_0)), .int .i32 (wrap32 (a0_1)), .int .i32 (wrap32 (a0_2)), .int .i32 (wrap32 (a0_3)), .int .i32 (wrap32 (a0_4)), .int .i32 0, .int .i32 0, .int .i32 (wrap32 (a0_5)), .int .i32 (wrap32 (a0_6)), .int .i64 a0_7, .int .i64 a0_8, .int .i64 a0_9, .int .u32 0, .int .u32 0, .int .i32 0, .int .i32 0]) ?_ 14 _ rfl
       refine blk_put (cs := #[.int .i32 (wrap32 (a0_0)), .int .i32 (wrap32 (a0_1)), .int .i32 (wrap32 (a0_2)), .int .i32 (wrap32 (a0_3)), .int .i32 (wrap32 (a0_4)), .int .i32 0, .int .i32 0, .int .i32 (wrap32 (a0_5)), .int .i32 (wrap32 (a0_6)), .int .i64 a0_7, .int .i64 a0_8, .int .i64 a0_9, .int .u32 0, .int .u32 0, .int .i32 0, .int .i32 0]) ?_ 13 _ rfl
       refine blk_put (cs := #[.int .i32 (wrap32 (a0_0)), .int .i32 (wrap32 (a0_1)), .int .i32 (wrap32 (a0_2)), .int .i32 (wrap32 (a0_3)), .int .i32 (wrap32 (a0_4)), .int .i32 0, .int .i32 0, .int .i32 (wrap32 (a0_5)), .int .i32 (wrap32 (a0_6)), .int .i64 a0_7, .int .i64 a0_8, .int .i64 a0_9, .int .u32 0, .int .u32 0, .int .i32 0, .int .i32 0]) ?_ 12 _ rfl
       refine blk_put (cs := #[.int .i32 (wrap32 (a0_0)), .int .i32 (wrap32 (a0_1)), .int .i32 (wrap32 (a0_2)), .int .i32 (wrap32 (a0_3)), .int .i32 (wrap32 (a0_4)), .int .i32 0, .int .i32 0, .int .i32 (wrap32 (a0_5)), .int .i32 (wrap32 (a0_6)), .int .i64 a0_7, .int .i64 a0_8, .int .i64 0, .int .u32 0, .int .u32 0, .int .i32 0, .int .i32 0]) ?_ 11 _ rfl
       refine blk_put (cs := #[.int .i32 (wrap32 (a0_0)), .int .i32 (wrap32 (a0_1)), .int .i32 (wrap32 (a0_2)), .int .i32 (wrap32 (a0_3)), .int .i32 (wrap32 (a0_4)), .int .i32 0, .int .i32 0, .int .i32 (wrap32 (a0_5)), .int .i32 (wrap32 (a0_6)), .int .i64 a0_7, .int .i64 0, .int .i64 0, .int .u32 0, .int .u32 0, .int .i32 0, .int .i32 0]) ?_ 10 _ rfl
       refine blk_put (cs := #[.int .i32 (wrap32 (a0_0)), .int .i32 (wrap32 (a0_1)), .int .i32 (wrap32 (a0_2)), .int .i32 (wrap32 (a0_3)), .int .i32 (wrap32 (a0_4)), .int .i32 0, .int .i32 0, .int .i32 (wrap32 (a0_5)), .int .i32 (wrap32 (a0_6)), .int .i64 0, .int .i64 0, .int .i64 0, .int .u32 0, .int .u32 0, .int .i32 0, .int .i32 0]) ?_ 9 _ rfl
       refine blk_put (cs := #[.int .i32 (wrap32 (a0_0)), .int .i32 (wrap32 (a0_1)), .int .i32 (wrap32 (a0_2)), .int .i32 (wrap32 (a0_3)), .int .i32 (wrap32 (a0_4)), .int .i32 0, .int .i32 0, .int .i32 (wrap32 (a0_5)), .int .i32 0, .int .i64 0, .int .i64 0, .int .i64 0, .int .u32 0, .int .u32 0, .int .i32 0, .int .i32 0]) ?_ 8 _ rfl
       refine blk_put (cs := #[.int .i32 (wrap32 (a0_0)), .int .i32 (wrap32 (a0_1)), .int .i32 (wrap32 (a0_2)), .int .i32 (wrap32 (a0_3)), .int .i32 (wrap32 (a0_4)), .int .i32 0, .int .i32 0, .int .i32 0, .int .i32 0, .int .i64 0, .int .i64 0, .int .i64 0, .int .u32 0, .int .u32 0, .int .i32 0, .int .i32 0]) ?_ 7 _ rfl
       refine blk_put (cs := #[.int .i32 (wrap32 (a0_0)), .int .i32 (wrap32 (a0_1)), .int .i32 (wrap32 (a0_2)), .int .i32 (wrap32 (a0_3)), .int .i32 (wrap32 (a0_4)), .int .i32 0, .int .i32 0, .int .i32 0, .int .i32 0, .int .i64 0, .int .i64 0, .int .i64 0, .int .u32 0, .int .u32 0, .int .i32 0, .int .i32 0]) ?_ 6 _ rfl
       refine blk_put (cs := #[.int .i32 (wrap32 (a0_0)), .int .i32 (wrap32 (a0_1)), .int .i32 (wrap32 (a0_2)), .int .i32 (wrap32 (a0_3)), .int .i32 (wrap32 (a0_4)), .int .i32 0, .int .i32 0, .int .i32 0, .int .i32 0, .int .i64 0, .int .i64 0, .int .i64 0, .int .u32 0, .int .u32 0, .int .i32 0, .int .i32 0]) ?_ 5 _ rfl
       refine blk_put (cs := #[.int .i32 (wrap32 (a0_0)), .int .i32 (wrap32 (a0_1)), .int .i32 (wrap32 (a0_2)), .int .i32 (wrap32 (a0_3)), .int .i32 0, .int .i32 0, .int .i32 0, .int .i32 0, .int .i32 0, .int .i64 0, .int .i64 0, .int .i64 0, .int .u32 0, .int .u32 0, .int .i32 0, .int .i32 0]) ?_ 4 _ rfl
       refine blk_put (cs := #[.int .i32 (wrap32 (a0_0)), .int .i32 (wrap32 (a0_1)), .int .i32 (wrap32 (a0_2)), .int .i32 0, .int .i32 0, .int .i32 0, .int .i32 0, .int .i32 0, .int .i32 0, .int .i64 0, .int .i64 0, .int .i64 0, .int .u32 0, .int .u32 0, .int .i32 0, .int .i32 0]) ?_ 3 _ rfl
       refine blk_put (cs := #[.int .i32 (wrap32 (a0_0)), .int .i32 (wrap32 (a0_1)), .int .i32 0, .int .i32 0, .int .i32 0, .int .i32 0, .int .i32 0, .int .i32 0, .int .i32 0, .int .i64 0, .int .i64 0, .int .i64 0, .int .u32 0, .int .u32 0, .int .i32 0, .int .i32 0]) ?_ 2 _ rfl
       refine blk_put (cs := #[.int .i32 (wrap32 (a0_0)), .int .i32 0, .int .i32 0, .int .i32 0, .int .i32 0, .int .i32 0, .int .i32 0, .int .i32 0, .int .i32 0, .int .i64 0, .int .i64 0, .int .i64 0, .int .u32 0, .int .u32 0, .int .i32 0, .int .i32 0]) ?_ 1 _ rfl
       refine blk_put (cs := #[.int .i32 0, .int .i32 0, .int .i32 0, .int .i32 0, .int .i32 0, .int .i32 0, .int .i32 0, .int .i32 0, .int .i32 0, .int .i64 0, .int .i64 0, .int .i64 0, .int .u32 0, .int .u32 0, .int .i32 0, .int .i32 0]) ?_ 0 _ rfl
       exact BK117.out
     have D7 : Below w.heap.size w W7 := by
       rw [← hW7]
       iterate 16 refine below_set ?_ GE117.out
       exact HB.out
     clear hW7
     try clear hcz20_0
     try clear hcz20_1
     try clear hcz20_2
     try clear hcz20_3
     try clear hcz20_4
     try clear hcz20_5
     try clear hcz20_6
     try clear hcz20_7
     try clear hcz20_8
     try clear hcz20_9
     try clear hfz20_0
     try clear hfz20_1
     try clear hfz20_2
     try clear hfz20_3
     try clear hfz20_4
     try clear hfz20_5
     try clear hfz20_6
     try clear hfz20_7
     try clear hfz20_8
     try clear hfz20_9
     try clear hcz21_0
     try clear hcz21_1
     try clear hcz21_2
     try clear hcz21_3
     try clear hcz21_4
     try clear hcz21_5
     try clear hcz21_6
     try clear hcz21_7
     try clear hcz21_8
     try clear hcz21_9
     try clear hcz21_10
     try clear hcz21_11
     try clear hcz21_12
     try clear hcz21_13
     try clear hcz21_14
     try clear hcz21_15
     try clear hfz21_0
     try clear hfz21_1
     try clear hfz21_2
     try clear hfz21_3
     try clear hfz21_4
     try clear hfz21_5
     try clear hfz21_6
     try clear hfz21_7
     try clear hfz21_8
     try clear hfz21_9
     try clear hfz21_10
     try clear hfz21_11
     try clear hfz21_12
     try clear hfz21_13
     try clear hfz21_14
     try clear hfz21_15
     have hc7_4 : W7.cell? ⟨gb117, 4, none⟩ = some (.int .i32 (wrap32 (a0_4))) := (blk_cell B7 4).trans rfl
     have hf7_4 := blk_frozen B7 4
     have hc7_5 : W7.cell? ⟨gb117, 5, none⟩ = some (.int .i32 0) := (blk_cell B7 5).trans rfl
     have hf7_5 := blk_frozen B7 5
     have hc7_6 : W7.cell? ⟨gb117, 6, none⟩ = some (.int .i32 0) := (blk_cell B7 6).trans rfl
     have hf7_6 := blk_frozen B7 6
     go_upto_region 11 with (fail)
     generalize hW8 : World.setCell _ _ _ = W8
     have B8 : W8.heap[gb117]? = some (.cells #[.int .i32 (wrap32 (a0_0)), .int .i32 (wrap32 (a0_1)), .int .i32 (wrap32 (a0_2)), .int .i32 (wrap32 (a0_3)), .int .i32 (wrap32 (a0_4)), .int .i32 (wrap32 (a0_4)), .int .i32 0, .int .i32 (wrap32 (a0_5)), .int .i32 (wrap32 (a0_6)), .int .i64 a0_7, .int .i64 a0_8, .int .i64 a0_9, .int .u32 0, .int .u32 0, .int .i32 0, .int .i32 0] 86 (0, 0)) := by
       rw [← hW8]
       exact blk_put (cs := #[.int .i32 (wrap32 (a0_0)), .int .i32 (wrap32 (a0_1)), .int .i32 (wrap32 (a0_2)), .int .i32 (wrap32 (a0_3)), .int .i32 (wrap32 (a0_4)), .int .i32 0, .int .i32 0, .int .i32 (wrap32 (a0_5)), .int .i32 (wrap32 (a0_6)), .int .i64 a0_7, .int .i64 a0_8, .int .i64 a0_9, .int .u32 0, .int .u32 0, .int .i32 0, .int .i32 0]) B7 5 _ rfl
     have D8 : Below w.heap.size w W8 := by
       rw [← hW8]
       exact below_set D7 GE117.out
     clear hW8
     clear hc7_4 hf7_4
     clear hc7_5 hf7_5
     clear hc7_6 hf7_6
     have hc8_0 : W8.cell? ⟨gb117, 0, none⟩ = some (.int .i32 (wrap32 (a0_0))) := (blk_cell B8 0).trans rfl
     have hf8_0 := blk_frozen B8 0
     have hc8_1 : W8.cell? ⟨gb117, 1, none⟩ = some (.int .i32 (wrap32 (a0_1))) := (blk_cell B8 1).trans rfl
     have hf8_1 := blk_frozen B8 1
     have hc8_2 : W8.cell? ⟨gb117, 2, none⟩ = some (.int .i32 (wrap32 (a0_2))) := (blk_cell B8 2).trans rfl
     have hf8_2 := blk_frozen B8 2
     have hc8_3 : W8.cell? ⟨gb117, 3, none⟩ = some (.int .i32 (wrap32 (a0_3))) := (blk_cell B8 3).trans rfl
     have hf8_3 := blk_frozen B8 3
     have hc8_4 : W8.cell? ⟨gb117, 4, none⟩ = some (.int .i32 (wrap32 (a0_4))) := (blk_cell B8 4).trans rfl
     have hf8_4 := blk_frozen B8 4
     have hc8_5 : W8.cell? ⟨gb117, 5, none⟩ = some (.int .i32 (wrap32 (a0_4))) := (blk_cell B8 5).trans rfl
     have hf8_5 := blk_frozen B8 5
     have hc8_6 : W8.cell? ⟨gb117, 6, none⟩ = some (.int .i32 0) := (blk_cell B8 6).trans rfl
     have hf8_6 := blk_frozen B8 6
     have hc8_7 : W8.cell? ⟨gb117, 7, none⟩ = some (.int .i32 (wrap32 (a0_5))) := (blk_cell B8 7).trans rfl
     have hf8_7 := blk_frozen B8 7
     have hc8_8 : W8.cell? ⟨gb117, 8, none⟩ = some (.int .i32 (wrap32 (a0_6))) := (blk_cell B8 8).trans rfl
     have hf8_8 := blk_frozen B8 8
     have hc8_9 : W8.cell? ⟨gb117, 9, none⟩ = some (.int .i64 a0_7) := (blk_cell B8 9).trans rfl
     have hf8_9 := blk_frozen B8 9
     have hc8_10 : W8.cell? ⟨gb117, 10, none⟩ = some (.int .i64 a0_8) := (blk_cell B8 10).trans rfl
     have hf8_10 := blk_frozen B8 10
     have hc8_11 : W8.cell? ⟨gb117, 11, none⟩ = some (.int .i64 a0_9) := (blk_cell B8 11).trans rfl
     have hf8_11 := blk_frozen B8 11
     have hc8_12 : W8.cell? ⟨gb117, 12, none⟩ = some (.int .u32 0) := (blk_cell B8 12).trans rfl
     have hf8_12 := blk_frozen B8 12
     have hc8_13 : W8.cell? ⟨gb117, 13, none⟩ = some (.int .u32 0) := (blk_cell B8 13).trans rfl
     have hf8_13 := blk_frozen B8 13
     have hc8_14 : W8.cell? ⟨gb117, 14, none⟩ = some (.int .i32 0) := (blk_cell B8 14).trans rfl
     have hf8_14 := blk_frozen B8 14
     have hc8_15 : W8.cell? ⟨gb117, 15, none⟩ = some (.int .i32 0) := (blk_cell B8 15).trans rfl
     have hf8_15 := blk_frozen B8 15
     go_wp2
     refine bodyPost_ret (results_ct rfl _ _ gb117 86 #[.int .i32 (wrap32 (a0_0)), .int .i32 (wrap32 (a0_1)), .int .i32 (wrap32 (a0_2)), .int .i32 (wrap32 (a0_3)), .int .i32 (wrap32 (a0_4)), .int .i32 (wrap32 (a0_4)), .int .i32 0, .int .i32 (wrap32 (a0_5)), .int .i32 (wrap32 (a0_6)), .int .i64 a0_7, .int .i64 a0_8, .int .i64 a0_9, .int .u32 0, .int .u32 0, .int .i32 0, .int .i32 0] (0, 0) _ rfl (by
       refine blk_put (cs := #[.int .i32 (wrap32 (a0_0)), .int .i32 (wrap32 (a0_1)), .int .i32 (wrap32 (a0_2)), .int .i32 (wrap32 (a0_3)), .int .i32 (wrap32 (a0_4)), .int .i32 (wrap32 (a0_4)), .int .i32 0, .int .i32 (wrap32 (a0_5)), .int .i32 (wrap32 (a0_6)), .int .i64 a0_7, .int .i64 a0_8, .int .i64 a0_9, .int .u32 0, .int .u32 0, .int .i32 0, .int .i32 0]) ?_ 15 _ rfl
       refine blk_put (cs := #[.int .i32 (wrap32 (a0_0)), .int .i32 (wrap32 (a0_1)), .int .i32 (wrap32 (a0_2)), .int .i32 (wrap32 (a0_3)), .int .i32 (wrap32 (a0_4)), .int .i32 (wrap32 (a0_4)), .int .i32 0, .int .i32 (wrap32 (a0_5)), .int .i32 (wrap32 (a0_6)), .int .i64 a0_7, .int .i64 a0_8, .int .i64 a0_9, .int .u32 0, .int .u32 0, .int .i32 0, .int .i32 0]) ?_ 14 _ rfl
       refine blk_put (cs := #[.int .i32 (wrap32 (a0_0)), .int .i32 (wrap32 (a0_1)), .int .i32 (wrap32 (a0_2)), .int .i32 (wrap32 (a0_3)), .int .i32 (wrap32 (a0_4)), .int .i32 (wrap32 (a0_4)), .int .i32 0, .int .i32 (wrap32 (a0_5)), .int .i32 (wrap32 (a0_6)), .int .i64 a0_7, .int .i64 a0_8, .int .i64 a0_9, .int .u32 0, .int .u32 0, .int .i32 0, .int .i32 0]) ?_ 13 _ rfl
       refine blk_put (cs := #[.int .i32 (wrap32 (a0_0)), .int .i32 (wrap32 (a0_1)), .int .i32 (wrap32 (a0_2)), .int .i32 (wrap32 (a0_3)), .int .i32 (wrap32 (a0_4)), .int .i32 (wrap32 (a0_4)), .int .i32 0, .int .i32 (wrap32 (a0_5)), .int .i32 (wrap32 (a0_6)), .int .i64 a0_7, .int .i64 a0_8, .int .i64 a0_9, .int .u32 0, .int .u32 0, .int .i32 0, .int .i32 0]) ?_ 12 _ rfl
       refine blk_put (cs := #[.int .i32 (wrap32 (a0_0)), .int .i32 (wrap32 (a0_1)), .int .i32 (wrap32 (a0_2)), .int .i32 (wrap32 (a0_3)), .int .i32 (wrap32 (a0_4)), .int .i32 (wrap32 (a0_4)), .int .i32 0, .int .i32 (wrap32 (a0_5)), .int .i32 (wrap32 (a0_6)), .int .i64 a0_7, .int .i64 a0_8, .int .i64 a0_9, .int .u32 0, .int .u32 0, .int .i32 0, .int .i32 0]) ?_ 11 _ rfl
       refine blk_put (cs := #[.int .i32 (wrap32 (a0_0)), .int .i32 (wrap32 (a0_1)), .int .i32 (wrap32 (a0_2)), .int .i32 (wrap32 (a0_3)), .int .i32 (wrap32 (a0_4)), .int .i32 (wrap32 (a0_4)), .int .i32 0, .int .i32 (wrap32 (a0_5)), .int .i32 (wrap32 (a0_6)), .int .i64 a0_7, .int .i64 a0_8, .int .i64 a0_9, .int .u32 0, .int .u32 0, .int .i32 0, .int .i32 0]) ?_ 10 _ rfl
       refine blk_put (cs := #[.int .i32 (wrap32 (a0_0)), .int .i32 (wrap32 (a0_1)), .int .i32 (wrap32 (a0_2)), .int .i32 (wrap32 (a0_3)), .int .i32 (wrap32 (a0_4)), .int .i32 (wrap32 (a0_4)), .int .i32 0, .int .i32 (wrap32 (a0_5)), .int .i32 (wrap32 (a0_6)), .int .i64 a0_7, .int .i64 a0_8, .int .i64 a0_9, .int .u32 0, .int .u32 0, .int .i32 0, .int .i32 0]) ?_ 9 _ rfl
       refine blk_put (cs := #[.int .i32 (wrap32 (a0_0)), .int .i32 (wrap32 (a0_1)), .int .i32 (wrap32 (a0_2)), .int .i32 (wrap32 (a0_3)), .int .i32 (wrap32 (a0_4)), .int .i32 (wrap32 (a0_4)), .int .i32 0, .int .i32 (wrap32 (a0_5)), .int .i32 (wrap32 (a0_6)), .int .i64 a0_7, .int .i64 a0_8, .int .i64 a0_9, .int .u32 0, .int .u32 0, .int .i32 0, .int .i32 0]) ?_ 8 _ rfl
       refine blk_put (cs := #[.int .i32 (wrap32 (a0_0)), .int .i32 (wrap32 (a0_1)), .int .i32 (wrap32 (a0_2)), .int .i32 (wrap32 (a0_3)), .int .i32 (wrap32 (a0_4)), .int .i32 (wrap32 (a0_4)), .int .i32 0, .int .i32 (wrap32 (a0_5)), .int .i32 (wrap32 (a0_6)), .int .i64 a0_7, .int .i64 a0_8, .int .i64 a0_9, .int .u32 0, .int .u32 0, .int .i32 0, .int .i32 0]) ?_ 7 _ rfl
       refine blk_put (cs := #[.int .i32 (wrap32 (a0_0)), .int .i32 (wrap32 (a0_1)), .int .i32 (wrap32 (a0_2)), .int .i32 (wrap32 (a0_3)), .int .i32 (wrap32 (a0_4)), .int .i32 (wrap32 (a0_4)), .int .i32 0, .int .i32 (wrap32 (a0_5)), .int .i32 (wrap32 (a0_6)), .int .i64 a0_7, .int .i64 a0_8, .int .i64 a0_9, .int .u32 0, .int .u32 0, .int .i32 0, .int .i32 0]) ?_ 6 _ rfl
       refine blk_put (cs := #[.int .i32 (wrap32 (a0_0)), .int .i32 (wrap32 (a0_1)), .int .i32 (wrap32 (a0_2)), .int .i32 (wrap32 (a0_3)), .int .i32 (wrap32 (a0_4)), .int .i32 (wrap32 (a0_4)), .int .i32 0, .int .i32 (wrap32 (a0_5)), .int .i32 (wrap32 (a0_6)), .int .i64 a0_7, .int .i64 a0_8, .int .i64 a0_9, .int .u32 0, .int .u32 0, .int .i32 0, .int .i32 0]) ?_ 5 _ rfl
       refine blk_put (cs := #[.int .i32 (wrap32 (a0_0)), .int .i32 (wrap32 (a0_1)), .int .i32 (wrap32 (a0_2)), .int .i32 (wrap32 (a0_3)), .int .i32 (wrap32 (a0_4)), .int .i32 (wrap32 (a0_4)), .int .i32 0, .int .i32 (wrap32 (a0_5)), .int .i32 (wrap32 (a0_6)), .int .i64 a0_7, .int .i64 a0_8, .int .i64 a0_9, .int .u32 0, .int .u32 0, .int .i32 0, .int .i32 0]) ?_ 4 _ rfl
       refine blk_put (cs := #[.int .i32 (wrap32 (a0_0)), .int .i32 (wrap32 (a0_1)), .int .i32 (wrap32 (a0_2)), .int .i32 (wrap32 (a0_3)), .int .i32 (wrap32 (a0_4)), .int .i32 (wrap32 (a0_4)), .int .i32 0, .int .i32 (wrap32 (a0_5)), .int .i32 (wrap32 (a0_6)), .int .i64 a0_7, .int .i64 a0_8, .int .i64 a0_9, .int .u32 0, .int .u32 0, .int .i32 0, .int .i32 0]) ?_ 3 _ rfl
       refine blk_put (cs := #[.int .i32 (wrap32 (a0_0)), .int .i32 (wrap32 (a0_1)), .int .i32 (wrap32 (a0_2)), .int .i32 (wrap32 (a0_3)), .int .i32 (wrap32 (a0_4)), .int .i32 (wrap32 (a0_4)), .int .i32 0, .int .i32 (wrap32 (a0_5)), .int .i32 (wrap32 (a0_6)), .int .i64 a0_7, .int .i64 a0_8, .int .i64 a0_9, .int .u32 0, .int .u32 0, .int .i32 0, .int .i32 0]) ?_ 2 _ rfl
       refine blk_put (cs := #[.int .i32 (wrap32 (a0_0)), .int .i32 (wrap32 (a0_1)), .int .i32 (wrap32 (a0_2)), .int .i32 (wrap32 (a0_3)), .int .i32 (wrap32 (a0_4)), .int .i32 (wrap32 (a0_4)), .int .i32 0, .int .i32 (wrap32 (a0_5)), .int .i32 (wrap32 (a0_6)), .int .i64 a0_7, .int .i64 a0_8, .int .i64 a0_9, .int .u32 0, .int .u32 0, .int .i32 0, .int .i32 0]) ?_ 1 _ rfl
       refine blk_put (cs := #[.int .i32 (wrap32 (a0_0)), .int .i32 (wrap32 (a0_1)), .int .i32 (wrap32 (a0_2)), .int .i32 (wrap32 (a0_3)), .int .i32 (wrap32 (a0_4)), .int .i32 (wrap32 (a0_4)), .int .i32 0, .int .i32 (wrap32 (a0_5)), .int .i32 (wrap32 (a0_6)), .int .i64 a0_7, .int .i64 a0_8, .int .i64 a0_9, .int .u32 0, .int .u32 0, .int .i32 0, .int .i32 0]) ?_ 0 _ rfl
       exact B8) Try.underlying86 rfl (by kernel_rfl)) rfl ?_
     refine ⟨rfl, ?_⟩
     iterate 16 refine below_set ?_ GE117.out
     exact D8

/-! ### shaping_Glyph_LeftSideBearing: function 47 -/
def shaping_Glyph_LeftSideBearing.f (a0_0 : Int) (a0_1 : Int) (a0_2 : Int) (a0_3 : Int) (a0_4 : Int) (a0_5 : Int) (a0_6 : Int) (a0_7 : Int) (a0_8 : Int) (a0_9 : Int) (a0_10 : Int) (a0_11 : Int) (a0_12 : Int) (a0_13 : Int) (a0_14 : Int) (a0_15 : Int) : Option (Int) := some a0_2
set_option maxHeartbeats 60000000 in
set_option maxRecDepth 100000 in
theorem shaping_Glyph_LeftSideBearing.calls (a0_0 : Int) (a0_1 : Int) (a0_2 : Int) (a0_3 : Int) (a0_4 : Int) (a0_5 : Int) (a0_6 : Int) (a0_7 : Int) (a0_8 : Int) (a0_9 : Int) (a0_10 : Int) (a0_11 : Int) (a0_12 : Int) (a0_13 : Int) (a0_14 : Int) (a0_15 : Int) (r : Int) (w : World) (h : shaping_Glyph_LeftSideBearing.f a0_0 a0_1 a0_2 a0_3 a0_4 a0_5 a0_6 a0_7 a0_8 a0_9 a0_10 a0_11 a0_12 a0_13 a0_14 a0_15 = some r) :
  Calls Try.prog 47 #[.agg #[.int .i32 a0_0, .int .i32 a0_1, .int .i32 a0_2, .int .i32 a0_3, .int .i32 a0_4, .int .i32 a0_5, .int .i32 a0_6, .int .i32 a0_7, .int .i32 a0_8, .int .i64 a0_9, .int .i64 a0_10, .int .i64 a0_11, .int .u32 a0_12, .int .u32 a0_13, .int .i32 a0_14, .int .i32 a0_15]] w fun e w' => e = .returned (.int .i32 r) ∧ Below w.heap.size w w' := by
 have hu86 := Try.underlying86
 have HB := Aside0.mk (Below.refl w.heap.size w)
 have H : (some a0_2) = some r := h
 clear h
 obtain rfl := Option.some.inj H
 go_enter Try.func47, Try.ntmps47
 go_wp2_with (first | ((with_reducible refine gate_dst (N := 1) rfl ?_); refine box_event ?hg (N := 1) ?hd (cs := #[.int .i32 a0_0, .int .i32 a0_1, .int .i32 a0_2, .int .i32 a0_3, .int .i32 a0_4, .int .i32 a0_5, .int .i32 a0_6, .int .i32 a0_7, .int .i32 a0_8, .int .i64 a0_9, .int .i64 a0_10, .int .i64 a0_11, .int .u32 a0_12, .int .u32 a0_13, .int .i32 a0_14, .int .i32 a0_15]) (t := 86) ?hr ?_; (case hd => rfl); (case hg => rfl); (case hr => first | (go_simp; done) | (go_simp; rfl)); intro gb123 hg w2 hbox hb; have n0_ := Aside0.mk (below_step (by repeat (first | (with_reducible first | exact HB.out | apply below_alloc | apply pw_below_drewN | apply below_drew1) | exact HB.out)) hb); have n1_ := Aside0.mk (hbox); have n2_ := Aside0.mk ((by rw [hg]; exact (below_size (by repeat (first | (with_reducible first | exact HB.out | apply below_alloc | apply pw_below_drewN | apply below_drew1) | exact HB.out))) : w.heap.size ≤ gb123)); have n3_ := Aside0.mk ((by rw [hg]; exact (below_size (by repeat (first | (with_reducible first | exact HB.out | apply below_alloc | apply pw_below_drewN | apply below_drew1) | exact HB.out))) : w.heap.size ≤ gb123)); clear HB; have HB := n0_; have BK123 := n1_; have GW123 := n2_; have GE123 := n3_; clear n0_ n1_ n2_ n3_; clear hb hbox hg; have hcz3_0 : w2.cell? ⟨gb123, 0, none⟩ = some (.int .i32 a0_0) := (blk_cell BK123.out 0).trans rfl; have hcz3_1 : w2.cell? ⟨gb123, 1, none⟩ = some (.int .i32 a0_1) := (blk_cell BK123.out 1).trans rfl; have hcz3_2 : w2.cell? ⟨gb123, 2, none⟩ = some (.int .i32 a0_2) := (blk_cell BK123.out 2).trans rfl; have hcz3_3 : w2.cell? ⟨gb123, 3, none⟩ = some (.int .i32 a0_3) := (blk_cell BK123.out 3).trans rfl; have hcz3_4 : w2.cell? ⟨gb123, 4, none⟩ = some (.int .i32 a0_4) := (blk_cell BK123.out 4).trans rfl; have hcz3_5 : w2.cell? ⟨gb123, 5, none⟩ = some (.int .i32 a0_5) := (blk_cell BK123.out 5).trans rfl; have hcz3_6 : w2.cell? ⟨gb123, 6, none⟩ = some (.int .i32 a0_6) := (blk_cell BK123.out 6).trans rfl; have hcz3_7 : w2.cell? ⟨gb123, 7, none⟩ = some (.int .i32 a0_7) := (blk_cell BK123.out 7).trans rfl; have hcz3_8 : w2.cell? ⟨gb123, 8, none⟩ = some (.int .i32 a0_8) := (blk_cell BK123.out 8).trans rfl; have hcz3_9 : w2.cell? ⟨gb123, 9, none⟩ = some (.int .i64 a0_9) := (blk_cell BK123.out 9).trans rfl; have hcz3_10 : w2.cell? ⟨gb123, 10, none⟩ = some (.int .i64 a0_10) := (blk_cell BK123.out 10).trans rfl; have hcz3_11 : w2.cell? ⟨gb123, 11, none⟩ = some (.int .i64 a0_11) := (blk_cell BK123.out 11).trans rfl; have hcz3_12 : w2.cell? ⟨gb123, 12, none⟩ = some (.int .u32 a0_12) := (blk_cell BK123.out 12).trans rfl; have hcz3_13 : w2.cell? ⟨gb123, 13, none⟩ = some (.int .u32 a0_13) := (blk_cell BK123.out 13).trans rfl; have hcz3_14 : w2.cell? ⟨gb123, 14, none⟩ = some (.int .i32 a0_14) := (blk_cell BK123.out 14).trans rfl; have hcz3_15 : w2.cell? ⟨gb123, 15, none⟩ = some (.int .i32 a0_15) := (blk_cell BK123.out 15).trans rfl; have hfz3_0 := blk_frozen BK123.out 0; have hfz3_1 := blk_frozen BK123.out 1; have hfz3_2 := blk_frozen BK123.out 2; have hfz3_3 := blk_frozen BK123.out 3; have hfz3_4 := blk_frozen BK123.out 4; have hfz3_5 := blk_frozen BK123.out 5; have hfz3_6 := blk_frozen BK123.out 6; have hfz3_7 := blk_frozen BK123.out 7; have hfz3_8 := blk_frozen BK123.out 8; have hfz3_9 := blk_frozen BK123.out 9; have hfz3_10 := blk_frozen BK123.out 10; have hfz3_11 := blk_frozen BK123.out 11; have hfz3_12 := blk_frozen BK123.out 12; have hfz3_13 := blk_frozen BK123.out 13; have hfz3_14 := blk_frozen BK123.out 14; have hfz3_15 := blk_frozen BK123.out 15))
 go_ret
 exact ⟨by first | rfl | (simp [errW_none, errW_some] <;> rfl) | (simp [*, errW_none, errW_some] <;> rfl), by repeat (first | (with_reducible first | exact HB.out | apply below_alloc | apply pw_below_drewN | apply below_drew1 | refine below_set ?_ GE123.out) | exact HB.out)⟩

/-! ### shaping_Glyph_RightSideBearing: function 48 -/
def shaping_Glyph_RightSideBearing.f (a0_0 : Int) (a0_1 : Int) (a0_2 : Int) (a0_3 : Int) (a0_4 : Int) (a0_5 : Int) (a0_6 : Int) (a0_7 : Int) (a0_8 : Int) (a0_9 : Int) (a0_10 : Int) (a0_11 : Int) (a0_12 : Int) (a0_13 : Int) (a0_14 : Int) (a0_15 : Int) : Option (Int) := some (wrap32 ((wrap32 (a0_4 - a0_0)) - a0_2))
set_option maxHeartbeats 60000000 in
set_option maxRecDepth 100000 in
theorem shaping_Glyph_RightSideBearing.calls (a0_0 : Int) (a0_1 : Int) (a0_2 : Int) (a0_3 : Int) (a0_4 : Int) (a0_5 : Int) (a0_6 : Int) (a0_7 : Int) (a0_8 : Int) (a0_9 : Int) (a0_10 : Int) (a0_11 : Int) (a0_12 : Int) (a0_13 : Int) (a0_14 : Int) (a0_15 : Int) (r : Int) (w : World) (h : shaping_Glyph_RightSideBearing.f a0_0 a0_1 a0_2 a0_3 a0_4 a0_5 a0_6 a0_7 a0_8 a0_9 a0_10 a0_11 a0_12 a0_13 a0_14 a0_15 = some r) :
  Calls Try.prog 48 #[.agg #[.int .i32 a0_0, .int .i32 a0_1, .int .i32 a0_2, .int .i32 a0_3, .int .i32 a0_4, .int .i32 a0_5, .int .i32 a0_6, .int .i32 a0_7, .int .i32 a0_8, .int .i64 a0_9, .int .i64 a0_10, .int .i64 a0_11, .int .u32 a0_12, .int .u32 a0_13, .int .i32 a0_14, .int .i32 a0_15]] w fun e w' => e = .returned (.int .i32 r) ∧ Below w.heap.size w w' := by
 have hu86 := Try.underlying86
 have HB := Aside0.mk (Below.refl w.heap.size w)
 have H : (some (wrap32 ((wrap32 (a0_4 - a0_0)) - a0_2))) = some r := h
 clear h
 obtain rfl := Option.some.inj H
 go_enter Try.func48, Try.ntmps48
 go_wp2_with (first | ((with_reducible refine gate_dst (N := 1) rfl ?_); refine box_event ?hg (N := 1) ?hd (cs := #[.int .i32 a0_0, .int .i32 a0_1, .int .i32 a0_2, .int .i32 a0_3, .int .i32 a0_4, .int .i32 a0_5, .int .i32 a0_6, .int .i32 a0_7, .int .i32 a0_8, .int .i64 a0_9, .int .i64 a0_10, .int .i64 a0_11, .int .u32 a0_12, .int .u32 a0_13, .int .i32 a0_14, .int .i32 a0_15]) (t := 86) ?hr ?_; (case hd => rfl); (case hg => rfl); (case hr => first | (go_simp; done) | (go_simp; rfl)); intro gb124 hg w2 hbox hb; have n0_ := Aside0.mk (below_step (by repeat (first | (with_reducible first | exact HB.out | apply below_alloc | apply pw_below_drewN | apply below_drew1) | exact HB.out)) hb); have n1_ := Aside0.mk (hbox); have n2_ := Aside0.mk ((by rw [hg]; exact (below_size (by repeat (first | (with_reducible first | exact HB.out | apply below_alloc | apply pw_below_drewN | apply below_drew1) | exact HB.out))) : w.heap.size ≤ gb124)); have n3_ := Aside0.mk ((by rw [hg]; exact (below_size (by repeat (first | (with_reducible first | exact HB.out | apply below_alloc | apply pw_below_drewN | apply below_drew1) | exact HB.out))) : w.heap.size ≤ gb124)); clear HB; have HB := n0_; have BK124 := n1_; have GW124 := n2_; have GE124 := n3_; clear n0_ n1_ n2_ n3_; clear hb hbox hg; have hcz3_0 : w2.cell? ⟨gb124, 0, none⟩ = some (.int .i32 a0_0) := (blk_cell BK124.out 0).trans rfl; have hcz3_1 : w2.cell? ⟨gb124, 1, none⟩ = some (.int .i32 a0_1) := (blk_cell BK124.out 1).trans rfl; have hcz3_2 : w2.cell? ⟨gb124, 2, none⟩ = some (.int .i32 a0_2) := (blk_cell BK124.out 2).trans rfl; have hcz3_3 : w2.cell? ⟨gb124, 3, none⟩ = some (.int .i32 a0_3) := (blk_cell BK124.out 3).trans rfl; have hcz3_4 : w2.cell? ⟨gb124, 4, none⟩ = some (.int .i32 a0_4) := (blk_cell BK124.out 4).trans rfl; have hcz3_5 : w2.cell? ⟨gb124, 5, none⟩ = some (.int .i32 a0_5) := (blk_cell BK124.out 5).trans rfl; have hcz3_6 : w2.cell? ⟨gb124, 6, none⟩ = some (.int .i32 a0_6) := (blk_cell BK124.out 6).trans rfl; have hcz3_7 : w2.cell? ⟨gb124, 7, none⟩ = some (.int .i32 a0_7) := (blk_cell BK124.out 7).trans rfl; have hcz3_8 : w2.cell? ⟨gb124, 8, none⟩ = some (.int .i32 a0_8) := (blk_cell BK124.out 8).trans rfl; have hcz3_9 : w2.cell? ⟨gb124, 9, none⟩ = some (.int .i64 a0_9) := (blk_cell BK124.out 9).trans rfl; have hcz3_10 : w2.cell? ⟨gb124, 10, none⟩ = some (.int .i64 a0_10) := (blk_cell BK124.out 10).trans rfl; have hcz3_11 : w2.cell? ⟨gb124, 11, none⟩ = some (.int .i64 a0_11) := (blk_cell BK124.out 11).trans rfl; have hcz3_12 : w2.cell? ⟨gb124, 12, none⟩ = some (.int .u32 a0_12) := (blk_cell BK124.out 12).trans rfl; have hcz3_13 : w2.cell? ⟨gb124, 13, none⟩ = some (.int .u32 a0_13) := (blk_cell BK124.out 13).trans rfl; have hcz3_14 : w2.cell? ⟨gb124, 14, none⟩ = some (.int .i32 a0_14) := (blk_cell BK124.out 14).trans rfl; have hcz3_15 : w2.cell? ⟨gb124, 15, none⟩ = some (.int .i32 a0_15) := (blk_cell BK124.out 15).trans rfl; have hfz3_0 := blk_frozen BK124.out 0; have hfz3_1 := blk_frozen BK124.out 1; have hfz3_2 := blk_frozen BK124.out 2; have hfz3_3 := blk_frozen BK124.out 3; have hfz3_4 := blk_frozen BK124.out 4; have hfz3_5 := blk_frozen BK124.out 5; have hfz3_6 := blk_frozen BK124.out 6; have hfz3_7 := blk_frozen BK124.out 7; have hfz3_8 := blk_frozen BK124.out 8; have hfz3_9 := blk_frozen BK124.out 9; have hfz3_10 := blk_frozen BK124.out 10; have hfz3_11 := blk_frozen BK124.out 11; have hfz3_12 := blk_frozen BK124.out 12; have hfz3_13 := blk_frozen BK124.out 13; have hfz3_14 := blk_frozen BK124.out 14; have hfz3_15 := blk_frozen BK124.out 15))
 go_ret
 exact ⟨by first | rfl | (simp [errW_none, errW_some] <;> rfl) | (simp [*, errW_none, errW_some] <;> rfl), by repeat (first | (with_reducible first | exact HB.out | apply below_alloc | apply pw_below_drewN | apply below_drew1 | refine below_set ?_ GE124.out) | exact HB.out)⟩

/-! ### impl_SideBearings: function 22 -/
def impl_SideBearings.f (k : Nat) (a0_0 : Int) (a0_1 : Int) (a0_2 : Int) (a0_3 : Int) (a0_4 : Int) (a0_5 : Int) (a0_6 : Int) (a0_7 : Int) (a0_8 : Int) (a0_9 : Int) : Option (Int × Int) := (impl_outGlyph.f k a0_0 a0_1 a0_2 a0_3 a0_4 a0_5 a0_6 a0_7 a0_8 a0_9 false).bind fun bt126 => (if bt126.2.2.2.2.2.2.2.2.2.2.2.2.2.2.2.2 = true then ((shaping_Glyph_LeftSideBearing.f bt126.1 bt126.2.1 bt126.2.2.1 bt126.2.2.2.1 bt126.2.2.2.2.1 bt126.2.2.2.2.2.1 bt126.2.2.2.2.2.2.1 bt126.2.2.2.2.2.2.2.1 bt126.2.2.2.2.2.2.2.2.1 bt126.2.2.2.2.2.2.2.2.2.1 bt126.2.2.2.2.2.2.2.2.2.2.1 bt126.2.2.2.2.2.2.2.2.2.2.2.1 bt126.2.2.2.2.2.2.2.2.2.2.2.2.1 bt126.2.2.2.2.2.2.2.2.2.2.2.2.2.1 bt126.2.2.2.2.2.2.2.2.2.2.2.2.2.2.1 bt126.2.2.2.2.2.2.2.2.2.2.2.2.2.2.2.1).bind fun t144 => ((shaping_Glyph_RightSideBearing.f bt126.1 bt126.2.1 bt126.2.2.1 bt126.2.2.2.1 bt126.2.2.2.2.1 bt126.2.2.2.2.2.1 bt126.2.2.2.2.2.2.1 bt126.2.2.2.2.2.2.2.1 bt126.2.2.2.2.2.2.2.2.1 bt126.2.2.2.2.2.2.2.2.2.1 bt126.2.2.2.2.2.2.2.2.2.2.1 bt126.2.2.2.2.2.2.2.2.2.2.2.1 bt126.2.2.2.2.2.2.2.2.2.2.2.2.1 bt126.2.2.2.2.2.2.2.2.2.2.2.2.2.1 bt126.2.2.2.2.2.2.2.2.2.2.2.2.2.2.1 bt126.2.2.2.2.2.2.2.2.2.2.2.2.2.2.2.1).bind fun t145 => (some (wrap64 (t144), wrap64 (t145))))) else (some (0, 0)))
theorem impl_SideBearings.mono : ∀ a0 a1 a2 a3 a4 a5 a6 a7 a8 a9 k, LeO (impl_SideBearings.f k a0 a1 a2 a3 a4 a5 a6 a7 a8 a9) (impl_SideBearings.f (k + 1) a0 a1 a2 a3 a4 a5 a6 a7 a8 a9) := by
 intro a0 a1 a2 a3 a4 a5 a6 a7 a8 a9 k
 unfold impl_SideBearings.f
 repeat' first
   | (with_reducible exact impl_outGlyph.mono _ _ _ _ _ _ _ _ _ _ _ _)
   | (with_reducible exact LeO.refl _)
   | (with_reducible exact LeO.none _)
   | (with_reducible refine LeO.ite ?_ ?_)
   | (with_reducible refine LeO.bind ?_ (fun _ => ?_))
   | exact impl_outGlyph.mono _ _ _ _ _ _ _ _ _ _ _ _
   | exact LeO.none _
   | refine LeO.ite ?_ ?_
   | refine LeO.bind ?_ (fun _ => ?_)
def impl_SideBearings.T4 : Bool × List (List Nat × List Nat) := (true, [([], []), ([0], [0]), ([1], [1]), ([], []), ([3, 1], [3]), ([4], [4]), ([2, 4, 0, 1, 2], [2]), ([5, 6, 0, 1, 2, 3, 4, 5, 6], [5])])
def impl_SideBearings.B4 : List Nat := [0, 1, 3, 0, 11, 27, 31, 127]
theorem impl_SideBearings.tab4 : rtab .any (opsOf Try.f22 4) = impl_SideBearings.T4 := by kernel_rfl
theorem impl_SideBearings.bits4 : waitsOk impl_SideBearings.T4.2 impl_SideBearings.B4 = true := by kernel_rfl
set_option maxHeartbeats 60000000 in
set_option maxRecDepth 100000 in
theorem impl_SideBearings.calls (k : Nat) (a0_0 : Int) (a0_1 : Int) (a0_2 : Int) (a0_3 : Int) (a0_4 : Int) (a0_5 : Int) (a0_6 : Int) (a0_7 : Int) (a0_8 : Int) (a0_9 : Int) (r1 : Int) (r2 : Int) (w : World) (h : impl_SideBearings.f k a0_0 a0_1 a0_2 a0_3 a0_4 a0_5 a0_6 a0_7 a0_8 a0_9 = some (r1, r2)) :
  Calls Try.prog 22 #[.agg #[.int .i64 a0_0, .int .i64 a0_1, .int .i64 a0_2, .int .i64 a0_3, .int .i64 a0_4, .int .i64 a0_5, .int .i64 a0_6, .int .i64 a0_7, .int .i64 a0_8, .int .i64 a0_9]] w fun e w' => e = .returned (.tuple #[.int .i64 r1, .int .i64 r2]) ∧ Below w.heap.size w w' := by
 have hu36 := Try.underlying36
 have hu86 := Try.underlying86
 have HB := Aside0.mk (Below.refl w.heap.size w)
 have H : ((impl_outGlyph.f k a0_0 a0_1 a0_2 a0_3 a0_4 a0_5 a0_6 a0_7 a0_8 a0_9 false).bind fun bt126 => (if bt126.2.2.2.2.2.2.2.2.2.2.2.2.2.2.2.2 = true then ((shaping_Glyph_LeftSideBearing.f bt126.1 bt126.2.1 bt126.2.2.1 bt126.2.2.2.1 bt126.2.2.2.2.1 bt126.2.2.2.2.2.1 bt126.2.2.2.2.2.2.1 bt126.2.2.2.2.2.2.2.1 bt126.2.2.2.2.2.2.2.2.1 bt126.2.2.2.2.2.2.2.2.2.1 bt126.2.2.2.2.2.2.2.2.2.2.1 bt126.2.2.2.2.2.2.2.2.2.2.2.1 bt126.2.2.2.2.2.2.2.2.2.2.2.2.1 bt126.2.2.2.2.2.2.2.2.2.2.2.2.2.1 bt126.2.2.2.2.2.2.2.2.2.2.2.2.2.2.1 bt126.2.2.2.2.2.2.2.2.2.2.2.2.2.2.2.1).bind fun t144 => ((shaping_Glyph_RightSideBearing.f bt126.1 bt126.2.1 bt126.2.2.1 bt126.2.2.2.1 bt126.2.2.2.2.1 bt126.2.2.2.2.2.1 bt126.2.2.2.2.2.2.1 bt126.2.2.2.2.2.2.2.1 bt126.2.2.2.2.2.2.2.2.1 bt126.2.2.2.2.2.2.2.2.2.1 bt126.2.2.2.2.2.2.2.2.2.2.1 bt126.2.2.2.2.2.2.2.2.2.2.2.1 bt126.2.2.2.2.2.2.2.2.2.2.2.2.1 bt126.2.2.2.2.2.2.2.2.2.2.2.2.2.1 bt126.2.2.2.2.2.2.2.2.2.2.2.2.2.2.1 bt126.2.2.2.2.2.2.2.2.2.2.2.2.2.2.2.1).bind fun t145 => (some (wrap64 (t144), wrap64 (t145))))) else (some (0, 0)))) = some (r1, r2) := h
 clear h
 replace H := Option.bind_eq_some_iff.mp H
 obtain ⟨⟨t126, t127, t128, t129, t130, t131, t132, t133, t134, t135, t136, t137, t138, t139, t140, t141, t142⟩, A20, H⟩ := H
 replace H : (if t142 = true then ((shaping_Glyph_LeftSideBearing.f t126 t127 t128 t129 t130 t131 t132 t133 t134 t135 t136 t137 t138 t139 t140 t141).bind fun t144 => ((shaping_Glyph_RightSideBearing.f t126 t127 t128 t129 t130 t131 t132 t133 t134 t135 t136 t137 t138 t139 t140 t141).bind fun t145 => (some (wrap64 (t144), wrap64 (t145))))) else (some (0, 0))) = some (r1, r2) := H
 have A2 := Aside0.mk A20
 clear A20
 by_cases c3 : t142 = true
 ·subst c3
  have H1 : ((shaping_Glyph_LeftSideBearing.f t126 t127 t128 t129 t130 t131 t132 t133 t134 t135 t136 t137 t138 t139 t140 t141).bind fun t144 => ((shaping_Glyph_RightSideBearing.f t126 t127 t128 t129 t130 t131 t132 t133 t134 t135 t136 t137 t138 t139 t140 t141).bind fun t145 => (some (wrap64 (t144), wrap64 (t145))))) = some (r1, r2) := by rw [if_pos rfl] at H; exact H
  clear H
  have H := H1
  clear H1
  replace H := Option.bind_eq_some_iff.mp H
  obtain ⟨t144, A40, H⟩ := H
  replace H : ((shaping_Glyph_RightSideBearing.f t126 t127 t128 t129 t130 t131 t132 t133 t134 t135 t136 t137 t138 t139 t140 t141).bind fun t145 => (some (wrap64 (t144), wrap64 (t145)))) = some (r1, r2) := H
  have A4 := Aside0.mk A40
  clear A40
  replace H := Option.bind_eq_some_iff.mp H
  obtain ⟨t145, A50, H⟩ := H
  replace H : (some (wrap64 (t144), wrap64 (t145))) = some (r1, r2) := H
  have A5 := Aside0.mk A50
  clear A50
  simp only [Option.some.injEq, Prod.mk.injEq] at H
  obtain ⟨rfl, rfl⟩ := H
  go_enter Try.func22, Try.ntmps22
  try go_wp2_with (first | ((with_reducible refine gate_dst (N := 1) rfl ?_); refine box_event ?hg (N := 1) ?hd (cs := #[.int .i64 a0_0, .int .i64 a0_1, .int .i64 a0_2, .int .i64 a0_3, .int .i64 a0_4, .int .i64 a0_5, .int .i64 a0_6, .int .i64 a0_7, .int .i64 a0_8, .int .i64 a0_9]) (t := 36) ?hr ?_; (case hd => rfl); (case hg => rfl); (case hr => first | (go_simp; done) | (go_simp; rfl)); intro gb125 hg w6 hbox hb; have n0_ := Aside0.mk (below_step (by repeat (first | (with_reducible first | exact HB.out | apply below_alloc | apply pw_below_drewN | apply below_drew1) | exact HB.out)) hb); have n1_ := Aside0.mk (hbox); have n2_ := Aside0.mk ((by rw [hg]; exact (below_size (by repeat (first | (with_reducible first | exact HB.out | apply below_alloc | apply pw_below_drewN | apply below_drew1) | exact HB.out))) : w.heap.size ≤ gb125)); have n3_ := Aside0.mk ((by rw [hg]; exact (below_size (by repeat (first | (with_reducible first | exact HB.out | apply below_alloc | apply pw_below_drewN | apply below_drew1) | exact HB.out))) : w.heap.size ≤ gb125)); clear HB; have HB := n0_; have BK125 := n1_; have GW125 := n2_; have GE125 := n3_; clear n0_ n1_ n2_ n3_; clear hb hbox hg; have hcz7_0 : w6.cell? ⟨gb125, 0, none⟩ = some (.int .i64 a0_0) := (blk_cell BK125.out 0).trans rfl; have hcz7_1 : w6.cell? ⟨gb125, 1, none⟩ = some (.int .i64 a0_1) := (blk_cell BK125.out 1).trans rfl; have hcz7_2 : w6.cell? ⟨gb125, 2, none⟩ = some (.int .i64 a0_2) := (blk_cell BK125.out 2).trans rfl; have hcz7_3 : w6.cell? ⟨gb125, 3, none⟩ = some (.int .i64 a0_3) := (blk_cell BK125.out 3).trans rfl; have hcz7_4 : w6.cell? ⟨gb125, 4, none⟩ = some (.int .i64 a0_4) := (blk_cell BK125.out 4).trans rfl; have hcz7_5 : w6.cell? ⟨gb125, 5, none⟩ = some (.int .i64 a0_5) := (blk_cell BK125.out 5).trans rfl; have hcz7_6 : w6.cell? ⟨gb125, 6, none⟩ = some (.int .i64 a0_6) := (blk_cell BK125.out 6).trans rfl; have hcz7_7 : w6.cell? ⟨gb125, 7, none⟩ = some (.int .i64 a0_7) := (blk_cell BK125.out 7).trans rfl; have hcz7_8 : w6.cell? ⟨gb125, 8, none⟩ = some (.int .i64 a0_8) := (blk_cell BK125.out 8).trans rfl; have hcz7_9 : w6.cell? ⟨gb125, 9, none⟩ = some (.int .i64 a0_9) := (blk_cell BK125.out 9).trans rfl; have hfz7_0 := blk_frozen BK125.out 0; have hfz7_1 := blk_frozen BK125.out 1; have hfz7_2 := blk_frozen BK125.out 2; have hfz7_3 := blk_frozen BK125.out 3; have hfz7_4 := blk_frozen BK125.out 4; have hfz7_5 := blk_frozen BK125.out 5; have hfz7_6 := blk_frozen BK125.out 6; have hfz7_7 := blk_frozen BK125.out 7; have hfz7_8 := blk_frozen BK125.out 8; have hfz7_9 := blk_frozen BK125.out 9) | ((with_reducible refine gate_callee (f := 46) rfl ?_); refine goesL_ (some 8) rfl rfl Try.func46 (by kernel_rfl) rfl #[.agg #[.int .i64 a0_0, .int .i64 a0_1, .int .i64 a0_2, .int .i64 a0_3, .int .i64 a0_4, .int .i64 a0_5, .int .i64 a0_6, .int .i64 a0_7, .int .i64 a0_8, .int .i64 a0_9], .bool false] rfl (by (try simp only [List.map_toArray, List.map_cons, List.map_nil]); first | done | rfl | (simp only [List.length_drop, List.length_take]; rfl)) ?_; (with_reducible refine (impl_outGlyph.calls k a0_0 a0_1 a0_2 a0_3 a0_4 a0_5 a0_6 a0_7 a0_8 a0_9 false t126 t127 t128 t129 t130 t131 t132 t133 t134 t135 t136 t137 t138 t139 t140 t141 true _ A2.out).mono ?_); rintro e w8 ⟨rfl, hb⟩; refine ⟨_, rfl, ?_⟩; have n0_ := Aside0.mk (blk_below (g := gb125) (o := .cells #[.int .i64 a0_0, .int .i64 a0_1, .int .i64 a0_2, .int .i64 a0_3, .int .i64 a0_4, .int .i64 a0_5, .int .i64 a0_6, .int .i64 a0_7, .int .i64 a0_8, .int .i64 a0_9] 36 (0, 0)) (by (with_reducible repeat (first | refine b1_ ?_ _ | refine b2_ ?_ | refine b3_ ?_ _)); exact BK125.out) hb); have n1_ := Aside0.mk (below_step (by repeat (first | (with_reducible first | exact HB.out | apply below_alloc | apply pw_below_drewN | apply below_drew1 | refine below_set ?_ GE125.out) | exact HB.out)) hb); clear BK125; clear HB; have BK125 := n0_; have HB := n1_; clear n0_ n1_; (try clear hb); (try clear hb2); (try clear hk); (try clear hi)) | ((with_reducible refine gate_dst (N := 4) rfl ?_); refine box_event ?hg (N := 4) ?hd (cs := #[.int .i32 0, .int .i32 0, .int .i32 0, .int .i32 0, .int .i32 0, .int .i32 0, .int .i32 0, .int .i32 0, .int .i32 0, .int .i64 0, .int .i64 0, .int .i64 0, .int .u32 0, .int .u32 0, .int .i32 0, .int .i32 0]) (t := 86) ?hr ?_; (case hd => rfl); (case hg => rfl); (case hr => first | (go_simp; done) | (go_simp; rfl)); intro gb143 hg w9 hbox hb; have n0_ := Aside0.mk (blk_below (g := gb125) (o := .cells #[.int .i64 a0_0, .int .i64 a0_1, .int .i64 a0_2, .int .i64 a0_3, .int .i64 a0_4, .int .i64 a0_5, .int .i64 a0_6, .int .i64 a0_7, .int .i64 a0_8, .int .i64 a0_9] 36 (0, 0)) (by (with_reducible repeat (first | refine b1_ ?_ _ | refine b2_ ?_ | refine b3_ ?_ _)); exact BK125.out) hb); have n1_ := Aside0.mk (below_step (by repeat (first | (with_reducible first | exact HB.out | apply below_alloc | apply pw_below_drewN | apply below_drew1 | refine below_set ?_ GE125.out) | exact HB.out)) hb); have n2_ := Aside0.mk (hbox); have n3_ := Aside0.mk ((by rw [hg]; exact (below_size (by repeat (first | (with_reducible first | exact HB.out | apply below_alloc | apply pw_below_drewN | apply below_drew1 | refine below_set ?_ GE125.out) | exact HB.out))) : w.heap.size ≤ gb143)); have n4_ := Aside0.mk ((by rw [hg]; exact (below_size (by repeat (first | (with_reducible first | exact HB.out | apply below_alloc | apply pw_below_drewN | apply below_drew1 | refine below_set ?_ GE125.out) | exact HB.out))) : w.heap.size ≤ gb143)); have n5_ := Aside0.mk ((by rw [hg]; exact Nat.ne_of_lt (blk_lt (g := gb125) (o := .cells #[.int .i64 a0_0, .int .i64 a0_1, .int .i64 a0_2, .int .i64 a0_3, .int .i64 a0_4, .int .i64 a0_5, .int .i64 a0_6, .int .i64 a0_7, .int .i64 a0_8, .int .i64 a0_9] 36 (0, 0)) (by (with_reducible repeat (first | refine b1_ ?_ _ | refine b2_ ?_ | refine b3_ ?_ _)); exact BK125.out)) : gb125 ≠ gb143)); have n6_ := Aside0.mk ((by rw [hg]; exact Nat.ne_of_gt (blk_lt (g := gb125) (o := .cells #[.int .i64 a0_0, .int .i64 a0_1, .int .i64 a0_2, .int .i64 a0_3, .int .i64 a0_4, .int .i64 a0_5, .int .i64 a0_6, .int .i64 a0_7, .int .i64 a0_8, .int .i64 a0_9] 36 (0, 0)) (by (with_reducible repeat (first | refine b1_ ?_ _ | refine b2_ ?_ | refine b3_ ?_ _)); exact BK125.out)) : gb143 ≠ gb125)); clear BK125; clear HB; have BK125 := n0_; have HB := n1_; have BK143 := n2_; have GW143 := n3_; have GE143 := n4_; have NB125_143 := n5_; have NB143_125 := n6_; clear n0_ n1_ n2_ n3_ n4_ n5_ n6_; clear hb hbox hg; have hnb10 := NB143_125.out; have hnc10 := NB125_143.out; have hcz11_0 : w9.cell? ⟨gb143, 0, none⟩ = some (.int .i32 0) := (blk_cell BK143.out 0).trans rfl; have hcz11_1 : w9.cell? ⟨gb143, 1, none⟩ = some (.int .i32 0) := (blk_cell BK143.out 1).trans rfl; have hcz11_2 : w9.cell? ⟨gb143, 2, none⟩ = some (.int .i32 0) := (blk_cell BK143.out 2).trans rfl; have hcz11_3 : w9.cell? ⟨gb143, 3, none⟩ = some (.int .i32 0) := (blk_cell BK143.out 3).trans rfl; have hcz11_4 : w9.cell? ⟨gb143, 4, none⟩ = some (.int .i32 0) := (blk_cell BK143.out 4).trans rfl; have hcz11_5 : w9.cell? ⟨gb143, 5, none⟩ = some (.int .i32 0) := (blk_cell BK143.out 5).trans rfl; have hcz11_6 : w9.cell? ⟨gb143, 6, none⟩ = some (.int .i32 0) := (blk_cell BK143.out 6).trans rfl; have hcz11_7 : w9.cell? ⟨gb143, 7, none⟩ = some (.int .i32 0) := (blk_cell BK143.out 7).trans rfl; have hcz11_8 : w9.cell? ⟨gb143, 8, none⟩ = some (.int .i32 0) := (blk_cell BK143.out 8).trans rfl; have hcz11_9 : w9.cell? ⟨gb143, 9, none⟩ = some (.int .i64 0) := (blk_cell BK143.out 9).trans rfl; have hcz11_10 : w9.cell? ⟨gb143, 10, none⟩ = some (.int .i64 0) := (blk_cell BK143.out 10).trans rfl; have hcz11_11 : w9.cell? ⟨gb143, 11, none⟩ = some (.int .i64 0) := (blk_cell BK143.out 11).trans rfl; have hcz11_12 : w9.cell? ⟨gb143, 12, none⟩ = some (.int .u32 0) := (blk_cell BK143.out 12).trans rfl; have hcz11_13 : w9.cell? ⟨gb143, 13, none⟩ = some (.int .u32 0) := (blk_cell BK143.out 13).trans rfl; have hcz11_14 : w9.cell? ⟨gb143, 14, none⟩ = some (.int .i32 0) := (blk_cell BK143.out 14).trans rfl; have hcz11_15 : w9.cell? ⟨gb143, 15, none⟩ = some (.int .i32 0) := (blk_cell BK143.out 15).trans rfl; have hfz11_0 := blk_frozen BK143.out 0; have hfz11_1 := blk_frozen BK143.out 1; have hfz11_2 := blk_frozen BK143.out 2; have hfz11_3 := blk_frozen BK143.out 3; have hfz11_4 := blk_frozen BK143.out 4; have hfz11_5 := blk_frozen BK143.out 5; have hfz11_6 := blk_frozen BK143.out 6; have hfz11_7 := blk_frozen BK143.out 7; have hfz11_8 := blk_frozen BK143.out 8; have hfz11_9 := blk_frozen BK143.out 9; have hfz11_10 := blk_frozen BK143.out 10; have hfz11_11 := blk_frozen BK143.out 11; have hfz11_12 := blk_frozen BK143.out 12; have hfz11_13 := blk_frozen BK143.out 13; have hfz11_14 := blk_frozen BK143.out 14; have hfz11_15 := blk_frozen BK143.out 15))
  have n0_ : Aside0 (((((((((((((((((w9.setCell ⟨gb143, 0, none⟩ (.int .i32 t126)).setCell ⟨gb143, 1, none⟩ (.int .i32 t127)).setCell ⟨gb143, 2, none⟩ (.int .i32 t128)).setCell ⟨gb143, 3, none⟩ (.int .i32 t129)).setCell ⟨gb143, 4, none⟩ (.int .i32 t130)).setCell ⟨gb143, 5, none⟩ (.int .i32 t131)).setCell ⟨gb143, 6, none⟩ (.int .i32 t132)).setCell ⟨gb143, 7, none⟩ (.int .i32 t133)).setCell ⟨gb143, 8, none⟩ (.int .i32 t134)).setCell ⟨gb143, 9, none⟩ (.int .i64 t135)).setCell ⟨gb143, 10, none⟩ (.int .i64 t136)).setCell ⟨gb143, 11, none⟩ (.int .i64 t137)).setCell ⟨gb143, 12, none⟩ (.int .u32 t138)).setCell ⟨gb143, 13, none⟩ (.int .u32 t139)).setCell ⟨gb143, 14, none⟩ (.int .i32 t140)).setCell ⟨gb143, 15, none⟩ (.int .i32 t141)).heap[gb125]? = some (.cells #[.int .i64 a0_0, .int .i64 a0_1, .int .i64 a0_2, .int .i64 a0_3, .int .i64 a0_4, .int .i64 a0_5, .int .i64 a0_6, .int .i64 a0_7, .int .i64 a0_8, .int .i64 a0_9] 36 (0, 0))) := ⟨by (with_reducible repeat (first | refine b1_ ?_ _ | refine b2_ ?_ | refine b3_ ?_ _)); refine blk_far ?_ NB125_143.out _; (with_reducible repeat (first | refine b1_ ?_ _ | refine b2_ ?_ | refine b3_ ?_ _)); refine blk_far ?_ NB125_143.out _; (with_reducible repeat (first | refine b1_ ?_ _ | refine b2_ ?_ | refine b3_ ?_ _)); refine blk_far ?_ NB125_143.out _; (with_reducible repeat (first | refine b1_ ?_ _ | refine b2_ ?_ | refine b3_ ?_ _)); refine blk_far ?_ NB125_143.out _; (with_reducible repeat (first | refine b1_ ?_ _ | refine b2_ ?_ | refine b3_ ?_ _)); refine blk_far ?_ NB125_143.out _; (with_reducible repeat (first | refine b1_ ?_ _ | refine b2_ ?_ | refine b3_ ?_ _)); refine blk_far ?_ NB125_143.out _; (with_reducible repeat (first | refine b1_ ?_ _ | refine b2_ ?_ | refine b3_ ?_ _)); refine blk_far ?_ NB125_143.out _; (with_reducible repeat (first | refine b1_ ?_ _ | refine b2_ ?_ | refine b3_ ?_ _)); refine blk_far ?_ NB125_143.out _; (with_reducible repeat (first | refine b1_ ?_ _ | refine b2_ ?_ | refine b3_ ?_ _)); refine blk_far ?_ NB125_143.out _; (with_reducible repeat (first | refine b1_ ?_ _ | refine b2_ ?_ | refine b3_ ?_ _)); refine blk_far ?_ NB125_143.out _; (with_reducible repeat (first | refine b1_ ?_ _ | refine b2_ ?_ | refine b3_ ?_ _)); refine blk_far ?_ NB125_143.out _; (with_reducible repeat (first | refine b1_ ?_ _ | refine b2_ ?_ | refine b3_ ?_ _)); refine blk_far ?_ NB125_143.out _; (with_reducible repeat (first | refine b1_ ?_ _ | refine b2_ ?_ | refine b3_ ?_ _)); refine blk_far ?_ NB125_143.out _; (with_reducible repeat (first | refine b1_ ?_ _ | refine b2_ ?_ | refine b3_ ?_ _)); refine blk_far ?_ NB125_143.out _; (with_reducible repeat (first | refine b1_ ?_ _ | refine b2_ ?_ | refine b3_ ?_ _)); refine blk_far ?_ NB125_143.out _; (with_reducible repeat (first | refine b1_ ?_ _ | refine b2_ ?_ | refine b3_ ?_ _)); refine blk_far ?_ NB125_143.out _; (with_reducible repeat (first | refine b1_ ?_ _ | refine b2_ ?_ | refine b3_ ?_ _)); exact BK125.out⟩
  have n1_ : Aside0 (((((((((((((((((w9.setCell ⟨gb143, 0, none⟩ (.int .i32 t126)).setCell ⟨gb143, 1, none⟩ (.int .i32 t127)).setCell ⟨gb143, 2, none⟩ (.int .i32 t128)).setCell ⟨gb143, 3, none⟩ (.int .i32 t129)).setCell ⟨gb143, 4, none⟩ (.int .i32 t130)).setCell ⟨gb143, 5, none⟩ (.int .i32 t131)).setCell ⟨gb143, 6, none⟩ (.int .i32 t132)).setCell ⟨gb143, 7, none⟩ (.int .i32 t133)).setCell ⟨gb143, 8, none⟩ (.int .i32 t134)).setCell ⟨gb143, 9, none⟩ (.int .i64 t135)).setCell ⟨gb143, 10, none⟩ (.int .i64 t136)).setCell ⟨gb143, 11, none⟩ (.int .i64 t137)).setCell ⟨gb143, 12, none⟩ (.int .u32 t138)).setCell ⟨gb143, 13, none⟩ (.int .u32 t139)).setCell ⟨gb143, 14, none⟩ (.int .i32 t140)).setCell ⟨gb143, 15, none⟩ (.int .i32 t141)).heap[gb143]? = some (.cells #[.int .i32 t126, .int .i32 t127, .int .i32 t128, .int .i32 t129, .int .i32 t130, .int .i32 t131, .int .i32 t132, .int .i32 t133, .int .i32 t134, .int .i64 t135, .int .i64 t136, .int .i64 t137, .int .u32 t138, .int .u32 t139, .int .i32 t140, .int .i32 t141] 86 (0, 0))) := ⟨by (with_reducible repeat (first | refine b1_ ?_ _ | refine b2_ ?_ | refine b3_ ?_ _)); refine blk_put (cs := #[.int .i32 t126, .int .i32 t127, .int .i32 t128, .int .i32 t129, .int .i32 t130, .int .i32 t131, .int .i32 t132, .int .i32 t133, .int .i32 t134, .int .i64 t135, .int .i64 t136, .int .i64 t137, .int .u32 t138, .int .u32 t139, .int .i32 t140, .int .i32 0]) ?_ 15 _ rfl; (with_reducible repeat (first | refine b1_ ?_ _ | refine b2_ ?_ | refine b3_ ?_ _)); refine blk_put (cs := #[.int .i32 t126, .int .i32 t127, .int .i32 t128, .int .i32 t129, .int .i32 t130, .int .i32 t131, .int .i32 t132, .int .i32 t133, .int .i32 t134, .int .i64 t135, .int .i64 t136, .int .i64 t137, .int .u32 t138, .int .u32 t139, .int .i32 0, .int .i32 0]) ?_ 14 _ rfl; (with_reducible repeat (first | refine b1_ ?_ _ | refine b2_ ?_ | refine b3_ ?_ _)); refine blk_put (cs := #[.int .i32 t126, .int .i32 t127, .int .i32 t128, .int .i32 t129, .int .i32 t130, .int .i32 t131, .int .i32 t132, .int .i32 t133, .int .i32 t134, .int .i64 t135, .int .i64 t136, .int .i64 t137, .int .u32 t138, .int .u32 0, .int .i32 0, .int .i32 0]) ?_ 13 _ rfl; (with_reducible repeat (first | refine b1_ ?_ _ | refine b2_ ?_ | refine b3_ ?_ _)); refine blk_put (cs := #[.int .i32 t126, .int .i32 t127, .int .i32 t128, .int .i32 t129, .int .i32 t130, .int .i32 t131, .int .i32 t132, .int .i32 t133, .int .i32 t134, .int .i64 t135, .int .i64 t136, .int .i64 t137, .int .u32 0, .int .u32 0, .int .i32 0, .int .i32 0]) ?_ 12 _ rfl; (with_reducible repeat (first | refine b1_ ?_ _ | refine b2_ ?_ | refine b3_ ?_ _)); refine blk_put (cs := #[.int .i32 t126, .int .i32 t127, .int .i32 t128, .int .i32 t129, .int .i32 t130, .int .i32 t131, .int .i32 t132, .int .i32 t133, .int .i32 t134, .int .i64 t135, .int .i64 t136, .int .i64 0, .int .u32 0, .int .u32 0, .int .i32 0, .int .i32 0]) ?_ 11 _ rfl; (with_reducible repeat (first | refine b1_ ?_ _ | refine b2_ ?_ | refine b3_ ?_ _)); refine blk_put (cs := #[.int .i32 t126, .int .i32 t127, .int .i32 t128, .int .i32 t129, .int .i32 t130, .int .i32 t131, .int .i32 t132, .int .i32 t133, .int .i32 t134, .int .i64 t135, .int .i64 0, .int .i64 0, .int .u32 0, .int .u32 0, .int .i32 0, .int .i32 0]) ?_ 10 _ rfl; (with_reducible repeat (first | refine b1_ ?_ _ | refine b2_ ?_ | refine b3_ ?_ _)); refine blk_put (cs := #[.int .i32 t126, .int .i32 t127, .int .i32 t128, .int .i32 t129, .int .i32 t130, .int .i32 t131, .int .i32 t132, .int .i32 t133, .int .i32 t134, .int .i64 0, .int .i64 0, .int .i64 0, .int .u32 0, .int .u32 0, .int .i32 0, .int .i32 0]) ?_ 9 _ rfl; (with_reducible repeat (first | refine b1_ ?_ _ | refine b2_ ?_ | refine b3_ ?_ _)); refine blk_put (cs := #[.int .i32 t126, .int .i32 t127, .int .i32 t128, .int .i32 t129, .int .i32 t130, .int .i32 t131, .int .i32 t132, .int .i32 t133, .int .i32 0, .int .i64 0, .int .i64 0, .int .i64 0, .int .u32 0, .int .u32 0, .int .i32 0, .int .i32 0]) ?_ 8 _ rfl; (with_reducible repeat (first | refine b1_ ?_ _ | refine b2_ ?_ | refine b3_ ?_ _)); refine blk_put (cs := #[.int .i32 t126, .int .i32 t127, .int .i32 t128, .int .i32 t129, .int .i32 t130, .int .i32 t131, .int .i32 t132, .int .i32 0, .int .i32 0, .int .i64 0, .int .i64 0, .int .i64 0, .int .u32 0, .int .u32 0, .int .i32 0, .int .i32 0]) ?_ 7 _ rfl; (with_reducible repeat (first | refine b1_ ?_ _ | refine b2_ ?_ | refine b3_ ?_ _)); refine blk_put (cs := #[.int .i32 t126, .int .i32 t127, .int .i32 t128, .int .i32 t129, .int .i32 t130, .int .i32 t131, .int .i32 0, .int .i32 0, .int .i32 0, .int .i64 0, .int .i64 0, .int .i64 0, .int .u32 0, .int .u32 0, .int .i32 0, .int .i32 0]) ?_ 6 _ rfl; (with_reducible repeat (first | refine b1_ ?_ _ | refine b2_ ?_ | refine b3_ ?_ _)); refine blk_put (cs := #[.int .i32 t126, .int .i32 t127, .int .i32 t128, .int .i32 t129, .int .i32 t130, .int .i32 0, .int .i32 0, .int .i32 0, .int .i32 0, .int .i64 0, .int .i64 0, .int .i64 0, .int .u32 0, .int .u32 0, .int .i32 0, .int .i32 0]) ?_ 5 _ rfl; (with_reducible repeat (first | refine b1_ ?_ _ | refine b2_ ?_ | refine b3_ ?_ _)); refine blk_put (cs := #[.int .i32 t126, .int .i32 t127, .int .i32 t128, .int .i32 t129, .int .i32 0, .int .i32 0, .int .i32 0, .int .i32 0, .int .i32 0, .int .i64 0, .int .i64 0, .int .i64 0, .int .u32 0, .int .u32 0, .int .i32 0, .int .i32 0]) ?_ 4 _ rfl; (with_reducible repeat (first | refine b1_ ?_ _ | refine b2_ ?_ | refine b3_ ?_ _)); refine blk_put (cs := #[.int .i32 t126, .int .i32 t127, .int .i32 t128, .int .i32 0, .int .i32 0, .int .i32 0, .int .i32 0, .int .i32 0, .int .i32 0, .int .i64 0, .int .i64 0, .int .i64 0, .int .u32 0, .int .u32 0, .int .i32 0, .int .i32 0]) ?_ 3 _ rfl; (with_reducible repeat (first | refine b1_ ?_ _ | refine b2_ ?_ | refine b3_ ?_ _)); refine blk_put (cs := #[.int .i32 t126, .int .i32 t127, .int .i32 0, .int .i32 0, .int .i32 0, .int .i32 0, .int .i32 0, .int .i32 0, .int .i32 0, .int .i64 0, .int .i64 0, .int .i64 0, .int .u32 0, .int .u32 0, .int .i32 0, .int .i32 0]) ?_ 2 _ rfl; (with_reducible repeat (first | refine b1_ ?_ _ | refine b2_ ?_ | refine b3_ ?_ _)); refine blk_put (cs := #[.int .i32 t126, .int .i32 0, .int .i32 0, .int .i32 0, .int .i32 0, .int .i32 0, .int .i32 0, .int .i32 0, .int .i32 0, .int .i64 0, .int .i64 0, .int .i64 0, .int .u32 0, .int .u32 0, .int .i32 0, .int .i32 0]) ?_ 1 _ rfl; (with_reducible repeat (first | refine b1_ ?_ _ | refine b2_ ?_ | refine b3_ ?_ _)); refine blk_put (cs := #[.int .i32 0, .int .i32 0, .int .i32 0, .int .i32 0, .int .i32 0, .int .i32 0, .int .i32 0, .int .i32 0, .int .i32 0, .int .i64 0, .int .i64 0, .int .i64 0, .int .u32 0, .int .u32 0, .int .i32 0, .int .i32 0]) ?_ 0 _ rfl; (with_reducible repeat (first | refine b1_ ?_ _ | refine b2_ ?_ | refine b3_ ?_ _)); exact BK143.out⟩
  have n2_ : Aside0 (Below w.heap.size w ((((((((((((((((w9.setCell ⟨gb143, 0, none⟩ (.int .i32 t126)).setCell ⟨gb143, 1, none⟩ (.int .i32 t127)).setCell ⟨gb143, 2, none⟩ (.int .i32 t128)).setCell ⟨gb143, 3, none⟩ (.int .i32 t129)).setCell ⟨gb143, 4, none⟩ (.int .i32 t130)).setCell ⟨gb143, 5, none⟩ (.int .i32 t131)).setCell ⟨gb143, 6, none⟩ (.int .i32 t132)).setCell ⟨gb143, 7, none⟩ (.int .i32 t133)).setCell ⟨gb143, 8, none⟩ (.int .i32 t134)).setCell ⟨gb143, 9, none⟩ (.int .i64 t135)).setCell ⟨gb143, 10, none⟩ (.int .i64 t136)).setCell ⟨gb143, 11, none⟩ (.int .i64 t137)).setCell ⟨gb143, 12, none⟩ (.int .u32 t138)).setCell ⟨gb143, 13, none⟩ (.int .u32 t139)).setCell ⟨gb143, 14, none⟩ (.int .i32 t140)).setCell ⟨gb143, 15, none⟩ (.int .i32 t141))) := ⟨by repeat (first | (with_reducible first | exact HB.out | apply below_alloc | apply pw_below_drewN | apply below_drew1 | refine below_set ?_ GE125.out | refine below_set ?_ GE143.out) | exact HB.out)⟩
  (try clear BK125)
  (try clear BK143)
  (try clear HB)
  generalize ((((((((((((((((w9.setCell ⟨gb143, 0, none⟩ (.int .i32 t126)).setCell ⟨gb143, 1, none⟩ (.int .i32 t127)).setCell ⟨gb143, 2, none⟩ (.int .i32 t128)).setCell ⟨gb143, 3, none⟩ (.int .i32 t129)).setCell ⟨gb143, 4, none⟩ (.int .i32 t130)).setCell ⟨gb143, 5, none⟩ (.int .i32 t131)).setCell ⟨gb143, 6, none⟩ (.int .i32 t132)).setCell ⟨gb143, 7, none⟩ (.int .i32 t133)).setCell ⟨gb143, 8, none⟩ (.int .i32 t134)).setCell ⟨gb143, 9, none⟩ (.int .i64 t135)).setCell ⟨gb143, 10, none⟩ (.int .i64 t136)).setCell ⟨gb143, 11, none⟩ (.int .i64 t137)).setCell ⟨gb143, 12, none⟩ (.int .u32 t138)).setCell ⟨gb143, 13, none⟩ (.int .u32 t139)).setCell ⟨gb143, 14, none⟩ (.int .i32 t140)).setCell ⟨gb143, 15, none⟩ (.int .i32 t141)) = w12 at n0_ n1_ n2_ ⊢
  have BK125 := n0_
  have BK143 := n1_
  have HB := n2_
  clear n0_ n1_ n2_
  have n0_ := Aside0.mk (blk_drew BK125.out)
  have n1_ := Aside0.mk (blk_drew BK143.out)
  have n2_ := Aside0.mk (below_drew1 HB.out)
  clear BK125
  clear BK143
  clear HB
  have BK125 := n0_
  have BK143 := n1_
  have HB := n2_
  clear n0_ n1_ n2_
  refine start_ (n := 8) (S := fun w' => w'.cell? ⟨gb143, 0, none⟩ = some (.int .i32 t126) ∧ w'.cell? ⟨gb143, 1, none⟩ = some (.int .i32 t127) ∧ w'.cell? ⟨gb143, 2, none⟩ = some (.int .i32 t128) ∧ w'.cell? ⟨gb143, 3, none⟩ = some (.int .i32 t129) ∧ w'.cell? ⟨gb143, 4, none⟩ = some (.int .i32 t130) ∧ w'.cell? ⟨gb143, 5, none⟩ = some (.int .i32 t131) ∧ w'.cell? ⟨gb143, 6, none⟩ = some (.int .i32 t132) ∧ w'.cell? ⟨gb143, 7, none⟩ = some (.int .i32 t133) ∧ w'.cell? ⟨gb143, 8, none⟩ = some (.int .i32 t134) ∧ w'.cell? ⟨gb143, 9, none⟩ = some (.int .i64 t135) ∧ w'.cell? ⟨gb143, 10, none⟩ = some (.int .i64 t136) ∧ w'.cell? ⟨gb143, 11, none⟩ = some (.int .i64 t137) ∧ w'.cell? ⟨gb143, 12, none⟩ = some (.int .u32 t138) ∧ w'.cell? ⟨gb143, 13, none⟩ = some (.int .u32 t139) ∧ w'.cell? ⟨gb143, 14, none⟩ = some (.int .i32 t140) ∧ w'.cell? ⟨gb143, 15, none⟩ = some (.int .i32 t141)) (ds := []) #[false, false, false, false, false, false, false, false] (by kernel_rfl) rfl rfl ⟨(blk_cell BK143.out 0).trans rfl, (blk_cell BK143.out 1).trans rfl, (blk_cell BK143.out 2).trans rfl, (blk_cell BK143.out 3).trans rfl, (blk_cell BK143.out 4).trans rfl, (blk_cell BK143.out 5).trans rfl, (blk_cell BK143.out 6).trans rfl, (blk_cell BK143.out 7).trans rfl, (blk_cell BK143.out 8).trans rfl, (blk_cell BK143.out 9).trans rfl, (blk_cell BK143.out 10).trans rfl, (blk_cell BK143.out 11).trans rfl, (blk_cell BK143.out 12).trans rfl, (blk_cell BK143.out 13).trans rfl, (blk_cell BK143.out 14).trans rfl, (blk_cell BK143.out 15).trans rfl⟩ (fun hHeld => ?_); refine with_tabW impl_SideBearings.tab4 impl_SideBearings.bits4 (fun HT_ HW_ => ?_)
  generalize w12.drew = w13 at BK125 BK143 HB hHeld ⊢
  refine take_ (i := 0) (N := some 13) (v := ?_) (a' := ?_) #[true, false, false, false, false, false, false, false] rfl rfl (take_ofW HT_.out HW_.out (by kernel_rfl)) (fun _ _ _ h => h) (Or.inl ⟨by rfl, ?_⟩) hHeld ?_ ?_
  rotate_left
  ·rintro w' ⟨s0, s1, s2, s3, s4, s5, s6, s7, s8, s9, s10, s11, s12, s13, s14, s15⟩
   go_simp
   with_reducible rfl
  rotate_left
  ·simp only [Act.put, L1_, L2_, L3_, i64_w, i32_w]
   rfl
  refine take_ (i := 3) (N := some 16) (v := ?_) (a' := ?_) #[true, false, false, true, false, false, false, false] rfl rfl (take_ofW HT_.out HW_.out (by kernel_rfl)) (fun _ _ _ h => h) (Or.inl ⟨by rfl, ?_⟩) hHeld ?_ ?_
  rotate_left
  ·rintro w' ⟨s0, s1, s2, s3, s4, s5, s6, s7, s8, s9, s10, s11, s12, s13, s14, s15⟩
   go_simp
   with_reducible rfl
  rotate_left
  ·simp only [Act.put, L1_, L2_, L3_, i64_w, i32_w]
   rfl
  refine one_ (i := 1) (N := some 14) #[true, true, false, true, false, false, false, false] rfl rfl (one_of HT_.out (by kernel_rfl)) (by decide) (fun K hK => ?_)
  refine goes_ Try.func47 (by kernel_rfl) rfl #[.agg #[.int .i32 t126, .int .i32 t127, .int .i32 t128, .int .i32 t129, .int .i32 t130, .int .i32 t131, .int .i32 t132, .int .i32 t133, .int .i32 t134, .int .i64 t135, .int .i64 t136, .int .i64 t137, .int .u32 t138, .int .u32 t139, .int .i32 t140, .int .i32 t141]] (by rfl) rfl rfl (by (try simp only [List.map_toArray, List.map_cons, List.map_nil]); first | done | rfl | (simp only [List.length_drop, List.length_take]; rfl)) ?_
  with_reducible refine (shaping_Glyph_LeftSideBearing.calls t126 t127 t128 t129 t130 t131 t132 t133 t134 t135 t136 t137 t138 t139 t140 t141 t144 _ A4.out).mono ?_
  rintro e w14 ⟨rfl, hb⟩
  refine ⟨_, rfl, ?_⟩
  have n0_ := Aside0.mk (blk_below (g := gb125) (o := .cells #[.int .i64 a0_0, .int .i64 a0_1, .int .i64 a0_2, .int .i64 a0_3, .int .i64 a0_4, .int .i64 a0_5, .int .i64 a0_6, .int .i64 a0_7, .int .i64 a0_8, .int .i64 a0_9] 36 (0, 0)) (by (with_reducible repeat (first | refine b1_ ?_ _ | refine b2_ ?_ | refine b3_ ?_ _)); exact BK125.out) hb)
  have n1_ := Aside0.mk (blk_below (g := gb143) (o := .cells #[.int .i32 t126, .int .i32 t127, .int .i32 t128, .int .i32 t129, .int .i32 t130, .int .i32 t131, .int .i32 t132, .int .i32 t133, .int .i32 t134, .int .i64 t135, .int .i64 t136, .int .i64 t137, .int .u32 t138, .int .u32 t139, .int .i32 t140, .int .i32 t141] 86 (0, 0)) (by (with_reducible repeat (first | refine b1_ ?_ _ | refine b2_ ?_ | refine b3_ ?_ _)); exact BK143.out) hb)
  have n2_ := Aside0.mk (below_step (by repeat (first | (with_reducible first | exact HB.out | apply below_alloc | apply pw_below_drewN | apply below_drew1 | refine below_set ?_ GE125.out | refine below_set ?_ GE143.out) | exact HB.out)) hb)
  clear BK125
  clear BK143
  clear HB
  have BK125 := n0_
  have BK143 := n1_
  have HB := n2_
  clear n0_ n1_ n2_
  (try clear hb)
  (try clear hb2)
  (try clear hk)
  (try clear hi)
  refine hK.out _ _ ⟨(blk_cell BK143.out 0).trans rfl, (blk_cell BK143.out 1).trans rfl, (blk_cell BK143.out 2).trans rfl, (blk_cell BK143.out 3).trans rfl, (blk_cell BK143.out 4).trans rfl, (blk_cell BK143.out 5).trans rfl, (blk_cell BK143.out 6).trans rfl, (blk_cell BK143.out 7).trans rfl, (blk_cell BK143.out 8).trans rfl, (blk_cell BK143.out 9).trans rfl, (blk_cell BK143.out 10).trans rfl, (blk_cell BK143.out 11).trans rfl, (blk_cell BK143.out 12).trans rfl, (blk_cell BK143.out 13).trans rfl, (blk_cell BK143.out 14).trans rfl, (blk_cell BK143.out 15).trans rfl⟩ (fun hHeld => ?_)
  clear hK K
  refine norm_ (a' := ?_) ?_ ?_
  rotate_left
  ·show Act.put _ (some 14) _ = _
   simp only [Act.put, L1_, L2_, L3_, i64_w, i32_w]
   rfl
  refine pure_ (i := 2) (N := some 15) (v := ?_) (a' := ?_) #[true, true, true, true, false, false, false, false] rfl rfl (any_of HT_.out (by kernel_rfl)) (fun _ _ _ h => h) (Or.inl ⟨by rfl, ?_⟩) ?_ ?_
  rotate_left
  ·intro w'
   go_simp
   with_reducible rfl
  rotate_left
  ·(try go_ints); (try simp (disch := omega) only [n3_]); simp only [Act.put, L1_, L2_, L3_, i64_w, i32_w]
   rfl
  refine one_ (i := 4) (N := some 17) #[true, true, true, true, true, false, false, false] rfl rfl (one_of HT_.out (by kernel_rfl)) (by decide) (fun K hK => ?_)
  refine goes_ Try.func48 (by kernel_rfl) rfl #[.agg #[.int .i32 t126, .int .i32 t127, .int .i32 t128, .int .i32 t129, .int .i32 t130, .int .i32 t131, .int .i32 t132, .int .i32 t133, .int .i32 t134, .int .i64 t135, .int .i64 t136, .int .i64 t137, .int .u32 t138, .int .u32 t139, .int .i32 t140, .int .i32 t141]] (by rfl) rfl rfl (by (try simp only [List.map_toArray, List.map_cons, List.map_nil]); first | done | rfl | (simp only [List.length_drop, List.length_take]; rfl)) ?_
  with_reducible refine (shaping_Glyph_RightSideBearing.calls t126 t127 t128 t129 t130 t131 t132 t133 t134 t135 t136 t137 t138 t139 t140 t141 t145 _ A5.out).mono ?_
  rintro e w15 ⟨rfl, hb⟩
  refine ⟨_, rfl, ?_⟩
  have n0_ := Aside0.mk (blk_below (g := gb125) (o := .cells #[.int .i64 a0_0, .int .i64 a0_1, .int .i64 a0_2, .int .i64 a0_3, .int .i64 a0_4, .int .i64 a0_5, .int .i64 a0_6, .int .i64 a0_7, .int .i64 a0_8, .int .i64 a0_9] 36 (0, 0)) (by (with_reducible repeat (first | refine b1_ ?_ _ | refine b2_ ?_ | refine b3_ ?_ _)); exact BK125.out) hb)
  have n1_ := Aside0.mk (blk_below (g := gb143) (o := .cells #[.int .i32 t126, .int .i32 t127, .int .i32 t128, .int .i32 t129, .int .i32 t130, .int .i32 t131, .int .i32 t132, .int .i32 t133, .int .i32 t134, .int .i64 t135, .int .i64 t136, .int .i64 t137, .int .u32 t138, .int .u32 t139, .int .i32 t140, .int .i32 t141] 86 (0, 0)) (by (with_reducible repeat (first | refine b1_ ?_ _ | refine b2_ ?_ | refine b3_ ?_ _)); exact BK143.out) hb)
  have n2_ := Aside0.mk (below_step (by repeat (first | (with_reducible first | exact HB.out | apply below_alloc | apply pw_below_drewN | apply below_drew1 | refine below_set ?_ GE125.out | refine below_set ?_ GE143.out) | exact HB.out)) hb)
  clear BK125
  clear BK143
  clear HB
  have BK125 := n0_
  have BK143 := n1_
  have HB := n2_
  clear n0_ n1_ n2_
  (try clear hb)
  (try clear hb2)
  (try clear hk)
  (try clear hi)
  refine hK.out _ _ ⟨(blk_cell BK143.out 0).trans rfl, (blk_cell BK143.out 1).trans rfl, (blk_cell BK143.out 2).trans rfl, (blk_cell BK143.out 3).trans rfl, (blk_cell BK143.out 4).trans rfl, (blk_cell BK143.out 5).trans rfl, (blk_cell BK143.out 6).trans rfl, (blk_cell BK143.out 7).trans rfl, (blk_cell BK143.out 8).trans rfl, (blk_cell BK143.out 9).trans rfl, (blk_cell BK143.out 10).trans rfl, (blk_cell BK143.out 11).trans rfl, (blk_cell BK143.out 12).trans rfl, (blk_cell BK143.out 13).trans rfl, (blk_cell BK143.out 14).trans rfl, (blk_cell BK143.out 15).trans rfl⟩ (fun hHeld => ?_)
  clear hK K
  refine norm_ (a' := ?_) ?_ ?_
  rotate_left
  ·show Act.put _ (some 17) _ = _
   simp only [Act.put, L1_, L2_, L3_, i64_w, i32_w]
   rfl
  refine pure_ (i := 5) (N := some 18) (v := ?_) (a' := ?_) #[true, true, true, true, true, true, false, false] rfl rfl (any_of HT_.out (by kernel_rfl)) (fun _ _ _ h => h) (Or.inl ⟨by rfl, ?_⟩) ?_ ?_
  rotate_left
  ·intro w'
   go_simp
   with_reducible rfl
  rotate_left
  ·(try go_ints); (try simp (disch := omega) only [n3_]); simp only [Act.put, L1_, L2_, L3_, i64_w, i32_w]
   rfl
  refine pure_ (i := 6) (N := some 2) (v := ?_) (a' := ?_) #[true, true, true, true, true, true, true, false] rfl rfl (any_of HT_.out (by kernel_rfl)) (fun _ _ _ h => h) (Or.inl ⟨by rfl, ?_⟩) ?_ ?_
  rotate_left
  ·intro w'
   go_simp
   with_reducible rfl
  rotate_left
  ·simp only [Act.put, L1_, L2_, L3_, i64_w, i32_w]
   rfl
  refine pure_ (i := 7) (N := some 3) (v := ?_) (a' := ?_) #[true, true, true, true, true, true, true, true] rfl rfl (any_of HT_.out (by kernel_rfl)) (fun _ _ _ h => h) (Or.inl ⟨by rfl, ?_⟩) ?_ ?_
  rotate_left
  ·intro w'
   go_simp
   with_reducible rfl
  rotate_left
  ·simp only [Act.put, L1_, L2_, L3_, i64_w, i32_w]
   rfl
  refine done_ (done_of HT_.out (by kernel_rfl)) ?_
  try go_wp2
  go_ret2
  exact ⟨by first | rfl | (simp [errW_none, errW_some] <;> rfl) | (simp [*, errW_none, errW_some] <;> rfl), by repeat (first | (with_reducible first | exact HB.out | apply below_alloc | apply pw_below_drewN | apply below_drew1 | refine below_set ?_ GE125.out | refine below_set ?_ GE143.out) | exact HB.out)⟩
 ·replace c3 := Bool.eq_false_iff.mpr c3
  subst c3
  have H1 : (some (0, 0)) = some (r1, r2) := by rw [if_neg (show ¬ (false = true) by decide)] at H; exact H
  clear H
  have H := H1
  clear H1
  simp only [Option.some.injEq, Prod.mk.injEq] at H
  obtain ⟨rfl, rfl⟩ := H
  go_enter Try.func22, Try.ntmps22
  go_wp2_with (first | ((with_reducible refine gate_dst (N := 1) rfl ?_); refine box_event ?hg (N := 1) ?hd (cs := #[.int .i64 a0_0, .int .i64 a0_1, .int .i64 a0_2, .int .i64 a0_3, .int .i64 a0_4, .int .i64 a0_5, .int .i64 a0_6, .int .i64 a0_7, .int .i64 a0_8, .int .i64 a0_9]) (t := 36) ?hr ?_; (case hd => rfl); (case hg => rfl); (case hr => first | (go_simp; done) | (go_simp; rfl)); intro gb125 hg w16 hbox hb; have n0_ := Aside0.mk (below_step (by repeat (first | (with_reducible first | exact HB.out | apply below_alloc | apply pw_below_drewN | apply below_drew1) | exact HB.out)) hb); have n1_ := Aside0.mk (hbox); have n2_ := Aside0.mk ((by rw [hg]; exact (below_size (by repeat (first | (with_reducible first | exact HB.out | apply below_alloc | apply pw_below_drewN | apply below_drew1) | exact HB.out))) : w.heap.size ≤ gb125)); have n3_ := Aside0.mk ((by rw [hg]; exact (below_size (by repeat (first | (with_reducible first | exact HB.out | apply below_alloc | apply pw_below_drewN | apply below_drew1) | exact HB.out))) : w.heap.size ≤ gb125)); clear HB; have HB := n0_; have BK125 := n1_; have GW125 := n2_; have GE125 := n3_; clear n0_ n1_ n2_ n3_; clear hb hbox hg; have hcz17_0 : w16.cell? ⟨gb125, 0, none⟩ = some (.int .i64 a0_0) := (blk_cell BK125.out 0).trans rfl; have hcz17_1 : w16.cell? ⟨gb125, 1, none⟩ = some (.int .i64 a0_1) := (blk_cell BK125.out 1).trans rfl; have hcz17_2 : w16.cell? ⟨gb125, 2, none⟩ = some (.int .i64 a0_2) := (blk_cell BK125.out 2).trans rfl; have hcz17_3 : w16.cell? ⟨gb125, 3, none⟩ = some (.int .i64 a0_3) := (blk_cell BK125.out 3).trans rfl; have hcz17_4 : w16.cell? ⟨gb125, 4, none⟩ = some (.int .i64 a0_4) := (blk_cell BK125.out 4).trans rfl; have hcz17_5 : w16.cell? ⟨gb125, 5, none⟩ = some (.int .i64 a0_5) := (blk_cell BK125.out 5).trans rfl; have hcz17_6 : w16.cell? ⟨gb125, 6, none⟩ = some (.int .i64 a0_6) := (blk_cell BK125.out 6).trans rfl; have hcz17_7 : w16.cell? ⟨gb125, 7, none⟩ = some (.int .i64 a0_7) := (blk_cell BK125.out 7).trans rfl; have hcz17_8 : w16.cell? ⟨gb125, 8, none⟩ = some (.int .i64 a0_8) := (blk_cell BK125.out 8).trans rfl; have hcz17_9 : w16.cell? ⟨gb125, 9, none⟩ = some (.int .i64 a0_9) := (blk_cell BK125.out 9).trans rfl; have hfz17_0 := blk_frozen BK125.out 0; have hfz17_1 := blk_frozen BK125.out 1; have hfz17_2 := blk_frozen BK125.out 2; have hfz17_3 := blk_frozen BK125.out 3; have hfz17_4 := blk_frozen BK125.out 4; have hfz17_5 := blk_frozen BK125.out 5; have hfz17_6 := blk_frozen BK125.out 6; have hfz17_7 := blk_frozen BK125.out 7; have hfz17_8 := blk_frozen BK125.out 8; have hfz17_9 := blk_frozen BK125.out 9) | ((with_reducible refine gate_callee (f := 46) rfl ?_); refine goesL_ (some 8) rfl rfl Try.func46 (by kernel_rfl) rfl #[.agg #[.int .i64 a0_0, .int .i64 a0_1, .int .i64 a0_2, .int .i64 a0_3, .int .i64 a0_4, .int .i64 a0_5, .int .i64 a0_6, .int .i64 a0_7, .int .i64 a0_8, .int .i64 a0_9], .bool false] rfl (by (try simp only [List.map_toArray, List.map_cons, List.map_nil]); first | done | rfl | (simp only [List.length_drop, List.length_take]; rfl)) ?_; (with_reducible refine (impl_outGlyph.calls k a0_0 a0_1 a0_2 a0_3 a0_4 a0_5 a0_6 a0_7 a0_8 a0_9 false t126 t127 t128 t129 t130 t131 t132 t133 t134 t135 t136 t137 t138 t139 t140 t141 false _ A2.out).mono ?_); rintro e w18 ⟨rfl, hb⟩; refine ⟨_, rfl, ?_⟩; have n0_ := Aside0.mk (blk_below (g := gb125) (o := .cells #[.int .i64 a0_0, .int .i64 a0_1, .int .i64 a0_2, .int .i64 a0_3, .int .i64 a0_4, .int .i64 a0_5, .int .i64 a0_6, .int .i64 a0_7, .int .i64 a0_8, .int .i64 a0_9] 36 (0, 0)) (by (with_reducible repeat (first | refine b1_ ?_ _ | refine b2_ ?_ | refine b3_ ?_ _)); exact BK125.out) hb); have n1_ := Aside0.mk (below_step (by repeat (first | (with_reducible first | exact HB.out | apply below_alloc | apply pw_below_drewN | apply below_drew1 | refine below_set ?_ GE125.out) | exact HB.out)) hb); clear BK125; clear HB; have BK125 := n0_; have HB := n1_; clear n0_ n1_; (try clear hb); (try clear hb2); (try clear hk); (try clear hi)) | ((with_reducible refine gate_dst (N := 4) rfl ?_); refine box_event ?hg (N := 4) ?hd (cs := #[.int .i32 0, .int .i32 0, .int .i32 0, .int .i32 0, .int .i32 0, .int .i32 0, .int .i32 0, .int .i32 0, .int .i32 0, .int .i64 0, .int .i64 0, .int .i64 0, .int .u32 0, .int .u32 0, .int .i32 0, .int .i32 0]) (t := 86) ?hr ?_; (case hd => rfl); (case hg => rfl); (case hr => first | (go_simp; done) | (go_simp; rfl)); intro gb143 hg w19 hbox hb; have n0_ := Aside0.mk (blk_below (g := gb125) (o := .cells #[.int .i64 a0_0, .int .i64 a0_1, .int .i64 a0_2, .int .i64 a0_3, .int .i64 a0_4, .int .i64 a0_5, .int .i64 a0_6, .int .i64 a0_7, .int .i64 a0_8, .int .i64 a0_9] 36 (0, 0)) (by (with_reducible repeat (first | refine b1_ ?_ _ | refine b2_ ?_ | refine b3_ ?_ _)); exact BK125.out) hb); have n1_ := Aside0.mk (below_step (by repeat (first | (with_reducible first | exact HB.out | apply below_alloc | apply pw_below_drewN | apply below_drew1 | refine below_set ?_ GE125.out) | exact HB.out)) hb); have n2_ := Aside0.mk (hbox); have n3_ := Aside0.mk ((by rw [hg]; exact (below_size (by repeat (first | (with_reducible first | exact HB.out | apply below_alloc | apply pw_below_drewN | apply below_drew1 | refine below_set ?_ GE125.out) | exact HB.out))) : w.heap.size ≤ gb143)); have n4_ := Aside0.mk ((by rw [hg]; exact (below_size (by repeat (first | (with_reducible first | exact HB.out | apply below_alloc | apply pw_below_drewN | apply below_drew1 | refine below_set ?_ GE125.out) | exact HB.out))) : w.heap.size ≤ gb143)); have n5_ := Aside0.mk ((by rw [hg]; exact Nat.ne_of_lt (blk_lt (g := gb125) (o := .cells #[.int .i64 a0_0, .int .i64 a0_1, .int .i64 a0_2, .int .i64 a0_3, .int .i64 a0_4, .int .i64 a0_5, .int .i64 a0_6, .int .i64 a0_7, .int .i64 a0_8, .int .i64 a0_9] 36 (0, 0)) (by (with_reducible repeat (first | refine b1_ ?_ _ | refine b2_ ?_ | refine b3_ ?_ _)); exact BK125.out)) : gb125 ≠ gb143)); have n6_ := Aside0.mk ((by rw [hg]; exact Nat.ne_of_gt (blk_lt (g := gb125) (o := .cells #[.int .i64 a0_0, .int .i64 a0_1, .int .i64 a0_2, .int .i64 a0_3, .int .i64 a0_4, .int .i64 a0_5, .int .i64 a0_6, .int .i64 a0_7, .int .i64 a0_8, .int .i64 a0_9] 36 (0, 0)) (by (with_reducible repeat (first | refine b1_ ?_ _ | refine b2_ ?_ | refine b3_ ?_ _)); exact BK125.out)) : gb143 ≠ gb125)); clear BK125; clear HB; have BK125 := n0_; have HB := n1_; have BK143 := n2_; have GW143 := n3_; have GE143 := n4_; have NB125_143 := n5_; have NB143_125 := n6_; clear n0_ n1_ n2_ n3_ n4_ n5_ n6_; clear hb hbox hg; have hnb20 := NB143_125.out; have hnc20 := NB125_143.out; have hcz21_0 : w19.cell? ⟨gb143, 0, none⟩ = some (.int .i32 0) := (blk_cell BK143.out 0).trans rfl; have hcz21_1 : w19.cell? ⟨gb143, 1, none⟩ = some (.int .i32 0) := (blk_cell BK143.out 1).trans rfl; have hcz21_2 : w19.cell? ⟨gb143, 2, none⟩ = some (.int .i32 0) := (blk_cell BK143.out 2).trans rfl; have hcz21_3 : w19.cell? ⟨gb143, 3, none⟩ = some (.int .i32 0) := (blk_cell BK143.out 3).trans rfl; have hcz21_4 : w19.cell? ⟨gb143, 4, none⟩ = some (.int .i32 0) := (blk_cell BK143.out 4).trans rfl; have hcz21_5 : w19.cell? ⟨gb143, 5, none⟩ = some (.int .i32 0) := (blk_cell BK143.out 5).trans rfl; have hcz21_6 : w19.cell? ⟨gb143, 6, none⟩ = some (.int .i32 0) := (blk_cell BK143.out 6).trans rfl; have hcz21_7 : w19.cell? ⟨gb143, 7, none⟩ = some (.int .i32 0) := (blk_cell BK143.out 7).trans rfl; have hcz21_8 : w19.cell? ⟨gb143, 8, none⟩ = some (.int .i32 0) := (blk_cell BK143.out 8).trans rfl; have hcz21_9 : w19.cell? ⟨gb143, 9, none⟩ = some (.int .i64 0) := (blk_cell BK143.out 9).trans rfl; have hcz21_10 : w19.cell? ⟨gb143, 10, none⟩ = some (.int .i64 0) := (blk_cell BK143.out 10).trans rfl; have hcz21_11 : w19.cell? ⟨gb143, 11, none⟩ = some (.int .i64 0) := (blk_cell BK143.out 11).trans rfl; have hcz21_12 : w19.cell? ⟨gb143, 12, none⟩ = some (.int .u32 0) := (blk_cell BK143.out 12).trans rfl; have hcz21_13 : w19.cell? ⟨gb143, 13, none⟩ = some (.int .u32 0) := (blk_cell BK143.out 13).trans rfl; have hcz21_14 : w19.cell? ⟨gb143, 14, none⟩ = some (.int .i32 0) := (blk_cell BK143.out 14).trans rfl; have hcz21_15 : w19.cell? ⟨gb143, 15, none⟩ = some (.int .i32 0) := (blk_cell BK143.out 15).trans rfl; have hfz21_0 := blk_frozen BK143.out 0; have hfz21_1 := blk_frozen BK143.out 1; have hfz21_2 := blk_frozen BK143.out 2; have hfz21_3 := blk_frozen BK143.out 3; have hfz21_4 := blk_frozen BK143.out 4; have hfz21_5 := blk_frozen BK143.out 5; have hfz21_6 := blk_frozen BK143.out 6; have hfz21_7 := blk_frozen BK143.out 7; have hfz21_8 := blk_frozen BK143.out 8; have hfz21_9 := blk_frozen BK143.out 9; have hfz21_10 := blk_frozen BK143.out 10; have hfz21_11 := blk_frozen BK143.out 11; have hfz21_12 := blk_frozen BK143.out 12; have hfz21_13 := blk_frozen BK143.out 13; have hfz21_14 := blk_frozen BK143.out 14; have hfz21_15 := blk_frozen BK143.out 15))
  go_ret2
  exact ⟨by first | rfl | (simp [errW_none, errW_some] <;> rfl) | (simp [*, errW_none, errW_some] <;> rfl), by repeat (first | (with_reducible first | exact HB.out | apply below_alloc | apply pw_below_drewN | apply below_drew1 | refine below_set ?_ GE125.out | refine below_set ?_ GE143.out) | exact HB.out)⟩

/-! ### laws_FnBearings: function 7 -/
def laws_FnBearings.f (k : Nat) (a0_0 : Int) (a0_1 : Int) (a0_2 : Int) (a0_3 : Int) (a0_4 : Int) (a0_5 : Int) (a0_6 : Int) (a0_7 : Int) (a0_8 : Int) (a0_9 : Int) : Option (Bool) := (laws_someOut.f k (([(⟨a0_0, a0_1, a0_2, a0_3, a0_4, a0_5, a0_6, a0_7, a0_8, a0_9⟩ : S36)] : List (S36))) 0 1).bind fun bt150 => (if 0 < (bt150.2.2.2.2.2.length : Int) then ((impl_SideBearings.f k ((rd_T36 bt150.2.2.2.2.2 0).f0) ((rd_T36 bt150.2.2.2.2.2 0).f1) ((rd_T36 bt150.2.2.2.2.2 0).f2) ((rd_T36 bt150.2.2.2.2.2 0).f3) ((rd_T36 bt150.2.2.2.2.2 0).f4) ((rd_T36 bt150.2.2.2.2.2 0).f5) ((rd_T36 bt150.2.2.2.2.2 0).f6) ((rd_T36 bt150.2.2.2.2.2 0).f7) ((rd_T36 bt150.2.2.2.2.2 0).f8) ((rd_T36 bt150.2.2.2.2.2 0).f9)).bind fun bt160 => (if bt160.1 = ((rd_T36 bt150.2.2.2.2.2 0).f2) then (some ((wrap64 ((wrap64 (bt160.1 + ((rd_T36 bt150.2.2.2.2.2 0).f0))) + bt160.2)) == ((rd_T36 bt150.2.2.2.2.2 0).f4))) else (some false))) else (none))
theorem laws_FnBearings.mono : ∀ a0 a1 a2 a3 a4 a5 a6 a7 a8 a9 k, LeO (laws_FnBearings.f k a0 a1 a2 a3 a4 a5 a6 a7 a8 a9) (laws_FnBearings.f (k + 1) a0 a1 a2 a3 a4 a5 a6 a7 a8 a9) := by
 intro a0 a1 a2 a3 a4 a5 a6 a7 a8 a9 k
 unfold laws_FnBearings.f
 repeat' first
   | (with_reducible exact impl_SideBearings.mono _ _ _ _ _ _ _ _ _ _ _)
   | (with_reducible exact laws_someOut.mono _ _ _ _)
   | (with_reducible exact LeO.refl _)
   | (with_reducible exact LeO.none _)
   | (with_reducible refine LeO.ite ?_ ?_)
   | (with_reducible refine LeO.bind ?_ (fun _ => ?_))
   | exact impl_SideBearings.mono _ _ _ _ _ _ _ _ _ _ _
   | exact laws_someOut.mono _ _ _ _
   | exact LeO.none _
   | refine LeO.ite ?_ ?_
   | refine LeO.bind ?_ (fun _ => ?_)
set_option maxHeartbeats 60000000 in
set_option maxRecDepth 100000 in
theorem laws_FnBearings.calls (k : Nat) (a0_0 : Int) (a0_1 : Int) (a0_2 : Int) (a0_3 : Int) (a0_4 : Int) (a0_5 : Int) (a0_6 : Int) (a0_7 : Int) (a0_8 : Int) (a0_9 : Int) (r : Bool) (w : World) (h : laws_FnBearings.f k a0_0 a0_1 a0_2 a0_3 a0_4 a0_5 a0_6 a0_7 a0_8 a0_9 = some r) :
  Calls Try.prog 7 #[.agg #[.int .i64 a0_0, .int .i64 a0_1, .int .i64 a0_2, .int .i64 a0_3, .int .i64 a0_4, .int .i64 a0_5, .int .i64 a0_6, .int .i64 a0_7, .int .i64 a0_8, .int .i64 a0_9]] w fun e w' => e = .returned (.bool r) ∧ Below w.heap.size w w' := by
 have hu36 := Try.underlying36
 have hfd39_5 : ∀ (x0_ x1_ x2_ x3_ x4_ x5_ : Value) (W : World), (Instr.field 39 (.agg #[x0_, x1_, x2_, x3_, x4_, x5_]) 5).run Try.prog W = .ok (x5_) W := fun x0_ x1_ x2_ x3_ x4_ x5_ W => by kernel_rfl
 have HB := Aside0.mk (Below.refl w.heap.size w)
 have H : ((laws_someOut.f k (([(⟨a0_0, a0_1, a0_2, a0_3, a0_4, a0_5, a0_6, a0_7, a0_8, a0_9⟩ : S36)] : List (S36))) 0 1).bind fun bt150 => (if 0 < (bt150.2.2.2.2.2.length : Int) then ((impl_SideBearings.f k ((rd_T36 bt150.2.2.2.2.2 0).f0) ((rd_T36 bt150.2.2.2.2.2 0).f1) ((rd_T36 bt150.2.2.2.2.2 0).f2) ((rd_T36 bt150.2.2.2.2.2 0).f3) ((rd_T36 bt150.2.2.2.2.2 0).f4) ((rd_T36 bt150.2.2.2.2.2 0).f5) ((rd_T36 bt150.2.2.2.2.2 0).f6) ((rd_T36 bt150.2.2.2.2.2 0).f7) ((rd_T36 bt150.2.2.2.2.2 0).f8) ((rd_T36 bt150.2.2.2.2.2 0).f9)).bind fun bt160 => (if bt160.1 = ((rd_T36 bt150.2.2.2.2.2 0).f2) then (some ((wrap64 ((wrap64 (bt160.1 + ((rd_T36 bt150.2.2.2.2.2 0).f0))) + bt160.2)) == ((rd_T36 bt150.2.2.2.2.2 0).f4))) else (some false))) else (none))) = some r := h
 clear h
 obtain ⟨y147, hy147⟩ : ∃ y_ : List (S36), y_ = (([(⟨a0_0, a0_1, a0_2, a0_3, a0_4, a0_5, a0_6, a0_7, a0_8, a0_9⟩ : S36)] : List (S36))) := ⟨_, rfl⟩
 replace H : ((laws_someOut.f k y147 0 1).bind fun bt150 => (if 0 < (bt150.2.2.2.2.2.length : Int) then ((impl_SideBearings.f k ((rd_T36 bt150.2.2.2.2.2 0).f0) ((rd_T36 bt150.2.2.2.2.2 0).f1) ((rd_T36 bt150.2.2.2.2.2 0).f2) ((rd_T36 bt150.2.2.2.2.2 0).f3) ((rd_T36 bt150.2.2.2.2.2 0).f4) ((rd_T36 bt150.2.2.2.2.2 0).f5) ((rd_T36 bt150.2.2.2.2.2 0).f6) ((rd_T36 bt150.2.2.2.2.2 0).f7) ((rd_T36 bt150.2.2.2.2.2 0).f8) ((rd_T36 bt150.2.2.2.2.2 0).f9)).bind fun bt160 => (if bt160.1 = ((rd_T36 bt150.2.2.2.2.2 0).f2) then (some ((wrap64 ((wrap64 (bt160.1 + ((rd_T36 bt150.2.2.2.2.2 0).f0))) + bt160.2)) == ((rd_T36 bt150.2.2.2.2.2 0).f4))) else (some false))) else (none))) = some r := by first | (rw [hy147]; with_reducible exact H) | (have H2_ := (Option.bind_some _ _).symm.trans H; rw [hy147]; with_reducible exact H2_) | (have H2_ := (Option.bind_some _ _).symm.trans H; with_reducible exact H2_) | with_reducible exact H | (rw [hy147]; exact H) | exact H
 have Ny147 := Aside0.mk hy147
 clear hy147
 replace H := Option.bind_eq_some_iff.mp H
 obtain ⟨⟨t150, t151, t152, t153, t154, t155⟩, A20, H⟩ := H
 replace H : (if 0 < (t155.length : Int) then ((impl_SideBearings.f k ((rd_T36 t155 0).f0) ((rd_T36 t155 0).f1) ((rd_T36 t155 0).f2) ((rd_T36 t155 0).f3) ((rd_T36 t155 0).f4) ((rd_T36 t155 0).f5) ((rd_T36 t155 0).f6) ((rd_T36 t155 0).f7) ((rd_T36 t155 0).f8) ((rd_T36 t155 0).f9)).bind fun bt160 => (if bt160.1 = ((rd_T36 t155 0).f2) then (some ((wrap64 ((wrap64 (bt160.1 + ((rd_T36 t155 0).f0))) + bt160.2)) == ((rd_T36 t155 0).f4))) else (some false))) else (none)) = some r := H
 have A2 := Aside0.mk A20
 clear A20
 by_cases c3 : 0 < (t155.length : Int)
 ·rw [if_pos c3] at H
  have c3b0 : decide (0 < (t155.length : Int)) = true := decide_eq_true c3
  have c3b1 : decide (0 < t155.length) = true := decide_eq_true (by omega)
  clear c3
  replace H := Option.bind_eq_some_iff.mp H
  obtain ⟨⟨t160, t161⟩, A40, H⟩ := H
  replace H : (if t160 = ((rd_T36 t155 0).f2) then (some ((wrap64 ((wrap64 (t160 + ((rd_T36 t155 0).f0))) + t161)) == ((rd_T36 t155 0).f4))) else (some false)) = some r := H
  have A4 := Aside0.mk A40
  clear A40
  by_cases c5 : t160 = ((rd_T36 t155 0).f2)
  ·rw [if_pos c5] at H
   have c5b0 : (t160 == ((rd_T36 t155 0).f2)) = true := beq_iff_eq.mpr c5
   have c5b1 : (t160 != ((rd_T36 t155 0).f2)) = false := bne_eq_false_iff_eq.mpr c5
   clear c5
   obtain rfl := Option.some.inj H
   go_enter Try.func7, Try.ntmps7
   go_wp2_with (first | ((with_reducible refine gate_dst (N := 1) rfl ?_); refine box_event ?hg (N := 1) ?hd (cs := #[.int .i64 a0_0, .int .i64 a0_1, .int .i64 a0_2, .int .i64 a0_3, .int .i64 a0_4, .int .i64 a0_5, .int .i64 a0_6, .int .i64 a0_7, .int .i64 a0_8, .int .i64 a0_9]) (t := 36) ?hr ?_; (case hd => rfl); (case hg => rfl); (case hr => first | (go_simp; done) | (go_simp; rfl)); intro gb146 hg w6 hbox hb; have n0_ := Aside0.mk (below_step (by repeat (first | (with_reducible first | exact HB.out | apply below_alloc | apply pw_below_drewN | apply below_drew1) | exact HB.out)) hb); have n1_ := Aside0.mk (hbox); have n2_ := Aside0.mk ((by rw [hg]; exact (below_size (by repeat (first | (with_reducible first | exact HB.out | apply below_alloc | apply pw_below_drewN | apply below_drew1) | exact HB.out))) : w.heap.size ≤ gb146)); have n3_ := Aside0.mk ((by rw [hg]; exact (below_size (by repeat (first | (with_reducible first | exact HB.out | apply below_alloc | apply pw_below_drewN | apply below_drew1) | exact HB.out))) : w.heap.size ≤ gb146)); clear HB; have HB := n0_; have BK146 := n1_; have GW146 := n2_; have GE146 := n3_; clear n0_ n1_ n2_ n3_; clear hb hbox hg; have hcz7_0 : w6.cell? ⟨gb146, 0, none⟩ = some (.int .i64 a0_0) := (blk_cell BK146.out 0).trans rfl; have hcz7_1 : w6.cell? ⟨gb146, 1, none⟩ = some (.int .i64 a0_1) := (blk_cell BK146.out 1).trans rfl; have hcz7_2 : w6.cell? ⟨gb146, 2, none⟩ = some (.int .i64 a0_2) := (blk_cell BK146.out 2).trans rfl; have hcz7_3 : w6.cell? ⟨gb146, 3, none⟩ = some (.int .i64 a0_3) := (blk_cell BK146.out 3).trans rfl; have hcz7_4 : w6.cell? ⟨gb146, 4, none⟩ = some (.int .i64 a0_4) := (blk_cell BK146.out 4).trans rfl; have hcz7_5 : w6.cell? ⟨gb146, 5, none⟩ = some (.int .i64 a0_5) := (blk_cell BK146.out 5).trans rfl; have hcz7_6 : w6.cell? ⟨gb146, 6, none⟩ = some (.int .i64 a0_6) := (blk_cell BK146.out 6).trans rfl; have hcz7_7 : w6.cell? ⟨gb146, 7, none⟩ = some (.int .i64 a0_7) := (blk_cell BK146.out 7).trans rfl; have hcz7_8 : w6.cell? ⟨gb146, 8, none⟩ = some (.int .i64 a0_8) := (blk_cell BK146.out 8).trans rfl; have hcz7_9 : w6.cell? ⟨gb146, 9, none⟩ = some (.int .i64 a0_9) := (blk_cell BK146.out 9).trans rfl; have hfz7_0 := blk_frozen BK146.out 0; have hfz7_1 := blk_frozen BK146.out 1; have hfz7_2 := blk_frozen BK146.out 2; have hfz7_3 := blk_frozen BK146.out 3; have hfz7_4 := blk_frozen BK146.out 4; have hfz7_5 := blk_frozen BK146.out 5; have hfz7_6 := blk_frozen BK146.out 6; have hfz7_7 := blk_frozen BK146.out 7; have hfz7_8 := blk_frozen BK146.out 8; have hfz7_9 := blk_frozen BK146.out 9) | ((with_reducible refine gate_dst (N := 7) rfl ?_); refine Kd.R_lit k36 _ 36 ?hg (N := 7) ?hd (xs := ([(⟨a0_0, a0_1, a0_2, a0_3, a0_4, a0_5, a0_6, a0_7, a0_8, a0_9⟩ : S36)] : List (S36))) (inner := [.int .i64 a0_0, .int .i64 a0_1, .int .i64 a0_2, .int .i64 a0_3, .int .i64 a0_4, .int .i64 a0_5, .int .i64 a0_6, .int .i64 a0_7, .int .i64 a0_8, .int .i64 a0_9]) (ok := fun _ => True) (okp := fun _ => True) ?hr ?hp (fun _ hk => hk) trivial (Below.refl _ _) (Nat.le_refl _) (by simp) ?_; (case hd => rfl); (case hg => rfl); (case hr => first | (go_simp; done) | (go_simp; rfl)); (case hp => exact (Reps.c10 (show Kd.M k36 _ _ _ (⟨a0_0, a0_1, a0_2, a0_3, a0_4, a0_5, a0_6, a0_7, a0_8, a0_9⟩ : S36) [.int .i64 a0_0, .int .i64 a0_1, .int .i64 a0_2, .int .i64 a0_3, .int .i64 a0_4, .int .i64 a0_5, .int .i64 a0_6, .int .i64 a0_7, .int .i64 a0_8, .int .i64 a0_9] from (k36_mkM _ _ _ (⟨a0_0, a0_1, a0_2, a0_3, a0_4, a0_5, a0_6, a0_7, a0_8, a0_9⟩ : S36) )) (Reps.none _ _))); intro v148 w8 ho9 hb hg_ hnew_; clear hg_ hnew_; (first | rw [← Ny147.out] at ho9 | (simp only [Int.reduceToNat] at ho9; rw [← Ny147.out] at ho9)); have n0_ := Aside0.mk (Kd.R_lower (Kd.R_newB ho9 (g := gb146) (o := .cells #[.int .i64 a0_0, .int .i64 a0_1, .int .i64 a0_2, .int .i64 a0_3, .int .i64 a0_4, .int .i64 a0_5, .int .i64 a0_6, .int .i64 a0_7, .int .i64 a0_8, .int .i64 a0_9] 36 (0, 0)) (by (with_reducible repeat (first | refine b1_ ?_ _ | refine b2_ ?_ | refine b3_ ?_ _)); exact BK146.out)) (below_size (by repeat (first | (with_reducible first | exact HB.out | apply below_alloc | apply pw_below_drewN | apply below_drew1 | refine below_set ?_ GE146.out) | exact HB.out)))); have n1_ := Aside0.mk (blk_below (g := gb146) (o := .cells #[.int .i64 a0_0, .int .i64 a0_1, .int .i64 a0_2, .int .i64 a0_3, .int .i64 a0_4, .int .i64 a0_5, .int .i64 a0_6, .int .i64 a0_7, .int .i64 a0_8, .int .i64 a0_9] 36 (0, 0)) (by (with_reducible repeat (first | refine b1_ ?_ _ | refine b2_ ?_ | refine b3_ ?_ _)); exact BK146.out) hb); have n2_ := Aside0.mk (below_step (by repeat (first | (with_reducible first | exact HB.out | apply below_alloc | apply pw_below_drewN | apply below_drew1 | refine below_set ?_ GE146.out) | exact HB.out)) hb); clear BK146; clear HB; have HO149 := n0_; have BK146 := n1_; have HB := n2_; clear n0_ n1_ n2_; clear hb ho9; obtain ⟨Ao10, co10, eo10⟩ := Kd.R_slice HO149.out; subst eo10) | ((with_reducible refine gate_callee (f := 21) rfl ?_); refine goesL_ (some 8) rfl rfl Try.func21 (by kernel_rfl) rfl #[.slice Ao10 y147.length co10, .int .u8 0, .int .i64 1] rfl (by (try simp only [List.map_toArray, List.map_cons, List.map_nil]); first | done | rfl | (simp only [List.length_drop, List.length_take]; rfl)) ?_; (with_reducible refine (laws_someOut.calls k _ _ y147 0 1 t150 t151 t152 t153 t154 t155 _ ?side1 ?side2 A2.out).mono ?_); (case side1 => repeat (first | exact (Kd.R_reads' HO149.out).2.2 | (with_reducible refine Kd.C_alloc ?_ _) | (with_reducible refine Kd.C_drewN ?_ _) | (with_reducible refine Kd.C_drew ?_))); (case side2 => exact (Kd.R_reads' HO149.out).2.1); rintro e w11 ⟨v156, rfl, ho0, hb⟩; refine ⟨_, rfl, ?_⟩; have n0_ := Aside0.mk (Kd.R_elder' (by (with_reducible repeat (first | apply Kd.R_alloc | apply Kd.R_drewN | apply Kd.R_drew)); exact HO149.out) (Kd.R_base ho0) hb); have n1_ := Aside0.mk (Kd.R_lower (Kd.R_newB (Kd.R_new' ho0 (Kd.R_lt (by (with_reducible repeat (first | apply Kd.R_alloc | apply Kd.R_drewN | apply Kd.R_drew)); exact HO149.out))) (g := gb146) (o := .cells #[.int .i64 a0_0, .int .i64 a0_1, .int .i64 a0_2, .int .i64 a0_3, .int .i64 a0_4, .int .i64 a0_5, .int .i64 a0_6, .int .i64 a0_7, .int .i64 a0_8, .int .i64 a0_9] 36 (0, 0)) (by (with_reducible repeat (first | refine b1_ ?_ _ | refine b2_ ?_ | refine b3_ ?_ _)); exact BK146.out)) (below_size (by repeat (first | (with_reducible first | exact HB.out | apply below_alloc | apply pw_below_drewN | apply below_drew1 | refine below_set ?_ GE146.out) | exact HB.out)))); have n2_ := Aside0.mk (blk_below (g := gb146) (o := .cells #[.int .i64 a0_0, .int .i64 a0_1, .int .i64 a0_2, .int .i64 a0_3, .int .i64 a0_4, .int .i64 a0_5, .int .i64 a0_6, .int .i64 a0_7, .int .i64 a0_8, .int .i64 a0_9] 36 (0, 0)) (by (with_reducible repeat (first | refine b1_ ?_ _ | refine b2_ ?_ | refine b3_ ?_ _)); exact BK146.out) hb); have n3_ := Aside0.mk (below_step (by repeat (first | (with_reducible first | exact HB.out | apply below_alloc | apply pw_below_drewN | apply below_drew1 | refine below_set ?_ GE146.out) | exact HB.out)) hb); clear HO149; clear BK146; clear HB; have HO149 := n0_; have HO157 := n1_; have BK146 := n2_; have HB := n3_; clear n0_ n1_ n2_ n3_; (try clear hb); (try clear hb2); (try clear hk); (try clear hi); (try clear ho0); obtain ⟨Ao12, co12, eo12⟩ := Kd.R_slice HO157.out; subst eo12; have p158 : 0 ≤ (0 : Int) := (by omega); have q158 : 0 < (t155.length : Int) := of_decide_eq_true (by first | (with_reducible assumption) | assumption); obtain ⟨ad158, e158, hx158_0, hx158_1, hx158_2, hx158_3, hx158_4, hx158_5, hx158_6, hx158_7, hx158_8, hx158_9⟩ := at_T36 (Kd.R_reads' HO157.out).2.2 0 p158 q158; cases e158; have qi158 : (0 < t155.length) = True := eq_true (by omega); (try rw [show ((0 : Int)).toNat = 0 from rfl] at hx158_0); (try rw [show 0 * 10 = 0 from rfl] at hx158_0); (try rw [Addr.add_zero'] at hx158_0); (try rw [show ((0 : Int)).toNat = 0 from rfl] at hx158_1); (try rw [show 0 * 10 = 0 from rfl] at hx158_1); (try rw [Addr.add_zero'] at hx158_1); (try rw [show ((0 : Int)).toNat = 0 from rfl] at hx158_2); (try rw [show 0 * 10 = 0 from rfl] at hx158_2); (try rw [Addr.add_zero'] at hx158_2); (try rw [show ((0 : Int)).toNat = 0 from rfl] at hx158_3); (try rw [show 0 * 10 = 0 from rfl] at hx158_3); (try rw [Addr.add_zero'] at hx158_3); (try rw [show ((0 : Int)).toNat = 0 from rfl] at hx158_4); (try rw [show 0 * 10 = 0 from rfl] at hx158_4); (try rw [Addr.add_zero'] at hx158_4); (try rw [show ((0 : Int)).toNat = 0 from rfl] at hx158_5); (try rw [show 0 * 10 = 0 from rfl] at hx158_5); (try rw [Addr.add_zero'] at hx158_5); (try rw [show ((0 : Int)).toNat = 0 from rfl] at hx158_6); (try rw [show 0 * 10 = 0 from rfl] at hx158_6); (try rw [Addr.add_zero'] at hx158_6); (try rw [show ((0 : Int)).toNat = 0 from rfl] at hx158_7); (try rw [show 0 * 10 = 0 from rfl] at hx158_7); (try rw [Addr.add_zero'] at hx158_7); (try rw [show ((0 : Int)).toNat = 0 from rfl] at hx158_8); (try rw [show 0 * 10 = 0 from rfl] at hx158_8); (try rw [Addr.add_zero'] at hx158_8); (try rw [show ((0 : Int)).toNat = 0 from rfl] at hx158_9); (try rw [show 0 * 10 = 0 from rfl] at hx158_9); (try rw [Addr.add_zero'] at hx158_9); replace p158 := eq_true p158; replace q158 := eq_true q158) | ((with_reducible refine gate_dst (N := 3) rfl ?_); refine box_event ?hg (N := 3) ?hd (cs := #[.int .i64 0, .int .i64 0, .int .i64 0, .int .i64 0, .int .i64 0, .int .i64 0, .int .i64 0, .int .i64 0, .int .i64 0, .int .i64 0]) (t := 36) ?hr ?_; (case hd => rfl); (case hg => rfl); (case hr => first | (go_simp; done) | (go_simp; rfl)); intro gb159 hg w13 hbox hb; have n0_ := Aside0.mk (Kd.R_below (Kd.R_elderB (by (with_reducible repeat (first | apply Kd.R_alloc | apply Kd.R_drewN | apply Kd.R_drew)); exact HO149.out) gb159 (Nat.le_of_eq hg.symm)) hb); have n1_ := Aside0.mk (Kd.R_below (Kd.R_elderB (by (with_reducible repeat (first | apply Kd.R_alloc | apply Kd.R_drewN | apply Kd.R_drew)); exact HO157.out) gb159 (Nat.le_of_eq hg.symm)) hb); have n2_ := Aside0.mk (blk_below (g := gb146) (o := .cells #[.int .i64 a0_0, .int .i64 a0_1, .int .i64 a0_2, .int .i64 a0_3, .int .i64 a0_4, .int .i64 a0_5, .int .i64 a0_6, .int .i64 a0_7, .int .i64 a0_8, .int .i64 a0_9] 36 (0, 0)) (by (with_reducible repeat (first | refine b1_ ?_ _ | refine b2_ ?_ | refine b3_ ?_ _)); exact BK146.out) hb); have n3_ := Aside0.mk (below_step (by repeat (first | (with_reducible first | exact HB.out | apply below_alloc | apply pw_below_drewN | apply below_drew1 | refine below_set ?_ GE146.out) | exact HB.out)) hb); have n4_ := Aside0.mk (hbox); have n5_ := Aside0.mk ((by rw [hg]; exact (below_size (by repeat (first | (with_reducible first | exact HB.out | apply below_alloc | apply pw_below_drewN | apply below_drew1 | refine below_set ?_ GE146.out) | exact HB.out))) : w.heap.size ≤ gb159)); have n6_ := Aside0.mk ((by rw [hg]; exact (below_size (by repeat (first | (with_reducible first | exact HB.out | apply below_alloc | apply pw_below_drewN | apply below_drew1 | refine below_set ?_ GE146.out) | exact HB.out))) : w.heap.size ≤ gb159)); have n7_ := Aside0.mk ((by rw [hg]; exact Nat.ne_of_lt (blk_lt (g := gb146) (o := .cells #[.int .i64 a0_0, .int .i64 a0_1, .int .i64 a0_2, .int .i64 a0_3, .int .i64 a0_4, .int .i64 a0_5, .int .i64 a0_6, .int .i64 a0_7, .int .i64 a0_8, .int .i64 a0_9] 36 (0, 0)) (by (with_reducible repeat (first | refine b1_ ?_ _ | refine b2_ ?_ | refine b3_ ?_ _)); exact BK146.out)) : gb146 ≠ gb159)); have n8_ := Aside0.mk ((by rw [hg]; exact Nat.ne_of_gt (blk_lt (g := gb146) (o := .cells #[.int .i64 a0_0, .int .i64 a0_1, .int .i64 a0_2, .int .i64 a0_3, .int .i64 a0_4, .int .i64 a0_5, .int .i64 a0_6, .int .i64 a0_7, .int .i64 a0_8, .int .i64 a0_9] 36 (0, 0)) (by (with_reducible repeat (first | refine b1_ ?_ _ | refine b2_ ?_ | refine b3_ ?_ _)); exact BK146.out)) : gb159 ≠ gb146)); clear HO149; clear HO157; clear BK146; clear HB; have HO149 := n0_; have HO157 := n1_; have BK146 := n2_; have HB := n3_; have BK159 := n4_; have GW159 := n5_; have GE159 := n6_; have NB146_159 := n7_; have NB159_146 := n8_; clear n0_ n1_ n2_ n3_ n4_ n5_ n6_ n7_ n8_; clear hb hbox hg; have hnb14 := NB159_146.out; have hnc14 := NB146_159.out; have hcz15_0 : w13.cell? ⟨gb159, 0, none⟩ = some (.int .i64 0) := (blk_cell BK159.out 0).trans rfl; have hcz15_1 : w13.cell? ⟨gb159, 1, none⟩ = some (.int .i64 0) := (blk_cell BK159.out 1).trans rfl; have hcz15_2 : w13.cell? ⟨gb159, 2, none⟩ = some (.int .i64 0) := (blk_cell BK159.out 2).trans rfl; have hcz15_3 : w13.cell? ⟨gb159, 3, none⟩ = some (.int .i64 0) := (blk_cell BK159.out 3).trans rfl; have hcz15_4 : w13.cell? ⟨gb159, 4, none⟩ = some (.int .i64 0) := (blk_cell BK159.out 4).trans rfl; have hcz15_5 : w13.cell? ⟨gb159, 5, none⟩ = some (.int .i64 0) := (blk_cell BK159.out 5).trans rfl; have hcz15_6 : w13.cell? ⟨gb159, 6, none⟩ = some (.int .i64 0) := (blk_cell BK159.out 6).trans rfl; have hcz15_7 : w13.cell? ⟨gb159, 7, none⟩ = some (.int .i64 0) := (blk_cell BK159.out 7).trans rfl; have hcz15_8 : w13.cell? ⟨gb159, 8, none⟩ = some (.int .i64 0) := (blk_cell BK159.out 8).trans rfl; have hcz15_9 : w13.cell? ⟨gb159, 9, none⟩ = some (.int .i64 0) := (blk_cell BK159.out 9).trans rfl; have hfz15_0 := blk_frozen BK159.out 0; have hfz15_1 := blk_frozen BK159.out 1; have hfz15_2 := blk_frozen BK159.out 2; have hfz15_3 := blk_frozen BK159.out 3; have hfz15_4 := blk_frozen BK159.out 4; have hfz15_5 := blk_frozen BK159.out 5; have hfz15_6 := blk_frozen BK159.out 6; have hfz15_7 := blk_frozen BK159.out 7; have hfz15_8 := blk_frozen BK159.out 8; have hfz15_9 := blk_frozen BK159.out 9) | ((with_reducible refine gate_callee (f := 22) rfl ?_); refine goesL_ (some 14) rfl rfl Try.func22 (by kernel_rfl) rfl #[.agg #[.int .i64 ((rd_T36 t155 0).f0), .int .i64 ((rd_T36 t155 0).f1), .int .i64 ((rd_T36 t155 0).f2), .int .i64 ((rd_T36 t155 0).f3), .int .i64 ((rd_T36 t155 0).f4), .int .i64 ((rd_T36 t155 0).f5), .int .i64 ((rd_T36 t155 0).f6), .int .i64 ((rd_T36 t155 0).f7), .int .i64 ((rd_T36 t155 0).f8), .int .i64 ((rd_T36 t155 0).f9)]] rfl (by (try simp only [List.map_toArray, List.map_cons, List.map_nil]); first | done | rfl | (simp only [List.length_drop, List.length_take]; rfl)) ?_; (with_reducible refine (impl_SideBearings.calls k ((rd_T36 t155 0).f0) ((rd_T36 t155 0).f1) ((rd_T36 t155 0).f2) ((rd_T36 t155 0).f3) ((rd_T36 t155 0).f4) ((rd_T36 t155 0).f5) ((rd_T36 t155 0).f6) ((rd_T36 t155 0).f7) ((rd_T36 t155 0).f8) ((rd_T36 t155 0).f9) t160 t161 _ A4.out).mono ?_); rintro e w16 ⟨rfl, hb⟩; refine ⟨_, rfl, ?_⟩; have n0_ := Aside0.mk (Kd.R_below (by (with_reducible repeat (first | apply Kd.R_alloc | apply Kd.R_drewN | apply Kd.R_drew)); exact (Kd.R_mono (Kd.R_far (p := ⟨gb159, 9, none⟩) (Kd.R_far (p := ⟨gb159, 8, none⟩) (Kd.R_far (p := ⟨gb159, 7, none⟩) (Kd.R_far (p := ⟨gb159, 6, none⟩) (Kd.R_far (p := ⟨gb159, 5, none⟩) (Kd.R_far (p := ⟨gb159, 4, none⟩) (Kd.R_far (p := ⟨gb159, 3, none⟩) (Kd.R_far (p := ⟨gb159, 2, none⟩) (Kd.R_far (p := ⟨gb159, 1, none⟩) (Kd.R_far (p := ⟨gb159, 0, none⟩) (Kd.R_mono HO149.out (fun k_ hk => (⟨hk, hk.2⟩ : _ ∧ k_ ≠ gb159))) (fun _ hk => hk.2) (.int .i64 ((rd_T36 t155 0).f0))) (fun _ hk => hk.2) (.int .i64 ((rd_T36 t155 0).f1))) (fun _ hk => hk.2) (.int .i64 ((rd_T36 t155 0).f2))) (fun _ hk => hk.2) (.int .i64 ((rd_T36 t155 0).f3))) (fun _ hk => hk.2) (.int .i64 ((rd_T36 t155 0).f4))) (fun _ hk => hk.2) (.int .i64 ((rd_T36 t155 0).f5))) (fun _ hk => hk.2) (.int .i64 ((rd_T36 t155 0).f6))) (fun _ hk => hk.2) (.int .i64 ((rd_T36 t155 0).f7))) (fun _ hk => hk.2) (.int .i64 ((rd_T36 t155 0).f8))) (fun _ hk => hk.2) (.int .i64 ((rd_T36 t155 0).f9))) (fun _ h_ => h_.1))) hb); have n1_ := Aside0.mk (Kd.R_below (by (with_reducible repeat (first | apply Kd.R_alloc | apply Kd.R_drewN | apply Kd.R_drew)); exact (Kd.R_mono (Kd.R_far (p := ⟨gb159, 9, none⟩) (Kd.R_far (p := ⟨gb159, 8, none⟩) (Kd.R_far (p := ⟨gb159, 7, none⟩) (Kd.R_far (p := ⟨gb159, 6, none⟩) (Kd.R_far (p := ⟨gb159, 5, none⟩) (Kd.R_far (p := ⟨gb159, 4, none⟩) (Kd.R_far (p := ⟨gb159, 3, none⟩) (Kd.R_far (p := ⟨gb159, 2, none⟩) (Kd.R_far (p := ⟨gb159, 1, none⟩) (Kd.R_far (p := ⟨gb159, 0, none⟩) (Kd.R_mono HO157.out (fun k_ hk => (⟨hk, hk.2⟩ : _ ∧ k_ ≠ gb159))) (fun _ hk => hk.2) (.int .i64 ((rd_T36 t155 0).f0))) (fun _ hk => hk.2) (.int .i64 ((rd_T36 t155 0).f1))) (fun _ hk => hk.2) (.int .i64 ((rd_T36 t155 0).f2))) (fun _ hk => hk.2) (.int .i64 ((rd_T36 t155 0).f3))) (fun _ hk => hk.2) (.int .i64 ((rd_T36 t155 0).f4))) (fun _ hk => hk.2) (.int .i64 ((rd_T36 t155 0).f5))) (fun _ hk => hk.2) (.int .i64 ((rd_T36 t155 0).f6))) (fun _ hk => hk.2) (.int .i64 ((rd_T36 t155 0).f7))) (fun _ hk => hk.2) (.int .i64 ((rd_T36 t155 0).f8))) (fun _ hk => hk.2) (.int .i64 ((rd_T36 t155 0).f9))) (fun _ h_ => h_.1))) hb); have n2_ := Aside0.mk (blk_below (g := gb146) (o := .cells #[.int .i64 a0_0, .int .i64 a0_1, .int .i64 a0_2, .int .i64 a0_3, .int .i64 a0_4, .int .i64 a0_5, .int .i64 a0_6, .int .i64 a0_7, .int .i64 a0_8, .int .i64 a0_9] 36 (0, 0)) (by (with_reducible repeat (first | refine b1_ ?_ _ | refine b2_ ?_ | refine b3_ ?_ _)); refine blk_far ?_ NB146_159.out _; (with_reducible repeat (first | refine b1_ ?_ _ | refine b2_ ?_ | refine b3_ ?_ _)); refine blk_far ?_ NB146_159.out _; (with_reducible repeat (first | refine b1_ ?_ _ | refine b2_ ?_ | refine b3_ ?_ _)); refine blk_far ?_ NB146_159.out _; (with_reducible repeat (first | refine b1_ ?_ _ | refine b2_ ?_ | refine b3_ ?_ _)); refine blk_far ?_ NB146_159.out _; (with_reducible repeat (first | refine b1_ ?_ _ | refine b2_ ?_ | refine b3_ ?_ _)); refine blk_far ?_ NB146_159.out _; (with_reducible repeat (first | refine b1_ ?_ _ | refine b2_ ?_ | refine b3_ ?_ _)); refine blk_far ?_ NB146_159.out _; (with_reducible repeat (first | refine b1_ ?_ _ | refine b2_ ?_ | refine b3_ ?_ _)); refine blk_far ?_ NB146_159.out _; (with_reducible repeat (first | refine b1_ ?_ _ | refine b2_ ?_ | refine b3_ ?_ _)); refine blk_far ?_ NB146_159.out _; (with_reducible repeat (first | refine b1_ ?_ _ | refine b2_ ?_ | refine b3_ ?_ _)); refine blk_far ?_ NB146_159.out _; (with_reducible repeat (first | refine b1_ ?_ _ | refine b2_ ?_ | refine b3_ ?_ _)); refine blk_far ?_ NB146_159.out _; (with_reducible repeat (first | refine b1_ ?_ _ | refine b2_ ?_ | refine b3_ ?_ _)); exact BK146.out) hb); have n3_ := Aside0.mk (blk_below (g := gb159) (o := .cells #[.int .i64 ((rd_T36 t155 0).f0), .int .i64 ((rd_T36 t155 0).f1), .int .i64 ((rd_T36 t155 0).f2), .int .i64 ((rd_T36 t155 0).f3), .int .i64 ((rd_T36 t155 0).f4), .int .i64 ((rd_T36 t155 0).f5), .int .i64 ((rd_T36 t155 0).f6), .int .i64 ((rd_T36 t155 0).f7), .int .i64 ((rd_T36 t155 0).f8), .int .i64 ((rd_T36 t155 0).f9)] 36 (0, 0)) (by (with_reducible repeat (first | refine b1_ ?_ _ | refine b2_ ?_ | refine b3_ ?_ _)); refine blk_put (cs := #[.int .i64 ((rd_T36 t155 0).f0), .int .i64 ((rd_T36 t155 0).f1), .int .i64 ((rd_T36 t155 0).f2), .int .i64 ((rd_T36 t155 0).f3), .int .i64 ((rd_T36 t155 0).f4), .int .i64 ((rd_T36 t155 0).f5), .int .i64 ((rd_T36 t155 0).f6), .int .i64 ((rd_T36 t155 0).f7), .int .i64 ((rd_T36 t155 0).f8), .int .i64 0]) ?_ 9 _ rfl; (with_reducible repeat (first | refine b1_ ?_ _ | refine b2_ ?_ | refine b3_ ?_ _)); refine blk_put (cs := #[.int .i64 ((rd_T36 t155 0).f0), .int .i64 ((rd_T36 t155 0).f1), .int .i64 ((rd_T36 t155 0).f2), .int .i64 ((rd_T36 t155 0).f3), .int .i64 ((rd_T36 t155 0).f4), .int .i64 ((rd_T36 t155 0).f5), .int .i64 ((rd_T36 t155 0).f6), .int .i64 ((rd_T36 t155 0).f7), .int .i64 0, .int .i64 0]) ?_ 8 _ rfl; (with_reducible repeat (first | refine b1_ ?_ _ | refine b2_ ?_ | refine b3_ ?_ _)); refine blk_put (cs := #[.int .i64 ((rd_T36 t155 0).f0), .int .i64 ((rd_T36 t155 0).f1), .int .i64 ((rd_T36 t155 0).f2), .int .i64 ((rd_T36 t155 0).f3), .int .i64 ((rd_T36 t155 0).f4), .int .i64 ((rd_T36 t155 0).f5), .int .i64 ((rd_T36 t155 0).f6), .int .i64 0, .int .i64 0, .int .i64 0]) ?_ 7 _ rfl; (with_reducible repeat (first | refine b1_ ?_ _ | refine b2_ ?_ | refine b3_ ?_ _)); refine blk_put (cs := #[.int .i64 ((rd_T36 t155 0).f0), .int .i64 ((rd_T36 t155 0).f1), .int .i64 ((rd_T36 t155 0).f2), .int .i64 ((rd_T36 t155 0).f3), .int .i64 ((rd_T36 t155 0).f4), .int .i64 ((rd_T36 t155 0).f5), .int .i64 0, .int .i64 0, .int .i64 0, .int .i64 0]) ?_ 6 _ rfl; (with_reducible repeat (first | refine b1_ ?_ _ | refine b2_ ?_ | refine b3_ ?_ _)); refine blk_put (cs := #[.int .i64 ((rd_T36 t155 0).f0), .int .i64 ((rd_T36 t155 0).f1), .int .i64 ((rd_T36 t155 0).f2), .int .i64 ((rd_T36 t155 0).f3), .int .i64 ((rd_T36 t155 0).f4), .int .i64 0, .int .i64 0, .int .i64 0, .int .i64 0, .int .i64 0]) ?_ 5 _ rfl; (with_reducible repeat (first | refine b1_ ?_ _ | refine b2_ ?_ | refine b3_ ?_ _)); refine blk_put (cs := #[.int .i64 ((rd_T36 t155 0).f0), .int .i64 ((rd_T36 t155 0).f1), .int .i64 ((rd_T36 t155 0).f2), .int .i64 ((rd_T36 t155 0).f3), .int .i64 0, .int .i64 0, .int .i64 0, .int .i64 0, .int .i64 0, .int .i64 0]) ?_ 4 _ rfl; (with_reducible repeat (first | refine b1_ ?_ _ | refine b2_ ?_ | refine b3_ ?_ _)); refine blk_put (cs := #[.int .i64 ((rd_T36 t155 0).f0), .int .i64 ((rd_T36 t155 0).f1), .int .i64 ((rd_T36 t155 0).f2), .int .i64 0, .int .i64 0, .int .i64 0, .int .i64 0, .int .i64 0, .int .i64 0, .int .i64 0]) ?_ 3 _ rfl; (with_reducible repeat (first | refine b1_ ?_ _ | refine b2_ ?_ | refine b3_ ?_ _)); refine blk_put (cs := #[.int .i64 ((rd_T36 t155 0).f0), .int .i64 ((rd_T36 t155 0).f1), .int .i64 0, .int .i64 0, .int .i64 0, .int .i64 0, .int .i64 0, .int .i64 0, .int .i64 0, .int .i64 0]) ?_ 2 _ rfl; (with_reducible repeat (first | refine b1_ ?_ _ | refine b2_ ?_ | refine b3_ ?_ _)); refine blk_put (cs := #[.int .i64 ((rd_T36 t155 0).f0), .int .i64 0, .int .i64 0, .int .i64 0, .int .i64 0, .int .i64 0, .int .i64 0, .int .i64 0, .int .i64 0, .int .i64 0]) ?_ 1 _ rfl; (with_reducible repeat (first | refine b1_ ?_ _ | refine b2_ ?_ | refine b3_ ?_ _)); refine blk_put (cs := #[.int .i64 0, .int .i64 0, .int .i64 0, .int .i64 0, .int .i64 0, .int .i64 0, .int .i64 0, .int .i64 0, .int .i64 0, .int .i64 0]) ?_ 0 _ rfl; (with_reducible repeat (first | refine b1_ ?_ _ | refine b2_ ?_ | refine b3_ ?_ _)); exact BK159.out) hb); have n4_ := Aside0.mk (below_step (by repeat (first | (with_reducible first | exact HB.out | apply below_alloc | apply pw_below_drewN | apply below_drew1 | refine below_set ?_ GE146.out | refine below_set ?_ GE159.out) | exact HB.out)) hb); clear HO149; clear HO157; clear BK146; clear BK159; clear HB; have HO149 := n0_; have HO157 := n1_; have BK146 := n2_; have BK159 := n3_; have HB := n4_; clear n0_ n1_ n2_ n3_ n4_; (try clear hb); (try clear hb2); (try clear hk); (try clear hi); have hcz17_0 : w16.cell? ⟨gb159, 0, none⟩ = some (.int .i64 ((rd_T36 t155 0).f0)) := (blk_cell BK159.out 0).trans rfl; have hcz17_1 : w16.cell? ⟨gb159, 1, none⟩ = some (.int .i64 ((rd_T36 t155 0).f1)) := (blk_cell BK159.out 1).trans rfl; have hcz17_2 : w16.cell? ⟨gb159, 2, none⟩ = some (.int .i64 ((rd_T36 t155 0).f2)) := (blk_cell BK159.out 2).trans rfl; have hcz17_3 : w16.cell? ⟨gb159, 3, none⟩ = some (.int .i64 ((rd_T36 t155 0).f3)) := (blk_cell BK159.out 3).trans rfl; have hcz17_4 : w16.cell? ⟨gb159, 4, none⟩ = some (.int .i64 ((rd_T36 t155 0).f4)) := (blk_cell BK159.out 4).trans rfl; have hcz17_5 : w16.cell? ⟨gb159, 5, none⟩ = some (.int .i64 ((rd_T36 t155 0).f5)) := (blk_cell BK159.out 5).trans rfl; have hcz17_6 : w16.cell? ⟨gb159, 6, none⟩ = some (.int .i64 ((rd_T36 t155 0).f6)) := (blk_cell BK159.out 6).trans rfl; have hcz17_7 : w16.cell? ⟨gb159, 7, none⟩ = some (.int .i64 ((rd_T36 t155 0).f7)) := (blk_cell BK159.out 7).trans rfl; have hcz17_8 : w16.cell? ⟨gb159, 8, none⟩ = some (.int .i64 ((rd_T36 t155 0).f8)) := (blk_cell BK159.out 8).trans rfl; have hcz17_9 : w16.cell? ⟨gb159, 9, none⟩ = some (.int .i64 ((rd_T36 t155 0).f9)) := (blk_cell BK159.out 9).trans rfl; have hfz17_0 := blk_frozen BK159.out 0; have hfz17_1 := blk_frozen BK159.out 1; have hfz17_2 := blk_frozen BK159.out 2; have hfz17_3 := blk_frozen BK159.out 3; have hfz17_4 := blk_frozen BK159.out 4; have hfz17_5 := blk_frozen BK159.out 5; have hfz17_6 := blk_frozen BK159.out 6; have hfz17_7 := blk_frozen BK159.out 7; have hfz17_8 := blk_frozen BK159.out 8; have hfz17_9 := blk_frozen BK159.out 9))
   go_ret
   exact ⟨by first | rfl | (simp [errW_none, errW_some] <;> rfl) | (simp [*, errW_none, errW_some] <;> rfl), by repeat (first | (with_reducible first | exact HB.out | apply below_alloc | apply pw_below_drewN | apply below_drew1 | refine below_set ?_ GE146.out | refine below_set ?_ GE159.out) | exact HB.out)⟩
  ·rw [if_neg c5] at H
   have c5b0 : (t160 == ((rd_T36 t155 0).f2)) = false := beq_eq_false_iff_ne.mpr c5
   have c5b1 : (t160 != ((rd_T36 t155 0).f2)) = true := bne_iff_ne.mpr c5
   obtain rfl := Option.some.inj H
   go_enter Try.func7, Try.ntmps7
   go_wp2_with (first | ((with_reducible refine gate_dst (N := 1) rfl ?_); refine box_event ?hg (N := 1) ?hd (cs := #[.int .i64 a0_0, .int .i64 a0_1, .int .i64 a0_2, .int .i64 a0_3, .int .i64 a0_4, .int .i64 a0_5, .int .i64 a0_6, .int .i64 a0_7, .int .i64 a0_8, .int .i64 a0_9]) (t := 36) ?hr ?_; (case hd => rfl); (case hg => rfl); (case hr => first | (go_simp; done) | (go_simp; rfl)); intro gb146 hg w18 hbox hb; have n0_ := Aside0.mk (below_step (by repeat (first | (with_reducible first | exact HB.out | apply below_alloc | apply pw_below_drewN | apply below_drew1) | exact HB.out)) hb); have n1_ := Aside0.mk (hbox); have n2_ := Aside0.mk ((by rw [hg]; exact (below_size (by repeat (first | (with_reducible first | exact HB.out | apply below_alloc | apply pw_below_drewN | apply below_drew1) | exact HB.out))) : w.heap.size ≤ gb146)); have n3_ := Aside0.mk ((by rw [hg]; exact (below_size (by repeat (first | (with_reducible first | exact HB.out | apply below_alloc | apply pw_below_drewN | apply below_drew1) | exact HB.out))) : w.heap.size ≤ gb146)); clear HB; have HB := n0_; have BK146 := n1_; have GW146 := n2_; have GE146 := n3_; clear n0_ n1_ n2_ n3_; clear hb hbox hg; have hcz19_0 : w18.cell? ⟨gb146, 0, none⟩ = some (.int .i64 a0_0) := (blk_cell BK146.out 0).trans rfl; have hcz19_1 : w18.cell? ⟨gb146, 1, none⟩ = some (.int .i64 a0_1) := (blk_cell BK146.out 1).trans rfl; have hcz19_2 : w18.cell? ⟨gb146, 2, none⟩ = some (.int .i64 a0_2) := (blk_cell BK146.out 2).trans rfl; have hcz19_3 : w18.cell? ⟨gb146, 3, none⟩ = some (.int .i64 a0_3) := (blk_cell BK146.out 3).trans rfl; have hcz19_4 : w18.cell? ⟨gb146, 4, none⟩ = some (.int .i64 a0_4) := (blk_cell BK146.out 4).trans rfl; have hcz19_5 : w18.cell? ⟨gb146, 5, none⟩ = some (.int .i64 a0_5) := (blk_cell BK146.out 5).trans rfl; have hcz19_6 : w18.cell? ⟨gb146, 6, none⟩ = some (.int .i64 a0_6) := (blk_cell BK146.out 6).trans rfl; have hcz19_7 : w18.cell? ⟨gb146, 7, none⟩ = some (.int .i64 a0_7) := (blk_cell BK146.out 7).trans rfl; have hcz19_8 : w18.cell? ⟨gb146, 8, none⟩ = some (.int .i64 a0_8) := (blk_cell BK146.out 8).trans rfl; have hcz19_9 : w18.cell? ⟨gb146, 9, none⟩ = some (.int .i64 a0_9) := (blk_cell BK146.out 9).trans rfl; have hfz19_0 := blk_frozen BK146.out 0; have hfz19_1 := blk_frozen BK146.out 1; have hfz19_2 := blk_frozen BK146.out 2; have hfz19_3 := blk_frozen BK146.out 3; have hfz19_4 := blk_frozen BK146.out 4; have hfz19_5 := blk_frozen BK146.out 5; have hfz19_6 := blk_frozen BK146.out 6; have hfz19_7 := blk_frozen BK146.out 7; have hfz19_8 := blk_frozen BK146.out 8; have hfz19_9 := blk_frozen BK146.out 9) | ((with_reducible refine gate_dst (N := 7) rfl ?_); refine Kd.R_lit k36 _ 36 ?hg (N := 7) ?hd (xs := ([(⟨a0_0, a0_1, a0_2, a0_3, a0_4, a0_5, a0_6, a0_7, a0_8, a0_9⟩ : S36)] : List (S36))) (inner := [.int .i64 a0_0, .int .i64 a0_1, .int .i64 a0_2, .int .i64 a0_3, .int .i64 a0_4, .int .i64 a0_5, .int .i64 a0_6, .int .i64 a0_7, .int .i64 a0_8, .int .i64 a0_9]) (ok := fun _ => True) (okp := fun _ => True) ?hr ?hp (fun _ hk => hk) trivial (Below.refl _ _) (Nat.le_refl _) (by simp) ?_; (case hd => rfl); (case hg => rfl); (case hr => first | (go_simp; done) | (go_simp; rfl)); (case hp => exact (Reps.c10 (show Kd.M k36 _ _ _ (⟨a0_0, a0_1, a0_2, a0_3, a0_4, a0_5, a0_6, a0_7, a0_8, a0_9⟩ : S36) [.int .i64 a0_0, .int .i64 a0_1, .int .i64 a0_2, .int .i64 a0_3, .int .i64 a0_4, .int .i64 a0_5, .int .i64 a0_6, .int .i64 a0_7, .int .i64 a0_8, .int .i64 a0_9] from (k36_mkM _ _ _ (⟨a0_0, a0_1, a0_2, a0_3, a0_4, a0_5, a0_6, a0_7, a0_8, a0_9⟩ : S36) )) (Reps.none _ _))); intro v148 w20 ho21 hb hg_ hnew_; clear hg_ hnew_; (first | rw [← Ny147.out] at ho21 | (simp only [Int.reduceToNat] at ho21; rw [← Ny147.out] at ho21)); have n0_ := Aside0.mk (Kd.R_lower (Kd.R_newB ho21 (g := gb146) (o := .cells #[.int .i64 a0_0, .int .i64 a0_1, .int .i64 a0_2, .int .i64 a0_3, .int .i64 a0_4, .int .i64 a0_5, .int .i64 a0_6, .int .i64 a0_7, .int .i64 a0_8, .int .i64 a0_9] 36 (0, 0)) (by (with_reducible repeat (first | refine b1_ ?_ _ | refine b2_ ?_ | refine b3_ ?_ _)); exact BK146.out)) (below_size (by repeat (first | (with_reducible first | exact HB.out | apply below_alloc | apply pw_below_drewN | apply below_drew1 | refine below_set ?_ GE146.out) | exact HB.out)))); have n1_ := Aside0.mk (blk_below (g := gb146) (o := .cells #[.int .i64 a0_0, .int .i64 a0_1, .int .i64 a0_2, .int .i64 a0_3, .int .i64 a0_4, .int .i64 a0_5, .int .i64 a0_6, .int .i64 a0_7, .int .i64 a0_8, .int .i64 a0_9] 36 (0, 0)) (by (with_reducible repeat (first | refine b1_ ?_ _ | refine b2_ ?_ | refine b3_ ?_ _)); exact BK146.out) hb); have n2_ := Aside0.mk (below_step (by repeat (first | (with_reducible first | exact HB.out | apply below_alloc | apply pw_below_drewN | apply below_drew1 | refine below_set ?_ GE146.out) | exact HB.out)) hb); clear BK146; clear HB; have HO149 := n0_; have BK146 := n1_; have HB := n2_; clear n0_ n1_ n2_; clear hb ho21; obtain ⟨Ao22, co22, eo22⟩ := Kd.R_slice HO149.out; subst eo22) | ((with_reducible refine gate_callee (f := 21) rfl ?_); refine goesL_ (some 8) rfl rfl Try.func21 (by kernel_rfl) rfl #[.slice Ao22 y147.length co22, .int .u8 0, .int .i64 1] rfl (by (try simp only [List.map_toArray, List.map_cons, List.map_nil]); first | done | rfl | (simp only [List.length_drop, List.length_take]; rfl)) ?_; (with_reducible refine (laws_someOut.calls k _ _ y147 0 1 t150 t151 t152 t153 t154 t155 _ ?side1 ?side2 A2.out).mono ?_); (case side1 => repeat (first | exact (Kd.R_reads' HO149.out).2.2 | (with_reducible refine Kd.C_alloc ?_ _) | (with_reducible refine Kd.C_drewN ?_ _) | (with_reducible refine Kd.C_drew ?_))); (case side2 => exact (Kd.R_reads' HO149.out).2.1); rintro e w23 ⟨v156, rfl, ho0, hb⟩; refine ⟨_, rfl, ?_⟩; have n0_ := Aside0.mk (Kd.R_elder' (by (with_reducible repeat (first | apply Kd.R_alloc | apply Kd.R_drewN | apply Kd.R_drew)); exact HO149.out) (Kd.R_base ho0) hb); have n1_ := Aside0.mk (Kd.R_lower (Kd.R_newB (Kd.R_new' ho0 (Kd.R_lt (by (with_reducible repeat (first | apply Kd.R_alloc | apply Kd.R_drewN | apply Kd.R_drew)); exact HO149.out))) (g := gb146) (o := .cells #[.int .i64 a0_0, .int .i64 a0_1, .int .i64 a0_2, .int .i64 a0_3, .int .i64 a0_4, .int .i64 a0_5, .int .i64 a0_6, .int .i64 a0_7, .int .i64 a0_8, .int .i64 a0_9] 36 (0, 0)) (by (with_reducible repeat (first | refine b1_ ?_ _ | refine b2_ ?_ | refine b3_ ?_ _)); exact BK146.out)) (below_size (by repeat (first | (with_reducible first | exact HB.out | apply below_alloc | apply pw_below_drewN | apply below_drew1 | refine below_set ?_ GE146.out) | exact HB.out)))); have n2_ := Aside0.mk (blk_below (g := gb146) (o := .cells #[.int .i64 a0_0, .int .i64 a0_1, .int .i64 a0_2, .int .i64 a0_3, .int .i64 a0_4, .int .i64 a0_5, .int .i64 a0_6, .int .i64 a0_7, .int .i64 a0_8, .int .i64 a0_9] 36 (0, 0)) (by (with_reducible repeat (first | refine b1_ ?_ _ | refine b2_ ?_ | refine b3_ ?_ _)); exact BK146.out) hb); have n3_ := Aside0.mk (below_step (by repeat (first | (with_reducible first | exact HB.out | apply below_alloc | apply pw_below_drewN | apply below_drew1 | refine below_set ?_ GE146.out) | exact HB.out)) hb); clear HO149; clear BK146; clear HB; have HO149 := n0_; have HO157 := n1_; have BK146 := n2_; have HB := n3_; clear n0_ n1_ n2_ n3_; (try clear hb); (try clear hb2); (try clear hk); (try clear hi); (try clear ho0); obtain ⟨Ao24, co24, eo24⟩ := Kd.R_slice HO157.out; subst eo24; have p158 : 0 ≤ (0 : Int) := (by omega); have q158 : 0 < (t155.length : Int) := of_decide_eq_true (by first | (with_reducible assumption) | assumption); obtain ⟨ad158, e158, hx158_0, hx158_1, hx158_2, hx158_3, hx158_4, hx158_5, hx158_6, hx158_7, hx158_8, hx158_9⟩ := at_T36 (Kd.R_reads' HO157.out).2.2 0 p158 q158; cases e158; have qi158 : (0 < t155.length) = True := eq_true (by omega); (try rw [show ((0 : Int)).toNat = 0 from rfl] at hx158_0); (try rw [show 0 * 10 = 0 from rfl] at hx158_0); (try rw [Addr.add_zero'] at hx158_0); (try rw [show ((0 : Int)).toNat = 0 from rfl] at hx158_1); (try rw [show 0 * 10 = 0 from rfl] at hx158_1); (try rw [Addr.add_zero'] at hx158_1); (try rw [show ((0 : Int)).toNat = 0 from rfl] at hx158_2); (try rw [show 0 * 10 = 0 from rfl] at hx158_2); (try rw [Addr.add_zero'] at hx158_2); (try rw [show ((0 : Int)).toNat = 0 from rfl] at hx158_3); (try rw [show 0 * 10 = 0 from rfl] at hx158_3); (try rw [Addr.add_zero'] at hx158_3); (try rw [show ((0 : Int)).toNat = 0 from rfl] at hx158_4); (try rw [show 0 * 10 = 0 from rfl] at hx158_4); (try rw [Addr.add_zero'] at hx158_4); (try rw [show ((0 : Int)).toNat = 0 from rfl] at hx158_5); (try rw [show 0 * 10 = 0 from rfl] at hx158_5); (try rw [Addr.add_zero'] at hx158_5); (try rw [show ((0 : Int)).toNat = 0 from rfl] at hx158_6); (try rw [show 0 * 10 = 0 from rfl] at hx158_6); (try rw [Addr.add_zero'] at hx158_6); (try rw [show ((0 : Int)).toNat = 0 from rfl] at hx158_7); (try rw [show 0 * 10 = 0 from rfl] at hx158_7); (try rw [Addr.add_zero'] at hx158_7); (try rw [show ((0 : Int)).toNat = 0 from rfl] at hx158_8); (try rw [show 0 * 10 = 0 from rfl] at hx158_8); (try rw [Addr.add_zero'] at hx158_8); (try rw [show ((0 : Int)).toNat = 0 from rfl] at hx158_9); (try rw [show 0 * 10 = 0 from rfl] at hx158_9); (try rw [Addr.add_zero'] at hx158_9); replace p158 := eq_true p158; replace q158 := eq_true q158) | ((with_reducible refine gate_dst (N := 3) rfl ?_); refine box_event ?hg (N := 3) ?hd (cs := #[.int .i64 0, .int .i64 0, .int .i64 0, .int .i64 0, .int .i64 0, .int .i64 0, .int .i64 0, .int .i64 0, .int .i64 0, .int .i64 0]) (t := 36) ?hr ?_; (case hd => rfl); (case hg => rfl); (case hr => first | (go_simp; done) | (go_simp; rfl)); intro gb159 hg w25 hbox hb; have n0_ := Aside0.mk (Kd.R_below (Kd.R_elderB (by (with_reducible repeat (first | apply Kd.R_alloc | apply Kd.R_drewN | apply Kd.R_drew)); exact HO149.out) gb159 (Nat.le_of_eq hg.symm)) hb); have n1_ := Aside0.mk (Kd.R_below (Kd.R_elderB (by (with_reducible repeat (first | apply Kd.R_alloc | apply Kd.R_drewN | apply Kd.R_drew)); exact HO157.out) gb159 (Nat.le_of_eq hg.symm)) hb); have n2_ := Aside0.mk (blk_below (g := gb146) (o := .cells #[.int .i64 a0_0, .int .i64 a0_1, .int .i64 a0_2, .int .i64 a0_3, .int .i64 a0_4, .int .i64 a0_5, .int .i64 a0_6, .int .i64 a0_7, .int .i64 a0_8, .int .i64 a0_9] 36 (0, 0)) (by (with_reducible repeat (first | refine b1_ ?_ _ | refine b2_ ?_ | refine b3_ ?_ _)); exact BK146.out) hb); have n3_ := Aside0.mk (below_step (by repeat (first | (with_reducible first | exact HB.out | apply below_alloc | apply pw_below_drewN | apply below_drew1 | refine below_set ?_ GE146.out) | exact HB.out)) hb); have n4_ := Aside0.mk (hbox); have n5_ := Aside0.mk ((by rw [hg]; exact (below_size (by repeat (first | (with_reducible first | exact HB.out | apply below_alloc | apply pw_below_drewN | apply below_drew1 | refine below_set ?_ GE146.out) | exact HB.out))) : w.heap.size ≤ gb159)); have n6_ := Aside0.mk ((by rw [hg]; exact (below_size (by repeat (first | (with_reducible first | exact HB.out | apply below_alloc | apply pw_below_drewN | apply below_drew1 | refine below_set ?_ GE146.out) | exact HB.out))) : w.heap.size ≤ gb159)); have n7_ := Aside0.mk ((by rw [hg]; exact Nat.ne_of_lt (blk_lt (g := gb146) (o := .cells #[.int .i64 a0_0, .int .i64 a0_1, .int .i64 a0_2, .int .i64 a0_3, .int .i64 a0_4, .int .i64 a0_5, .int .i64 a0_6, .int .i64 a0_7, .int .i64 a0_8, .int .i64 a0_9] 36 (0, 0)) (by (with_reducible repeat (first | refine b1_ ?_ _ | refine b2_ ?_ | refine b3_ ?_ _)); exact BK146.out)) : gb146 ≠ gb159)); have n8_ := Aside0.mk ((by rw [hg]; exact Nat.ne_of_gt (blk_lt (g := gb146) (o := .cells #[.int .i64 a0_0, .int .i64 a0_1, .int .i64 a0_2, .int .i64 a0_3, .int .i64 a0_4, .int .i64 a0_5, .int .i64 a0_6, .int .i64 a0_7, .int .i64 a0_8, .int .i64 a0_9] 36 (0, 0)) (by (with_reducible repeat (first | refine b1_ ?_ _ | refine b2_ ?_ | refine b3_ ?_ _)); exact BK146.out)) : gb159 ≠ gb146)); clear HO149; clear HO157; clear BK146; clear HB; have HO149 := n0_; have HO157 := n1_; have BK146 := n2_; have HB := n3_; have BK159 := n4_; have GW159 := n5_; have GE159 := n6_; have NB146_159 := n7_; have NB159_146 := n8_; clear n0_ n1_ n2_ n3_ n4_ n5_ n6_ n7_ n8_; clear hb hbox hg; have hnb26 := NB159_146.out; have hnc26 := NB146_159.out; have hcz27_0 : w25.cell? ⟨gb159, 0, none⟩ = some (.int .i64 0) := (blk_cell BK159.out 0).trans rfl; have hcz27_1 : w25.cell? ⟨gb159, 1, none⟩ = some (.int .i64 0) := (blk_cell BK159.out 1).trans rfl; have hcz27_2 : w25.cell? ⟨gb159, 2, none⟩ = some (.int .i64 0) := (blk_cell BK159.out 2).trans rfl; have hcz27_3 : w25.cell? ⟨gb159, 3, none⟩ = some (.int .i64 0) := (blk_cell BK159.out 3).trans rfl; have hcz27_4 : w25.cell? ⟨gb159, 4, none⟩ = some (.int .i64 0) := (blk_cell BK159.out 4).trans rfl; have hcz27_5 : w25.cell? ⟨gb159, 5, none⟩ = some (.int .i64 0) := (blk_cell BK159.out 5).trans rfl; have hcz27_6 : w25.cell? ⟨gb159, 6, none⟩ = some (.int .i64 0) := (blk_cell BK159.out 6).trans rfl; have hcz27_7 : w25.cell? ⟨gb159, 7, none⟩ = some (.int .i64 0) := (blk_cell BK159.out 7).trans rfl; have hcz27_8 : w25.cell? ⟨gb159, 8, none⟩ = some (.int .i64 0) := (blk_cell BK159.out 8).trans rfl; have hcz27_9 : w25.cell? ⟨gb159, 9, none⟩ = some (.int .i64 0) := (blk_cell BK159.out 9).trans rfl; have hfz27_0 := blk_frozen BK159.out 0; have hfz27_1 := blk_frozen BK159.out 1; have hfz27_2 := blk_frozen BK159.out 2; have hfz27_3 := blk_frozen BK159.out 3; have hfz27_4 := blk_frozen BK159.out 4; have hfz27_5 := blk_frozen BK159.out 5; have hfz27_6 := blk_frozen BK159.out 6; have hfz27_7 := blk_frozen BK159.out 7; have hfz27_8 := blk_frozen BK159.out 8; have hfz27_9 := blk_frozen BK159.out 9) | ((with_reducible refine gate_callee (f := 22) rfl ?_); refine goesL_ (some 14) rfl rfl Try.func22 (by kernel_rfl) rfl #[.agg #[.int .i64 ((rd_T36 t155 0).f0), .int .i64 ((rd_T36 t155 0).f1), .int .i64 ((rd_T36 t155 0).f2), .int .i64 ((rd_T36 t155 0).f3), .int .i64 ((rd_T36 t155 0).f4), .int .i64 ((rd_T36 t155 0).f5), .int .i64 ((rd_T36 t155 0).f6), .int .i64 ((rd_T36 t155 0).f7), .int .i64 ((rd_T36 t155 0).f8), .int .i64 ((rd_T36 t155 0).f9)]] rfl (by (try simp only [List.map_toArray, List.map_cons, List.map_nil]); first | done | rfl | (simp only [List.length_drop, List.length_take]; rfl)) ?_; (with_reducible refine (impl_SideBearings.calls k ((rd_T36 t155 0).f0) ((rd_T36 t155 0).f1) ((rd_T36 t155 0).f2) ((rd_T36 t155 0).f3) ((rd_T36 t155 0).f4) ((rd_T36 t155 0).f5) ((rd_T36 t155 0).f6) ((rd_T36 t155 0).f7) ((rd_T36 t155 0).f8) ((rd_T36 t155 0).f9) t160 t161 _ A4.out).mono ?_); rintro e w28 ⟨rfl, hb⟩; refine ⟨_, rfl, ?_⟩; have n0_ := Aside0.mk (Kd.R_below (by (with_reducible repeat (first | apply Kd.R_alloc | apply Kd.R_drewN | apply Kd.R_drew)); exact (Kd.R_mono (Kd.R_far (p := ⟨gb159, 9, none⟩) (Kd.R_far (p := ⟨gb159, 8, none⟩) (Kd.R_far (p := ⟨gb159, 7, none⟩) (Kd.R_far (p := ⟨gb159, 6, none⟩) (Kd.R_far (p := ⟨gb159, 5, none⟩) (Kd.R_far (p := ⟨gb159, 4, none⟩) (Kd.R_far (p := ⟨gb159, 3, none⟩) (Kd.R_far (p := ⟨gb159, 2, none⟩) (Kd.R_far (p := ⟨gb159, 1, none⟩) (Kd.R_far (p := ⟨gb159, 0, none⟩) (Kd.R_mono HO149.out (fun k_ hk => (⟨hk, hk.2⟩ : _ ∧ k_ ≠ gb159))) (fun _ hk => hk.2) (.int .i64 ((rd_T36 t155 0).f0))) (fun _ hk => hk.2) (.int .i64 ((rd_T36 t155 0).f1))) (fun _ hk => hk.2) (.int .i64 ((rd_T36 t155 0).f2))) (fun _ hk => hk.2) (.int .i64 ((rd_T36 t155 0).f3))) (fun _ hk => hk.2) (.int .i64 ((rd_T36 t155 0).f4))) (fun _ hk => hk.2) (.int .i64 ((rd_T36 t155 0).f5))) (fun _ hk => hk.2) (.int .i64 ((rd_T36 t155 0).f6))) (fun _ hk => hk.2) (.int .i64 ((rd_T36 t155 0).f7))) (fun _ hk => hk.2) (.int .i64 ((rd_T36 t155 0).f8))) (fun _ hk => hk.2) (.int .i64 ((rd_T36 t155 0).f9))) (fun _ h_ => h_.1))) hb); have n1_ := Aside0.mk (Kd.R_below (by (with_reducible repeat (first | apply Kd.R_alloc | apply Kd.R_drewN | apply Kd.R_drew)); exact (Kd.R_mono (Kd.R_far (p := ⟨gb159, 9, none⟩) (Kd.R_far (p := ⟨gb159, 8, none⟩) (Kd.R_far (p := ⟨gb159, 7, none⟩) (Kd.R_far (p := ⟨gb159, 6, none⟩) (Kd.R_far (p := ⟨gb159, 5, none⟩) (Kd.R_far (p := ⟨gb159, 4, none⟩) (Kd.R_far (p := ⟨gb159, 3, none⟩) (Kd.R_far (p := ⟨gb159, 2, none⟩) (Kd.R_far (p := ⟨gb159, 1, none⟩) (Kd.R_far (p := ⟨gb159, 0, none⟩) (Kd.R_mono HO157.out (fun k_ hk => (⟨hk, hk.2⟩ : _ ∧ k_ ≠ gb159))) (fun _ hk => hk.2) (.int .i64 ((rd_T36 t155 0).f0))) (fun _ hk => hk.2) (.int .i64 ((rd_T36 t155 0).f1))) (fun _ hk => hk.2) (.int .i64 ((rd_T36 t155 0).f2))) (fun _ hk => hk.2) (.int .i64 ((rd_T36 t155 0).f3))) (fun _ hk => hk.2) (.int .i64 ((rd_T36 t155 0).f4))) (fun _ hk => hk.2) (.int .i64 ((rd_T36 t155 0).f5))) (fun _ hk => hk.2) (.int .i64 ((rd_T36 t155 0).f6))) (fun _ hk => hk.2) (.int .i64 ((rd_T36 t155 0).f7))) (fun _ hk => hk.2) (.int .i64 ((rd_T36 t155 0).f8))) (fun _ hk => hk.2) (.int .i64 ((rd_T36 t155 0).f9))) (fun _ h_ => h_.1))) hb); have n2_ := Aside0.mk (blk_below (g := gb146) (o := .cells #[.int .i64 a0_0, .int .i64 a0_1, .int .i64 a0_2, .int .i64 a0_3, .int .i64 a0_4, .int .i64 a0_5, .int .i64 a0_6, .int .i64 a0_7, .int .i64 a0_8, .int .i64 a0_9] 36 (0, 0)) (by (with_reducible repeat (first | refine b1_ ?_ _ | refine b2_ ?_ | refine b3_ ?_ _)); refine blk_far ?_ NB146_159.out _; (with_reducible repeat (first | refine b1_ ?_ _ | refine b2_ ?_ | refine b3_ ?_ _)); refine blk_far ?_ NB146_159.out _; (with_reducible repeat (first | refine b1_ ?_ _ | refine b2_ ?_ | refine b3_ ?_ _)); refine blk_far ?_ NB146_159.out _; (with_reducible repeat (first | refine b1_ ?_ _ | refine b2_ ?_ | refine b3_ ?_ _)); refine blk_far ?_ NB146_159.out _; (with_reducible repeat (first | refine b1_ ?_ _ | refine b2_ ?_ | refine b3_ ?_ _)); refine blk_far ?_ NB146_159.out _; (with_reducible repeat (first | refine b1_ ?_ _ | refine b2_ ?_ | refine b3_ ?_ _)); refine blk_far ?_ NB146_159.out _; (with_reducible repeat (first | refine b1_ ?_ _ | refine b2_ ?_ | refine b3_ ?_ _)); refine blk_far ?_ NB146_159.out _; (with_reducible repeat (first | refine b1_ ?_ _ | refine b2_ ?_ | refine b3_ ?_ _)); refine blk_far ?_ NB146_159.out _; (with_reducible repeat (first | refine b1_ ?_ _ | refine b2_ ?_ | refine b3_ ?_ _)); refine blk_far ?_ NB146_159.out _; (with_reducible repeat (first | refine b1_ ?_ _ | refine b2_ ?_ | refine b3_ ?_ _)); refine blk_far ?_ NB146_159.out _; (with_reducible repeat (first | refine b1_ ?_ _ | refine b2_ ?_ | refine b3_ ?_ _)); exact BK146.out) hb); have n3_ := Aside0.mk (blk_below (g := gb159) (o := .cells #[.int .i64 ((rd_T36 t155 0).f0), .int .i64 ((rd_T36 t155 0).f1), .int .i64 ((rd_T36 t155 0).f2), .int .i64 ((rd_T36 t155 0).f3), .int .i64 ((rd_T36 t155 0).f4), .int .i64 ((rd_T36 t155 0).f5), .int .i64 ((rd_T36 t155 0).f6), .int .i64 ((rd_T36 t155 0).f7), .int .i64 ((rd_T36 t155 0).f8), .int .i64 ((rd_T36 t155 0).f9)] 36 (0, 0)) (by (with_reducible repeat (first | refine b1_ ?_ _ | refine b2_ ?_ | refine b3_ ?_ _)); refine blk_put (cs := #[.int .i64 ((rd_T36 t155 0).f0), .int .i64 ((rd_T36 t155 0).f1), .int .i64 ((rd_T36 t155 0).f2), .int .i64 ((rd_T36 t155 0).f3), .int .i64 ((rd_T36 t155 0).f4), .int .i64 ((rd_T36 t155 0).f5), .int .i64 ((rd_T36 t155 0).f6), .int .i64 ((rd_T36 t155 0).f7), .int .i64 ((rd_T36 t155 0).f8), .int .i64 0]) ?_ 9 _ rfl; (with_reducible repeat (first | refine b1_ ?_ _ | refine b2_ ?_ | refine b3_ ?_ _)); refine blk_put (cs := #[.int .i64 ((rd_T36 t155 0).f0), .int .i64 ((rd_T36 t155 0).f1), .int .i64 ((rd_T36 t155 0).f2), .int .i64 ((rd_T36 t155 0).f3), .int .i64 ((rd_T36 t155 0).f4), .int .i64 ((rd_T36 t155 0).f5), .int .i64 ((rd_T36 t155 0).f6), .int .i64 ((rd_T36 t155 0).f7), .int .i64 0, .int .i64 0]) ?_ 8 _ rfl; (with_reducible repeat (first | refine b1_ ?_ _ | refine b2_ ?_ | refine b3_ ?_ _)); refine blk_put (cs := #[.int .i64 ((rd_T36 t155 0).f0), .int .i64 ((rd_T36 t155 0).f1), .int .i64 ((rd_T36 t155 0).f2), .int .i64 ((rd_T36 t155 0).f3), .int .i64 ((rd_T36 t155 0).f4), .int .i64 ((rd_T36 t155 0).f5), .int .i64 ((rd_T36 t155 0).f6), .int .i64 0, .int .i64 0, .int .i64 0]) ?_ 7 _ rfl; (with_reducible repeat (first | refine b1_ ?_ _ | refine b2_ ?_ | refine b3_ ?_ _)); refine blk_put (cs := #[.int .i64 ((rd_T36 t155 0).f0), .int .i64 ((rd_T36 t155 0).f1), .int .i64 ((rd_T36 t155 0).f2), .int .i64 ((rd_T36 t155 0).f3), .int .i64 ((rd_T36 t155 0).f4), .int .i64 ((rd_T36 t155 0).f5), .int .i64 0, .int .i64 0, .int .i64 0, .int .i64 0]) ?_ 6 _ rfl; (with_reducible repeat (first | refine b1_ ?_ _ | refine b2_ ?_ | refine b3_ ?_ _)); refine blk_put (cs := #[.int .i64 ((rd_T36 t155 0).f0), .int .i64 ((rd_T36 t155 0).f1), .int .i64 ((rd_T36 t155 0).f2), .int .i64 ((rd_T36 t155 0).f3), .int .i64 ((rd_T36 t155 0).f4), .int .i64 0, .int .i64 0, .int .i64 0, .int .i64 0, .int .i64 0]) ?_ 5 _ rfl; (with_reducible repeat (first | refine b1_ ?_ _ | refine b2_ ?_ | refine b3_ ?_ _)); refine blk_put (cs := #[.int .i64 ((rd_T36 t155 0).f0), .int .i64 ((rd_T36 t155 0).f1), .int .i64 ((rd_T36 t155 0).f2), .int .i64 ((rd_T36 t155 0).f3), .int .i64 0, .int .i64 0, .int .i64 0, .int .i64 0, .int .i64 0, .int .i64 0]) ?_ 4 _ rfl; (with_reducible repeat (first | refine b1_ ?_ _ | refine b2_ ?_ | refine b3_ ?_ _)); refine blk_put (cs := #[.int .i64 ((rd_T36 t155 0).f0), .int .i64 ((rd_T36 t155 0).f1), .int .i64 ((rd_T36 t155 0).f2), .int .i64 0, .int .i64 0, .int .i64 0, .int .i64 0, .int .i64 0, .int .i64 0, .int .i64 0]) ?_ 3 _ rfl; (with_reducible repeat (first | refine b1_ ?_ _ | refine b2_ ?_ | refine b3_ ?_ _)); refine blk_put (cs := #[.int .i64 ((rd_T36 t155 0).f0), .int .i64 ((rd_T36 t155 0).f1), .int .i64 0, .int .i64 0, .int .i64 0, .int .i64 0, .int .i64 0, .int .i64 0, .int .i64 0, .int .i64 0]) ?_ 2 _ rfl; (with_reducible repeat (first | refine b1_ ?_ _ | refine b2_ ?_ | refine b3_ ?_ _)); refine blk_put (cs := #[.int .i64 ((rd_T36 t155 0).f0), .int .i64 0, .int .i64 0, .int .i64 0, .int .i64 0, .int .i64 0, .int .i64 0, .int .i64 0, .int .i64 0, .int .i64 0]) ?_ 1 _ rfl; (with_reducible repeat (first | refine b1_ ?_ _ | refine b2_ ?_ | refine b3_ ?_ _)); refine blk_put (cs := #[.int .i64 0, .int .i64 0, .int .i64 0, .int .i64 0, .int .i64 0, .int .i64 0, .int .i64 0, .int .i64 0, .int .i64 0, .int .i64 0]) ?_ 0 _ rfl; (with_reducible repeat (first | refine b1_ ?_ _ | refine b2_ ?_ | refine b3_ ?_ _)); exact BK159.out) hb); have n4_ := Aside0.mk (below_step (by repeat (first | (with_reducible first | exact HB.out | apply below_alloc | apply pw_below_drewN | apply below_drew1 | refine below_set ?_ GE146.out | refine below_set ?_ GE159.out) | exact HB.out)) hb); clear HO149; clear HO157; clear BK146; clear BK159; clear HB; have HO149 := n0_; have HO157 := n1_; have BK146 := n2_; have BK159 := n3_; have HB := n4_; clear n0_ n1_ n2_ n3_ n4_; (try clear hb); (try clear hb2); (try clear hk); (try clear hi); have hcz29_0 : w28.cell? ⟨gb159, 0, none⟩ = some (.int .i64 ((rd_T36 t155 0).f0)) := (blk_cell BK159.out 0).trans rfl; have hcz29_1 : w28.cell? ⟨gb159, 1, none⟩ = some (.int .i64 ((rd_T36 t155 0).f1)) := (blk_cell BK159.out 1).trans rfl; have hcz29_2 : w28.cell? ⟨gb159, 2, none⟩ = some (.int .i64 ((rd_T36 t155 0).f2)) := (blk_cell BK159.out 2).trans rfl; have hcz29_3 : w28.cell? ⟨gb159, 3, none⟩ = some (.int .i64 ((rd_T36 t155 0).f3)) := (blk_cell BK159.out 3).trans rfl; have hcz29_4 : w28.cell? ⟨gb159, 4, none⟩ = some (.int .i64 ((rd_T36 t155 0).f4)) := (blk_cell BK159.out 4).trans rfl; have hcz29_5 : w28.cell? ⟨gb159, 5, none⟩ = some (.int .i64 ((rd_T36 t155 0).f5)) := (blk_cell BK159.out 5).trans rfl; have hcz29_6 : w28.cell? ⟨gb159, 6, none⟩ = some (.int .i64 ((rd_T36 t155 0).f6)) := (blk_cell BK159.out 6).trans rfl; have hcz29_7 : w28.cell? ⟨gb159, 7, none⟩ = some (.int .i64 ((rd_T36 t155 0).f7)) := (blk_cell BK159.out 7).trans rfl; have hcz29_8 : w28.cell? ⟨gb159, 8, none⟩ = some (.int .i64 ((rd_T36 t155 0).f8)) := (blk_cell BK159.out 8).trans rfl; have hcz29_9 : w28.cell? ⟨gb159, 9, none⟩ = some (.int .i64 ((rd_T36 t155 0).f9)) := (blk_cell BK159.out 9).trans rfl; have hfz29_0 := blk_frozen BK159.out 0; have hfz29_1 := blk_frozen BK159.out 1; have hfz29_2 := blk_frozen BK159.out 2; have hfz29_3 := blk_frozen BK159.out 3; have hfz29_4 := blk_frozen BK159.out 4; have hfz29_5 := blk_frozen BK159.out 5; have hfz29_6 := blk_frozen BK159.out 6; have hfz29_7 := blk_frozen BK159.out 7; have hfz29_8 := blk_frozen BK159.out 8; have hfz29_9 := blk_frozen BK159.out 9))
   go_ret
   exact ⟨by first | rfl | (simp [errW_none, errW_some] <;> rfl) | (simp [*, errW_none, errW_some] <;> rfl), by repeat (first | (with_reducible first | exact HB.out | apply below_alloc | apply pw_below_drewN | apply below_drew1 | refine below_set ?_ GE146.out | refine below_set ?_ GE159.out) | exact HB.out)⟩
 ·rw [if_neg c3] at H
  exact absurd H (by simp)

/-- THE ONE PURE STATEMENT of laws_FnBearings: yours. -/
def good36 (x : S36) : Prop := (Lit.int .i64 x.f0).wf = true ∧ (Lit.int .i64 x.f1).wf = true ∧ (Lit.int .i64 x.f2).wf = true ∧ (Lit.int .i64 x.f3).wf = true ∧ (Lit.int .i64 x.f4).wf = true ∧ (Lit.int .i64 x.f5).wf = true ∧ (Lit.int .i64 x.f6).wf = true ∧ (Lit.int .i64 x.f7).wf = true ∧ (Lit.int .i64 x.f8).wf = true ∧ (Lit.int .i64 x.f9).wf = true
def laws_FnBearings.Pure : Prop := ∀ (a0_0 : Int) (a0_1 : Int) (a0_2 : Int) (a0_3 : Int) (a0_4 : Int) (a0_5 : Int) (a0_6 : Int) (a0_7 : Int) (a0_8 : Int) (a0_9 : Int), (Lit.int .i64 a0_0).wf = true → (Lit.int .i64 a0_1).wf = true → (Lit.int .i64 a0_2).wf = true → (Lit.int .i64 a0_3).wf = true → (Lit.int .i64 a0_4).wf = true → (Lit.int .i64 a0_5).wf = true → (Lit.int .i64 a0_6).wf = true → (Lit.int .i64 a0_7).wf = true → (Lit.int .i64 a0_8).wf = true → (Lit.int .i64 a0_9).wf = true → ∃ k, laws_FnBearings.f k a0_0 a0_1 a0_2 a0_3 a0_4 a0_5 a0_6 a0_7 a0_8 a0_9 = some true
theorem laws_FnBearings.walk (P : laws_FnBearings.Pure) (a0_0 : Int) (a0_1 : Int) (a0_2 : Int) (a0_3 : Int) (a0_4 : Int) (a0_5 : Int) (a0_6 : Int) (a0_7 : Int) (a0_8 : Int) (a0_9 : Int) (w : World) (w0_0 : (Lit.int .i64 a0_0).wf = true) (w0_1 : (Lit.int .i64 a0_1).wf = true) (w0_2 : (Lit.int .i64 a0_2).wf = true) (w0_3 : (Lit.int .i64 a0_3).wf = true) (w0_4 : (Lit.int .i64 a0_4).wf = true) (w0_5 : (Lit.int .i64 a0_5).wf = true) (w0_6 : (Lit.int .i64 a0_6).wf = true) (w0_7 : (Lit.int .i64 a0_7).wf = true) (w0_8 : (Lit.int .i64 a0_8).wf = true) (w0_9 : (Lit.int .i64 a0_9).wf = true) :
  Calls Try.prog 7 #[.agg #[.int .i64 a0_0, .int .i64 a0_1, .int .i64 a0_2, .int .i64 a0_3, .int .i64 a0_4, .int .i64 a0_5, .int .i64 a0_6, .int .i64 a0_7, .int .i64 a0_8, .int .i64 a0_9]] w fun e w' => e = .returned (.bool true) ∧ Below w.heap.size w w' := by
 obtain ⟨k, h⟩ := P a0_0 a0_1 a0_2 a0_3 a0_4 a0_5 a0_6 a0_7 a0_8 a0_9 w0_0 w0_1 w0_2 w0_3 w0_4 w0_5 w0_6 w0_7 w0_8 w0_9
 refine (laws_FnBearings.calls k a0_0 a0_1 a0_2 a0_3 a0_4 a0_5 a0_6 a0_7 a0_8 a0_9 true w h).mono ?_
 rintro e w' ⟨rfl, hd⟩
 exact ⟨rfl, hd⟩

end Go.Proofs.Ytkfphiccfnfkdaa.PFnBearings
