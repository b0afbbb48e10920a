-- Written by a program of this session (xprint) out of the translation; Lean checks it.
import Derived.Test.YtlbmfnjhpojghaaPFnAdvanceDeltax0
namespace Go.Proofs.Ytlbmfnjhpojghaa.PFnAdvanceDelta
open Go.RowKit Go.Proofs.YtlbmfnjhpojghaaW.PrintWords Go.Proofs.YtlbmfnjhpojghaaW.PrintLast Go.Proofs.YtlbmfnjhpojghaaW.PrintMore
attribute [local go_sem] max2_int min2_int max_two min_two max_three min_three max_four min_four   -- for this text's walks alone
set_option linter.unusedVariables false
set_option linter.unusedSimpArgs false

attribute [local go_sem] f_add f_sub f_mul f_quo f_conv f_same f_int f_max
/-! ### spec_DeltaRef: function 13 -/
mutual
def spec_DeltaRef.l0 : Nat → List (List (S36)) → Int → List Int → Nat → List Int → Int → Int → List Int → List (List Int) → Option (Nat)
 | 0, _, _, _, _, _, _, _, _, _ => none
 | k + 1, x0, x2, x3, x9, x20, x21, x22, x147000, x147001 => if x22 < x21 then (if 0 ≤ x22 then (if x22 < (x20.length : Int) then (if 0 ≤ (rd x20 x22) then (if (rd x20 x22) < (x0.length : Int) then (spec_DeltaRef.l1 k x0 x2 x3 x9 x22 4607182418800017408 x20 x21 x22 (rd_L8 x0 (rd x20 x22)) ((rd_L8 x0 (rd x20 x22)).length : Int) 0 x147000 x147001) else (none)) else (none)) else (none)) else (none)) else (some x9)
def spec_DeltaRef.l1 : Nat → List (List (S36)) → Int → List Int → Nat → Int → Nat → List Int → Int → Int → List (S36) → Int → Int → List Int → List (List Int) → Option (Nat)
 | 0, _, _, _, _, _, _, _, _, _, _, _, _, _, _ => none
 | k + 1, x0, x2, x3, x9, x10, x12, x20, x21, x22, x30, x31, x32, x147000, x147001 => if x32 < x31 then (if 0 ≤ x32 then (if x32 < (x30.length : Int) then (if x32 < (x3.length : Int) then (if ((rd_T36 x30 x32).f1) = 0 then (spec_DeltaRef.j2 k x0 x2 x3 x9 x10 x12 ((rd_T36 x30 x32).f0) ((rd_T36 x30 x32).f1) ((rd_T36 x30 x32).f2) (rd x3 x32) x20 x21 x22 x30 x31 x32 true x147000 x147001) else (spec_DeltaRef.j2 k x0 x2 x3 x9 x10 x12 ((rd_T36 x30 x32).f0) ((rd_T36 x30 x32).f1) ((rd_T36 x30 x32).f2) (rd x3 x32) x20 x21 x22 x30 x31 x32 ((rd x3 x32) == ((rd_T36 x30 x32).f1)) x147000 x147001)) else (none)) else (none)) else (none)) else (if 0 ≤ x2 then (if x2 < (x147001.length : Int) then (if 0 ≤ x10 then (if x10 < ((rd_L9 x147001 x2).length : Int) then (if fok .mul .f64 x12 (floatOfInt .f64 (rd (rd_L9 x147001 x2) x10)) = true then (if fok .add .f64 x9 (fv .mul .f64 x12 (floatOfInt .f64 (rd (rd_L9 x147001 x2) x10))) = true then (spec_DeltaRef.l0 k x0 x2 x3 (fv .add .f64 x9 (fv .mul .f64 x12 (floatOfInt .f64 (rd (rd_L9 x147001 x2) x10)))) x20 x21 (wrap64 (x22 + 1)) x147000 x147001) else (none)) else (none)) else (none)) else (none)) else (none)) else (none))
def spec_DeltaRef.j2 : Nat → List (List (S36)) → Int → List Int → Nat → Int → Nat → Int → Int → Int → Int → List Int → Int → Int → List (S36) → Int → Int → Bool → List Int → List (List Int) → Option (Nat)
 | 0, _, _, _, _, _, _, _, _, _, _, _, _, _, _, _, _, _, _, _ => none
 | k + 1, x0, x2, x3, x9, x10, x12, x15, x16, x17, x18, x20, x21, x22, x30, x31, x32, x58, x147000, x147001 => if x58 = true then (spec_DeltaRef.l1 k x0 x2 x3 x9 x10 x12 x20 x21 x22 x30 x31 (wrap64 (x32 + 1)) x147000 x147001) else (if x18 ≤ x15 then (spec_DeltaRef.l1 k x0 x2 x3 x9 x10 0 x20 x21 x22 x30 x31 (wrap64 (x32 + 1)) x147000 x147001) else (if x18 ≥ x17 then (spec_DeltaRef.l1 k x0 x2 x3 x9 x10 0 x20 x21 x22 x30 x31 (wrap64 (x32 + 1)) x147000 x147001) else (if x18 < x16 then (if fok .quo .f64 (floatOfInt .f64 (wrap64 (x18 - x15))) (floatOfInt .f64 (wrap64 (x16 - x15))) = true then (if fok .mul .f64 x12 (fv .quo .f64 (floatOfInt .f64 (wrap64 (x18 - x15))) (floatOfInt .f64 (wrap64 (x16 - x15)))) = true then (spec_DeltaRef.l1 k x0 x2 x3 x9 x10 (fv .mul .f64 x12 (fv .quo .f64 (floatOfInt .f64 (wrap64 (x18 - x15))) (floatOfInt .f64 (wrap64 (x16 - x15))))) x20 x21 x22 x30 x31 (wrap64 (x32 + 1)) x147000 x147001) else (none)) else (none)) else (if fok .quo .f64 (floatOfInt .f64 (wrap64 (x17 - x18))) (floatOfInt .f64 (wrap64 (x17 - x16))) = true then (if fok .mul .f64 x12 (fv .quo .f64 (floatOfInt .f64 (wrap64 (x17 - x18))) (floatOfInt .f64 (wrap64 (x17 - x16)))) = true then (spec_DeltaRef.l1 k x0 x2 x3 x9 x10 (fv .mul .f64 x12 (fv .quo .f64 (floatOfInt .f64 (wrap64 (x17 - x18))) (floatOfInt .f64 (wrap64 (x17 - x16))))) x20 x21 x22 x30 x31 (wrap64 (x32 + 1)) x147000 x147001) else (none)) else (none)))))
end
def spec_DeltaRef.f (k : Nat) (l0 : List (List (S36))) (l1_0 : List Int) (l1_1 : List (List Int)) (a2 : Int) (l3 : List Int) : Option (Nat) := spec_DeltaRef.l0 k l0 a2 l3 0 l1_0 (l1_0.length : Int) 0 l1_0 l1_1
theorem spec_DeltaRef.mono_l : ∀ k, (∀ y0 y1 y2 y3 y4 y5 y6 y7 y8, LeO (spec_DeltaRef.l0 k y0 y1 y2 y3 y4 y5 y6 y7 y8) (spec_DeltaRef.l0 (k + 1) y0 y1 y2 y3 y4 y5 y6 y7 y8)) ∧ (∀ y0 y1 y2 y3 y4 y5 y6 y7 y8 y9 y10 y11 y12 y13, LeO (spec_DeltaRef.l1 k y0 y1 y2 y3 y4 y5 y6 y7 y8 y9 y10 y11 y12 y13) (spec_DeltaRef.l1 (k + 1) y0 y1 y2 y3 y4 y5 y6 y7 y8 y9 y10 y11 y12 y13)) ∧ (∀ y0 y1 y2 y3 y4 y5 y6 y7 y8 y9 y10 y11 y12 y13 y14 y15 y16 y17 y18, LeO (spec_DeltaRef.j2 k y0 y1 y2 y3 y4 y5 y6 y7 y8 y9 y10 y11 y12 y13 y14 y15 y16 y17 y18) (spec_DeltaRef.j2 (k + 1) y0 y1 y2 y3 y4 y5 y6 y7 y8 y9 y10 y11 y12 y13 y14 y15 y16 y17 y18))
 | 0 => ⟨fun _ _ _ _ _ _ _ _ _ r h => by simp [spec_DeltaRef.l0] at h, fun _ _ _ _ _ _ _ _ _ _ _ _ _ _ r h => by simp [spec_DeltaRef.l1] at h, fun _ _ _ _ _ _ _ _ _ _ _ _ _ _ _ _ _ _ _ r h => by simp [spec_DeltaRef.j2] at h⟩
 | k + 1 => by
  obtain ⟨ih0, ih1, ih2⟩ := spec_DeltaRef.mono_l k
  refine ⟨?_, ?_, ?_⟩
  ·intro y0 y1 y2 y3 y4 y5 y6 y7 y8
   unfold spec_DeltaRef.l0
   repeat' first
   | (with_reducible exact ih0 _ _ _ _ _ _ _ _ _)
   | (with_reducible exact ih1 _ _ _ _ _ _ _ _ _ _ _ _ _ _)
   | (with_reducible exact ih2 _ _ _ _ _ _ _ _ _ _ _ _ _ _ _ _ _ _ _)
   | (with_reducible exact LeO.refl _)
   | (with_reducible exact LeO.none _)
   | (with_reducible refine LeO.ite ?_ ?_)
   | (with_reducible refine LeO.bind ?_ (fun _ => ?_))
   | exact ih0 _ _ _ _ _ _ _ _ _
   | exact ih1 _ _ _ _ _ _ _ _ _ _ _ _ _ _
   | exact ih2 _ _ _ _ _ _ _ _ _ _ _ _ _ _ _ _ _ _ _
   | exact LeO.none _
   | refine LeO.ite ?_ ?_
   | refine LeO.bind ?_ (fun _ => ?_)
  ·intro y0 y1 y2 y3 y4 y5 y6 y7 y8 y9 y10 y11 y12 y13
   unfold spec_DeltaRef.l1
   repeat' first
   | (with_reducible exact ih0 _ _ _ _ _ _ _ _ _)
   | (with_reducible exact ih1 _ _ _ _ _ _ _ _ _ _ _ _ _ _)
   | (with_reducible exact ih2 _ _ _ _ _ _ _ _ _ _ _ _ _ _ _ _ _ _ _)
   | (with_reducible exact LeO.refl _)
   | (with_reducible exact LeO.none _)
   | (with_reducible refine LeO.ite ?_ ?_)
   | (with_reducible refine LeO.bind ?_ (fun _ => ?_))
   | exact ih0 _ _ _ _ _ _ _ _ _
   | exact ih1 _ _ _ _ _ _ _ _ _ _ _ _ _ _
   | exact ih2 _ _ _ _ _ _ _ _ _ _ _ _ _ _ _ _ _ _ _
   | exact LeO.none _
   | refine LeO.ite ?_ ?_
   | refine LeO.bind ?_ (fun _ => ?_)
  ·intro y0 y1 y2 y3 y4 y5 y6 y7 y8 y9 y10 y11 y12 y13 y14 y15 y16 y17 y18
   unfold spec_DeltaRef.j2
   repeat' first
   | (with_reducible exact ih0 _ _ _ _ _ _ _ _ _)
   | (with_reducible exact ih1 _ _ _ _ _ _ _ _ _ _ _ _ _ _)
   | (with_reducible exact ih2 _ _ _ _ _ _ _ _ _ _ _ _ _ _ _ _ _ _ _)
   | (with_reducible exact LeO.refl _)
   | (with_reducible exact LeO.none _)
   | (with_reducible refine LeO.ite ?_ ?_)
   | (with_reducible refine LeO.bind ?_ (fun _ => ?_))
   | exact ih0 _ _ _ _ _ _ _ _ _
   | exact ih1 _ _ _ _ _ _ _ _ _ _ _ _ _ _
   | exact ih2 _ _ _ _ _ _ _ _ _ _ _ _ _ _ _ _ _ _ _
   | exact LeO.none _
   | refine LeO.ite ?_ ?_
   | refine LeO.bind ?_ (fun _ => ?_)
theorem spec_DeltaRef.mono : ∀ a0 a1 a2 a3 a4 k, LeO (spec_DeltaRef.f k a0 a1 a2 a3 a4) (spec_DeltaRef.f (k + 1) a0 a1 a2 a3 a4) := by
 intro a0 a1 a2 a3 a4 k
 obtain ⟨ih0, ih1, ih2⟩ := spec_DeltaRef.mono_l k
 unfold spec_DeltaRef.f
 repeat' first
   | (with_reducible exact ih0 _ _ _ _ _ _ _ _ _)
   | (with_reducible exact ih1 _ _ _ _ _ _ _ _ _ _ _ _ _ _)
   | (with_reducible exact ih2 _ _ _ _ _ _ _ _ _ _ _ _ _ _ _ _ _ _ _)
   | (with_reducible exact LeO.refl _)
   | (with_reducible exact LeO.none _)
   | (with_reducible refine LeO.ite ?_ ?_)
   | (with_reducible refine LeO.bind ?_ (fun _ => ?_))
   | exact ih0 _ _ _ _ _ _ _ _ _
   | exact ih1 _ _ _ _ _ _ _ _ _ _ _ _ _ _
   | exact ih2 _ _ _ _ _ _ _ _ _ _ _ _ _ _ _ _ _ _ _
   | exact LeO.none _
   | refine LeO.ite ?_ ?_
   | refine LeO.bind ?_ (fun _ => ?_)
set_option maxHeartbeats 8000000 in
set_option maxRecDepth 100000 in
theorem spec_DeltaRef.calls (k : Nat) (A0 : Option Addr) (c0 : Nat) (l0 : List (List (S36))) (A1_0 : Option Addr) (c1_0 : Nat) (l1_0 : List Int) (A1_1 : Option Addr) (c1_1 : Nat) (l1_1 : List (List Int)) (a2 : Int) (A3 : Option Addr) (c3 : Nat) (l3 : List Int) (r : Nat) (w : World) (hr0 : Kd.C (Kd.slice 36 k36) w A0 l0.length l0) (hc0 : l0.length ≤ c0) (hr1_0 : Kd.C (Kd.int .i64) w A1_0 l1_0.length l1_0) (hc1_0 : l1_0.length ≤ c1_0) (hr1_1 : Kd.C (Kd.slice 3 (Kd.int .i64)) w A1_1 l1_1.length l1_1) (hc1_1 : l1_1.length ≤ c1_1) (hr3 : Kd.C (Kd.int .i64) w A3 l3.length l3) (hc3 : l3.length ≤ c3) (h : spec_DeltaRef.f k l0 l1_0 l1_1 a2 l3 = some r) :
  Calls Try.prog 13 #[.slice A0 l0.length c0, .agg #[.slice A1_0 l1_0.length c1_0, .slice A1_1 l1_1.length c1_1], .int .i64 a2, .slice A3 l3.length c3] w fun e w' => e = .returned (.float .f64 r) ∧ Below w.heap.size w w' := by
 have hu41 := Try.underlying41
 have hu36 := Try.underlying36
 have HR0 := Aside0.mk hr0
 have HC0 := Aside0.mk hc0
 clear hr0 hc0
 have HR1_0 := Aside0.mk hr1_0
 have HC1_0 := Aside0.mk hc1_0
 clear hr1_0 hc1_0
 have HR1_1 := Aside0.mk hr1_1
 have HC1_1 := Aside0.mk hc1_1
 clear hr1_1 hc1_1
 have HR3 := Aside0.mk hr3
 have HC3 := Aside0.mk hc3
 clear hr3 hc3
 have HB := Aside0.mk (Below.refl w.heap.size w)
 have H : (spec_DeltaRef.l0 k l0 a2 l3 0 l1_0 (l1_0.length : Int) 0 l1_0 l1_1) = some r := h
 clear h
 have H' := Aside0.mk H
 clear H
 go_enter Try.func13, Try.ntmps13
 go_wp2_with (first | ((with_reducible refine gate_dst (N := 5) rfl ?_); refine box_event ?hg (N := 5) ?hd (cs := #[.slice A1_0 l1_0.length c1_0, .slice A1_1 l1_1.length c1_1]) (t := 41) ?hr ?_; (case hd => rfl); (case hg => rfl); (case hr => first | (go_simp; done) | (go_simp; rfl)); intro gb146 hg w5 hbox hb; have n0_ := Aside0.mk (below_step (by repeat (first | (with_reducible first | exact HB.out | apply below_alloc | apply pw_below_drewN | apply below_drew1) | exact HB.out)) hb); have n1_ := Aside0.mk (hbox); have n2_ := Aside0.mk ((by rw [hg]; exact (below_size (by repeat (first | (with_reducible first | exact HB.out | apply below_alloc | apply pw_below_drewN | apply below_drew1) | exact HB.out))) : w.heap.size ≤ gb146)); have n3_ := Aside0.mk ((by rw [hg]; exact (below_size (by repeat (first | (with_reducible first | exact HB.out | apply below_alloc | apply pw_below_drewN | apply below_drew1) | exact HB.out))) : w.heap.size ≤ gb146)); clear HB; have HB := n0_; have BK146 := n1_; have GW146 := n2_; have GE146 := n3_; clear n0_ n1_ n2_ n3_; clear hb hbox hg; have hcz6_0 : w5.cell? ⟨gb146, 0, none⟩ = some (.slice A1_0 l1_0.length c1_0) := (blk_cell BK146.out 0).trans rfl; have hcz6_1 : w5.cell? ⟨gb146, 1, none⟩ = some (.slice A1_1 l1_1.length c1_1) := (blk_cell BK146.out 1).trans rfl; have hfz6_0 := blk_frozen BK146.out 0; have hfz6_1 := blk_frozen BK146.out 1))
 repeat (go_quiet (first | ((with_reducible refine gate_dst (N := 5) rfl ?_); refine box_event ?hg (N := 5) ?hd (cs := #[.slice A1_0 l1_0.length c1_0, .slice A1_1 l1_1.length c1_1]) (t := 41) ?hr ?_; (case hd => rfl); (case hg => rfl); (case hr => first | (go_simp; done) | (go_simp; rfl)); intro gb146 hg w5 hbox hb; have n0_ := Aside0.mk (below_step (by repeat (first | (with_reducible first | exact HB.out | apply below_alloc | apply pw_below_drewN | apply below_drew1) | exact HB.out)) hb); have n1_ := Aside0.mk (hbox); have n2_ := Aside0.mk ((by rw [hg]; exact (below_size (by repeat (first | (with_reducible first | exact HB.out | apply below_alloc | apply pw_below_drewN | apply below_drew1) | exact HB.out))) : w.heap.size ≤ gb146)); have n3_ := Aside0.mk ((by rw [hg]; exact (below_size (by repeat (first | (with_reducible first | exact HB.out | apply below_alloc | apply pw_below_drewN | apply below_drew1) | exact HB.out))) : w.heap.size ≤ gb146)); clear HB; have HB := n0_; have BK146 := n1_; have GW146 := n2_; have GE146 := n3_; clear n0_ n1_ n2_ n3_; clear hb hbox hg; have hcz6_0 : w5.cell? ⟨gb146, 0, none⟩ = some (.slice A1_0 l1_0.length c1_0) := (blk_cell BK146.out 0).trans rfl; have hcz6_1 : w5.cell? ⟨gb146, 1, none⟩ = some (.slice A1_1 l1_1.length c1_1) := (blk_cell BK146.out 1).trans rfl; have hfz6_0 := blk_frozen BK146.out 0; have hfz6_1 := blk_frozen BK146.out 1)); try go_wp2_with (first | ((with_reducible refine gate_dst (N := 5) rfl ?_); refine box_event ?hg (N := 5) ?hd (cs := #[.slice A1_0 l1_0.length c1_0, .slice A1_1 l1_1.length c1_1]) (t := 41) ?hr ?_; (case hd => rfl); (case hg => rfl); (case hr => first | (go_simp; done) | (go_simp; rfl)); intro gb146 hg w5 hbox hb; have n0_ := Aside0.mk (below_step (by repeat (first | (with_reducible first | exact HB.out | apply below_alloc | apply pw_below_drewN | apply below_drew1) | exact HB.out)) hb); have n1_ := Aside0.mk (hbox); have n2_ := Aside0.mk ((by rw [hg]; exact (below_size (by repeat (first | (with_reducible first | exact HB.out | apply below_alloc | apply pw_below_drewN | apply below_drew1) | exact HB.out))) : w.heap.size ≤ gb146)); have n3_ := Aside0.mk ((by rw [hg]; exact (below_size (by repeat (first | (with_reducible first | exact HB.out | apply below_alloc | apply pw_below_drewN | apply below_drew1) | exact HB.out))) : w.heap.size ≤ gb146)); clear HB; have HB := n0_; have BK146 := n1_; have GW146 := n2_; have GE146 := n3_; clear n0_ n1_ n2_ n3_; clear hb hbox hg; have hcz6_0 : w5.cell? ⟨gb146, 0, none⟩ = some (.slice A1_0 l1_0.length c1_0) := (blk_cell BK146.out 0).trans rfl; have hcz6_1 : w5.cell? ⟨gb146, 1, none⟩ = some (.slice A1_1 l1_1.length c1_1) := (blk_cell BK146.out 1).trans rfl; have hfz6_0 := blk_frozen BK146.out 0; have hfz6_1 := blk_frozen BK146.out 1)))
 go_loopg [9, 22] k (fun kq v9 v22 w' => ∃ (x9_1 : Nat) (x22_1 : Int), v9 = .float .f64 x9_1 ∧ v22 = .int .i64 x22_1 ∧ Aside0 (spec_DeltaRef.l0 kq l0 a2 l3 x9_1 l1_0 (l1_0.length : Int) x22_1 l1_0 l1_1 = some r) ∧ Aside0 (kq ≤ k) ∧ Aside0 (w'.heap[gb146]? = some (.cells #[(.slice A1_0 l1_0.length c1_0), (.slice A1_1 l1_1.length c1_1)] 41 (0, 0))) ∧ Aside0 (Below w.heap.size w w'))
 case atStart => exact ⟨(0), (0), (by first | rfl | (simp; done) | (simp [*]; done)), (by first | rfl | (simp; done) | (simp [*]; done)), H', ⟨Nat.le_refl _⟩, ⟨by (with_reducible repeat (first | refine b1_ ?_ _ | refine b2_ ?_ | refine b3_ ?_ _)); exact BK146.out⟩, ⟨by repeat (first | (with_reducible first | exact HB.out | apply below_alloc | apply pw_below_drewN | apply below_drew1 | refine below_set ?_ GE146.out) | exact HB.out)⟩⟩
 case round =>
  clear H'
  try clear c1
  try clear p2
  try clear c3
  try clear hcz6_0
  try clear hcz6_1
  try clear hfz6_0
  try clear hfz6_1
  obtain ⟨x9_1, x22_1, rfl, rfl, HA, HK1, BK146, HB⟩ := hrel
  cases gk with
  | zero => exact absurd HA.out (by simp [spec_DeltaRef.l0])
  | succ k1 =>
   have H := HA.out
   clear HA
   simp only [spec_DeltaRef.l0] at H
   by_cases c7 : x22_1 < (l1_0.length : Int)
   ·rw [if_pos c7] at H
    have c7b0 : decide (x22_1 < (l1_0.length : Int)) = true := decide_eq_true c7
    clear c7
    by_cases c8 : 0 ≤ x22_1
    ·rw [if_pos c8] at H
     have c8b0 : decide (0 ≤ x22_1) = true := decide_eq_true c8
     clear c8
     by_cases c9 : x22_1 < (l1_0.length : Int)
     ·rw [if_pos c9] at H
      have c9b0 : decide (x22_1 < (l1_0.length : Int)) = true := decide_eq_true c9
      clear c9
      by_cases c10 : 0 ≤ (rd l1_0 x22_1)
      ·rw [if_pos c10] at H
       have c10b0 : decide (0 ≤ (rd l1_0 x22_1)) = true := decide_eq_true c10
       clear c10
       by_cases c11 : (rd l1_0 x22_1) < (l0.length : Int)
       ·rw [if_pos c11] at H
        have c11b0 : decide ((rd l1_0 x22_1) < (l0.length : Int)) = true := decide_eq_true c11
        clear c11
        have H' := Aside0.mk H
        clear H
        have p147 : 0 ≤ (x22_1 : Int) := of_decide_eq_true (by first | (with_reducible assumption) | assumption)
        have q147 : x22_1 < (l1_0.length : Int) := of_decide_eq_true (by first | (with_reducible assumption) | assumption)
        obtain ⟨ad147, e147, hx147_0⟩ := Kd.at_int HR1_0.out x22_1 p147 q147
        cases e147
        replace hx147_0 := (HB.out.cell (World.block_lt_of_cell? w _ hx147_0)).trans hx147_0
        replace p147 := eq_true p147
        replace q147 := eq_true q147
        have p148 : 0 ≤ ((rd l1_0 x22_1) : Int) := of_decide_eq_true (by first | (with_reducible assumption) | assumption)
        have q148 : (rd l1_0 x22_1) < (l0.length : Int) := of_decide_eq_true (by first | (with_reducible assumption) | assumption)
        obtain ⟨ad148, A148_0, c148_0, e148, hx148_0, hl148_0, hi148_0⟩ := at_L8 HR0.out (rd l1_0 x22_1) p148 q148
        cases e148
        replace hx148_0 := (HB.out.cell (World.block_lt_of_cell? w _ hx148_0)).trans hx148_0
        have HR148_0 := Aside0.mk hi148_0
        have HC148_0 := Aside0.mk hl148_0
        clear hi148_0 hl148_0
        replace p148 := eq_true p148
        replace q148 := eq_true q148
        go_wp2
        repeat (go_quiet (fail); try go_wp2)
        go_loopg [12, 32] k1 (fun kq v12 v32 w' => ∃ (x12_2 : Nat) (x32_2 : Int), v12 = .float .f64 x12_2 ∧ v32 = .int .i64 x32_2 ∧ Aside0 (spec_DeltaRef.l1 kq l0 a2 l3 x9_1 x22_1 x12_2 l1_0 (l1_0.length : Int) x22_1 (rd_L8 l0 (rd l1_0 x22_1)) ((rd_L8 l0 (rd l1_0 x22_1)).length : Int) x32_2 l1_0 l1_1 = some r) ∧ Aside0 (kq ≤ k1) ∧ Aside0 (w'.heap[gb146]? = some (.cells #[(.slice (some ad147) l1_0.length c1_0), (.slice A1_1 l1_1.length c1_1)] 41 (0, 0))) ∧ Aside0 (Below w.heap.size w w'))
        case atStart => exact ⟨(4607182418800017408), (0), (by first | rfl | (simp; done) | (simp [*]; done)), (by first | rfl | (simp; done) | (simp [*]; done)), H', ⟨Nat.le_refl _⟩, ⟨by (with_reducible repeat (first | refine b1_ ?_ _ | refine b2_ ?_ | refine b3_ ?_ _)); exact BK146.out⟩, ⟨by repeat (first | (with_reducible first | exact HB.out | apply below_alloc | apply pw_below_drewN | apply below_drew1 | refine below_set ?_ GE146.out) | exact HB.out)⟩⟩
        case round =>
         clear H'
         try clear c1
         try clear p1
         try clear q1
         try clear hx1
         try clear p2
         try clear c3
         try clear c7
         try clear c7b0
         try clear c8
         try clear c8b0
         try clear c9
         try clear c9b0
         try clear c10
         try clear c10b0
         try clear c11
         try clear c11b0
         try clear hcz6_0
         try clear hcz6_1
         try clear hfz6_0
         try clear hfz6_1
         try clear hx147_0
         try clear hx148_0
         try clear p147
         try clear p148
         try clear p2
         try clear q147
         try clear q148
         obtain ⟨x12_2, x32_2, rfl, rfl, HA, HK2, BK146, HB⟩ := hrel
         cases gk with
         | zero => exact absurd HA.out (by simp [spec_DeltaRef.l1])
         | succ k2 =>
          have H := HA.out
          clear HA
          simp only [spec_DeltaRef.l1] at H
          by_cases c12 : x32_2 < ((rd_L8 l0 (rd l1_0 x22_1)).length : Int)
          ·rw [if_pos c12] at H
           have c12b0 : decide (x32_2 < ((rd_L8 l0 (rd l1_0 x22_1)).length : Int)) = true := decide_eq_true c12
           clear c12
           by_cases c13 : 0 ≤ x32_2
           ·rw [if_pos c13] at H
            have c13b0 : decide (0 ≤ x32_2) = true := decide_eq_true c13
            clear c13
            by_cases c14 : x32_2 < ((rd_L8 l0 (rd l1_0 x22_1)).length : Int)
            ·rw [if_pos c14] at H
             have c14b0 : decide (x32_2 < ((rd_L8 l0 (rd l1_0 x22_1)).length : Int)) = true := decide_eq_true c14
             clear c14
             by_cases c15 : x32_2 < (l3.length : Int)
             ·rw [if_pos c15] at H
              have c15b0 : decide (x32_2 < (l3.length : Int)) = true := decide_eq_true c15
              clear c15
              have HC16 := Aside0.mk H
              clear H
              have p151 : 0 ≤ (x32_2 : Int) := of_decide_eq_true (by first | (with_reducible assumption) | assumption)
              have q151 : x32_2 < ((rd_L8 l0 (rd l1_0 x22_1)).length : Int) := of_decide_eq_true (by first | (with_reducible assumption) | assumption)
              obtain ⟨ad151, e151, hx151_0, hx151_1, hx151_2⟩ := at_T36 HR148_0.out x32_2 p151 q151
              cases e151
              replace hx151_0 := (HB.out.cell (World.block_lt_of_cell? w _ hx151_0)).trans hx151_0
              replace hx151_1 := (HB.out.cell (World.block_lt_of_cell? w _ hx151_1)).trans hx151_1
              replace hx151_2 := (HB.out.cell (World.block_lt_of_cell? w _ hx151_2)).trans hx151_2
              replace p151 := eq_true p151
              replace q151 := eq_true q151
              go_upto_region 11 with (first | ((with_reducible refine gate_dst (N := 14) rfl ?_); refine box_event ?hg (N := 14) ?hd (cs := #[.int .i64 0, .int .i64 0, .int .i64 0]) (t := 36) ?hr ?_; (case hd => rfl); (case hg => rfl); (case hr => first | (go_simp; done) | (go_simp; rfl)); intro gb152 hg w17 hbox hb; have n0_ := Aside0.mk (blk_below (g := gb146) (o := .cells #[.slice (some ad147) l1_0.length c1_0, .slice A1_1 l1_1.length c1_1] 41 (0, 0)) (by (with_reducible repeat (first | refine b1_ ?_ _ | refine b2_ ?_ | refine b3_ ?_ _)); exact BK146.out) hb); have n1_ := Aside0.mk (below_step (by repeat (first | (with_reducible first | exact HB.out | apply below_alloc | apply pw_below_drewN | apply below_drew1 | refine below_set ?_ GE146.out) | exact HB.out)) hb); have n2_ := Aside0.mk (hbox); have n3_ := Aside0.mk ((by rw [hg]; exact (below_size (by repeat (first | (with_reducible first | exact HB.out | apply below_alloc | apply pw_below_drewN | apply below_drew1 | refine below_set ?_ GE146.out) | exact HB.out))) : w.heap.size ≤ gb152)); have n4_ := Aside0.mk ((by rw [hg]; exact (below_size (by repeat (first | (with_reducible first | exact HB.out | apply below_alloc | apply pw_below_drewN | apply below_drew1 | refine below_set ?_ GE146.out) | exact HB.out))) : w.heap.size ≤ gb152)); have n5_ := Aside0.mk ((by rw [hg]; exact Nat.ne_of_lt (blk_lt (g := gb146) (o := .cells #[.slice (some ad147) l1_0.length c1_0, .slice A1_1 l1_1.length c1_1] 41 (0, 0)) (by (with_reducible repeat (first | refine b1_ ?_ _ | refine b2_ ?_ | refine b3_ ?_ _)); exact BK146.out)) : gb146 ≠ gb152)); have n6_ := Aside0.mk ((by rw [hg]; exact Nat.ne_of_gt (blk_lt (g := gb146) (o := .cells #[.slice (some ad147) l1_0.length c1_0, .slice A1_1 l1_1.length c1_1] 41 (0, 0)) (by (with_reducible repeat (first | refine b1_ ?_ _ | refine b2_ ?_ | refine b3_ ?_ _)); exact BK146.out)) : gb152 ≠ gb146)); clear BK146; clear HB; have BK146 := n0_; have HB := n1_; have BK152 := n2_; have GW152 := n3_; have GE152 := n4_; have NB146_152 := n5_; have NB152_146 := n6_; clear n0_ n1_ n2_ n3_ n4_ n5_ n6_; clear hb hbox hg; have hnb18 := NB152_146.out; have hnc18 := NB146_152.out; have hcz19_0 : w17.cell? ⟨gb152, 0, none⟩ = some (.int .i64 0) := (blk_cell BK152.out 0).trans rfl; have hcz19_1 : w17.cell? ⟨gb152, 1, none⟩ = some (.int .i64 0) := (blk_cell BK152.out 1).trans rfl; have hcz19_2 : w17.cell? ⟨gb152, 2, none⟩ = some (.int .i64 0) := (blk_cell BK152.out 2).trans rfl; have hfz19_0 := blk_frozen BK152.out 0; have hfz19_1 := blk_frozen BK152.out 1; have hfz19_2 := blk_frozen BK152.out 2; have p153 : 0 ≤ (x32_2 : Int) := of_decide_eq_true (by first | (with_reducible assumption) | assumption); have q153 : x32_2 < (l3.length : Int) := of_decide_eq_true (by first | (with_reducible assumption) | assumption); obtain ⟨ad153, e153, hx153_0⟩ := Kd.at_int HR3.out x32_2 p153 q153; cases e153; have hn153_0 : ad153.block ≠ gb152 := Nat.ne_of_lt (Nat.lt_of_lt_of_le (by have := World.block_lt_of_cell? _ _ hx153_0; first | rwa [add_block] at this | exact this) GW152.out); have hn153_1 : ad153.block ≠ gb152 := Nat.ne_of_lt (Nat.lt_of_lt_of_le (by have := World.block_lt_of_cell? _ _ hx153_0; first | rwa [add_block] at this | exact this) GW152.out); have hn153_2 : ad153.block ≠ gb152 := Nat.ne_of_lt (Nat.lt_of_lt_of_le (by have := World.block_lt_of_cell? _ _ hx153_0; first | rwa [add_block] at this | exact this) GW152.out); replace hx153_0 := (HB.out.cell (World.block_lt_of_cell? w _ hx153_0)).trans hx153_0; replace hx153_0 := (cell_far (p := ⟨gb152, 0, none⟩) (by first | (rw [add_block]; exact hn153_0) | (show (Addr.add _ _).block ≠ _; rw [add_block]; exact hn153_0) | exact hn153_0) (.int .i64 ((rd_T36 (rd_L8 l0 (rd l1_0 x22_1)) x32_2).f0))).trans hx153_0; replace hx153_0 := (cell_far (p := ⟨gb152, 1, none⟩) (by first | (rw [add_block]; exact hn153_1) | (show (Addr.add _ _).block ≠ _; rw [add_block]; exact hn153_1) | exact hn153_1) (.int .i64 ((rd_T36 (rd_L8 l0 (rd l1_0 x22_1)) x32_2).f1))).trans hx153_0; replace hx153_0 := (cell_far (p := ⟨gb152, 2, none⟩) (by first | (rw [add_block]; exact hn153_2) | (show (Addr.add _ _).block ≠ _; rw [add_block]; exact hn153_2) | exact hn153_2) (.int .i64 ((rd_T36 (rd_L8 l0 (rd l1_0 x22_1)) x32_2).f2))).trans hx153_0; (try have hy153_0 := fun (n_ : Nat) => (show (((((w17.drewN n_).setCell ⟨gb152, 0, none⟩ (.int .i64 ((rd_T36 (rd_L8 l0 (rd l1_0 x22_1)) x32_2).f0))).setCell ⟨gb152, 1, none⟩ (.int .i64 ((rd_T36 (rd_L8 l0 (rd l1_0 x22_1)) x32_2).f1))).setCell ⟨gb152, 2, none⟩ (.int .i64 ((rd_T36 (rd_L8 l0 (rd l1_0 x22_1)) x32_2).f2)))).cell? _ = some _ from hx153_0)); clear hn153_0; clear hn153_1; clear hn153_2; replace p153 := eq_true p153; replace q153 := eq_true q153))
              repeat (go_quiet (first | ((with_reducible refine gate_dst (N := 14) rfl ?_); refine box_event ?hg (N := 14) ?hd (cs := #[.int .i64 0, .int .i64 0, .int .i64 0]) (t := 36) ?hr ?_; (case hd => rfl); (case hg => rfl); (case hr => first | (go_simp; done) | (go_simp; rfl)); intro gb152 hg w17 hbox hb; have n0_ := Aside0.mk (blk_below (g := gb146) (o := .cells #[.slice (some ad147) l1_0.length c1_0, .slice A1_1 l1_1.length c1_1] 41 (0, 0)) (by (with_reducible repeat (first | refine b1_ ?_ _ | refine b2_ ?_ | refine b3_ ?_ _)); exact BK146.out) hb); have n1_ := Aside0.mk (below_step (by repeat (first | (with_reducible first | exact HB.out | apply below_alloc | apply pw_below_drewN | apply below_drew1 | refine below_set ?_ GE146.out) | exact HB.out)) hb); have n2_ := Aside0.mk (hbox); have n3_ := Aside0.mk ((by rw [hg]; exact (below_size (by repeat (first | (with_reducible first | exact HB.out | apply below_alloc | apply pw_below_drewN | apply below_drew1 | refine below_set ?_ GE146.out) | exact HB.out))) : w.heap.size ≤ gb152)); have n4_ := Aside0.mk ((by rw [hg]; exact (below_size (by repeat (first | (with_reducible first | exact HB.out | apply below_alloc | apply pw_below_drewN | apply below_drew1 | refine below_set ?_ GE146.out) | exact HB.out))) : w.heap.size ≤ gb152)); have n5_ := Aside0.mk ((by rw [hg]; exact Nat.ne_of_lt (blk_lt (g := gb146) (o := .cells #[.slice (some ad147) l1_0.length c1_0, .slice A1_1 l1_1.length c1_1] 41 (0, 0)) (by (with_reducible repeat (first | refine b1_ ?_ _ | refine b2_ ?_ | refine b3_ ?_ _)); exact BK146.out)) : gb146 ≠ gb152)); have n6_ := Aside0.mk ((by rw [hg]; exact Nat.ne_of_gt (blk_lt (g := gb146) (o := .cells #[.slice (some ad147) l1_0.length c1_0, .slice A1_1 l1_1.length c1_1] 41 (0, 0)) (by (with_reducible repeat (first | refine b1_ ?_ _ | refine b2_ ?_ | refine b3_ ?_ _)); exact BK146.out)) : gb152 ≠ gb146)); clear BK146; clear HB; have BK146 := n0_; have HB := n1_; have BK152 := n2_; have GW152 := n3_; have GE152 := n4_; have NB146_152 := n5_; have NB152_146 := n6_; clear n0_ n1_ n2_ n3_ n4_ n5_ n6_; clear hb hbox hg; have hnb18 := NB152_146.out; have hnc18 := NB146_152.out; have hcz19_0 : w17.cell? ⟨gb152, 0, none⟩ = some (.int .i64 0) := (blk_cell BK152.out 0).trans rfl; have hcz19_1 : w17.cell? ⟨gb152, 1, none⟩ = some (.int .i64 0) := (blk_cell BK152.out 1).trans rfl; have hcz19_2 : w17.cell? ⟨gb152, 2, none⟩ = some (.int .i64 0) := (blk_cell BK152.out 2).trans rfl; have hfz19_0 := blk_frozen BK152.out 0; have hfz19_1 := blk_frozen BK152.out 1; have hfz19_2 := blk_frozen BK152.out 2; have p153 : 0 ≤ (x32_2 : Int) := of_decide_eq_true (by first | (with_reducible assumption) | assumption); have q153 : x32_2 < (l3.length : Int) := of_decide_eq_true (by first | (with_reducible assumption) | assumption); obtain ⟨ad153, e153, hx153_0⟩ := Kd.at_int HR3.out x32_2 p153 q153; cases e153; have hn153_0 : ad153.block ≠ gb152 := Nat.ne_of_lt (Nat.lt_of_lt_of_le (by have := World.block_lt_of_cell? _ _ hx153_0; first | rwa [add_block] at this | exact this) GW152.out); have hn153_1 : ad153.block ≠ gb152 := Nat.ne_of_lt (Nat.lt_of_lt_of_le (by have := World.block_lt_of_cell? _ _ hx153_0; first | rwa [add_block] at this | exact this) GW152.out); have hn153_2 : ad153.block ≠ gb152 := Nat.ne_of_lt (Nat.lt_of_lt_of_le (by have := World.block_lt_of_cell? _ _ hx153_0; first | rwa [add_block] at this | exact this) GW152.out); replace hx153_0 := (HB.out.cell (World.block_lt_of_cell? w _ hx153_0)).trans hx153_0; replace hx153_0 := (cell_far (p := ⟨gb152, 0, none⟩) (by first | (rw [add_block]; exact hn153_0) | (show (Addr.add _ _).block ≠ _; rw [add_block]; exact hn153_0) | exact hn153_0) (.int .i64 ((rd_T36 (rd_L8 l0 (rd l1_0 x22_1)) x32_2).f0))).trans hx153_0; replace hx153_0 := (cell_far (p := ⟨gb152, 1, none⟩) (by first | (rw [add_block]; exact hn153_1) | (show (Addr.add _ _).block ≠ _; rw [add_block]; exact hn153_1) | exact hn153_1) (.int .i64 ((rd_T36 (rd_L8 l0 (rd l1_0 x22_1)) x32_2).f1))).trans hx153_0; replace hx153_0 := (cell_far (p := ⟨gb152, 2, none⟩) (by first | (rw [add_block]; exact hn153_2) | (show (Addr.add _ _).block ≠ _; rw [add_block]; exact hn153_2) | exact hn153_2) (.int .i64 ((rd_T36 (rd_L8 l0 (rd l1_0 x22_1)) x32_2).f2))).trans hx153_0; (try have hy153_0 := fun (n_ : Nat) => (show (((((w17.drewN n_).setCell ⟨gb152, 0, none⟩ (.int .i64 ((rd_T36 (rd_L8 l0 (rd l1_0 x22_1)) x32_2).f0))).setCell ⟨gb152, 1, none⟩ (.int .i64 ((rd_T36 (rd_L8 l0 (rd l1_0 x22_1)) x32_2).f1))).setCell ⟨gb152, 2, none⟩ (.int .i64 ((rd_T36 (rd_L8 l0 (rd l1_0 x22_1)) x32_2).f2)))).cell? _ = some _ from hx153_0)); clear hn153_0; clear hn153_1; clear hn153_2; replace p153 := eq_true p153; replace q153 := eq_true q153)); go_upto_region 11 with (first | ((with_reducible refine gate_dst (N := 14) rfl ?_); refine box_event ?hg (N := 14) ?hd (cs := #[.int .i64 0, .int .i64 0, .int .i64 0]) (t := 36) ?hr ?_; (case hd => rfl); (case hg => rfl); (case hr => first | (go_simp; done) | (go_simp; rfl)); intro gb152 hg w17 hbox hb; have n0_ := Aside0.mk (blk_below (g := gb146) (o := .cells #[.slice (some ad147) l1_0.length c1_0, .slice A1_1 l1_1.length c1_1] 41 (0, 0)) (by (with_reducible repeat (first | refine b1_ ?_ _ | refine b2_ ?_ | refine b3_ ?_ _)); exact BK146.out) hb); have n1_ := Aside0.mk (below_step (by repeat (first | (with_reducible first | exact HB.out | apply below_alloc | apply pw_below_drewN | apply below_drew1 | refine below_set ?_ GE146.out) | exact HB.out)) hb); have n2_ := Aside0.mk (hbox); have n3_ := Aside0.mk ((by rw [hg]; exact (below_size (by repeat (first | (with_reducible first | exact HB.out | apply below_alloc | apply pw_below_drewN | apply below_drew1 | refine below_set ?_ GE146.out) | exact HB.out))) : w.heap.size ≤ gb152)); have n4_ := Aside0.mk ((by rw [hg]; exact (below_size (by repeat (first | (with_reducible first | exact HB.out | apply below_alloc | apply pw_below_drewN | apply below_drew1 | refine below_set ?_ GE146.out) | exact HB.out))) : w.heap.size ≤ gb152)); have n5_ := Aside0.mk ((by rw [hg]; exact Nat.ne_of_lt (blk_lt (g := gb146) (o := .cells #[.slice (some ad147) l1_0.length c1_0, .slice A1_1 l1_1.length c1_1] 41 (0, 0)) (by (with_reducible repeat (first | refine b1_ ?_ _ | refine b2_ ?_ | refine b3_ ?_ _)); exact BK146.out)) : gb146 ≠ gb152)); have n6_ := Aside0.mk ((by rw [hg]; exact Nat.ne_of_gt (blk_lt (g := gb146) (o := .cells #[.slice (some ad147) l1_0.length c1_0, .slice A1_1 l1_1.length c1_1] 41 (0, 0)) (by (with_reducible repeat (first | refine b1_ ?_ _ | refine b2_ ?_ | refine b3_ ?_ _)); exact BK146.out)) : gb152 ≠ gb146)); clear BK146; clear HB; have BK146 := n0_; have HB := n1_; have BK152 := n2_; have GW152 := n3_; have GE152 := n4_; have NB146_152 := n5_; have NB152_146 := n6_; clear n0_ n1_ n2_ n3_ n4_ n5_ n6_; clear hb hbox hg; have hnb18 := NB152_146.out; have hnc18 := NB146_152.out; have hcz19_0 : w17.cell? ⟨gb152, 0, none⟩ = some (.int .i64 0) := (blk_cell BK152.out 0).trans rfl; have hcz19_1 : w17.cell? ⟨gb152, 1, none⟩ = some (.int .i64 0) := (blk_cell BK152.out 1).trans rfl; have hcz19_2 : w17.cell? ⟨gb152, 2, none⟩ = some (.int .i64 0) := (blk_cell BK152.out 2).trans rfl; have hfz19_0 := blk_frozen BK152.out 0; have hfz19_1 := blk_frozen BK152.out 1; have hfz19_2 := blk_frozen BK152.out 2; have p153 : 0 ≤ (x32_2 : Int) := of_decide_eq_true (by first | (with_reducible assumption) | assumption); have q153 : x32_2 < (l3.length : Int) := of_decide_eq_true (by first | (with_reducible assumption) | assumption); obtain ⟨ad153, e153, hx153_0⟩ := Kd.at_int HR3.out x32_2 p153 q153; cases e153; have hn153_0 : ad153.block ≠ gb152 := Nat.ne_of_lt (Nat.lt_of_lt_of_le (by have := World.block_lt_of_cell? _ _ hx153_0; first | rwa [add_block] at this | exact this) GW152.out); have hn153_1 : ad153.block ≠ gb152 := Nat.ne_of_lt (Nat.lt_of_lt_of_le (by have := World.block_lt_of_cell? _ _ hx153_0; first | rwa [add_block] at this | exact this) GW152.out); have hn153_2 : ad153.block ≠ gb152 := Nat.ne_of_lt (Nat.lt_of_lt_of_le (by have := World.block_lt_of_cell? _ _ hx153_0; first | rwa [add_block] at this | exact this) GW152.out); replace hx153_0 := (HB.out.cell (World.block_lt_of_cell? w _ hx153_0)).trans hx153_0; replace hx153_0 := (cell_far (p := ⟨gb152, 0, none⟩) (by first | (rw [add_block]; exact hn153_0) | (show (Addr.add _ _).block ≠ _; rw [add_block]; exact hn153_0) | exact hn153_0) (.int .i64 ((rd_T36 (rd_L8 l0 (rd l1_0 x22_1)) x32_2).f0))).trans hx153_0; replace hx153_0 := (cell_far (p := ⟨gb152, 1, none⟩) (by first | (rw [add_block]; exact hn153_1) | (show (Addr.add _ _).block ≠ _; rw [add_block]; exact hn153_1) | exact hn153_1) (.int .i64 ((rd_T36 (rd_L8 l0 (rd l1_0 x22_1)) x32_2).f1))).trans hx153_0; replace hx153_0 := (cell_far (p := ⟨gb152, 2, none⟩) (by first | (rw [add_block]; exact hn153_2) | (show (Addr.add _ _).block ≠ _; rw [add_block]; exact hn153_2) | exact hn153_2) (.int .i64 ((rd_T36 (rd_L8 l0 (rd l1_0 x22_1)) x32_2).f2))).trans hx153_0; (try have hy153_0 := fun (n_ : Nat) => (show (((((w17.drewN n_).setCell ⟨gb152, 0, none⟩ (.int .i64 ((rd_T36 (rd_L8 l0 (rd l1_0 x22_1)) x32_2).f0))).setCell ⟨gb152, 1, none⟩ (.int .i64 ((rd_T36 (rd_L8 l0 (rd l1_0 x22_1)) x32_2).f1))).setCell ⟨gb152, 2, none⟩ (.int .i64 ((rd_T36 (rd_L8 l0 (rd l1_0 x22_1)) x32_2).f2)))).cell? _ = some _ from hx153_0)); clear hn153_0; clear hn153_1; clear hn153_2; replace p153 := eq_true p153; replace q153 := eq_true q153)))
              (try simp only [Act.put, L1_, L2_, L3_])
              go_cut [58] (fun v58 wc => ∃ (kq : Nat) (x58_15 : Bool), v58 = .bool x58_15 ∧ Aside0 (spec_DeltaRef.j2 kq l0 a2 l3 x9_1 x22_1 x12_2 ((rd_T36 (rd_L8 l0 (rd l1_0 x22_1)) x32_2).f0) ((rd_T36 (rd_L8 l0 (rd l1_0 x22_1)) x32_2).f1) ((rd_T36 (rd_L8 l0 (rd l1_0 x22_1)) x32_2).f2) (rd l3 x32_2) l1_0 (l1_0.length : Int) x22_1 (rd_L8 l0 (rd l1_0 x22_1)) ((rd_L8 l0 (rd l1_0 x22_1)).length : Int) x32_2 x58_15 l1_0 l1_1 = some r) ∧ Aside0 (kq ≤ k2) ∧ Aside0 (wc.heap[gb146]? = some (.cells #[(.slice (some ad147) l1_0.length c1_0), (.slice A1_1 l1_1.length c1_1)] 41 (0, 0))) ∧ Aside0 (wc.heap[gb152]? = some (.cells #[.int .i64 ((rd_T36 (rd_L8 l0 (rd l1_0 x22_1)) x32_2).f0), .int .i64 ((rd_T36 (rd_L8 l0 (rd l1_0 x22_1)) x32_2).f1), .int .i64 ((rd_T36 (rd_L8 l0 (rd l1_0 x22_1)) x32_2).f2)] 36 (0, 0))) ∧ Aside0 (Below w.heap.size w wc))
              case first =>
               have H := HC16.out
               clear HC16
               by_cases c20 : ((rd_T36 (rd_L8 l0 (rd l1_0 x22_1)) x32_2).f1) = 0
               ·rw [if_pos c20] at H
                have c20b0 : (((rd_T36 (rd_L8 l0 (rd l1_0 x22_1)) x32_2).f1) == 0) = true := beq_iff_eq.mpr c20
                have c20b1 : (((rd_T36 (rd_L8 l0 (rd l1_0 x22_1)) x32_2).f1) != 0) = false := bne_eq_false_iff_eq.mpr c20
                clear c20
                (first | rw [c20b0] | (simp only [i64_w, i32_w]; rw [c20b0]) | skip)
                have H' := Aside0.mk H
                clear H
                go_wp2
                repeat (go_quiet (fail); try go_wp2)
                go_meet
                case rel => exact ⟨_, (true), (by first | rfl | (simp; done) | (simp [*]; done)), H', ⟨by have := HK1.out; have := HK2.out; first | omega | exact Nat.le_refl _⟩, ⟨by (with_reducible repeat (first | refine b1_ ?_ _ | refine b2_ ?_ | refine b3_ ?_ _)); refine blk_far ?_ NB146_152.out _; (with_reducible repeat (first | refine b1_ ?_ _ | refine b2_ ?_ | refine b3_ ?_ _)); refine blk_far ?_ NB146_152.out _; (with_reducible repeat (first | refine b1_ ?_ _ | refine b2_ ?_ | refine b3_ ?_ _)); refine blk_far ?_ NB146_152.out _; (with_reducible repeat (first | refine b1_ ?_ _ | refine b2_ ?_ | refine b3_ ?_ _)); exact BK146.out⟩, ⟨by (with_reducible repeat (first | refine b1_ ?_ _ | refine b2_ ?_ | refine b3_ ?_ _)); refine blk_put (cs := #[.int .i64 ((rd_T36 (rd_L8 l0 (rd l1_0 x22_1)) x32_2).f0), .int .i64 ((rd_T36 (rd_L8 l0 (rd l1_0 x22_1)) x32_2).f1), .int .i64 0]) ?_ 2 _ rfl; (with_reducible repeat (first | refine b1_ ?_ _ | refine b2_ ?_ | refine b3_ ?_ _)); refine blk_put (cs := #[.int .i64 ((rd_T36 (rd_L8 l0 (rd l1_0 x22_1)) x32_2).f0), .int .i64 0, .int .i64 0]) ?_ 1 _ rfl; (with_reducible repeat (first | refine b1_ ?_ _ | refine b2_ ?_ | refine b3_ ?_ _)); refine blk_put (cs := #[.int .i64 0, .int .i64 0, .int .i64 0]) ?_ 0 _ rfl; (with_reducible repeat (first | refine b1_ ?_ _ | refine b2_ ?_ | refine b3_ ?_ _)); exact BK152.out⟩, ⟨by repeat (first | (with_reducible first | exact HB.out | apply below_alloc | apply pw_below_drewN | apply below_drew1 | refine below_set ?_ GE146.out | refine below_set ?_ GE152.out) | exact HB.out)⟩⟩
               ·rw [if_neg c20] at H
                have c20b0 : (((rd_T36 (rd_L8 l0 (rd l1_0 x22_1)) x32_2).f1) == 0) = false := beq_eq_false_iff_ne.mpr c20
                have c20b1 : (((rd_T36 (rd_L8 l0 (rd l1_0 x22_1)) x32_2).f1) != 0) = true := bne_iff_ne.mpr c20
                (first | rw [c20b0] | (simp only [i64_w, i32_w]; rw [c20b0]) | skip)
                have H' := Aside0.mk H
                clear H
                go_wp2
                repeat (go_quiet (fail); try go_wp2)
                go_meet
                case rel => exact ⟨_, (((rd l3 x32_2) == ((rd_T36 (rd_L8 l0 (rd l1_0 x22_1)) x32_2).f1))), (by first | rfl | (simp; done) | (simp [*]; done)), H', ⟨by have := HK1.out; have := HK2.out; first | omega | exact Nat.le_refl _⟩, ⟨by (with_reducible repeat (first | refine b1_ ?_ _ | refine b2_ ?_ | refine b3_ ?_ _)); refine blk_far ?_ NB146_152.out _; (with_reducible repeat (first | refine b1_ ?_ _ | refine b2_ ?_ | refine b3_ ?_ _)); refine blk_far ?_ NB146_152.out _; (with_reducible repeat (first | refine b1_ ?_ _ | refine b2_ ?_ | refine b3_ ?_ _)); refine blk_far ?_ NB146_152.out _; (with_reducible repeat (first | refine b1_ ?_ _ | refine b2_ ?_ | refine b3_ ?_ _)); exact BK146.out⟩, ⟨by (with_reducible repeat (first | refine b1_ ?_ _ | refine b2_ ?_ | refine b3_ ?_ _)); refine blk_put (cs := #[.int .i64 ((rd_T36 (rd_L8 l0 (rd l1_0 x22_1)) x32_2).f0), .int .i64 ((rd_T36 (rd_L8 l0 (rd l1_0 x22_1)) x32_2).f1), .int .i64 0]) ?_ 2 _ rfl; (with_reducible repeat (first | refine b1_ ?_ _ | refine b2_ ?_ | refine b3_ ?_ _)); refine blk_put (cs := #[.int .i64 ((rd_T36 (rd_L8 l0 (rd l1_0 x22_1)) x32_2).f0), .int .i64 0, .int .i64 0]) ?_ 1 _ rfl; (with_reducible repeat (first | refine b1_ ?_ _ | refine b2_ ?_ | refine b3_ ?_ _)); refine blk_put (cs := #[.int .i64 0, .int .i64 0, .int .i64 0]) ?_ 0 _ rfl; (with_reducible repeat (first | refine b1_ ?_ _ | refine b2_ ?_ | refine b3_ ?_ _)); exact BK152.out⟩, ⟨by repeat (first | (with_reducible first | exact HB.out | apply below_alloc | apply pw_below_drewN | apply below_drew1 | refine below_set ?_ GE146.out | refine below_set ?_ GE152.out) | exact HB.out)⟩⟩
              case rest =>
               clear HC16
               try clear c1
               try clear p1
               try clear q1
               try clear hx1
               try clear c2
               try clear p2
               try clear c3
               try clear c7
               try clear c7b0
               try clear c8
               try clear c8b0
               try clear c9
               try clear c9b0
               try clear c10
               try clear c10b0
               try clear c11
               try clear c11b0
               try clear c12
               try clear c12b0
               try clear c13
               try clear c13b0
               try clear c14
               try clear c14b0
               try clear p14
               try clear q14
               try clear hx14
               try clear c15
               try clear c15b0
               try clear p15
               try clear q15
               try clear hx15
               try clear c18
               try clear c20
               try clear c20b0
               try clear c20b1
               try clear hcz19_0
               try clear hcz19_1
               try clear hcz19_2
               try clear hcz6_0
               try clear hcz6_1
               try clear hfz19_0
               try clear hfz19_1
               try clear hfz19_2
               try clear hfz6_0
               try clear hfz6_1
               try clear hx147_0
               try clear hx148_0
               try clear hx151_0
               try clear hx151_1
               try clear hx151_2
               try clear hx153_0
               try clear p1
               try clear p147
               try clear p148
               try clear p151
               try clear p153
               try clear p2
               try clear q1
               try clear q147
               try clear q148
               try clear q151
               try clear q153
               obtain ⟨kq, x58_15, rfl, HA, HJ15, BK146, BK152, HB⟩ := hcut
               cases kq with
               | zero => exact absurd HA.out (by simp [spec_DeltaRef.j2])
               | succ kj15 =>
                have H := HA.out
                clear HA
                simp only [spec_DeltaRef.j2] at H
                by_cases c21 : x58_15 = true
                ·subst c21
                 have H1 : (spec_DeltaRef.l1 kj15 l0 a2 l3 x9_1 x22_1 x12_2 l1_0 (l1_0.length : Int) x22_1 (rd_L8 l0 (rd l1_0 x22_1)) ((rd_L8 l0 (rd l1_0 x22_1)).length : Int) (wrap64 (x32_2 + 1)) l1_0 l1_1) = some r := by rw [if_pos rfl] at H; exact H
                 clear H
                 have H := H1
                 clear H1
                 have H' := Aside0.mk H
                 clear H
                 go_wp2
                 repeat (go_quiet (fail); try go_wp2)
                 go_roundg kj15
                 case measure => have := HK1.out; have := HK2.out; have := HJ15.out; omega
                 case rel => exact ⟨(x12_2), (wrap64 (x32_2 + 1)), (by first | rfl | (simp; done) | (simp [*]; done)), (by first | rfl | (simp; done) | (simp [*]; done)), H', ⟨by have := HK1.out; have := HK2.out; have := HJ15.out; omega⟩, ⟨by (with_reducible repeat (first | refine b1_ ?_ _ | refine b2_ ?_ | refine b3_ ?_ _)); exact BK146.out⟩, ⟨by repeat (first | (with_reducible first | exact HB.out | apply below_alloc | apply pw_below_drewN | apply below_drew1 | refine below_set ?_ GE146.out | refine below_set ?_ GE152.out) | exact HB.out)⟩⟩
                ·replace c21 := Bool.eq_false_iff.mpr c21
                 subst c21
                 have H1 : (if (rd l3 x32_2) ≤ ((rd_T36 (rd_L8 l0 (rd l1_0 x22_1)) x32_2).f0) then (spec_DeltaRef.l1 kj15 l0 a2 l3 x9_1 x22_1 0 l1_0 (l1_0.length : Int) x22_1 (rd_L8 l0 (rd l1_0 x22_1)) ((rd_L8 l0 (rd l1_0 x22_1)).length : Int) (wrap64 (x32_2 + 1)) l1_0 l1_1) else (if (rd l3 x32_2) ≥ ((rd_T36 (rd_L8 l0 (rd l1_0 x22_1)) x32_2).f2) then (spec_DeltaRef.l1 kj15 l0 a2 l3 x9_1 x22_1 0 l1_0 (l1_0.length : Int) x22_1 (rd_L8 l0 (rd l1_0 x22_1)) ((rd_L8 l0 (rd l1_0 x22_1)).length : Int) (wrap64 (x32_2 + 1)) l1_0 l1_1) else (if (rd l3 x32_2) < ((rd_T36 (rd_L8 l0 (rd l1_0 x22_1)) x32_2).f1) then (if fok .quo .f64 (floatOfInt .f64 (wrap64 ((rd l3 x32_2) - ((rd_T36 (rd_L8 l0 (rd l1_0 x22_1)) x32_2).f0)))) (floatOfInt .f64 (wrap64 (((rd_T36 (rd_L8 l0 (rd l1_0 x22_1)) x32_2).f1) - ((rd_T36 (rd_L8 l0 (rd l1_0 x22_1)) x32_2).f0)))) = true then (if fok .mul .f64 x12_2 (fv .quo .f64 (floatOfInt .f64 (wrap64 ((rd l3 x32_2) - ((rd_T36 (rd_L8 l0 (rd l1_0 x22_1)) x32_2).f0)))) (floatOfInt .f64 (wrap64 (((rd_T36 (rd_L8 l0 (rd l1_0 x22_1)) x32_2).f1) - ((rd_T36 (rd_L8 l0 (rd l1_0 x22_1)) x32_2).f0))))) = true then (spec_DeltaRef.l1 kj15 l0 a2 l3 x9_1 x22_1 (fv .mul .f64 x12_2 (fv .quo .f64 (floatOfInt .f64 (wrap64 ((rd l3 x32_2) - ((rd_T36 (rd_L8 l0 (rd l1_0 x22_1)) x32_2).f0)))) (floatOfInt .f64 (wrap64 (((rd_T36 (rd_L8 l0 (rd l1_0 x22_1)) x32_2).f1) - ((rd_T36 (rd_L8 l0 (rd l1_0 x22_1)) x32_2).f0)))))) l1_0 (l1_0.length : Int) x22_1 (rd_L8 l0 (rd l1_0 x22_1)) ((rd_L8 l0 (rd l1_0 x22_1)).length : Int) (wrap64 (x32_2 + 1)) l1_0 l1_1) else (none)) else (none)) else (if fok .quo .f64 (floatOfInt .f64 (wrap64 (((rd_T36 (rd_L8 l0 (rd l1_0 x22_1)) x32_2).f2) - (rd l3 x32_2)))) (floatOfInt .f64 (wrap64 (((rd_T36 (rd_L8 l0 (rd l1_0 x22_1)) x32_2).f2) - ((rd_T36 (rd_L8 l0 (rd l1_0 x22_1)) x32_2).f1)))) = true then (if fok .mul .f64 x12_2 (fv .quo .f64 (floatOfInt .f64 (wrap64 (((rd_T36 (rd_L8 l0 (rd l1_0 x22_1)) x32_2).f2) - (rd l3 x32_2)))) (floatOfInt .f64 (wrap64 (((rd_T36 (rd_L8 l0 (rd l1_0 x22_1)) x32_2).f2) - ((rd_T36 (rd_L8 l0 (rd l1_0 x22_1)) x32_2).f1))))) = true then (spec_DeltaRef.l1 kj15 l0 a2 l3 x9_1 x22_1 (fv .mul .f64 x12_2 (fv .quo .f64 (floatOfInt .f64 (wrap64 (((rd_T36 (rd_L8 l0 (rd l1_0 x22_1)) x32_2).f2) - (rd l3 x32_2)))) (floatOfInt .f64 (wrap64 (((rd_T36 (rd_L8 l0 (rd l1_0 x22_1)) x32_2).f2) - ((rd_T36 (rd_L8 l0 (rd l1_0 x22_1)) x32_2).f1)))))) l1_0 (l1_0.length : Int) x22_1 (rd_L8 l0 (rd l1_0 x22_1)) ((rd_L8 l0 (rd l1_0 x22_1)).length : Int) (wrap64 (x32_2 + 1)) l1_0 l1_1) else (none)) else (none))))) = some r := by rw [if_neg (show ¬ (false = true) by decide)] at H; exact H
                 clear H
                 have H := H1
                 clear H1
                 by_cases c22 : (rd l3 x32_2) ≤ ((rd_T36 (rd_L8 l0 (rd l1_0 x22_1)) x32_2).f0)
                 ·rw [if_pos c22] at H
                  have c22b0 : decide ((rd l3 x32_2) ≤ ((rd_T36 (rd_L8 l0 (rd l1_0 x22_1)) x32_2).f0)) = true := decide_eq_true c22
                  clear c22
                  have H' := Aside0.mk H
                  clear H
                  go_wp2
                  repeat (go_quiet (fail); try go_wp2)
                  go_roundg kj15
                  case measure => have := HK1.out; have := HK2.out; have := HJ15.out; omega
                  case rel => exact ⟨(0), (wrap64 (x32_2 + 1)), (by first | rfl | (simp; done) | (simp [*]; done)), (by first | rfl | (simp; done) | (simp [*]; done)), H', ⟨by have := HK1.out; have := HK2.out; have := HJ15.out; omega⟩, ⟨by (with_reducible repeat (first | refine b1_ ?_ _ | refine b2_ ?_ | refine b3_ ?_ _)); exact BK146.out⟩, ⟨by repeat (first | (with_reducible first | exact HB.out | apply below_alloc | apply pw_below_drewN | apply below_drew1 | refine below_set ?_ GE146.out | refine below_set ?_ GE152.out) | exact HB.out)⟩⟩
                 ·rw [if_neg c22] at H
                  have c22b0 : decide ((rd l3 x32_2) ≤ ((rd_T36 (rd_L8 l0 (rd l1_0 x22_1)) x32_2).f0)) = false := decide_eq_false c22
                  clear c22
                  by_cases c23 : (rd l3 x32_2) ≥ ((rd_T36 (rd_L8 l0 (rd l1_0 x22_1)) x32_2).f2)
                  ·rw [if_pos c23] at H
                   have c23b0 : decide (((rd_T36 (rd_L8 l0 (rd l1_0 x22_1)) x32_2).f2) ≤ (rd l3 x32_2)) = true := decide_eq_true c23
                   clear c23
                   have H' := Aside0.mk H
                   clear H
                   go_wp2
                   repeat (go_quiet (fail); try go_wp2)
                   go_roundg kj15
                   case measure => have := HK1.out; have := HK2.out; have := HJ15.out; omega
                   case rel => exact ⟨(0), (wrap64 (x32_2 + 1)), (by first | rfl | (simp; done) | (simp [*]; done)), (by first | rfl | (simp; done) | (simp [*]; done)), H', ⟨by have := HK1.out; have := HK2.out; have := HJ15.out; omega⟩, ⟨by (with_reducible repeat (first | refine b1_ ?_ _ | refine b2_ ?_ | refine b3_ ?_ _)); exact BK146.out⟩, ⟨by repeat (first | (with_reducible first | exact HB.out | apply below_alloc | apply pw_below_drewN | apply below_drew1 | refine below_set ?_ GE146.out | refine below_set ?_ GE152.out) | exact HB.out)⟩⟩
                  ·rw [if_neg c23] at H
                   have c23b0 : decide (((rd_T36 (rd_L8 l0 (rd l1_0 x22_1)) x32_2).f2) ≤ (rd l3 x32_2)) = false := decide_eq_false c23
                   clear c23
                   by_cases c24 : (rd l3 x32_2) < ((rd_T36 (rd_L8 l0 (rd l1_0 x22_1)) x32_2).f1)
                   ·rw [if_pos c24] at H
                    have c24b0 : decide ((rd l3 x32_2) < ((rd_T36 (rd_L8 l0 (rd l1_0 x22_1)) x32_2).f1)) = true := decide_eq_true c24
                    clear c24
                    by_cases c25 : fok .quo .f64 (floatOfInt .f64 (wrap64 ((rd l3 x32_2) - ((rd_T36 (rd_L8 l0 (rd l1_0 x22_1)) x32_2).f0)))) (floatOfInt .f64 (wrap64 (((rd_T36 (rd_L8 l0 (rd l1_0 x22_1)) x32_2).f1) - ((rd_T36 (rd_L8 l0 (rd l1_0 x22_1)) x32_2).f0)))) = true
                    ·rw [if_pos c25] at H
                     have c25b0 := eq_true c25
                     have c25b1 : decide (fok .quo .f64 (floatOfInt .f64 (wrap64 ((rd l3 x32_2) - ((rd_T36 (rd_L8 l0 (rd l1_0 x22_1)) x32_2).f0)))) (floatOfInt .f64 (wrap64 (((rd_T36 (rd_L8 l0 (rd l1_0 x22_1)) x32_2).f1) - ((rd_T36 (rd_L8 l0 (rd l1_0 x22_1)) x32_2).f0)))) = true) = true := decide_eq_true c25
                     clear c25
                     by_cases c26 : fok .mul .f64 x12_2 (fv .quo .f64 (floatOfInt .f64 (wrap64 ((rd l3 x32_2) - ((rd_T36 (rd_L8 l0 (rd l1_0 x22_1)) x32_2).f0)))) (floatOfInt .f64 (wrap64 (((rd_T36 (rd_L8 l0 (rd l1_0 x22_1)) x32_2).f1) - ((rd_T36 (rd_L8 l0 (rd l1_0 x22_1)) x32_2).f0))))) = true
                     ·rw [if_pos c26] at H
                      have c26b0 := eq_true c26
                      have c26b1 : decide (fok .mul .f64 x12_2 (fv .quo .f64 (floatOfInt .f64 (wrap64 ((rd l3 x32_2) - ((rd_T36 (rd_L8 l0 (rd l1_0 x22_1)) x32_2).f0)))) (floatOfInt .f64 (wrap64 (((rd_T36 (rd_L8 l0 (rd l1_0 x22_1)) x32_2).f1) - ((rd_T36 (rd_L8 l0 (rd l1_0 x22_1)) x32_2).f0))))) = true) = true := decide_eq_true c26
                      clear c26
                      have H' := Aside0.mk H
                      clear H
                      go_wp2
                      repeat (go_quiet (fail); try go_wp2)
                      go_roundg kj15
                      case measure => have := HK1.out; have := HK2.out; have := HJ15.out; omega
                      case rel => exact ⟨(fv .mul .f64 x12_2 (fv .quo .f64 (floatOfInt .f64 (wrap64 ((rd l3 x32_2) - ((rd_T36 (rd_L8 l0 (rd l1_0 x22_1)) x32_2).f0)))) (floatOfInt .f64 (wrap64 (((rd_T36 (rd_L8 l0 (rd l1_0 x22_1)) x32_2).f1) - ((rd_T36 (rd_L8 l0 (rd l1_0 x22_1)) x32_2).f0)))))), (wrap64 (x32_2 + 1)), (by first | rfl | (simp; done) | (simp [*]; done)), (by first | rfl | (simp; done) | (simp [*]; done)), H', ⟨by have := HK1.out; have := HK2.out; have := HJ15.out; omega⟩, ⟨by (with_reducible repeat (first | refine b1_ ?_ _ | refine b2_ ?_ | refine b3_ ?_ _)); exact BK146.out⟩, ⟨by repeat (first | (with_reducible first | exact HB.out | apply below_alloc | apply pw_below_drewN | apply below_drew1 | refine below_set ?_ GE146.out | refine below_set ?_ GE152.out) | exact HB.out)⟩⟩
                     ·rw [if_neg c26] at H
                      exact absurd H (by simp)
                    ·rw [if_neg c25] at H
                     exact absurd H (by simp)
                   ·rw [if_neg c24] at H
                    have c24b0 : decide ((rd l3 x32_2) < ((rd_T36 (rd_L8 l0 (rd l1_0 x22_1)) x32_2).f1)) = false := decide_eq_false c24
                    clear c24
                    by_cases c27 : fok .quo .f64 (floatOfInt .f64 (wrap64 (((rd_T36 (rd_L8 l0 (rd l1_0 x22_1)) x32_2).f2) - (rd l3 x32_2)))) (floatOfInt .f64 (wrap64 (((rd_T36 (rd_L8 l0 (rd l1_0 x22_1)) x32_2).f2) - ((rd_T36 (rd_L8 l0 (rd l1_0 x22_1)) x32_2).f1)))) = true
                    ·rw [if_pos c27] at H
                     have c27b0 := eq_true c27
                     have c27b1 : decide (fok .quo .f64 (floatOfInt .f64 (wrap64 (((rd_T36 (rd_L8 l0 (rd l1_0 x22_1)) x32_2).f2) - (rd l3 x32_2)))) (floatOfInt .f64 (wrap64 (((rd_T36 (rd_L8 l0 (rd l1_0 x22_1)) x32_2).f2) - ((rd_T36 (rd_L8 l0 (rd l1_0 x22_1)) x32_2).f1)))) = true) = true := decide_eq_true c27
                     clear c27
                     by_cases c28 : fok .mul .f64 x12_2 (fv .quo .f64 (floatOfInt .f64 (wrap64 (((rd_T36 (rd_L8 l0 (rd l1_0 x22_1)) x32_2).f2) - (rd l3 x32_2)))) (floatOfInt .f64 (wrap64 (((rd_T36 (rd_L8 l0 (rd l1_0 x22_1)) x32_2).f2) - ((rd_T36 (rd_L8 l0 (rd l1_0 x22_1)) x32_2).f1))))) = true
                     ·rw [if_pos c28] at H
                      have c28b0 := eq_true c28
                      have c28b1 : decide (fok .mul .f64 x12_2 (fv .quo .f64 (floatOfInt .f64 (wrap64 (((rd_T36 (rd_L8 l0 (rd l1_0 x22_1)) x32_2).f2) - (rd l3 x32_2)))) (floatOfInt .f64 (wrap64 (((rd_T36 (rd_L8 l0 (rd l1_0 x22_1)) x32_2).f2) - ((rd_T36 (rd_L8 l0 (rd l1_0 x22_1)) x32_2).f1))))) = true) = true := decide_eq_true c28
                      clear c28
                      have H' := Aside0.mk H
                      clear H
                      go_wp2
                      repeat (go_quiet (fail); try go_wp2)
                      go_roundg kj15
                      case measure => have := HK1.out; have := HK2.out; have := HJ15.out; omega
                      case rel => exact ⟨(fv .mul .f64 x12_2 (fv .quo .f64 (floatOfInt .f64 (wrap64 (((rd_T36 (rd_L8 l0 (rd l1_0 x22_1)) x32_2).f2) - (rd l3 x32_2)))) (floatOfInt .f64 (wrap64 (((rd_T36 (rd_L8 l0 (rd l1_0 x22_1)) x32_2).f2) - ((rd_T36 (rd_L8 l0 (rd l1_0 x22_1)) x32_2).f1)))))), (wrap64 (x32_2 + 1)), (by first | rfl | (simp; done) | (simp [*]; done)), (by first | rfl | (simp; done) | (simp [*]; done)), H', ⟨by have := HK1.out; have := HK2.out; have := HJ15.out; omega⟩, ⟨by (with_reducible repeat (first | refine b1_ ?_ _ | refine b2_ ?_ | refine b3_ ?_ _)); exact BK146.out⟩, ⟨by repeat (first | (with_reducible first | exact HB.out | apply below_alloc | apply pw_below_drewN | apply below_drew1 | refine below_set ?_ GE146.out | refine below_set ?_ GE152.out) | exact HB.out)⟩⟩
                     ·rw [if_neg c28] at H
                      exact absurd H (by simp)
                    ·rw [if_neg c27] at H
                     exact absurd H (by simp)
             ·rw [if_neg c15] at H
              exact absurd H (by simp)
            ·rw [if_neg c14] at H
             exact absurd H (by simp)
           ·rw [if_neg c13] at H
            exact absurd H (by simp)
          ·rw [if_neg c12] at H
           have c12b0 : decide (x32_2 < ((rd_L8 l0 (rd l1_0 x22_1)).length : Int)) = false := decide_eq_false c12
           clear c12
           by_cases c29 : 0 ≤ a2
           ·rw [if_pos c29] at H
            have c29b0 : decide (0 ≤ a2) = true := decide_eq_true c29
            clear c29
            by_cases c30 : a2 < (l1_1.length : Int)
            ·rw [if_pos c30] at H
             have c30b0 : decide (a2 < (l1_1.length : Int)) = true := decide_eq_true c30
             clear c30
             by_cases c31 : 0 ≤ x22_1
             ·rw [if_pos c31] at H
              have c31b0 : decide (0 ≤ x22_1) = true := decide_eq_true c31
              clear c31
              by_cases c32 : x22_1 < ((rd_L9 l1_1 a2).length : Int)
              ·rw [if_pos c32] at H
               have c32b0 : decide (x22_1 < ((rd_L9 l1_1 a2).length : Int)) = true := decide_eq_true c32
               clear c32
               by_cases c33 : fok .mul .f64 x12_2 (floatOfInt .f64 (rd (rd_L9 l1_1 a2) x22_1)) = true
               ·rw [if_pos c33] at H
                have c33b0 := eq_true c33
                have c33b1 : decide (fok .mul .f64 x12_2 (floatOfInt .f64 (rd (rd_L9 l1_1 a2) x22_1)) = true) = true := decide_eq_true c33
                clear c33
                by_cases c34 : fok .add .f64 x9_1 (fv .mul .f64 x12_2 (floatOfInt .f64 (rd (rd_L9 l1_1 a2) x22_1))) = true
                ·rw [if_pos c34] at H
                 have c34b0 := eq_true c34
                 have c34b1 : decide (fok .add .f64 x9_1 (fv .mul .f64 x12_2 (floatOfInt .f64 (rd (rd_L9 l1_1 a2) x22_1))) = true) = true := decide_eq_true c34
                 clear c34
                 have H' := Aside0.mk H
                 clear H
                 have hcz35_0 : wr.cell? ⟨gb146, 0, none⟩ = some (.slice (some ad147) l1_0.length c1_0) := (blk_cell BK146.out 0).trans rfl
                 have hcz35_1 : wr.cell? ⟨gb146, 1, none⟩ = some (.slice A1_1 l1_1.length c1_1) := (blk_cell BK146.out 1).trans rfl
                 have hfz35_0 := blk_frozen BK146.out 0
                 have hfz35_1 := blk_frozen BK146.out 1
                 have p149 : 0 ≤ (a2 : Int) := of_decide_eq_true (by first | (with_reducible assumption) | assumption)
                 have q149 : a2 < (l1_1.length : Int) := of_decide_eq_true (by first | (with_reducible assumption) | assumption)
                 obtain ⟨ad149, A149_0, c149_0, e149, hx149_0, hl149_0, hi149_0⟩ := at_L9 HR1_1.out a2 p149 q149
                 cases e149
                 replace hx149_0 := (HB.out.cell (World.block_lt_of_cell? w _ hx149_0)).trans hx149_0
                 have HR149_0 := Aside0.mk hi149_0
                 have HC149_0 := Aside0.mk hl149_0
                 clear hi149_0 hl149_0
                 replace p149 := eq_true p149
                 replace q149 := eq_true q149
                 have p150 : 0 ≤ (x22_1 : Int) := of_decide_eq_true (by first | (with_reducible assumption) | assumption)
                 have q150 : x22_1 < ((rd_L9 l1_1 a2).length : Int) := of_decide_eq_true (by first | (with_reducible assumption) | assumption)
                 obtain ⟨ad150, e150, hx150_0⟩ := Kd.at_int HR149_0.out x22_1 p150 q150
                 cases e150
                 replace hx150_0 := (HB.out.cell (World.block_lt_of_cell? w _ hx150_0)).trans hx150_0
                 replace p150 := eq_true p150
                 replace q150 := eq_true q150
                 go_wp2
                 repeat (go_quiet (fail); try go_wp2)
                 go_roundg k2
                 case measure => have := HK1.out; have := HK2.out; omega
                 case rel => exact ⟨(fv .add .f64 x9_1 (fv .mul .f64 x12_2 (floatOfInt .f64 (rd (rd_L9 l1_1 a2) x22_1)))), (wrap64 (x22_1 + 1)), (by first | rfl | (simp; done) | (simp [*]; done)), (by first | rfl | (simp; done) | (simp [*]; done)), H', ⟨by have := HK1.out; have := HK2.out; omega⟩, ⟨by (with_reducible repeat (first | refine b1_ ?_ _ | refine b2_ ?_ | refine b3_ ?_ _)); exact BK146.out⟩, ⟨by repeat (first | (with_reducible first | exact HB.out | apply below_alloc | apply pw_below_drewN | apply below_drew1 | refine below_set ?_ GE146.out) | exact HB.out)⟩⟩
                ·rw [if_neg c34] at H
                 exact absurd H (by simp)
               ·rw [if_neg c33] at H
                exact absurd H (by simp)
              ·rw [if_neg c32] at H
               exact absurd H (by simp)
             ·rw [if_neg c31] at H
              exact absurd H (by simp)
            ·rw [if_neg c30] at H
             exact absurd H (by simp)
           ·rw [if_neg c29] at H
            exact absurd H (by simp)
       ·rw [if_neg c11] at H
        exact absurd H (by simp)
      ·rw [if_neg c10] at H
       exact absurd H (by simp)
     ·rw [if_neg c9] at H
      exact absurd H (by simp)
    ·rw [if_neg c8] at H
     exact absurd H (by simp)
   ·rw [if_neg c7] at H
    have c7b0 : decide (x22_1 < (l1_0.length : Int)) = false := decide_eq_false c7
    clear c7
    obtain rfl := Option.some.inj H
    go_wp2
    repeat (go_quiet (fail); try go_wp2)
    go_ret
    exact ⟨by first | rfl | (simp [errW_none, errW_some] <;> rfl) | (simp [*, errW_none, errW_some] <;> rfl), by repeat (first | (with_reducible first | exact HB.out | apply below_alloc | apply pw_below_drewN | apply below_drew1 | refine below_set ?_ GE146.out) | exact HB.out)⟩

/-- A state of type 102 at block g of W; what its slices lead to came in by w0. -/
def IsS102 (w0 W : World) (g : Nat) (f0 : Int) (f1 : Int) (f2 : Bool) : Prop := W.heap[g]? = some (.cells #[.int .i64 f0, .int .i64 f1, .bool f2] 102 (0, 0)) ∧ w0.heap.size ≤ g
theorem IsS102.grown {w0 W : World} {g : Nat} {f0 : Int} {f1 : Int} {f2 : Bool} {W1 : World} {row : Option Nat} (h : IsS102 w0 W g f0 f1 f2) (hw : W.grownBy W1 row) (hne : some g ≠ row) : IsS102 w0 W1 g f0 f1 f2 := by
 obtain ⟨hb, hg⟩ := h
 exact ⟨blk_grown hb hw hne, hg⟩
theorem IsS102.own_neN {w0 W : World} {g : Nat} {f0 : Int} {f1 : Int} {f2 : Bool} {α : Type} {d : Kd α} {e : Nat} {base : Nat} {ok : Nat → Prop} {v : Value} {xs : List α} (h : IsS102 w0 W g f0 f1 f2) (ho : Kd.N d e W base ok v xs) (ht : e ≠ 102) : some g ≠ v.ownBlock := by
 obtain ⟨hb, hg⟩ := h
 exact Kd.N_ne ho hb ht
theorem IsS102.fresh {w0 W : World} {g : Nat} {f0 : Int} {f1 : Int} {f2 : Bool} (h : IsS102 w0 W g f0 f1 f2) : ∀ k, W.heap.size ≤ k → k ≠ g := by
 obtain ⟨hb, hg⟩ := h
 exact Kd.freshB hb
theorem IsS102.kept {w0 W : World} {g : Nat} {f0 : Int} {f1 : Int} {f2 : Bool} {W1 : World} {S : Nat → Prop} (h : IsS102 w0 W g f0 f1 f2) (hk : Kept W W1 S) (hne : ¬ S g) : IsS102 w0 W1 g f0 f1 f2 := by
 obtain ⟨hb, hg⟩ := h
 exact ⟨blk_kept hb hk hne, hg⟩
theorem IsS102.below {w0 W : World} {g : Nat} {f0 : Int} {f1 : Int} {f2 : Bool} {W1 : World} (h : IsS102 w0 W g f0 f1 f2) (hw : Below W.heap.size W W1) : IsS102 w0 W1 g f0 f1 f2 := h.grown (grown_of_below hw none) (by simp)
theorem IsS102.alloc {w0 W : World} {g : Nat} {f0 : Int} {f1 : Int} {f2 : Bool} (h : IsS102 w0 W g f0 f1 f2) (o : Obj) : IsS102 w0 (W.alloc o) g f0 f1 f2 := h.below (below_alloc (Below.refl _ _) o)
theorem IsS102.drewN {w0 W : World} {g : Nat} {f0 : Int} {f1 : Int} {f2 : Bool} (h : IsS102 w0 W g f0 f1 f2) (m : Nat) : IsS102 w0 (W.drewN m) g f0 f1 f2 := h
theorem IsS102.drew {w0 W : World} {g : Nat} {f0 : Int} {f1 : Int} {f2 : Bool} (h : IsS102 w0 W g f0 f1 f2) : IsS102 w0 W.drew g f0 f1 f2 := h
theorem IsS102.at_ {w0 W : World} {g : Nat} {f0 : Int} {f1 : Int} {f2 : Bool} {w' : World} {m : Nat} (hq : W.drewN m = w') (h : IsS102 w0 W g f0 f1 f2) : IsS102 w0 w' g f0 f1 f2 := by subst hq; exact IsS102.drewN h m
theorem IsS102.apart {w0 W : World} {g : Nat} {f0 : Int} {f1 : Int} {f2 : Bool} {α : Type} {d : Kd α} {e : Nat} {base : Nat} {ok : Nat → Prop} {v : Value} {xs : List α} (h : IsS102 w0 W g f0 f1 f2) (ho : d.R e W base ok v xs) (ht : ∀ q, q ∈ e :: d.E → q ≠ 102) : d.R e W base (fun k => ok k ∧ k ≠ g) v xs := by
 obtain ⟨hb, hg⟩ := h
 exact Kd.R_types ho hb ht
theorem IsS102.own_ne {w0 W : World} {g : Nat} {f0 : Int} {f1 : Int} {f2 : Bool} {α : Type} {d : Kd α} {e : Nat} {base : Nat} {ok : Nat → Prop} {v : Value} {xs : List α} (h : IsS102 w0 W g f0 f1 f2) (ho : d.R e W base ok v xs) (ht : e ≠ 102) : some g ≠ v.ownBlock := by
 obtain ⟨hb, hg⟩ := h
 exact Kd.R_ne ho hb ht
theorem IsS102.apartQ {w0 W : World} {g : Nat} {f0 : Int} {f1 : Int} {f2 : Bool} {α : Type} {d : Kd α} {e : Nat} {base : Nat} {ok : Nat → Prop} {v : Value} {xs : List α} (h : IsS102 w0 W g f0 f1 f2) (ho : d.Q e W base ok v xs) (ht : ∀ q, q ∈ e :: d.E → q ≠ 102) : d.Q e W base (fun k => ok k ∧ k ≠ g) v xs := by
 obtain ⟨hb, hg⟩ := h
 exact Kd.Q_types ho hb ht
theorem IsS102.own_neQ {w0 W : World} {g : Nat} {f0 : Int} {f1 : Int} {f2 : Bool} {α : Type} {d : Kd α} {e : Nat} {base : Nat} {ok : Nat → Prop} {v : Value} {xs : List α} (h : IsS102 w0 W g f0 f1 f2) (ho : d.Q e W base ok v xs) (ht : e ≠ 102) : some g ≠ v.ownBlock := by
 obtain ⟨hb, hg⟩ := h
 exact Kd.Q_ne ho hb ht
theorem IsS102.apartS {w0 W : World} {g : Nat} {f0 : Int} {f1 : Int} {f2 : Bool} {α : Type} {d : Kd α} {e : Nat} {base : Nat} {ok : Nat → Prop} {v : Value} {xs : List α} (h : IsS102 w0 W g f0 f1 f2) (ho : d.S e W base ok v xs) (ht : ∀ q, q ∈ e :: d.E → q ≠ 102) : d.S e W base (fun k => ok k ∧ k ≠ g) v xs := by
 obtain ⟨hb, hg⟩ := h
 exact Kd.S_types ho hb ht
theorem IsS102.own_neS {w0 W : World} {g : Nat} {f0 : Int} {f1 : Int} {f2 : Bool} {α : Type} {d : Kd α} {e : Nat} {base : Nat} {ok : Nat → Prop} {v : Value} {xs : List α} (h : IsS102 w0 W g f0 f1 f2) (ho : d.S e W base ok v xs) (ht : e ≠ 102) : some g ≠ v.ownBlock := by
 obtain ⟨hb, hg⟩ := h
 exact Kd.S_ne ho hb ht
theorem IsS102.lt {w0 W : World} {g : Nat} {f0 : Int} {f1 : Int} {f2 : Bool} (h : IsS102 w0 W g f0 f1 f2) : g < W.heap.size := by
 obtain ⟨hb, hg⟩ := h
 exact blk_lt hb
theorem IsS102.ge {w0 W : World} {g : Nat} {f0 : Int} {f1 : Int} {f2 : Bool} (h : IsS102 w0 W g f0 f1 f2) : w0.heap.size ≤ g := by
 obtain ⟨hb, hg⟩ := h
 exact hg
theorem IsS102.ne_blk {w0 W : World} {g : Nat} {f0 : Int} {f1 : Int} {f2 : Bool} {a : Nat} {cs : Array Value} {t : TypeId} {fr : Nat × Nat} (h : IsS102 w0 W g f0 f1 f2) (hb2 : W.heap[a]? = some (.cells cs t fr)) (ht : t ≠ 102) : g ≠ a := by
 obtain ⟨hb, hg⟩ := h
 rintro rfl
 rw [hb] at hb2
 injection hb2 with hb2
 injection hb2 with _ ht2
 exact ht ht2.symm
theorem IsS102.far {w0 W : World} {g : Nat} {f0 : Int} {f1 : Int} {f2 : Bool} {p : Addr} (h : IsS102 w0 W g f0 f1 f2) (hne : g ≠ p.block) (u : Value) : IsS102 w0 (W.setCell p u) g f0 f1 f2 := by
 obtain ⟨hb, hg⟩ := h
 exact ⟨blk_far hb hne u, hg⟩
theorem IsS102.of {w0 W : World} {g : Nat} {f0 : Int} {f1 : Int} {f2 : Bool} (h : W.heap[g]? = some (.cells #[.int .i64 f0, .int .i64 f1, .bool f2] 102 (0, 0))) (hg : w0.heap.size ≤ g) : IsS102 w0 W g f0 f1 f2 := ⟨h, hg⟩
theorem IsS102.cells {w0 W : World} {g : Nat} {f0 : Int} {f1 : Int} {f2 : Bool} (h : IsS102 w0 W g f0 f1 f2) : W.heap[g]? = some (.cells #[.int .i64 f0, .int .i64 f1, .bool f2] 102 (0, 0)) := h.1
theorem cellS102_0 {W : World} {g : Nat} {f0 : Int} {f1 : Int} {f2 : Bool} (h : W.heap[g]? = some (.cells #[.int .i64 f0, .int .i64 f1, .bool f2] 102 (0, 0))) : W.cell? ⟨g, 0, none⟩ = some (.int .i64 f0) := (blk_cell h 0).trans rfl
theorem IsS102.set_0 {w0 W : World} {g : Nat} {f0 : Int} {f1 : Int} {f2 : Bool} (h : IsS102 w0 W g f0 f1 f2) (x : Int) : IsS102 w0 (W.setCell ⟨g, 0, none⟩ (.int .i64 x)) g x f1 f2 := by
 obtain ⟨hb, hg⟩ := h
 exact ⟨by simpa using blk_set hb 0 (.int .i64 x), hg⟩
theorem cellS102_1 {W : World} {g : Nat} {f0 : Int} {f1 : Int} {f2 : Bool} (h : W.heap[g]? = some (.cells #[.int .i64 f0, .int .i64 f1, .bool f2] 102 (0, 0))) : W.cell? ⟨g, 1, none⟩ = some (.int .i64 f1) := (blk_cell h 1).trans rfl
theorem IsS102.set_1 {w0 W : World} {g : Nat} {f0 : Int} {f1 : Int} {f2 : Bool} (h : IsS102 w0 W g f0 f1 f2) (x : Int) : IsS102 w0 (W.setCell ⟨g, 1, none⟩ (.int .i64 x)) g f0 x f2 := by
 obtain ⟨hb, hg⟩ := h
 exact ⟨by simpa using blk_set hb 1 (.int .i64 x), hg⟩
theorem cellS102_2 {W : World} {g : Nat} {f0 : Int} {f1 : Int} {f2 : Bool} (h : W.heap[g]? = some (.cells #[.int .i64 f0, .int .i64 f1, .bool f2] 102 (0, 0))) : W.cell? ⟨g, 2, none⟩ = some (.bool f2) := (blk_cell h 2).trans rfl
theorem IsS102.set_2 {w0 W : World} {g : Nat} {f0 : Int} {f1 : Int} {f2 : Bool} (h : IsS102 w0 W g f0 f1 f2) (x : Bool) : IsS102 w0 (W.setCell ⟨g, 2, none⟩ (.bool x)) g f0 f1 x := by
 obtain ⟨hb, hg⟩ := h
 exact ⟨by simpa using blk_set hb 2 (.bool x), hg⟩
theorem IsS102.new (w0 W : World) (f0 : Int) (f1 : Int) (f2 : Bool) (hB : Below w0.heap.size w0 W) : IsS102 w0 (W.alloc (.cells #[.int .i64 f0, .int .i64 f1, .bool f2] 102)) W.heap.size f0 f1 f2 := ⟨by simpa using heap_alloc_new W _, hB.size⟩

/-! ### impl_builder_must: function 50 -/
def impl_builder_must.f (s0_0 : Int) (s0_1 : Int) (s0_2 : Bool) (a1 : Bool) : Option (Int × Int × Bool) := if s0_2 = true then (some (s0_0, s0_1, true)) else (some (s0_0, s0_1, !a1))
set_option maxHeartbeats 8000000 in
set_option maxRecDepth 100000 in
theorem impl_builder_must.calls (g : Nat) (s0_0 : Int) (s0_1 : Int) (s0_2 : Bool) (a1 : Bool) (r1 : Int) (r2 : Int) (r3 : Bool) (w0 w : World) (hI : IsS102 w0 w g s0_0 s0_1 s0_2) (hB : Below w0.heap.size w0 w) (h : impl_builder_must.f s0_0 s0_1 s0_2 a1 = some (r1, r2, r3)) :
  Calls Try.prog 50 #[.pointer (some ⟨g, 0, none⟩), .bool a1] w fun e w' => e = .returned (.tuple #[]) ∧ IsS102 w0 w' g r1 r2 r3 ∧ Below w0.heap.size w0 w' ∧ KeepBut w w' g none := by
 have HI0 := Aside0.mk hI
 have HK := Aside0.mk (KeepBut.refl w g none)
 have HL := Aside0.mk hB.size
 clear hI
 have HW0 := Aside0.mk hB.size
 have HB := Aside0.mk hB
 clear hB
 have H : (if s0_2 = true then (some (s0_0, s0_1, true)) else (some (s0_0, s0_1, !a1))) = some (r1, r2, r3) := h
 clear h
 by_cases c3 : s0_2 = true
 ·subst c3
  have H1 : (some (s0_0, s0_1, true)) = some (r1, r2, r3) := by rw [if_pos rfl] at H; exact H
  clear H
  have H := H1
  clear H1
  simp only [Option.some.injEq, Prod.mk.injEq] at H
  obtain ⟨rfl, rfl, rfl⟩ := H
  obtain ⟨HGz4, hgz4⟩ := HI0.out
  have hcz4_0 := cellS102_0 HGz4
  have hcz4_1 := cellS102_1 HGz4
  have hcz4_2 := cellS102_2 HGz4
  have hfz4_0 := blk_frozen HGz4 0
  have hfz4_1 := blk_frozen HGz4 1
  have hfz4_2 := blk_frozen HGz4 2
  clear HGz4 hgz4
  go_enter Try.func50, Try.ntmps50
  go_wp2
  first | go_end0 | ((try simp only [Exit.inBlock, Exit.then]); refine bodyPost_ret (results_none rfl _ _ _) rfl ?_)
  exact ⟨by first | rfl | (simp [errW_none, errW_some] <;> rfl) | (simp [*, errW_none, errW_some] <;> rfl), by repeat (first | (with_reducible first | exact HI0.out | apply IsS102.alloc | apply IsS102.drewN | apply IsS102.drew | apply IsS102.set_0 | apply IsS102.set_1 | apply IsS102.set_2) | exact HI0.out), by repeat (first | (with_reducible first | exact HB.out | apply below_alloc | apply pw_below_drewN | apply below_drew1 | refine below_set ?_ (IsS102.ge HI0.out)) | exact HB.out), by repeat (first | (with_reducible first | exact HK.out | apply KeepBut.set_ | apply keep_drewN | apply keep_drew | apply keep_alloc) | exact HK.out)⟩
 ·replace c3 := Bool.eq_false_iff.mpr c3
  subst c3
  have H1 : (some (s0_0, s0_1, !a1)) = some (r1, r2, r3) := by rw [if_neg (show ¬ (false = true) by decide)] at H; exact H
  clear H
  have H := H1
  clear H1
  simp only [Option.some.injEq, Prod.mk.injEq] at H
  obtain ⟨rfl, rfl, rfl⟩ := H
  obtain ⟨HGz5, hgz5⟩ := HI0.out
  have hcz5_0 := cellS102_0 HGz5
  have hcz5_1 := cellS102_1 HGz5
  have hcz5_2 := cellS102_2 HGz5
  have hfz5_0 := blk_frozen HGz5 0
  have hfz5_1 := blk_frozen HGz5 1
  have hfz5_2 := blk_frozen HGz5 2
  clear HGz5 hgz5
  go_enter Try.func50, Try.ntmps50
  go_wp2
  first | go_end0 | ((try simp only [Exit.inBlock, Exit.then]); refine bodyPost_ret (results_none rfl _ _ _) rfl ?_)
  exact ⟨by first | rfl | (simp [errW_none, errW_some] <;> rfl) | (simp [*, errW_none, errW_some] <;> rfl), by repeat (first | (with_reducible first | exact HI0.out | apply IsS102.alloc | apply IsS102.drewN | apply IsS102.drew | apply IsS102.set_0 | apply IsS102.set_1 | apply IsS102.set_2) | exact HI0.out), by repeat (first | (with_reducible first | exact HB.out | apply below_alloc | apply pw_below_drewN | apply below_drew1 | refine below_set ?_ (IsS102.ge HI0.out)) | exact HB.out), by repeat (first | (with_reducible first | exact HK.out | apply KeepBut.set_ | apply keep_drewN | apply keep_drew | apply keep_alloc) | exact HK.out)⟩

/-! ### impl_builder_small: function 35 -/
def impl_builder_small.f (s0_0 : Int) (s0_1 : Int) (s0_2 : Bool) (a1 : Int) : Option (Int × Int × Int × Bool) := if a1 ≥ 0 then ((impl_builder_must.f s0_0 s0_1 s0_2 (decide (a1 ≤ 65535))).bind fun bt154 => (some (IntKind.u16.wrap (a1), bt154.1, bt154.2.1, bt154.2.2))) else ((impl_builder_must.f s0_0 s0_1 s0_2 false).bind fun bt157 => (some (IntKind.u16.wrap (a1), bt157.1, bt157.2.1, bt157.2.2)))
set_option maxHeartbeats 8000000 in
set_option maxRecDepth 100000 in
theorem impl_builder_small.calls (g : Nat) (s0_0 : Int) (s0_1 : Int) (s0_2 : Bool) (a1 : Int) (r1 : Int) (r2 : Int) (r3 : Int) (r4 : Bool) (w0 w : World) (hI : IsS102 w0 w g s0_0 s0_1 s0_2) (hB : Below w0.heap.size w0 w) (h : impl_builder_small.f s0_0 s0_1 s0_2 a1 = some (r1, r2, r3, r4)) :
  Calls Try.prog 35 #[.pointer (some ⟨g, 0, none⟩), .int .i64 a1] w fun e w' => e = .returned (.int .u16 r1) ∧ IsS102 w0 w' g r2 r3 r4 ∧ Below w0.heap.size w0 w' ∧ KeepBut w w' g none := by
 have HI0 := Aside0.mk hI
 have HK := Aside0.mk (KeepBut.refl w g none)
 have HL := Aside0.mk hB.size
 clear hI
 have HW0 := Aside0.mk hB.size
 have HB := Aside0.mk hB
 clear hB
 have H : (if a1 ≥ 0 then ((impl_builder_must.f s0_0 s0_1 s0_2 (decide (a1 ≤ 65535))).bind fun bt154 => (some (IntKind.u16.wrap (a1), bt154.1, bt154.2.1, bt154.2.2))) else ((impl_builder_must.f s0_0 s0_1 s0_2 false).bind fun bt157 => (some (IntKind.u16.wrap (a1), bt157.1, bt157.2.1, bt157.2.2)))) = some (r1, r2, r3, r4) := h
 clear h
 by_cases c3 : a1 ≥ 0
 ·rw [if_pos c3] at H
  have c3b0 : decide (0 ≤ a1) = true := decide_eq_true c3
  clear c3
  replace H := Option.bind_eq_some_iff.mp H
  obtain ⟨⟨t154, t155, t156⟩, A40, H⟩ := H
  replace H : (some (IntKind.u16.wrap (a1), t154, t155, t156)) = some (r1, r2, r3, r4) := H
  have A4 := Aside0.mk A40
  clear A40
  simp only [Option.some.injEq, Prod.mk.injEq] at H
  obtain ⟨rfl, rfl, rfl, rfl⟩ := H
  go_enter Try.func35, Try.ntmps35
  go_wp2_with (first | ((with_reducible refine gate_callee (f := 50) rfl ?_); refine goesL_ (some 12) rfl rfl Try.func50 (by kernel_rfl) rfl #[.pointer (some ⟨g, 0, none⟩), .bool (decide (a1 ≤ 65535))] rfl (by (try simp only [List.map_toArray, List.map_cons, List.map_nil]); first | done | rfl | (simp only [List.length_drop, List.length_take]; rfl)) ?_; (with_reducible refine (impl_builder_must.calls g s0_0 s0_1 s0_2 (decide (a1 ≤ 65535)) t154 t155 t156 w0 _ ?side1 ?side2 A4.out).mono ?_); (case side1 => repeat (first | (with_reducible first | exact HI0.out | apply IsS102.alloc | apply IsS102.drewN | apply IsS102.drew | apply IsS102.set_0 | apply IsS102.set_1 | apply IsS102.set_2) | exact HI0.out)); (case side2 => repeat (first | (with_reducible first | exact HB.out | apply below_alloc | apply pw_below_drewN | apply below_drew1 | refine below_set ?_ (IsS102.ge HI0.out)) | exact HB.out)); rintro e w5 ⟨rfl, hi, hb, hk⟩; refine ⟨_, rfl, ?_⟩; have n0_ := Aside0.mk (KeepBut.trans (by repeat (first | (with_reducible first | exact HK.out | apply KeepBut.set_ | apply keep_drewN | apply keep_drew | apply keep_alloc) | exact HK.out)) hk (.inl rfl)); have n1_ := Aside0.mk (hb); have n2_ := Aside0.mk (hi); clear HK; clear HB; clear HI0; have HK := n0_; have HB := n1_; have HI0 := n2_; clear n0_ n1_ n2_; (try clear hb); (try clear hb2); (try clear hk); (try clear hi)))
  go_ret
  exact ⟨by first | rfl | (simp [errW_none, errW_some] <;> rfl) | (simp [*, errW_none, errW_some] <;> rfl), by repeat (first | (with_reducible first | exact HI0.out | apply IsS102.alloc | apply IsS102.drewN | apply IsS102.drew | apply IsS102.set_0 | apply IsS102.set_1 | apply IsS102.set_2) | exact HI0.out), by repeat (first | (with_reducible first | exact HB.out | apply below_alloc | apply pw_below_drewN | apply below_drew1 | refine below_set ?_ (IsS102.ge HI0.out)) | exact HB.out), by repeat (first | (with_reducible first | exact HK.out | apply KeepBut.set_ | apply keep_drewN | apply keep_drew | apply keep_alloc) | exact HK.out)⟩
 ·rw [if_neg c3] at H
  have c3b0 : decide (0 ≤ a1) = false := decide_eq_false c3
  clear c3
  replace H := Option.bind_eq_some_iff.mp H
  obtain ⟨⟨t157, t158, t159⟩, A60, H⟩ := H
  replace H : (some (IntKind.u16.wrap (a1), t157, t158, t159)) = some (r1, r2, r3, r4) := H
  have A6 := Aside0.mk A60
  clear A60
  simp only [Option.some.injEq, Prod.mk.injEq] at H
  obtain ⟨rfl, rfl, rfl, rfl⟩ := H
  go_enter Try.func35, Try.ntmps35
  go_wp2_with (first | ((with_reducible refine gate_callee (f := 50) rfl ?_); refine goesL_ (some 12) rfl rfl Try.func50 (by kernel_rfl) rfl #[.pointer (some ⟨g, 0, none⟩), .bool false] rfl (by (try simp only [List.map_toArray, List.map_cons, List.map_nil]); first | done | rfl | (simp only [List.length_drop, List.length_take]; rfl)) ?_; (with_reducible refine (impl_builder_must.calls g s0_0 s0_1 s0_2 false t157 t158 t159 w0 _ ?side1 ?side2 A6.out).mono ?_); (case side1 => repeat (first | (with_reducible first | exact HI0.out | apply IsS102.alloc | apply IsS102.drewN | apply IsS102.drew | apply IsS102.set_0 | apply IsS102.set_1 | apply IsS102.set_2) | exact HI0.out)); (case side2 => repeat (first | (with_reducible first | exact HB.out | apply below_alloc | apply pw_below_drewN | apply below_drew1 | refine below_set ?_ (IsS102.ge HI0.out)) | exact HB.out)); rintro e w7 ⟨rfl, hi, hb, hk⟩; refine ⟨_, rfl, ?_⟩; have n0_ := Aside0.mk (KeepBut.trans (by repeat (first | (with_reducible first | exact HK.out | apply KeepBut.set_ | apply keep_drewN | apply keep_drew | apply keep_alloc) | exact HK.out)) hk (.inl rfl)); have n1_ := Aside0.mk (hb); have n2_ := Aside0.mk (hi); clear HK; clear HB; clear HI0; have HK := n0_; have HB := n1_; have HI0 := n2_; clear n0_ n1_ n2_; (try clear hb); (try clear hb2); (try clear hk); (try clear hi)))
  go_ret
  exact ⟨by first | rfl | (simp [errW_none, errW_some] <;> rfl) | (simp [*, errW_none, errW_some] <;> rfl), by repeat (first | (with_reducible first | exact HI0.out | apply IsS102.alloc | apply IsS102.drewN | apply IsS102.drew | apply IsS102.set_0 | apply IsS102.set_1 | apply IsS102.set_2) | exact HI0.out), by repeat (first | (with_reducible first | exact HB.out | apply below_alloc | apply pw_below_drewN | apply below_drew1 | refine below_set ?_ (IsS102.ge HI0.out)) | exact HB.out), by repeat (first | (with_reducible first | exact HK.out | apply KeepBut.set_ | apply keep_drewN | apply keep_drew | apply keep_alloc) | exact HK.out)⟩

/-! ### impl_builder_signed: function 51 -/
def impl_builder_signed.f (s0_0 : Int) (s0_1 : Int) (s0_2 : Bool) (a1 : Int) : Option (Int × Int × Int × Bool) := if a1 ≥ (-32768) then ((impl_builder_must.f s0_0 s0_1 s0_2 (decide (a1 ≤ 32767))).bind fun bt160 => (some (IntKind.i16.wrap (a1), bt160.1, bt160.2.1, bt160.2.2))) else ((impl_builder_must.f s0_0 s0_1 s0_2 false).bind fun bt163 => (some (IntKind.i16.wrap (a1), bt163.1, bt163.2.1, bt163.2.2)))
set_option maxHeartbeats 8000000 in
set_option maxRecDepth 100000 in
theorem impl_builder_signed.calls (g : Nat) (s0_0 : Int) (s0_1 : Int) (s0_2 : Bool) (a1 : Int) (r1 : Int) (r2 : Int) (r3 : Int) (r4 : Bool) (w0 w : World) (hI : IsS102 w0 w g s0_0 s0_1 s0_2) (hB : Below w0.heap.size w0 w) (h : impl_builder_signed.f s0_0 s0_1 s0_2 a1 = some (r1, r2, r3, r4)) :
  Calls Try.prog 51 #[.pointer (some ⟨g, 0, none⟩), .int .i64 a1] w fun e w' => e = .returned (.int .i16 r1) ∧ IsS102 w0 w' g r2 r3 r4 ∧ Below w0.heap.size w0 w' ∧ KeepBut w w' g none := by
 have HI0 := Aside0.mk hI
 have HK := Aside0.mk (KeepBut.refl w g none)
 have HL := Aside0.mk hB.size
 clear hI
 have HW0 := Aside0.mk hB.size
 have HB := Aside0.mk hB
 clear hB
 have H : (if a1 ≥ (-32768) then ((impl_builder_must.f s0_0 s0_1 s0_2 (decide (a1 ≤ 32767))).bind fun bt160 => (some (IntKind.i16.wrap (a1), bt160.1, bt160.2.1, bt160.2.2))) else ((impl_builder_must.f s0_0 s0_1 s0_2 false).bind fun bt163 => (some (IntKind.i16.wrap (a1), bt163.1, bt163.2.1, bt163.2.2)))) = some (r1, r2, r3, r4) := h
 clear h
 by_cases c3 : a1 ≥ (-32768)
 ·rw [if_pos c3] at H
  have c3b0 : decide ((-32768) ≤ a1) = true := decide_eq_true c3
  clear c3
  replace H := Option.bind_eq_some_iff.mp H
  obtain ⟨⟨t160, t161, t162⟩, A40, H⟩ := H
  replace H : (some (IntKind.i16.wrap (a1), t160, t161, t162)) = some (r1, r2, r3, r4) := H
  have A4 := Aside0.mk A40
  clear A40
  simp only [Option.some.injEq, Prod.mk.injEq] at H
  obtain ⟨rfl, rfl, rfl, rfl⟩ := H
  go_enter Try.func51, Try.ntmps51
  go_wp2_with (first | ((with_reducible refine gate_callee (f := 50) rfl ?_); refine goesL_ (some 12) rfl rfl Try.func50 (by kernel_rfl) rfl #[.pointer (some ⟨g, 0, none⟩), .bool (decide (a1 ≤ 32767))] rfl (by (try simp only [List.map_toArray, List.map_cons, List.map_nil]); first | done | rfl | (simp only [List.length_drop, List.length_take]; rfl)) ?_; (with_reducible refine (impl_builder_must.calls g s0_0 s0_1 s0_2 (decide (a1 ≤ 32767)) t160 t161 t162 w0 _ ?side1 ?side2 A4.out).mono ?_); (case side1 => repeat (first | (with_reducible first | exact HI0.out | apply IsS102.alloc | apply IsS102.drewN | apply IsS102.drew | apply IsS102.set_0 | apply IsS102.set_1 | apply IsS102.set_2) | exact HI0.out)); (case side2 => repeat (first | (with_reducible first | exact HB.out | apply below_alloc | apply pw_below_drewN | apply below_drew1 | refine below_set ?_ (IsS102.ge HI0.out)) | exact HB.out)); rintro e w5 ⟨rfl, hi, hb, hk⟩; refine ⟨_, rfl, ?_⟩; have n0_ := Aside0.mk (KeepBut.trans (by repeat (first | (with_reducible first | exact HK.out | apply KeepBut.set_ | apply keep_drewN | apply keep_drew | apply keep_alloc) | exact HK.out)) hk (.inl rfl)); have n1_ := Aside0.mk (hb); have n2_ := Aside0.mk (hi); clear HK; clear HB; clear HI0; have HK := n0_; have HB := n1_; have HI0 := n2_; clear n0_ n1_ n2_; (try clear hb); (try clear hb2); (try clear hk); (try clear hi)))
  go_ret
  exact ⟨by first | rfl | (simp [errW_none, errW_some] <;> rfl) | (simp [*, errW_none, errW_some] <;> rfl), by repeat (first | (with_reducible first | exact HI0.out | apply IsS102.alloc | apply IsS102.drewN | apply IsS102.drew | apply IsS102.set_0 | apply IsS102.set_1 | apply IsS102.set_2) | exact HI0.out), by repeat (first | (with_reducible first | exact HB.out | apply below_alloc | apply pw_below_drewN | apply below_drew1 | refine below_set ?_ (IsS102.ge HI0.out)) | exact HB.out), by repeat (first | (with_reducible first | exact HK.out | apply KeepBut.set_ | apply keep_drewN | apply keep_drew | apply keep_alloc) | exact HK.out)⟩
 ·rw [if_neg c3] at H
  have c3b0 : decide ((-32768) ≤ a1) = false := decide_eq_false c3
  clear c3
  replace H := Option.bind_eq_some_iff.mp H
  obtain ⟨⟨t163, t164, t165⟩, A60, H⟩ := H
  replace H : (some (IntKind.i16.wrap (a1), t163, t164, t165)) = some (r1, r2, r3, r4) := H
  have A6 := Aside0.mk A60
  clear A60
  simp only [Option.some.injEq, Prod.mk.injEq] at H
  obtain ⟨rfl, rfl, rfl, rfl⟩ := H
  go_enter Try.func51, Try.ntmps51
  go_wp2_with (first | ((with_reducible refine gate_callee (f := 50) rfl ?_); refine goesL_ (some 12) rfl rfl Try.func50 (by kernel_rfl) rfl #[.pointer (some ⟨g, 0, none⟩), .bool false] rfl (by (try simp only [List.map_toArray, List.map_cons, List.map_nil]); first | done | rfl | (simp only [List.length_drop, List.length_take]; rfl)) ?_; (with_reducible refine (impl_builder_must.calls g s0_0 s0_1 s0_2 false t163 t164 t165 w0 _ ?side1 ?side2 A6.out).mono ?_); (case side1 => repeat (first | (with_reducible first | exact HI0.out | apply IsS102.alloc | apply IsS102.drewN | apply IsS102.drew | apply IsS102.set_0 | apply IsS102.set_1 | apply IsS102.set_2) | exact HI0.out)); (case side2 => repeat (first | (with_reducible first | exact HB.out | apply below_alloc | apply pw_below_drewN | apply below_drew1 | refine below_set ?_ (IsS102.ge HI0.out)) | exact HB.out)); rintro e w7 ⟨rfl, hi, hb, hk⟩; refine ⟨_, rfl, ?_⟩; have n0_ := Aside0.mk (KeepBut.trans (by repeat (first | (with_reducible first | exact HK.out | apply KeepBut.set_ | apply keep_drewN | apply keep_drew | apply keep_alloc) | exact HK.out)) hk (.inl rfl)); have n1_ := Aside0.mk (hb); have n2_ := Aside0.mk (hi); clear HK; clear HB; clear HI0; have HK := n0_; have HB := n1_; have HI0 := n2_; clear n0_ n1_ n2_; (try clear hb); (try clear hb2); (try clear hk); (try clear hi)))
  go_ret
  exact ⟨by first | rfl | (simp [errW_none, errW_some] <;> rfl) | (simp [*, errW_none, errW_some] <;> rfl), by repeat (first | (with_reducible first | exact HI0.out | apply IsS102.alloc | apply IsS102.drewN | apply IsS102.drew | apply IsS102.set_0 | apply IsS102.set_1 | apply IsS102.set_2) | exact HI0.out), by repeat (first | (with_reducible first | exact HB.out | apply below_alloc | apply pw_below_drewN | apply below_drew1 | refine below_set ?_ (IsS102.ge HI0.out)) | exact HB.out), by repeat (first | (with_reducible first | exact HK.out | apply KeepBut.set_ | apply keep_drewN | apply keep_drew | apply keep_alloc) | exact HK.out)⟩

end Go.Proofs.Ytlbmfnjhpojghaa.PFnAdvanceDelta
