-- Written by a program of this session (xprint) out of the translation; Lean checks it.
import Derived.Test.YtlbmfnjhpojghaaPFnNormalizedx0
namespace Go.Proofs.Ytlbmfnjhpojghaa.PFnNormalized
open Go.RowKit Go.Proofs.YtlbmfnjhpojghaaW.PrintWords Go.Proofs.YtlbmfnjhpojghaaW.PrintLast Go.Proofs.YtlbmfnjhpojghaaW.PrintMore
attribute [local go_sem] max2_int min2_int max_two min_two max_three min_three max_four min_four   -- for this text's walks alone
set_option linter.unusedVariables false
set_option linter.unusedSimpArgs false

attribute [local go_sem] f_add f_sub f_mul f_quo f_conv f_same f_int f_max f_min f_neg f_store
/-! ### spec_NormalRef: function 28 -/
def spec_NormalRef.f (a0_0 : Nat) (a0_1 : Nat) (a0_2 : Nat) (a1 : Nat) : Option (Nat) := if fcok .f32 a1 .f64 = true then (if fcok .f32 a0_0 .f64 = true then (if fcok .f32 a0_1 .f64 = true then (if fcok .f32 a0_2 .f64 = true then (if fmok .f64 (fc .f32 a0_2 .f64) (fc .f32 a1 .f64) = true then (if fmok .f64 (fc .f32 a0_0 .f64) (fmn .f64 (fc .f32 a0_2 .f64) (fc .f32 a1 .f64)) = true then (if (FloatKind.f64.format.order (fmx .f64 (fc .f32 a0_0 .f64) (fmn .f64 (fc .f32 a0_2 .f64) (fc .f32 a1 .f64))) (fc .f32 a0_1 .f64) == some .lt) = true then (if fok .sub .f64 (fc .f32 a0_1 .f64) (fmx .f64 (fc .f32 a0_0 .f64) (fmn .f64 (fc .f32 a0_2 .f64) (fc .f32 a1 .f64))) = true then (if fok .mul .f64 13893604850437980160 (fv .sub .f64 (fc .f32 a0_1 .f64) (fmx .f64 (fc .f32 a0_0 .f64) (fmn .f64 (fc .f32 a0_2 .f64) (fc .f32 a1 .f64)))) = true then (if fok .sub .f64 (fc .f32 a0_1 .f64) (fc .f32 a0_0 .f64) = true then (if fok .quo .f64 (fv .mul .f64 13893604850437980160 (fv .sub .f64 (fc .f32 a0_1 .f64) (fmx .f64 (fc .f32 a0_0 .f64) (fmn .f64 (fc .f32 a0_2 .f64) (fc .f32 a1 .f64))))) (fv .sub .f64 (fc .f32 a0_1 .f64) (fc .f32 a0_0 .f64)) = true then (some (fv .quo .f64 (fv .mul .f64 13893604850437980160 (fv .sub .f64 (fc .f32 a0_1 .f64) (fmx .f64 (fc .f32 a0_0 .f64) (fmn .f64 (fc .f32 a0_2 .f64) (fc .f32 a1 .f64))))) (fv .sub .f64 (fc .f32 a0_1 .f64) (fc .f32 a0_0 .f64)))) else (none)) else (none)) else (none)) else (none)) else (if (FloatKind.f64.format.order (fmx .f64 (fc .f32 a0_0 .f64) (fmn .f64 (fc .f32 a0_2 .f64) (fc .f32 a1 .f64))) (fc .f32 a0_1 .f64) == some .gt) = true then (if fok .sub .f64 (fmx .f64 (fc .f32 a0_0 .f64) (fmn .f64 (fc .f32 a0_2 .f64) (fc .f32 a1 .f64))) (fc .f32 a0_1 .f64) = true then (if fok .mul .f64 4670232813583204352 (fv .sub .f64 (fmx .f64 (fc .f32 a0_0 .f64) (fmn .f64 (fc .f32 a0_2 .f64) (fc .f32 a1 .f64))) (fc .f32 a0_1 .f64)) = true then (if fok .sub .f64 (fc .f32 a0_2 .f64) (fc .f32 a0_1 .f64) = true then (if fok .quo .f64 (fv .mul .f64 4670232813583204352 (fv .sub .f64 (fmx .f64 (fc .f32 a0_0 .f64) (fmn .f64 (fc .f32 a0_2 .f64) (fc .f32 a1 .f64))) (fc .f32 a0_1 .f64))) (fv .sub .f64 (fc .f32 a0_2 .f64) (fc .f32 a0_1 .f64)) = true then (some (fv .quo .f64 (fv .mul .f64 4670232813583204352 (fv .sub .f64 (fmx .f64 (fc .f32 a0_0 .f64) (fmn .f64 (fc .f32 a0_2 .f64) (fc .f32 a1 .f64))) (fc .f32 a0_1 .f64))) (fv .sub .f64 (fc .f32 a0_2 .f64) (fc .f32 a0_1 .f64)))) else (none)) else (none)) else (none)) else (none)) else (some 0))) else (none)) else (none)) else (none)) else (none)) else (none)) else (none)
set_option maxHeartbeats 8000000 in
set_option maxRecDepth 100000 in
theorem spec_NormalRef.calls (a0_0 : Nat) (a0_1 : Nat) (a0_2 : Nat) (a1 : Nat) (r : Nat) (w : World) (h : spec_NormalRef.f a0_0 a0_1 a0_2 a1 = some r) :
  Calls Try.prog 28 #[.agg #[.float .f32 a0_0, .float .f32 a0_1, .float .f32 a0_2], .float .f32 a1] w fun e w' => e = .returned (.float .f64 r) ∧ Below w.heap.size w w' := by
 have hu92 := Try.underlying92
 have HB := Aside0.mk (Below.refl w.heap.size w)
 have H : (if fcok .f32 a1 .f64 = true then (if fcok .f32 a0_0 .f64 = true then (if fcok .f32 a0_1 .f64 = true then (if fcok .f32 a0_2 .f64 = true then (if fmok .f64 (fc .f32 a0_2 .f64) (fc .f32 a1 .f64) = true then (if fmok .f64 (fc .f32 a0_0 .f64) (fmn .f64 (fc .f32 a0_2 .f64) (fc .f32 a1 .f64)) = true then (if (FloatKind.f64.format.order (fmx .f64 (fc .f32 a0_0 .f64) (fmn .f64 (fc .f32 a0_2 .f64) (fc .f32 a1 .f64))) (fc .f32 a0_1 .f64) == some .lt) = true then (if fok .sub .f64 (fc .f32 a0_1 .f64) (fmx .f64 (fc .f32 a0_0 .f64) (fmn .f64 (fc .f32 a0_2 .f64) (fc .f32 a1 .f64))) = true then (if fok .mul .f64 13893604850437980160 (fv .sub .f64 (fc .f32 a0_1 .f64) (fmx .f64 (fc .f32 a0_0 .f64) (fmn .f64 (fc .f32 a0_2 .f64) (fc .f32 a1 .f64)))) = true then (if fok .sub .f64 (fc .f32 a0_1 .f64) (fc .f32 a0_0 .f64) = true then (if fok .quo .f64 (fv .mul .f64 13893604850437980160 (fv .sub .f64 (fc .f32 a0_1 .f64) (fmx .f64 (fc .f32 a0_0 .f64) (fmn .f64 (fc .f32 a0_2 .f64) (fc .f32 a1 .f64))))) (fv .sub .f64 (fc .f32 a0_1 .f64) (fc .f32 a0_0 .f64)) = true then (some (fv .quo .f64 (fv .mul .f64 13893604850437980160 (fv .sub .f64 (fc .f32 a0_1 .f64) (fmx .f64 (fc .f32 a0_0 .f64) (fmn .f64 (fc .f32 a0_2 .f64) (fc .f32 a1 .f64))))) (fv .sub .f64 (fc .f32 a0_1 .f64) (fc .f32 a0_0 .f64)))) else (none)) else (none)) else (none)) else (none)) else (if (FloatKind.f64.format.order (fmx .f64 (fc .f32 a0_0 .f64) (fmn .f64 (fc .f32 a0_2 .f64) (fc .f32 a1 .f64))) (fc .f32 a0_1 .f64) == some .gt) = true then (if fok .sub .f64 (fmx .f64 (fc .f32 a0_0 .f64) (fmn .f64 (fc .f32 a0_2 .f64) (fc .f32 a1 .f64))) (fc .f32 a0_1 .f64) = true then (if fok .mul .f64 4670232813583204352 (fv .sub .f64 (fmx .f64 (fc .f32 a0_0 .f64) (fmn .f64 (fc .f32 a0_2 .f64) (fc .f32 a1 .f64))) (fc .f32 a0_1 .f64)) = true then (if fok .sub .f64 (fc .f32 a0_2 .f64) (fc .f32 a0_1 .f64) = true then (if fok .quo .f64 (fv .mul .f64 4670232813583204352 (fv .sub .f64 (fmx .f64 (fc .f32 a0_0 .f64) (fmn .f64 (fc .f32 a0_2 .f64) (fc .f32 a1 .f64))) (fc .f32 a0_1 .f64))) (fv .sub .f64 (fc .f32 a0_2 .f64) (fc .f32 a0_1 .f64)) = true then (some (fv .quo .f64 (fv .mul .f64 4670232813583204352 (fv .sub .f64 (fmx .f64 (fc .f32 a0_0 .f64) (fmn .f64 (fc .f32 a0_2 .f64) (fc .f32 a1 .f64))) (fc .f32 a0_1 .f64))) (fv .sub .f64 (fc .f32 a0_2 .f64) (fc .f32 a0_1 .f64)))) else (none)) else (none)) else (none)) else (none)) else (some 0))) else (none)) else (none)) else (none)) else (none)) else (none)) else (none)) = some r := h
 clear h
 by_cases c3 : fcok .f32 a1 .f64 = true
 ·rw [if_pos c3] at H
  have c3b0 := eq_true c3
  have c3b1 : decide (fcok .f32 a1 .f64 = true) = true := decide_eq_true c3
  clear c3
  by_cases c4 : fcok .f32 a0_0 .f64 = true
  ·rw [if_pos c4] at H
   have c4b0 := eq_true c4
   have c4b1 : decide (fcok .f32 a0_0 .f64 = true) = true := decide_eq_true c4
   clear c4
   by_cases c5 : fcok .f32 a0_1 .f64 = true
   ·rw [if_pos c5] at H
    have c5b0 := eq_true c5
    have c5b1 : decide (fcok .f32 a0_1 .f64 = true) = true := decide_eq_true c5
    clear c5
    by_cases c6 : fcok .f32 a0_2 .f64 = true
    ·rw [if_pos c6] at H
     have c6b0 := eq_true c6
     have c6b1 : decide (fcok .f32 a0_2 .f64 = true) = true := decide_eq_true c6
     clear c6
     by_cases c7 : fmok .f64 (fc .f32 a0_2 .f64) (fc .f32 a1 .f64) = true
     ·rw [if_pos c7] at H
      have c7b0 := eq_true c7
      have c7b1 : decide (fmok .f64 (fc .f32 a0_2 .f64) (fc .f32 a1 .f64) = true) = true := decide_eq_true c7
      clear c7
      by_cases c8 : fmok .f64 (fc .f32 a0_0 .f64) (fmn .f64 (fc .f32 a0_2 .f64) (fc .f32 a1 .f64)) = true
      ·rw [if_pos c8] at H
       have c8b0 := eq_true c8
       have c8b1 : decide (fmok .f64 (fc .f32 a0_0 .f64) (fmn .f64 (fc .f32 a0_2 .f64) (fc .f32 a1 .f64)) = true) = true := decide_eq_true c8
       clear c8
       by_cases c9 : (FloatKind.f64.format.order (fmx .f64 (fc .f32 a0_0 .f64) (fmn .f64 (fc .f32 a0_2 .f64) (fc .f32 a1 .f64))) (fc .f32 a0_1 .f64) == some .lt) = true
       ·rw [if_pos c9] at H
        have c9b0 : (FloatKind.f64.format.order (fmx .f64 (fc .f32 a0_0 .f64) (fmn .f64 (fc .f32 a0_2 .f64) (fc .f32 a1 .f64))) (fc .f32 a0_1 .f64) == some .lt) = true := c9
        (try (have c9b1 : decide (FloatKind.f64.format.order (fmx .f64 (fc .f32 a0_0 .f64) (fmn .f64 (fc .f32 a0_2 .f64) (fc .f32 a1 .f64))) (fc .f32 a0_1 .f64) = some .lt) = true := by simpa using c9))
        (try (have c9b2 : (FloatKind.f64.format.order (fmx .f64 (fc .f32 a0_0 .f64) (fmn .f64 (fc .f32 a0_2 .f64) (fc .f32 a1 .f64))) (fc .f32 a0_1 .f64) == some .lt) = true := by simpa using c9))
        clear c9
        by_cases c10 : fok .sub .f64 (fc .f32 a0_1 .f64) (fmx .f64 (fc .f32 a0_0 .f64) (fmn .f64 (fc .f32 a0_2 .f64) (fc .f32 a1 .f64))) = true
        ·rw [if_pos c10] at H
         have c10b0 := eq_true c10
         have c10b1 : decide (fok .sub .f64 (fc .f32 a0_1 .f64) (fmx .f64 (fc .f32 a0_0 .f64) (fmn .f64 (fc .f32 a0_2 .f64) (fc .f32 a1 .f64))) = true) = true := decide_eq_true c10
         clear c10
         by_cases c11 : fok .mul .f64 13893604850437980160 (fv .sub .f64 (fc .f32 a0_1 .f64) (fmx .f64 (fc .f32 a0_0 .f64) (fmn .f64 (fc .f32 a0_2 .f64) (fc .f32 a1 .f64)))) = true
         ·rw [if_pos c11] at H
          have c11b0 := eq_true c11
          have c11b1 : decide (fok .mul .f64 13893604850437980160 (fv .sub .f64 (fc .f32 a0_1 .f64) (fmx .f64 (fc .f32 a0_0 .f64) (fmn .f64 (fc .f32 a0_2 .f64) (fc .f32 a1 .f64)))) = true) = true := decide_eq_true c11
          clear c11
          by_cases c12 : fok .sub .f64 (fc .f32 a0_1 .f64) (fc .f32 a0_0 .f64) = true
          ·rw [if_pos c12] at H
           have c12b0 := eq_true c12
           have c12b1 : decide (fok .sub .f64 (fc .f32 a0_1 .f64) (fc .f32 a0_0 .f64) = true) = true := decide_eq_true c12
           clear c12
           by_cases c13 : fok .quo .f64 (fv .mul .f64 13893604850437980160 (fv .sub .f64 (fc .f32 a0_1 .f64) (fmx .f64 (fc .f32 a0_0 .f64) (fmn .f64 (fc .f32 a0_2 .f64) (fc .f32 a1 .f64))))) (fv .sub .f64 (fc .f32 a0_1 .f64) (fc .f32 a0_0 .f64)) = true
           ·rw [if_pos c13] at H
            have c13b0 := eq_true c13
            have c13b1 : decide (fok .quo .f64 (fv .mul .f64 13893604850437980160 (fv .sub .f64 (fc .f32 a0_1 .f64) (fmx .f64 (fc .f32 a0_0 .f64) (fmn .f64 (fc .f32 a0_2 .f64) (fc .f32 a1 .f64))))) (fv .sub .f64 (fc .f32 a0_1 .f64) (fc .f32 a0_0 .f64)) = true) = true := decide_eq_true c13
            clear c13
            obtain rfl := Option.some.inj H
            go_enter Try.func28, Try.ntmps28
            go_wp2_with (first | ((with_reducible refine gate_dst (N := 2) rfl ?_); refine box_event ?hg (N := 2) ?hd (cs := #[.float .f32 a0_0, .float .f32 a0_1, .float .f32 a0_2]) (t := 92) ?hr ?_; (case hd => rfl); (case hg => rfl); (case hr => first | (go_simp; done) | (go_simp; rfl)); intro gb297 hg w14 hbox hb; have n0_ := Aside0.mk (below_step (by repeat (first | (with_reducible first | exact HB.out | apply below_alloc | apply pw_below_drewN | apply below_drew1) | exact HB.out)) hb); have n1_ := Aside0.mk (hbox); have n2_ := Aside0.mk ((by rw [hg]; exact (below_size (by repeat (first | (with_reducible first | exact HB.out | apply below_alloc | apply pw_below_drewN | apply below_drew1) | exact HB.out))) : w.heap.size ≤ gb297)); have n3_ := Aside0.mk ((by rw [hg]; exact (below_size (by repeat (first | (with_reducible first | exact HB.out | apply below_alloc | apply pw_below_drewN | apply below_drew1) | exact HB.out))) : w.heap.size ≤ gb297)); clear HB; have HB := n0_; have BK297 := n1_; have GW297 := n2_; have GE297 := n3_; clear n0_ n1_ n2_ n3_; clear hb hbox hg; have hcz15_0 : w14.cell? ⟨gb297, 0, none⟩ = some (.float .f32 a0_0) := (blk_cell BK297.out 0).trans rfl; have hcz15_1 : w14.cell? ⟨gb297, 1, none⟩ = some (.float .f32 a0_1) := (blk_cell BK297.out 1).trans rfl; have hcz15_2 : w14.cell? ⟨gb297, 2, none⟩ = some (.float .f32 a0_2) := (blk_cell BK297.out 2).trans rfl; have hfz15_0 := blk_frozen BK297.out 0; have hfz15_1 := blk_frozen BK297.out 1; have hfz15_2 := blk_frozen BK297.out 2))
            repeat (go_quiet (first | ((with_reducible refine gate_dst (N := 2) rfl ?_); refine box_event ?hg (N := 2) ?hd (cs := #[.float .f32 a0_0, .float .f32 a0_1, .float .f32 a0_2]) (t := 92) ?hr ?_; (case hd => rfl); (case hg => rfl); (case hr => first | (go_simp; done) | (go_simp; rfl)); intro gb297 hg w14 hbox hb; have n0_ := Aside0.mk (below_step (by repeat (first | (with_reducible first | exact HB.out | apply below_alloc | apply pw_below_drewN | apply below_drew1) | exact HB.out)) hb); have n1_ := Aside0.mk (hbox); have n2_ := Aside0.mk ((by rw [hg]; exact (below_size (by repeat (first | (with_reducible first | exact HB.out | apply below_alloc | apply pw_below_drewN | apply below_drew1) | exact HB.out))) : w.heap.size ≤ gb297)); have n3_ := Aside0.mk ((by rw [hg]; exact (below_size (by repeat (first | (with_reducible first | exact HB.out | apply below_alloc | apply pw_below_drewN | apply below_drew1) | exact HB.out))) : w.heap.size ≤ gb297)); clear HB; have HB := n0_; have BK297 := n1_; have GW297 := n2_; have GE297 := n3_; clear n0_ n1_ n2_ n3_; clear hb hbox hg; have hcz15_0 : w14.cell? ⟨gb297, 0, none⟩ = some (.float .f32 a0_0) := (blk_cell BK297.out 0).trans rfl; have hcz15_1 : w14.cell? ⟨gb297, 1, none⟩ = some (.float .f32 a0_1) := (blk_cell BK297.out 1).trans rfl; have hcz15_2 : w14.cell? ⟨gb297, 2, none⟩ = some (.float .f32 a0_2) := (blk_cell BK297.out 2).trans rfl; have hfz15_0 := blk_frozen BK297.out 0; have hfz15_1 := blk_frozen BK297.out 1; have hfz15_2 := blk_frozen BK297.out 2)); try go_wp2_with (first | ((with_reducible refine gate_dst (N := 2) rfl ?_); refine box_event ?hg (N := 2) ?hd (cs := #[.float .f32 a0_0, .float .f32 a0_1, .float .f32 a0_2]) (t := 92) ?hr ?_; (case hd => rfl); (case hg => rfl); (case hr => first | (go_simp; done) | (go_simp; rfl)); intro gb297 hg w14 hbox hb; have n0_ := Aside0.mk (below_step (by repeat (first | (with_reducible first | exact HB.out | apply below_alloc | apply pw_below_drewN | apply below_drew1) | exact HB.out)) hb); have n1_ := Aside0.mk (hbox); have n2_ := Aside0.mk ((by rw [hg]; exact (below_size (by repeat (first | (with_reducible first | exact HB.out | apply below_alloc | apply pw_below_drewN | apply below_drew1) | exact HB.out))) : w.heap.size ≤ gb297)); have n3_ := Aside0.mk ((by rw [hg]; exact (below_size (by repeat (first | (with_reducible first | exact HB.out | apply below_alloc | apply pw_below_drewN | apply below_drew1) | exact HB.out))) : w.heap.size ≤ gb297)); clear HB; have HB := n0_; have BK297 := n1_; have GW297 := n2_; have GE297 := n3_; clear n0_ n1_ n2_ n3_; clear hb hbox hg; have hcz15_0 : w14.cell? ⟨gb297, 0, none⟩ = some (.float .f32 a0_0) := (blk_cell BK297.out 0).trans rfl; have hcz15_1 : w14.cell? ⟨gb297, 1, none⟩ = some (.float .f32 a0_1) := (blk_cell BK297.out 1).trans rfl; have hcz15_2 : w14.cell? ⟨gb297, 2, none⟩ = some (.float .f32 a0_2) := (blk_cell BK297.out 2).trans rfl; have hfz15_0 := blk_frozen BK297.out 0; have hfz15_1 := blk_frozen BK297.out 1; have hfz15_2 := blk_frozen BK297.out 2)))
            go_ret
            exact ⟨by first | rfl | (simp [errW_none, errW_some] <;> rfl) | (simp [*, errW_none, errW_some] <;> rfl), by repeat (first | (with_reducible first | exact HB.out | apply below_alloc | apply pw_below_drewN | apply below_drew1 | refine below_set ?_ GE297.out) | exact HB.out)⟩
           ·rw [if_neg c13] at H
            exact absurd H (by simp)
          ·rw [if_neg c12] at H
           exact absurd H (by simp)
         ·rw [if_neg c11] at H
          exact absurd H (by simp)
        ·rw [if_neg c10] at H
         exact absurd H (by simp)
       ·rw [if_neg c9] at H
        have c9b0 : (FloatKind.f64.format.order (fmx .f64 (fc .f32 a0_0 .f64) (fmn .f64 (fc .f32 a0_2 .f64) (fc .f32 a1 .f64))) (fc .f32 a0_1 .f64) == some .lt) = false := by simpa using c9
        (try (have c9b1 : decide (FloatKind.f64.format.order (fmx .f64 (fc .f32 a0_0 .f64) (fmn .f64 (fc .f32 a0_2 .f64) (fc .f32 a1 .f64))) (fc .f32 a0_1 .f64) = some .lt) = false := by simpa using c9))
        (try (have c9b2 : (FloatKind.f64.format.order (fmx .f64 (fc .f32 a0_0 .f64) (fmn .f64 (fc .f32 a0_2 .f64) (fc .f32 a1 .f64))) (fc .f32 a0_1 .f64) == some .lt) = false := by simpa using c9))
        (try (have c9b3 : ¬ (FloatKind.f64.format.order (fmx .f64 (fc .f32 a0_0 .f64) (fmn .f64 (fc .f32 a0_2 .f64) (fc .f32 a1 .f64))) (fc .f32 a0_1 .f64) = some .lt) := by simpa using c9))
        clear c9
        by_cases c16 : (FloatKind.f64.format.order (fmx .f64 (fc .f32 a0_0 .f64) (fmn .f64 (fc .f32 a0_2 .f64) (fc .f32 a1 .f64))) (fc .f32 a0_1 .f64) == some .gt) = true
        ·rw [if_pos c16] at H
         have c16b0 : (FloatKind.f64.format.order (fmx .f64 (fc .f32 a0_0 .f64) (fmn .f64 (fc .f32 a0_2 .f64) (fc .f32 a1 .f64))) (fc .f32 a0_1 .f64) == some .gt) = true := c16
         (try (have c16b1 : decide (FloatKind.f64.format.order (fmx .f64 (fc .f32 a0_0 .f64) (fmn .f64 (fc .f32 a0_2 .f64) (fc .f32 a1 .f64))) (fc .f32 a0_1 .f64) = some .gt) = true := by simpa using c16))
         (try (have c16b2 : (FloatKind.f64.format.order (fmx .f64 (fc .f32 a0_0 .f64) (fmn .f64 (fc .f32 a0_2 .f64) (fc .f32 a1 .f64))) (fc .f32 a0_1 .f64) == some .gt) = true := by simpa using c16))
         clear c16
         by_cases c17 : fok .sub .f64 (fmx .f64 (fc .f32 a0_0 .f64) (fmn .f64 (fc .f32 a0_2 .f64) (fc .f32 a1 .f64))) (fc .f32 a0_1 .f64) = true
         ·rw [if_pos c17] at H
          have c17b0 := eq_true c17
          have c17b1 : decide (fok .sub .f64 (fmx .f64 (fc .f32 a0_0 .f64) (fmn .f64 (fc .f32 a0_2 .f64) (fc .f32 a1 .f64))) (fc .f32 a0_1 .f64) = true) = true := decide_eq_true c17
          clear c17
          by_cases c18 : fok .mul .f64 4670232813583204352 (fv .sub .f64 (fmx .f64 (fc .f32 a0_0 .f64) (fmn .f64 (fc .f32 a0_2 .f64) (fc .f32 a1 .f64))) (fc .f32 a0_1 .f64)) = true
          ·rw [if_pos c18] at H
           have c18b0 := eq_true c18
           have c18b1 : decide (fok .mul .f64 4670232813583204352 (fv .sub .f64 (fmx .f64 (fc .f32 a0_0 .f64) (fmn .f64 (fc .f32 a0_2 .f64) (fc .f32 a1 .f64))) (fc .f32 a0_1 .f64)) = true) = true := decide_eq_true c18
           clear c18
           by_cases c19 : fok .sub .f64 (fc .f32 a0_2 .f64) (fc .f32 a0_1 .f64) = true
           ·rw [if_pos c19] at H
            have c19b0 := eq_true c19
            have c19b1 : decide (fok .sub .f64 (fc .f32 a0_2 .f64) (fc .f32 a0_1 .f64) = true) = true := decide_eq_true c19
            clear c19
            by_cases c20 : fok .quo .f64 (fv .mul .f64 4670232813583204352 (fv .sub .f64 (fmx .f64 (fc .f32 a0_0 .f64) (fmn .f64 (fc .f32 a0_2 .f64) (fc .f32 a1 .f64))) (fc .f32 a0_1 .f64))) (fv .sub .f64 (fc .f32 a0_2 .f64) (fc .f32 a0_1 .f64)) = true
            ·rw [if_pos c20] at H
             have c20b0 := eq_true c20
             have c20b1 : decide (fok .quo .f64 (fv .mul .f64 4670232813583204352 (fv .sub .f64 (fmx .f64 (fc .f32 a0_0 .f64) (fmn .f64 (fc .f32 a0_2 .f64) (fc .f32 a1 .f64))) (fc .f32 a0_1 .f64))) (fv .sub .f64 (fc .f32 a0_2 .f64) (fc .f32 a0_1 .f64)) = true) = true := decide_eq_true c20
             clear c20
             obtain rfl := Option.some.inj H
             go_enter Try.func28, Try.ntmps28
             go_wp2_with (first | ((with_reducible refine gate_dst (N := 2) rfl ?_); refine box_event ?hg (N := 2) ?hd (cs := #[.float .f32 a0_0, .float .f32 a0_1, .float .f32 a0_2]) (t := 92) ?hr ?_; (case hd => rfl); (case hg => rfl); (case hr => first | (go_simp; done) | (go_simp; rfl)); intro gb297 hg w21 hbox hb; have n0_ := Aside0.mk (below_step (by repeat (first | (with_reducible first | exact HB.out | apply below_alloc | apply pw_below_drewN | apply below_drew1) | exact HB.out)) hb); have n1_ := Aside0.mk (hbox); have n2_ := Aside0.mk ((by rw [hg]; exact (below_size (by repeat (first | (with_reducible first | exact HB.out | apply below_alloc | apply pw_below_drewN | apply below_drew1) | exact HB.out))) : w.heap.size ≤ gb297)); have n3_ := Aside0.mk ((by rw [hg]; exact (below_size (by repeat (first | (with_reducible first | exact HB.out | apply below_alloc | apply pw_below_drewN | apply below_drew1) | exact HB.out))) : w.heap.size ≤ gb297)); clear HB; have HB := n0_; have BK297 := n1_; have GW297 := n2_; have GE297 := n3_; clear n0_ n1_ n2_ n3_; clear hb hbox hg; have hcz22_0 : w21.cell? ⟨gb297, 0, none⟩ = some (.float .f32 a0_0) := (blk_cell BK297.out 0).trans rfl; have hcz22_1 : w21.cell? ⟨gb297, 1, none⟩ = some (.float .f32 a0_1) := (blk_cell BK297.out 1).trans rfl; have hcz22_2 : w21.cell? ⟨gb297, 2, none⟩ = some (.float .f32 a0_2) := (blk_cell BK297.out 2).trans rfl; have hfz22_0 := blk_frozen BK297.out 0; have hfz22_1 := blk_frozen BK297.out 1; have hfz22_2 := blk_frozen BK297.out 2))
             repeat (go_quiet (first | ((with_reducible refine gate_dst (N := 2) rfl ?_); refine box_event ?hg (N := 2) ?hd (cs := #[.float .f32 a0_0, .float .f32 a0_1, .float .f32 a0_2]) (t := 92) ?hr ?_; (case hd => rfl); (case hg => rfl); (case hr => first | (go_simp; done) | (go_simp; rfl)); intro gb297 hg w21 hbox hb; have n0_ := Aside0.mk (below_step (by repeat (first | (with_reducible first | exact HB.out | apply below_alloc | apply pw_below_drewN | apply below_drew1) | exact HB.out)) hb); have n1_ := Aside0.mk (hbox); have n2_ := Aside0.mk ((by rw [hg]; exact (below_size (by repeat (first | (with_reducible first | exact HB.out | apply below_alloc | apply pw_below_drewN | apply below_drew1) | exact HB.out))) : w.heap.size ≤ gb297)); have n3_ := Aside0.mk ((by rw [hg]; exact (below_size (by repeat (first | (with_reducible first | exact HB.out | apply below_alloc | apply pw_below_drewN | apply below_drew1) | exact HB.out))) : w.heap.size ≤ gb297)); clear HB; have HB := n0_; have BK297 := n1_; have GW297 := n2_; have GE297 := n3_; clear n0_ n1_ n2_ n3_; clear hb hbox hg; have hcz22_0 : w21.cell? ⟨gb297, 0, none⟩ = some (.float .f32 a0_0) := (blk_cell BK297.out 0).trans rfl; have hcz22_1 : w21.cell? ⟨gb297, 1, none⟩ = some (.float .f32 a0_1) := (blk_cell BK297.out 1).trans rfl; have hcz22_2 : w21.cell? ⟨gb297, 2, none⟩ = some (.float .f32 a0_2) := (blk_cell BK297.out 2).trans rfl; have hfz22_0 := blk_frozen BK297.out 0; have hfz22_1 := blk_frozen BK297.out 1; have hfz22_2 := blk_frozen BK297.out 2)); try go_wp2_with (first | ((with_reducible refine gate_dst (N := 2) rfl ?_); refine box_event ?hg (N := 2) ?hd (cs := #[.float .f32 a0_0, .float .f32 a0_1, .float .f32 a0_2]) (t := 92) ?hr ?_; (case hd => rfl); (case hg => rfl); (case hr => first | (go_simp; done) | (go_simp; rfl)); intro gb297 hg w21 hbox hb; have n0_ := Aside0.mk (below_step (by repeat (first | (with_reducible first | exact HB.out | apply below_alloc | apply pw_below_drewN | apply below_drew1) | exact HB.out)) hb); have n1_ := Aside0.mk (hbox); have n2_ := Aside0.mk ((by rw [hg]; exact (below_size (by repeat (first | (with_reducible first | exact HB.out | apply below_alloc | apply pw_below_drewN | apply below_drew1) | exact HB.out))) : w.heap.size ≤ gb297)); have n3_ := Aside0.mk ((by rw [hg]; exact (below_size (by repeat (first | (with_reducible first | exact HB.out | apply below_alloc | apply pw_below_drewN | apply below_drew1) | exact HB.out))) : w.heap.size ≤ gb297)); clear HB; have HB := n0_; have BK297 := n1_; have GW297 := n2_; have GE297 := n3_; clear n0_ n1_ n2_ n3_; clear hb hbox hg; have hcz22_0 : w21.cell? ⟨gb297, 0, none⟩ = some (.float .f32 a0_0) := (blk_cell BK297.out 0).trans rfl; have hcz22_1 : w21.cell? ⟨gb297, 1, none⟩ = some (.float .f32 a0_1) := (blk_cell BK297.out 1).trans rfl; have hcz22_2 : w21.cell? ⟨gb297, 2, none⟩ = some (.float .f32 a0_2) := (blk_cell BK297.out 2).trans rfl; have hfz22_0 := blk_frozen BK297.out 0; have hfz22_1 := blk_frozen BK297.out 1; have hfz22_2 := blk_frozen BK297.out 2)))
             go_ret
             exact ⟨by first | rfl | (simp [errW_none, errW_some] <;> rfl) | (simp [*, errW_none, errW_some] <;> rfl), by repeat (first | (with_reducible first | exact HB.out | apply below_alloc | apply pw_below_drewN | apply below_drew1 | refine below_set ?_ GE297.out) | exact HB.out)⟩
            ·rw [if_neg c20] at H
             exact absurd H (by simp)
           ·rw [if_neg c19] at H
            exact absurd H (by simp)
          ·rw [if_neg c18] at H
           exact absurd H (by simp)
         ·rw [if_neg c17] at H
          exact absurd H (by simp)
        ·rw [if_neg c16] at H
         have c16b0 : (FloatKind.f64.format.order (fmx .f64 (fc .f32 a0_0 .f64) (fmn .f64 (fc .f32 a0_2 .f64) (fc .f32 a1 .f64))) (fc .f32 a0_1 .f64) == some .gt) = false := by simpa using c16
         (try (have c16b1 : decide (FloatKind.f64.format.order (fmx .f64 (fc .f32 a0_0 .f64) (fmn .f64 (fc .f32 a0_2 .f64) (fc .f32 a1 .f64))) (fc .f32 a0_1 .f64) = some .gt) = false := by simpa using c16))
         (try (have c16b2 : (FloatKind.f64.format.order (fmx .f64 (fc .f32 a0_0 .f64) (fmn .f64 (fc .f32 a0_2 .f64) (fc .f32 a1 .f64))) (fc .f32 a0_1 .f64) == some .gt) = false := by simpa using c16))
         (try (have c16b3 : ¬ (FloatKind.f64.format.order (fmx .f64 (fc .f32 a0_0 .f64) (fmn .f64 (fc .f32 a0_2 .f64) (fc .f32 a1 .f64))) (fc .f32 a0_1 .f64) = some .gt) := by simpa using c16))
         clear c16
         obtain rfl := Option.some.inj H
         go_enter Try.func28, Try.ntmps28
         go_wp2_with (first | ((with_reducible refine gate_dst (N := 2) rfl ?_); refine box_event ?hg (N := 2) ?hd (cs := #[.float .f32 a0_0, .float .f32 a0_1, .float .f32 a0_2]) (t := 92) ?hr ?_; (case hd => rfl); (case hg => rfl); (case hr => first | (go_simp; done) | (go_simp; rfl)); intro gb297 hg w23 hbox hb; have n0_ := Aside0.mk (below_step (by repeat (first | (with_reducible first | exact HB.out | apply below_alloc | apply pw_below_drewN | apply below_drew1) | exact HB.out)) hb); have n1_ := Aside0.mk (hbox); have n2_ := Aside0.mk ((by rw [hg]; exact (below_size (by repeat (first | (with_reducible first | exact HB.out | apply below_alloc | apply pw_below_drewN | apply below_drew1) | exact HB.out))) : w.heap.size ≤ gb297)); have n3_ := Aside0.mk ((by rw [hg]; exact (below_size (by repeat (first | (with_reducible first | exact HB.out | apply below_alloc | apply pw_below_drewN | apply below_drew1) | exact HB.out))) : w.heap.size ≤ gb297)); clear HB; have HB := n0_; have BK297 := n1_; have GW297 := n2_; have GE297 := n3_; clear n0_ n1_ n2_ n3_; clear hb hbox hg; have hcz24_0 : w23.cell? ⟨gb297, 0, none⟩ = some (.float .f32 a0_0) := (blk_cell BK297.out 0).trans rfl; have hcz24_1 : w23.cell? ⟨gb297, 1, none⟩ = some (.float .f32 a0_1) := (blk_cell BK297.out 1).trans rfl; have hcz24_2 : w23.cell? ⟨gb297, 2, none⟩ = some (.float .f32 a0_2) := (blk_cell BK297.out 2).trans rfl; have hfz24_0 := blk_frozen BK297.out 0; have hfz24_1 := blk_frozen BK297.out 1; have hfz24_2 := blk_frozen BK297.out 2))
         repeat (go_quiet (first | ((with_reducible refine gate_dst (N := 2) rfl ?_); refine box_event ?hg (N := 2) ?hd (cs := #[.float .f32 a0_0, .float .f32 a0_1, .float .f32 a0_2]) (t := 92) ?hr ?_; (case hd => rfl); (case hg => rfl); (case hr => first | (go_simp; done) | (go_simp; rfl)); intro gb297 hg w23 hbox hb; have n0_ := Aside0.mk (below_step (by repeat (first | (with_reducible first | exact HB.out | apply below_alloc | apply pw_below_drewN | apply below_drew1) | exact HB.out)) hb); have n1_ := Aside0.mk (hbox); have n2_ := Aside0.mk ((by rw [hg]; exact (below_size (by repeat (first | (with_reducible first | exact HB.out | apply below_alloc | apply pw_below_drewN | apply below_drew1) | exact HB.out))) : w.heap.size ≤ gb297)); have n3_ := Aside0.mk ((by rw [hg]; exact (below_size (by repeat (first | (with_reducible first | exact HB.out | apply below_alloc | apply pw_below_drewN | apply below_drew1) | exact HB.out))) : w.heap.size ≤ gb297)); clear HB; have HB := n0_; have BK297 := n1_; have GW297 := n2_; have GE297 := n3_; clear n0_ n1_ n2_ n3_; clear hb hbox hg; have hcz24_0 : w23.cell? ⟨gb297, 0, none⟩ = some (.float .f32 a0_0) := (blk_cell BK297.out 0).trans rfl; have hcz24_1 : w23.cell? ⟨gb297, 1, none⟩ = some (.float .f32 a0_1) := (blk_cell BK297.out 1).trans rfl; have hcz24_2 : w23.cell? ⟨gb297, 2, none⟩ = some (.float .f32 a0_2) := (blk_cell BK297.out 2).trans rfl; have hfz24_0 := blk_frozen BK297.out 0; have hfz24_1 := blk_frozen BK297.out 1; have hfz24_2 := blk_frozen BK297.out 2)); try go_wp2_with (first | ((with_reducible refine gate_dst (N := 2) rfl ?_); refine box_event ?hg (N := 2) ?hd (cs := #[.float .f32 a0_0, .float .f32 a0_1, .float .f32 a0_2]) (t := 92) ?hr ?_; (case hd => rfl); (case hg => rfl); (case hr => first | (go_simp; done) | (go_simp; rfl)); intro gb297 hg w23 hbox hb; have n0_ := Aside0.mk (below_step (by repeat (first | (with_reducible first | exact HB.out | apply below_alloc | apply pw_below_drewN | apply below_drew1) | exact HB.out)) hb); have n1_ := Aside0.mk (hbox); have n2_ := Aside0.mk ((by rw [hg]; exact (below_size (by repeat (first | (with_reducible first | exact HB.out | apply below_alloc | apply pw_below_drewN | apply below_drew1) | exact HB.out))) : w.heap.size ≤ gb297)); have n3_ := Aside0.mk ((by rw [hg]; exact (below_size (by repeat (first | (with_reducible first | exact HB.out | apply below_alloc | apply pw_below_drewN | apply below_drew1) | exact HB.out))) : w.heap.size ≤ gb297)); clear HB; have HB := n0_; have BK297 := n1_; have GW297 := n2_; have GE297 := n3_; clear n0_ n1_ n2_ n3_; clear hb hbox hg; have hcz24_0 : w23.cell? ⟨gb297, 0, none⟩ = some (.float .f32 a0_0) := (blk_cell BK297.out 0).trans rfl; have hcz24_1 : w23.cell? ⟨gb297, 1, none⟩ = some (.float .f32 a0_1) := (blk_cell BK297.out 1).trans rfl; have hcz24_2 : w23.cell? ⟨gb297, 2, none⟩ = some (.float .f32 a0_2) := (blk_cell BK297.out 2).trans rfl; have hfz24_0 := blk_frozen BK297.out 0; have hfz24_1 := blk_frozen BK297.out 1; have hfz24_2 := blk_frozen BK297.out 2)))
         go_ret
         exact ⟨by first | rfl | (simp [errW_none, errW_some] <;> rfl) | (simp [*, errW_none, errW_some] <;> rfl), by repeat (first | (with_reducible first | exact HB.out | apply below_alloc | apply pw_below_drewN | apply below_drew1 | refine below_set ?_ GE297.out) | exact HB.out)⟩
      ·rw [if_neg c8] at H
       exact absurd H (by simp)
     ·rw [if_neg c7] at H
      exact absurd H (by simp)
    ·rw [if_neg c6] at H
     exact absurd H (by simp)
   ·rw [if_neg c5] at H
    exact absurd H (by simp)
  ·rw [if_neg c4] at H
   exact absurd H (by simp)
 ·rw [if_neg c3] at H
  exact absurd H (by simp)

/-! ### spec_MapRef: function 29 -/
mutual
def spec_MapRef.l0 : Nat → List (S48) → Nat → Int → Option (Nat)
 | 0, _, _, _ => none
 | k + 1, x0, x1, x5 => if x5 < (x0.length : Int) then (if 0 ≤ (wrap64 (x5 - 1)) then (if (wrap64 (x5 - 1)) < (x0.length : Int) then (if 0 ≤ x5 then (if (FloatKind.f64.format.order x1 (floatOfInt .f64 ((rd_T48 x0 (wrap64 (x5 - 1))).f0)) == some .gt || FloatKind.f64.format.order x1 (floatOfInt .f64 ((rd_T48 x0 (wrap64 (x5 - 1))).f0)) == some .eq) = true then (spec_MapRef.j1 k x0 x1 x5 (FloatKind.f64.format.order x1 (floatOfInt .f64 ((rd_T48 x0 x5).f0)) == some .lt || FloatKind.f64.format.order x1 (floatOfInt .f64 ((rd_T48 x0 x5).f0)) == some .eq) ((rd_T48 x0 (wrap64 (x5 - 1))).f0) ((rd_T48 x0 (wrap64 (x5 - 1))).f1) ((rd_T48 x0 x5).f0) ((rd_T48 x0 x5).f1)) else (spec_MapRef.j1 k x0 x1 x5 false ((rd_T48 x0 (wrap64 (x5 - 1))).f0) ((rd_T48 x0 (wrap64 (x5 - 1))).f1) ((rd_T48 x0 x5).f0) ((rd_T48 x0 x5).f1))) else (none)) else (none)) else (none)) else (some x1)
def spec_MapRef.j1 : Nat → List (S48) → Nat → Int → Bool → Int → Int → Int → Int → Option (Nat)
 | 0, _, _, _, _, _, _, _, _ => none
 | k + 1, x0, x1, x5, x34, x301000, x301001, x302000, x302001 => if x34 = true then (if fok .sub .f64 x1 (floatOfInt .f64 x301000) = true then (if fok .mul .f64 (fv .sub .f64 x1 (floatOfInt .f64 x301000)) (floatOfInt .f64 (wrap64 (x302001 - x301001))) = true then (if fok .quo .f64 (fv .mul .f64 (fv .sub .f64 x1 (floatOfInt .f64 x301000)) (floatOfInt .f64 (wrap64 (x302001 - x301001)))) (floatOfInt .f64 (wrap64 (x302000 - x301000))) = true then (if fok .add .f64 (floatOfInt .f64 x301001) (fv .quo .f64 (fv .mul .f64 (fv .sub .f64 x1 (floatOfInt .f64 x301000)) (floatOfInt .f64 (wrap64 (x302001 - x301001)))) (floatOfInt .f64 (wrap64 (x302000 - x301000)))) = true then (some (fv .add .f64 (floatOfInt .f64 x301001) (fv .quo .f64 (fv .mul .f64 (fv .sub .f64 x1 (floatOfInt .f64 x301000)) (floatOfInt .f64 (wrap64 (x302001 - x301001)))) (floatOfInt .f64 (wrap64 (x302000 - x301000)))))) else (none)) else (none)) else (none)) else (none)) else (spec_MapRef.l0 k x0 x1 (wrap64 (x5 + 1)))
end
def spec_MapRef.f (k : Nat) (l0 : List (S48)) (a1 : Nat) : Option (Nat) := spec_MapRef.l0 k l0 a1 1
theorem spec_MapRef.mono_l : ∀ k, (∀ y0 y1 y2, LeO (spec_MapRef.l0 k y0 y1 y2) (spec_MapRef.l0 (k + 1) y0 y1 y2)) ∧ (∀ y0 y1 y2 y3 y4 y5 y6 y7, LeO (spec_MapRef.j1 k y0 y1 y2 y3 y4 y5 y6 y7) (spec_MapRef.j1 (k + 1) y0 y1 y2 y3 y4 y5 y6 y7))
 | 0 => ⟨fun _ _ _ r h => by simp [spec_MapRef.l0] at h, fun _ _ _ _ _ _ _ _ r h => by simp [spec_MapRef.j1] at h⟩
 | k + 1 => by
  obtain ⟨ih0, ih1⟩ := spec_MapRef.mono_l k
  refine ⟨?_, ?_⟩
  ·intro y0 y1 y2
   unfold spec_MapRef.l0
   repeat' first
   | (with_reducible exact ih0 _ _ _)
   | (with_reducible exact ih1 _ _ _ _ _ _ _ _)
   | (with_reducible exact LeO.refl _)
   | (with_reducible exact LeO.none _)
   | (with_reducible refine LeO.ite ?_ ?_)
   | (with_reducible refine LeO.bind ?_ (fun _ => ?_))
   | exact ih0 _ _ _
   | exact ih1 _ _ _ _ _ _ _ _
   | exact LeO.none _
   | refine LeO.ite ?_ ?_
   | refine LeO.bind ?_ (fun _ => ?_)
  ·intro y0 y1 y2 y3 y4 y5 y6 y7
   unfold spec_MapRef.j1
   repeat' first
   | (with_reducible exact ih0 _ _ _)
   | (with_reducible exact ih1 _ _ _ _ _ _ _ _)
   | (with_reducible exact LeO.refl _)
   | (with_reducible exact LeO.none _)
   | (with_reducible refine LeO.ite ?_ ?_)
   | (with_reducible refine LeO.bind ?_ (fun _ => ?_))
   | exact ih0 _ _ _
   | exact ih1 _ _ _ _ _ _ _ _
   | exact LeO.none _
   | refine LeO.ite ?_ ?_
   | refine LeO.bind ?_ (fun _ => ?_)
theorem spec_MapRef.mono : ∀ a0 a1 k, LeO (spec_MapRef.f k a0 a1) (spec_MapRef.f (k + 1) a0 a1) := by
 intro a0 a1 k
 obtain ⟨ih0, ih1⟩ := spec_MapRef.mono_l k
 unfold spec_MapRef.f
 repeat' first
   | (with_reducible exact ih0 _ _ _)
   | (with_reducible exact ih1 _ _ _ _ _ _ _ _)
   | (with_reducible exact LeO.refl _)
   | (with_reducible exact LeO.none _)
   | (with_reducible refine LeO.ite ?_ ?_)
   | (with_reducible refine LeO.bind ?_ (fun _ => ?_))
   | exact ih0 _ _ _
   | exact ih1 _ _ _ _ _ _ _ _
   | exact LeO.none _
   | refine LeO.ite ?_ ?_
   | refine LeO.bind ?_ (fun _ => ?_)
def spec_MapRef.T4 : Bool × List (List Nat × List Nat) := (true, [([], []), ([], []), ([1], [1]), ([0, 2], [0, 2]), ([3], [3]), ([], []), ([], []), ([5, 6], [5, 6]), ([7], [7]), ([], []), ([], []), ([9, 4, 0, 1, 2, 3, 4, 9, 10], [4, 9]), ([10, 8, 11, 0, 1, 2, 3, 4, 5, 6, 7, 8, 9, 10, 11], [8, 10])])
def spec_MapRef.B4 : List Nat := [0, 0, 2, 7, 15, 0, 0, 96, 224, 0, 0, 1567, 4095]
theorem spec_MapRef.tab4 : rtab .any (opsOf Try.f29 4) = spec_MapRef.T4 := by kernel_rfl
theorem spec_MapRef.bits4 : waitsOk spec_MapRef.T4.2 spec_MapRef.B4 = true := by kernel_rfl
set_option maxHeartbeats 8000000 in
set_option maxRecDepth 100000 in
theorem spec_MapRef.calls (k : Nat) (A0 : Option Addr) (c0 : Nat) (l0 : List (S48)) (a1 : Nat) (r : Nat) (w : World) (hr0 : Kd.C k48 w A0 l0.length l0) (hc0 : l0.length ≤ c0) (h : spec_MapRef.f k l0 a1 = some r) :
  Calls Try.prog 29 #[.slice A0 l0.length c0, .float .f64 a1] w fun e w' => e = .returned (.float .f64 r) ∧ Below w.heap.size w w' := by
 have hu48 := Try.underlying48
 have HR0 := Aside0.mk hr0
 have HC0 := Aside0.mk hc0
 clear hr0 hc0
 have HB := Aside0.mk (Below.refl w.heap.size w)
 have H : (spec_MapRef.l0 k l0 a1 1) = some r := h
 clear h
 have H' := Aside0.mk H
 clear H
 go_enter Try.func29, Try.ntmps29
 go_wp2
 go_loopg [5] k (fun kq v5 w' => ∃ (x5_1 : Int), v5 = .int .i64 x5_1 ∧ Aside0 (spec_MapRef.l0 kq l0 a1 x5_1 = some r) ∧ Aside0 (kq ≤ k) ∧ Aside0 (Below w.heap.size w w'))
 case atStart => exact ⟨(1), (by first | rfl | (simp; done) | (simp [*]; done)), H', ⟨Nat.le_refl _⟩, ⟨by repeat (first | (with_reducible first | exact HB.out | apply below_alloc | apply pw_below_drewN | apply below_drew1) | exact HB.out)⟩⟩
 case round =>
  clear H'
  try clear c2
  try clear p2
  obtain ⟨x5_1, rfl, HA, HK1, HB⟩ := hrel
  cases gk with
  | zero => exact absurd HA.out (by simp [spec_MapRef.l0])
  | succ k1 =>
   have H := HA.out
   clear HA
   simp only [spec_MapRef.l0] at H
   by_cases c3 : x5_1 < (l0.length : Int)
   ·rw [if_pos c3] at H
    have c3b0 : decide (x5_1 < (l0.length : Int)) = true := decide_eq_true c3
    clear c3
    obtain ⟨ji4, hji4⟩ : ∃ j_ : Int, (wrap64 (x5_1 - 1)) = j_ := ⟨_, rfl⟩
    replace H : (if 0 ≤ (ji4) then (if (ji4) < (l0.length : Int) then (if 0 ≤ x5_1 then (if (FloatKind.f64.format.order a1 (floatOfInt .f64 ((rd_T48 l0 (ji4)).f0)) == some .gt || FloatKind.f64.format.order a1 (floatOfInt .f64 ((rd_T48 l0 (ji4)).f0)) == some .eq) = true then (spec_MapRef.j1 k1 l0 a1 x5_1 (FloatKind.f64.format.order a1 (floatOfInt .f64 ((rd_T48 l0 x5_1).f0)) == some .lt || FloatKind.f64.format.order a1 (floatOfInt .f64 ((rd_T48 l0 x5_1).f0)) == some .eq) ((rd_T48 l0 (ji4)).f0) ((rd_T48 l0 (ji4)).f1) ((rd_T48 l0 x5_1).f0) ((rd_T48 l0 x5_1).f1)) else (spec_MapRef.j1 k1 l0 a1 x5_1 false ((rd_T48 l0 (ji4)).f0) ((rd_T48 l0 (ji4)).f1) ((rd_T48 l0 x5_1).f0) ((rd_T48 l0 x5_1).f1))) else (none)) else (none)) else (none)) = some r := by first | (rw [hji4] at H; exact H) | (simp only [hji4] at H ⊢; exact H)
    have hji4w : (IntKind.i64.wrap (x5_1 - 1)) = ji4 := (i64_w _).trans hji4
    by_cases c5 : 0 ≤ (ji4)
    ·rw [if_pos c5] at H
     have c5b0 : decide (0 ≤ (ji4)) = true := decide_eq_true c5
     clear c5
     by_cases c6 : (ji4) < (l0.length : Int)
     ·rw [if_pos c6] at H
      have c6b0 : decide ((ji4) < (l0.length : Int)) = true := decide_eq_true c6
      clear c6
      by_cases c7 : 0 ≤ x5_1
      ·rw [if_pos c7] at H
       have c7b0 : decide (0 ≤ x5_1) = true := decide_eq_true c7
       clear c7
       have HC8 := Aside0.mk H
       clear H
       try go_wp2
       have n0_ := Aside0.mk (below_drew1 HB.out)
       clear HB
       have HB := n0_
       clear n0_
       have p298 : 0 ≤ ((ji4) : Int) := of_decide_eq_true (by first | (with_reducible assumption) | assumption)
       have q298 : (ji4) < (l0.length : Int) := of_decide_eq_true (by first | (with_reducible assumption) | assumption)
       obtain ⟨ad298, e298, hx298_0, hx298_1⟩ := at_T48 HR0.out (ji4) p298 q298
       have hw298_1 := hx298_1
       have hw298_0 := hx298_0
       cases e298
       replace hx298_0 := (HB.out.cell (World.block_lt_of_cell? w _ hx298_0)).trans hx298_0
       replace hx298_1 := (HB.out.cell (World.block_lt_of_cell? w _ hx298_1)).trans hx298_1
       replace p298 := eq_true p298
       replace q298 := eq_true q298
       have p299 : 0 ≤ (x5_1 : Int) := of_decide_eq_true (by first | (with_reducible assumption) | assumption)
       have q299 : x5_1 < (l0.length : Int) := of_decide_eq_true (by first | (with_reducible assumption) | assumption)
       obtain ⟨ad299, e299, hx299_0, hx299_1⟩ := at_T48 HR0.out x5_1 p299 q299
       have hw299_1 := hx299_1
       have hw299_0 := hx299_0
       obtain rfl : ad298 = ad299 := (by injection e299)
       replace hx299_0 := (HB.out.cell (World.block_lt_of_cell? w _ hx299_0)).trans hx299_0
       replace hx299_1 := (HB.out.cell (World.block_lt_of_cell? w _ hx299_1)).trans hx299_1
       replace p299 := eq_true p299
       replace q299 := eq_true q299
       refine start_ (n := 13) (S := fun w' => w'.cell? (ad298.add (((ji4)).toNat * 2)) = some (.int .i64 ((rd_T48 l0 (ji4)).f0)) ∧ w'.cell? ⟨(ad298.add (((ji4)).toNat * 2)).block, (ad298.add (((ji4)).toNat * 2)).off + 1, none⟩ = some (.int .i64 ((rd_T48 l0 (ji4)).f1)) ∧ w'.cell? (ad298.add ((x5_1).toNat * 2)) = some (.int .i64 ((rd_T48 l0 x5_1).f0)) ∧ w'.cell? ⟨(ad298.add ((x5_1).toNat * 2)).block, (ad298.add ((x5_1).toNat * 2)).off + 1, none⟩ = some (.int .i64 ((rd_T48 l0 x5_1).f1))) (ds := []) #[ff,ff,ff,ff,ff,ff,ff,ff,ff,ff,ff,ff,ff] (by kernel_rfl) rfl rfl ⟨((HB.out.cell (World.block_lt_of_cell? w _ hw298_0)).trans hw298_0), ((HB.out.cell (World.block_lt_of_cell? w _ hw298_1)).trans hw298_1), ((HB.out.cell (World.block_lt_of_cell? w _ hw299_0)).trans hw299_0), ((HB.out.cell (World.block_lt_of_cell? w _ hw299_1)).trans hw299_1)⟩ (fun hHeld => ?_); refine with_tabW spec_MapRef.tab4 spec_MapRef.bits4 (fun HT_ HW_ => ?_)
       generalize wr.drew = w9 at HB hx298_0 hx298_1 hx299_0 hx299_1 hHeld ⊢
       refine pure_ (i := 0) (N := some 14) (v := ?_) (a' := ?_) #[tt,ff,ff,ff,ff,ff,ff,ff,ff,ff,ff,ff,ff] rfl rfl (any_of HT_.out (by kernel_rfl)) (fun _ _ _ h => h) (Or.inl ⟨by rfl, ?_⟩) ?_ ?_
       rotate_left
       ·intro w'
        go_simp
        with_reducible rfl
       rotate_left
       ·simp only [Act.put, L1_, L2_, L3_, i64_w, i32_w]
        rfl
       refine pure_ (i := 1) (N := some 15) (v := ?_) (a' := ?_) #[tt,tt,ff,ff,ff,ff,ff,ff,ff,ff,ff,ff,ff] rfl rfl (any_of HT_.out (by kernel_rfl)) (fun _ _ _ h => h) (Or.inl ⟨by rfl, ?_⟩) ?_ ?_
       rotate_left
       ·intro w'
        go_simp
        with_reducible rfl
       rotate_left
       ·simp only [Act.put, L1_, L2_, L3_, i64_w, i32_w]
        rfl
       refine pure_ (i := 2) (N := some 16) (v := ?_) (a' := ?_) #[tt,tt,tt,ff,ff,ff,ff,ff,ff,ff,ff,ff,ff] rfl rfl (any_of HT_.out (by kernel_rfl)) (fun _ _ _ h => h) (Or.inl ⟨by rfl, ?_⟩) ?_ ?_
       rotate_left
       ·intro w'
        go_simp
        with_reducible rfl
       rotate_left
       ·(try go_ints); (try simp (disch := omega) only [n3_]); simp only [Act.put, L1_, L2_, L3_, i64_w, i32_w]
        rfl
       refine pure_ (i := 3) (N := some 17) (v := ?_) (a' := ?_) #[tt,tt,tt,tt,ff,ff,ff,ff,ff,ff,ff,ff,ff] rfl rfl (any_of HT_.out (by kernel_rfl)) (fun _ _ _ h => h) (Or.inl ⟨by rfl, ?_⟩) ?_ ?_
       rotate_left
       ·intro w'
        go_simp
        with_reducible rfl
       rotate_left
       ·simp only [Act.put, L1_, L2_, L3_, i64_w, i32_w]
        rfl
       refine pure_ (i := 5) (N := some 19) (v := ?_) (a' := ?_) #[tt,tt,tt,tt,ff,tt,ff,ff,ff,ff,ff,ff,ff] rfl rfl (any_of HT_.out (by kernel_rfl)) (fun _ _ _ h => h) (Or.inl ⟨by rfl, ?_⟩) ?_ ?_
       rotate_left
       ·intro w'
        go_simp
        with_reducible rfl
       rotate_left
       ·simp only [Act.put, L1_, L2_, L3_, i64_w, i32_w]
        rfl
       refine pure_ (i := 6) (N := some 20) (v := ?_) (a' := ?_) #[tt,tt,tt,tt,ff,tt,tt,ff,ff,ff,ff,ff,ff] rfl rfl (any_of HT_.out (by kernel_rfl)) (fun _ _ _ h => h) (Or.inl ⟨by rfl, ?_⟩) ?_ ?_
       rotate_left
       ·intro w'
        go_simp
        with_reducible rfl
       rotate_left
       ·simp only [Act.put, L1_, L2_, L3_, i64_w, i32_w]
        rfl
       refine pure_ (i := 7) (N := some 21) (v := ?_) (a' := ?_) #[tt,tt,tt,tt,ff,tt,tt,tt,ff,ff,ff,ff,ff] rfl rfl (any_of HT_.out (by kernel_rfl)) (fun _ _ _ h => h) (Or.inl ⟨by rfl, ?_⟩) ?_ ?_
       rotate_left
       ·intro w'
        go_simp
        with_reducible rfl
       rotate_left
       ·simp only [Act.put, L1_, L2_, L3_, i64_w, i32_w]
        rfl
       refine take_ (i := 4) (N := some 18) (v := ?_) (a' := ?_) #[tt,tt,tt,tt,tt,tt,tt,tt,ff,ff,ff,ff,ff] rfl rfl (take_ofW HT_.out HW_.out (by kernel_rfl)) (fun _ _ _ h => h) (Or.inl ⟨by rfl, ?_⟩) hHeld ?_ ?_
       rotate_left
       ·rintro w' ⟨s0, s1, s2, s3⟩
        go_simp
        with_reducible rfl
       rotate_left
       ·simp only [Act.put, L1_, L2_, L3_, i64_w, i32_w]
        rfl
       refine take_ (i := 8) (N := some 22) (v := ?_) (a' := ?_) #[tt,tt,tt,tt,tt,tt,tt,tt,tt,ff,ff,ff,ff] rfl rfl (take_ofW HT_.out HW_.out (by kernel_rfl)) (fun _ _ _ h => h) (Or.inl ⟨by rfl, ?_⟩) hHeld ?_ ?_
       rotate_left
       ·rintro w' ⟨s0, s1, s2, s3⟩
        go_simp
        with_reducible rfl
       rotate_left
       ·simp only [Act.put, L1_, L2_, L3_, i64_w, i32_w]
        rfl
       refine join_ (σ := Nat × Nat) 2 #[tt,tt,tt,tt,tt,tt,tt,tt,tt,tt,tt,ff,ff] (fun s_ => [(6, .pointer (some ⟨s_.1, 0, none⟩)), (7, .pointer (some ⟨s_.2, 0, none⟩))]) (fun s_ w' => (w'.cell? (ad298.add (((ji4)).toNat * 2)) = some (.int .i64 ((rd_T48 l0 (ji4)).f0)) ∧ w'.cell? ⟨(ad298.add (((ji4)).toNat * 2)).block, (ad298.add (((ji4)).toNat * 2)).off + 1, none⟩ = some (.int .i64 ((rd_T48 l0 (ji4)).f1)) ∧ w'.cell? (ad298.add ((x5_1).toNat * 2)) = some (.int .i64 ((rd_T48 l0 x5_1).f0)) ∧ w'.cell? ⟨(ad298.add ((x5_1).toNat * 2)).block, (ad298.add ((x5_1).toNat * 2)).off + 1, none⟩ = some (.int .i64 ((rd_T48 l0 x5_1).f1))) ∧ (w'.heap[s_.1]? = some (.cells #[.int .i64 0, .int .i64 0] 48 (0, 0))) ∧ (w'.heap[s_.2]? = some (.cells #[.int .i64 0, .int .i64 0] 48 (0, 0))) ∧ (w.heap.size ≤ s_.1) ∧ (w.heap.size ≤ s_.1) ∧ (s_.2 ≠ s_.1) ∧ (s_.1 ≠ s_.2) ∧ (w.heap.size ≤ s_.2) ∧ (w.heap.size ≤ s_.2) ∧ (Below w.heap.size w w')) ?_ ?_
       rotate_left
       ·intro hCont
        refine two_ (i := 9) (j := 10) (Ni := some 6) (Nj := some 7) #[tt,tt,tt,tt,tt,tt,tt,tt,tt,tt,ff,ff,ff] #[tt,tt,tt,tt,tt,tt,tt,tt,tt,ff,tt,ff,ff] rfl rfl rfl rfl (two_of HT_.out (by kernel_rfl)) (by decide) (by decide) (fun K hK => ?_) (fun K hK => ?_)
        ·skip
         refine box_step ?hg (N := 6) ?hd (cs := #[.int .i64 0, .int .i64 0]) (t := 48) ?hr ?_; (case hd => rfl); (case hg => rfl); (case hr => first | (go_simp; done) | (go_simp; rfl))
         intro gb300 hg w10 hbox hb
         have n0_ := Aside0.mk (below_step (by repeat (first | (with_reducible first | exact HB.out | apply below_alloc | apply pw_below_drewN | apply below_drew1) | exact HB.out)) hb)
         have n1_ := Aside0.mk (hbox)
         have n2_ := Aside0.mk ((by rw [hg]; exact (below_size (by repeat (first | (with_reducible first | exact HB.out | apply below_alloc | apply pw_below_drewN | apply below_drew1) | exact HB.out))) : w.heap.size ≤ gb300))
         have n3_ := Aside0.mk ((by rw [hg]; exact (below_size (by repeat (first | (with_reducible first | exact HB.out | apply below_alloc | apply pw_below_drewN | apply below_drew1) | exact HB.out))) : w.heap.size ≤ gb300))
         clear HB
         have HB := n0_
         have BK300 := n1_
         have GW300 := n2_
         have GE300 := n3_
         clear n0_ n1_ n2_ n3_
         clear hb hbox hg
         refine hK.out _ _ ⟨((HB.out.cell (World.block_lt_of_cell? w _ hw298_0)).trans hw298_0), ((HB.out.cell (World.block_lt_of_cell? w _ hw298_1)).trans hw298_1), ((HB.out.cell (World.block_lt_of_cell? w _ hw299_0)).trans hw299_0), ((HB.out.cell (World.block_lt_of_cell? w _ hw299_1)).trans hw299_1)⟩ (fun hHeld => ?_)
         clear hK K
         refine norm_ (a' := ?_) ?_ ?_
         rotate_left
         ·show Act.put _ (some 6) _ = _
          simp only [Act.put, L1_, L2_, L3_, i64_w, i32_w]
          rfl
         refine one_ (i := 10) (N := some 7) #[tt,tt,tt,tt,tt,tt,tt,tt,tt,tt,tt,ff,ff] rfl rfl (one_of HT_.out (by kernel_rfl)) (by decide) (fun K hK => ?_)
         refine box_step ?hg (N := 7) ?hd (cs := #[.int .i64 0, .int .i64 0]) (t := 48) ?hr ?_; (case hd => rfl); (case hg => rfl); (case hr => first | (go_simp; done) | (go_simp; rfl))
         intro gb301 hg w11 hbox hb
         have n0_ := Aside0.mk (blk_below (g := gb300) (o := .cells #[.int .i64 0, .int .i64 0] 48 (0, 0)) (by (with_reducible repeat (first | refine b1_ ?_ _ | refine b2_ ?_ | refine b3_ ?_ _)); exact BK300.out) hb)
         have n1_ := Aside0.mk (below_step (by repeat (first | (with_reducible first | exact HB.out | apply below_alloc | apply pw_below_drewN | apply below_drew1 | refine below_set ?_ GE300.out) | exact HB.out)) hb)
         have n2_ := Aside0.mk (hbox)
         have n3_ := Aside0.mk ((by rw [hg]; exact (below_size (by repeat (first | (with_reducible first | exact HB.out | apply below_alloc | apply pw_below_drewN | apply below_drew1 | refine below_set ?_ GE300.out) | exact HB.out))) : w.heap.size ≤ gb301))
         have n4_ := Aside0.mk ((by rw [hg]; exact (below_size (by repeat (first | (with_reducible first | exact HB.out | apply below_alloc | apply pw_below_drewN | apply below_drew1 | refine below_set ?_ GE300.out) | exact HB.out))) : w.heap.size ≤ gb301))
         have n5_ := Aside0.mk ((by rw [hg]; exact Nat.ne_of_lt (blk_lt (g := gb300) (o := .cells #[.int .i64 0, .int .i64 0] 48 (0, 0)) (by (with_reducible repeat (first | refine b1_ ?_ _ | refine b2_ ?_ | refine b3_ ?_ _)); exact BK300.out)) : gb300 ≠ gb301))
         have n6_ := Aside0.mk ((by rw [hg]; exact Nat.ne_of_gt (blk_lt (g := gb300) (o := .cells #[.int .i64 0, .int .i64 0] 48 (0, 0)) (by (with_reducible repeat (first | refine b1_ ?_ _ | refine b2_ ?_ | refine b3_ ?_ _)); exact BK300.out)) : gb301 ≠ gb300))
         clear BK300
         clear HB
         have BK300 := n0_
         have HB := n1_
         have BK301 := n2_
         have GW301 := n3_
         have GE301 := n4_
         have NB300_301 := n5_
         have NB301_300 := n6_
         clear n0_ n1_ n2_ n3_ n4_ n5_ n6_
         clear hb hbox hg
         refine hK.out _ _ ⟨((HB.out.cell (World.block_lt_of_cell? w _ hw298_0)).trans hw298_0), ((HB.out.cell (World.block_lt_of_cell? w _ hw298_1)).trans hw298_1), ((HB.out.cell (World.block_lt_of_cell? w _ hw299_0)).trans hw299_0), ((HB.out.cell (World.block_lt_of_cell? w _ hw299_1)).trans hw299_1)⟩ (fun hHeld => ?_)
         clear hK K
         refine norm_ (a' := ?_) ?_ ?_
         rotate_left
         ·show Act.put _ (some 7) _ = _
          simp only [Act.put, L1_, L2_, L3_, i64_w, i32_w]
          rfl
         exact norm_ (by simp only [putAll, Act.put, L1_, L2_, L3_]) (hCont (gb300, gb301) _ ⟨hHeld, (by (with_reducible repeat (first | refine b1_ ?_ _ | refine b2_ ?_ | refine b3_ ?_ _)); exact BK300.out), (by (with_reducible repeat (first | refine b1_ ?_ _ | refine b2_ ?_ | refine b3_ ?_ _)); exact BK301.out), GW300.out, GE300.out, NB301_300.out, NB300_301.out, GW301.out, GE301.out, (by repeat (first | (with_reducible first | exact HB.out | apply below_alloc | apply pw_below_drewN | apply below_drew1 | refine below_set ?_ GE300.out | refine below_set ?_ GE301.out) | exact HB.out))⟩)
        ·skip
         refine box_step ?hg (N := 7) ?hd (cs := #[.int .i64 0, .int .i64 0]) (t := 48) ?hr ?_; (case hd => rfl); (case hg => rfl); (case hr => first | (go_simp; done) | (go_simp; rfl))
         intro gb301 hg w10 hbox hb
         have n0_ := Aside0.mk (below_step (by repeat (first | (with_reducible first | exact HB.out | apply below_alloc | apply pw_below_drewN | apply below_drew1) | exact HB.out)) hb)
         have n1_ := Aside0.mk (hbox)
         have n2_ := Aside0.mk ((by rw [hg]; exact (below_size (by repeat (first | (with_reducible first | exact HB.out | apply below_alloc | apply pw_below_drewN | apply below_drew1) | exact HB.out))) : w.heap.size ≤ gb301))
         have n3_ := Aside0.mk ((by rw [hg]; exact (below_size (by repeat (first | (with_reducible first | exact HB.out | apply below_alloc | apply pw_below_drewN | apply below_drew1) | exact HB.out))) : w.heap.size ≤ gb301))
         clear HB
         have HB := n0_
         have BK301 := n1_
         have GW301 := n2_
         have GE301 := n3_
         clear n0_ n1_ n2_ n3_
         clear hb hbox hg
         refine hK.out _ _ ⟨((HB.out.cell (World.block_lt_of_cell? w _ hw298_0)).trans hw298_0), ((HB.out.cell (World.block_lt_of_cell? w _ hw298_1)).trans hw298_1), ((HB.out.cell (World.block_lt_of_cell? w _ hw299_0)).trans hw299_0), ((HB.out.cell (World.block_lt_of_cell? w _ hw299_1)).trans hw299_1)⟩ (fun hHeld => ?_)
         clear hK K
         refine norm_ (a' := ?_) ?_ ?_
         rotate_left
         ·show Act.put _ (some 7) _ = _
          simp only [Act.put, L1_, L2_, L3_, i64_w, i32_w]
          rfl
         refine one_ (i := 9) (N := some 6) #[tt,tt,tt,tt,tt,tt,tt,tt,tt,tt,tt,ff,ff] rfl rfl (one_of HT_.out (by kernel_rfl)) (by decide) (fun K hK => ?_)
         refine box_step ?hg (N := 6) ?hd (cs := #[.int .i64 0, .int .i64 0]) (t := 48) ?hr ?_; (case hd => rfl); (case hg => rfl); (case hr => first | (go_simp; done) | (go_simp; rfl))
         intro gb300 hg w11 hbox hb
         have n0_ := Aside0.mk (blk_below (g := gb301) (o := .cells #[.int .i64 0, .int .i64 0] 48 (0, 0)) (by (with_reducible repeat (first | refine b1_ ?_ _ | refine b2_ ?_ | refine b3_ ?_ _)); exact BK301.out) hb)
         have n1_ := Aside0.mk (below_step (by repeat (first | (with_reducible first | exact HB.out | apply below_alloc | apply pw_below_drewN | apply below_drew1 | refine below_set ?_ GE301.out) | exact HB.out)) hb)
         have n2_ := Aside0.mk (hbox)
         have n3_ := Aside0.mk ((by rw [hg]; exact (below_size (by repeat (first | (with_reducible first | exact HB.out | apply below_alloc | apply pw_below_drewN | apply below_drew1 | refine below_set ?_ GE301.out) | exact HB.out))) : w.heap.size ≤ gb300))
         have n4_ := Aside0.mk ((by rw [hg]; exact (below_size (by repeat (first | (with_reducible first | exact HB.out | apply below_alloc | apply pw_below_drewN | apply below_drew1 | refine below_set ?_ GE301.out) | exact HB.out))) : w.heap.size ≤ gb300))
         have n5_ := Aside0.mk ((by rw [hg]; exact Nat.ne_of_lt (blk_lt (g := gb301) (o := .cells #[.int .i64 0, .int .i64 0] 48 (0, 0)) (by (with_reducible repeat (first | refine b1_ ?_ _ | refine b2_ ?_ | refine b3_ ?_ _)); exact BK301.out)) : gb301 ≠ gb300))
         have n6_ := Aside0.mk ((by rw [hg]; exact Nat.ne_of_gt (blk_lt (g := gb301) (o := .cells #[.int .i64 0, .int .i64 0] 48 (0, 0)) (by (with_reducible repeat (first | refine b1_ ?_ _ | refine b2_ ?_ | refine b3_ ?_ _)); exact BK301.out)) : gb300 ≠ gb301))
         clear BK301
         clear HB
         have BK301 := n0_
         have HB := n1_
         have BK300 := n2_
         have GW300 := n3_
         have GE300 := n4_
         have NB301_300 := n5_
         have NB300_301 := n6_
         clear n0_ n1_ n2_ n3_ n4_ n5_ n6_
         clear hb hbox hg
         refine hK.out _ _ ⟨((HB.out.cell (World.block_lt_of_cell? w _ hw298_0)).trans hw298_0), ((HB.out.cell (World.block_lt_of_cell? w _ hw298_1)).trans hw298_1), ((HB.out.cell (World.block_lt_of_cell? w _ hw299_0)).trans hw299_0), ((HB.out.cell (World.block_lt_of_cell? w _ hw299_1)).trans hw299_1)⟩ (fun hHeld => ?_)
         clear hK K
         refine norm_ (a' := ?_) ?_ ?_
         rotate_left
         ·show Act.put _ (some 6) _ = _
          simp only [Act.put, L1_, L2_, L3_, i64_w, i32_w]
          rfl
         exact norm_ (by simp only [putAll, Act.put, L1_, L2_, L3_]) (hCont (gb300, gb301) _ ⟨hHeld, (by (with_reducible repeat (first | refine b1_ ?_ _ | refine b2_ ?_ | refine b3_ ?_ _)); exact BK300.out), (by (with_reducible repeat (first | refine b1_ ?_ _ | refine b2_ ?_ | refine b3_ ?_ _)); exact BK301.out), GW300.out, GE300.out, NB301_300.out, NB300_301.out, GW301.out, GE301.out, (by repeat (first | (with_reducible first | exact HB.out | apply below_alloc | apply pw_below_drewN | apply below_drew1 | refine below_set ?_ GE301.out | refine below_set ?_ GE300.out) | exact HB.out))⟩)
       rintro ⟨gb300, gb301⟩ w12 ⟨hS_, h0_, h1_, h2_, h3_, h4_, h5_, h6_, h7_, h8_⟩
       have n0_ : Aside0 (w12.heap[gb300]? = some (.cells #[.int .i64 0, .int .i64 0] 48 (0, 0))) := ⟨h0_⟩
       have n1_ : Aside0 (w12.heap[gb301]? = some (.cells #[.int .i64 0, .int .i64 0] 48 (0, 0))) := ⟨h1_⟩
       have n2_ : Aside0 (w.heap.size ≤ gb300) := ⟨h2_⟩
       have n3_ : Aside0 (w.heap.size ≤ gb300) := ⟨h3_⟩
       have n4_ : Aside0 (gb301 ≠ gb300) := ⟨h4_⟩
       have n5_ : Aside0 (gb300 ≠ gb301) := ⟨h5_⟩
       have n6_ : Aside0 (w.heap.size ≤ gb301) := ⟨h6_⟩
       have n7_ : Aside0 (w.heap.size ≤ gb301) := ⟨h7_⟩
       have n8_ : Aside0 (Below w.heap.size w w12) := ⟨h8_⟩
       clear HB
       clear h0_ h1_ h2_ h3_ h4_ h5_ h6_ h7_ h8_
       have BK300 := n0_
       have BK301 := n1_
       have GW300 := n2_
       have GE300 := n3_
       have NB301_300 := n4_
       have NB300_301 := n5_
       have GW301 := n6_
       have GE301 := n7_
       have HB := n8_
       clear n0_ n1_ n2_ n3_ n4_ n5_ n6_ n7_ n8_
       have hHeld : w12.cell? (ad298.add (((ji4)).toNat * 2)) = some (.int .i64 ((rd_T48 l0 (ji4)).f0)) ∧ w12.cell? ⟨(ad298.add (((ji4)).toNat * 2)).block, (ad298.add (((ji4)).toNat * 2)).off + 1, none⟩ = some (.int .i64 ((rd_T48 l0 (ji4)).f1)) ∧ w12.cell? (ad298.add ((x5_1).toNat * 2)) = some (.int .i64 ((rd_T48 l0 x5_1).f0)) ∧ w12.cell? ⟨(ad298.add ((x5_1).toNat * 2)).block, (ad298.add ((x5_1).toNat * 2)).off + 1, none⟩ = some (.int .i64 ((rd_T48 l0 x5_1).f1)) := hS_
       refine norm_ (a' := ?_) ?_ ?_
       rotate_left
       ·simp only [putAll, Act.put, L1_, L2_, L3_]
        rfl
       refine one_ (i := 11) (N := none) #[tt,tt,tt,tt,tt,tt,tt,tt,tt,tt,tt,tt,ff] rfl rfl (one_of HT_.out (by kernel_rfl)) (by decide) (fun K hK => ?_)
       have hs13 : w12.cell? ⟨gb300, 0, none⟩ = some (.int .i64 0) := (blk_cell BK300.out 0).trans rfl
       have hfs13 := blk_frozen BK300.out 0
       have hns13_1 := NB301_300.out
       have hms13_1 := NB300_301.out
       have hs14 : w12.cell? ⟨gb300, 1, none⟩ = some (.int .i64 0) := (blk_cell BK300.out 1).trans rfl
       have hfs14 := blk_frozen BK300.out 1
       have hns14_1 := NB301_300.out
       have hms14_1 := NB300_301.out
       refine skip_ (w1 := ?_) (by rfl) rfl ?_ ?_
       rotate_left
       ·go_simp
        rfl
       refine hK.out _ _ ⟨((cell_far (p := ⟨gb300, _, none⟩) (by first | exact Nat.ne_of_lt (Nat.lt_of_lt_of_le (by have := World.block_lt_of_cell? _ _ hw298_0; first | rwa [add_block] at this | exact this) GW300.out) | (rw [add_block]; exact Nat.ne_of_lt (Nat.lt_of_lt_of_le (by have := World.block_lt_of_cell? _ _ hw298_0; first | rwa [add_block] at this | exact this) GW300.out)) | (show (Addr.add _ _).block ≠ _; rw [add_block]; exact Nat.ne_of_lt (Nat.lt_of_lt_of_le (by have := World.block_lt_of_cell? _ _ hw298_0; first | rwa [add_block] at this | exact this) GW300.out)) | (dsimp only; exact Nat.ne_of_lt (Nat.lt_of_lt_of_le (by have := World.block_lt_of_cell? _ _ hw298_0; first | rwa [add_block] at this | exact this) GW300.out))) _).trans (((cell_far (p := ⟨gb300, _, none⟩) (by first | exact Nat.ne_of_lt (Nat.lt_of_lt_of_le (by have := World.block_lt_of_cell? _ _ hw298_0; first | rwa [add_block] at this | exact this) GW300.out) | (rw [add_block]; exact Nat.ne_of_lt (Nat.lt_of_lt_of_le (by have := World.block_lt_of_cell? _ _ hw298_0; first | rwa [add_block] at this | exact this) GW300.out)) | (show (Addr.add _ _).block ≠ _; rw [add_block]; exact Nat.ne_of_lt (Nat.lt_of_lt_of_le (by have := World.block_lt_of_cell? _ _ hw298_0; first | rwa [add_block] at this | exact this) GW300.out)) | (dsimp only; exact Nat.ne_of_lt (Nat.lt_of_lt_of_le (by have := World.block_lt_of_cell? _ _ hw298_0; first | rwa [add_block] at this | exact this) GW300.out))) _).trans (hHeld.1)))), ((cell_far (p := ⟨gb300, _, none⟩) (by first | exact Nat.ne_of_lt (Nat.lt_of_lt_of_le (by have := World.block_lt_of_cell? _ _ hw298_1; first | rwa [add_block] at this | exact this) GW300.out) | (rw [add_block]; exact Nat.ne_of_lt (Nat.lt_of_lt_of_le (by have := World.block_lt_of_cell? _ _ hw298_1; first | rwa [add_block] at this | exact this) GW300.out)) | (show (Addr.add _ _).block ≠ _; rw [add_block]; exact Nat.ne_of_lt (Nat.lt_of_lt_of_le (by have := World.block_lt_of_cell? _ _ hw298_1; first | rwa [add_block] at this | exact this) GW300.out)) | (dsimp only; exact Nat.ne_of_lt (Nat.lt_of_lt_of_le (by have := World.block_lt_of_cell? _ _ hw298_1; first | rwa [add_block] at this | exact this) GW300.out))) _).trans (((cell_far (p := ⟨gb300, _, none⟩) (by first | exact Nat.ne_of_lt (Nat.lt_of_lt_of_le (by have := World.block_lt_of_cell? _ _ hw298_1; first | rwa [add_block] at this | exact this) GW300.out) | (rw [add_block]; exact Nat.ne_of_lt (Nat.lt_of_lt_of_le (by have := World.block_lt_of_cell? _ _ hw298_1; first | rwa [add_block] at this | exact this) GW300.out)) | (show (Addr.add _ _).block ≠ _; rw [add_block]; exact Nat.ne_of_lt (Nat.lt_of_lt_of_le (by have := World.block_lt_of_cell? _ _ hw298_1; first | rwa [add_block] at this | exact this) GW300.out)) | (dsimp only; exact Nat.ne_of_lt (Nat.lt_of_lt_of_le (by have := World.block_lt_of_cell? _ _ hw298_1; first | rwa [add_block] at this | exact this) GW300.out))) _).trans (hHeld.2.1)))), ((cell_far (p := ⟨gb300, _, none⟩) (by first | exact Nat.ne_of_lt (Nat.lt_of_lt_of_le (by have := World.block_lt_of_cell? _ _ hw299_0; first | rwa [add_block] at this | exact this) GW300.out) | (rw [add_block]; exact Nat.ne_of_lt (Nat.lt_of_lt_of_le (by have := World.block_lt_of_cell? _ _ hw299_0; first | rwa [add_block] at this | exact this) GW300.out)) | (show (Addr.add _ _).block ≠ _; rw [add_block]; exact Nat.ne_of_lt (Nat.lt_of_lt_of_le (by have := World.block_lt_of_cell? _ _ hw299_0; first | rwa [add_block] at this | exact this) GW300.out)) | (dsimp only; exact Nat.ne_of_lt (Nat.lt_of_lt_of_le (by have := World.block_lt_of_cell? _ _ hw299_0; first | rwa [add_block] at this | exact this) GW300.out))) _).trans (((cell_far (p := ⟨gb300, _, none⟩) (by first | exact Nat.ne_of_lt (Nat.lt_of_lt_of_le (by have := World.block_lt_of_cell? _ _ hw299_0; first | rwa [add_block] at this | exact this) GW300.out) | (rw [add_block]; exact Nat.ne_of_lt (Nat.lt_of_lt_of_le (by have := World.block_lt_of_cell? _ _ hw299_0; first | rwa [add_block] at this | exact this) GW300.out)) | (show (Addr.add _ _).block ≠ _; rw [add_block]; exact Nat.ne_of_lt (Nat.lt_of_lt_of_le (by have := World.block_lt_of_cell? _ _ hw299_0; first | rwa [add_block] at this | exact this) GW300.out)) | (dsimp only; exact Nat.ne_of_lt (Nat.lt_of_lt_of_le (by have := World.block_lt_of_cell? _ _ hw299_0; first | rwa [add_block] at this | exact this) GW300.out))) _).trans (hHeld.2.2.1)))), ((cell_far (p := ⟨gb300, _, none⟩) (by first | exact Nat.ne_of_lt (Nat.lt_of_lt_of_le (by have := World.block_lt_of_cell? _ _ hw299_1; first | rwa [add_block] at this | exact this) GW300.out) | (rw [add_block]; exact Nat.ne_of_lt (Nat.lt_of_lt_of_le (by have := World.block_lt_of_cell? _ _ hw299_1; first | rwa [add_block] at this | exact this) GW300.out)) | (show (Addr.add _ _).block ≠ _; rw [add_block]; exact Nat.ne_of_lt (Nat.lt_of_lt_of_le (by have := World.block_lt_of_cell? _ _ hw299_1; first | rwa [add_block] at this | exact this) GW300.out)) | (dsimp only; exact Nat.ne_of_lt (Nat.lt_of_lt_of_le (by have := World.block_lt_of_cell? _ _ hw299_1; first | rwa [add_block] at this | exact this) GW300.out))) _).trans (((cell_far (p := ⟨gb300, _, none⟩) (by first | exact Nat.ne_of_lt (Nat.lt_of_lt_of_le (by have := World.block_lt_of_cell? _ _ hw299_1; first | rwa [add_block] at this | exact this) GW300.out) | (rw [add_block]; exact Nat.ne_of_lt (Nat.lt_of_lt_of_le (by have := World.block_lt_of_cell? _ _ hw299_1; first | rwa [add_block] at this | exact this) GW300.out)) | (show (Addr.add _ _).block ≠ _; rw [add_block]; exact Nat.ne_of_lt (Nat.lt_of_lt_of_le (by have := World.block_lt_of_cell? _ _ hw299_1; first | rwa [add_block] at this | exact this) GW300.out)) | (dsimp only; exact Nat.ne_of_lt (Nat.lt_of_lt_of_le (by have := World.block_lt_of_cell? _ _ hw299_1; first | rwa [add_block] at this | exact this) GW300.out))) _).trans (hHeld.2.2.2))))⟩ (fun hHeld => ?_)
       clear hK K
       refine one_ (i := 12) (N := none) #[tt,tt,tt,tt,tt,tt,tt,tt,tt,tt,tt,tt,tt] rfl rfl (one_of HT_.out (by kernel_rfl)) (by decide) (fun K hK => ?_)
       have hs15 : w12.cell? ⟨gb301, 0, none⟩ = some (.int .i64 0) := (blk_cell BK301.out 0).trans rfl
       have hfs15 := blk_frozen BK301.out 0
       have hns15_0 := NB300_301.out
       have hms15_0 := NB301_300.out
       have hs16 : w12.cell? ⟨gb301, 1, none⟩ = some (.int .i64 0) := (blk_cell BK301.out 1).trans rfl
       have hfs16 := blk_frozen BK301.out 1
       have hns16_0 := NB300_301.out
       have hms16_0 := NB301_300.out
       refine skip_ (w1 := ?_) (by rfl) rfl ?_ ?_
       rotate_left
       ·go_simp
        rfl
       refine hK.out _ _ ⟨((cell_far (p := ⟨gb301, _, none⟩) (by first | exact Nat.ne_of_lt (Nat.lt_of_lt_of_le (by have := World.block_lt_of_cell? _ _ hw298_0; first | rwa [add_block] at this | exact this) GW301.out) | (rw [add_block]; exact Nat.ne_of_lt (Nat.lt_of_lt_of_le (by have := World.block_lt_of_cell? _ _ hw298_0; first | rwa [add_block] at this | exact this) GW301.out)) | (show (Addr.add _ _).block ≠ _; rw [add_block]; exact Nat.ne_of_lt (Nat.lt_of_lt_of_le (by have := World.block_lt_of_cell? _ _ hw298_0; first | rwa [add_block] at this | exact this) GW301.out)) | (dsimp only; exact Nat.ne_of_lt (Nat.lt_of_lt_of_le (by have := World.block_lt_of_cell? _ _ hw298_0; first | rwa [add_block] at this | exact this) GW301.out))) _).trans (((cell_far (p := ⟨gb301, _, none⟩) (by first | exact Nat.ne_of_lt (Nat.lt_of_lt_of_le (by have := World.block_lt_of_cell? _ _ hw298_0; first | rwa [add_block] at this | exact this) GW301.out) | (rw [add_block]; exact Nat.ne_of_lt (Nat.lt_of_lt_of_le (by have := World.block_lt_of_cell? _ _ hw298_0; first | rwa [add_block] at this | exact this) GW301.out)) | (show (Addr.add _ _).block ≠ _; rw [add_block]; exact Nat.ne_of_lt (Nat.lt_of_lt_of_le (by have := World.block_lt_of_cell? _ _ hw298_0; first | rwa [add_block] at this | exact this) GW301.out)) | (dsimp only; exact Nat.ne_of_lt (Nat.lt_of_lt_of_le (by have := World.block_lt_of_cell? _ _ hw298_0; first | rwa [add_block] at this | exact this) GW301.out))) _).trans (hHeld.1)))), ((cell_far (p := ⟨gb301, _, none⟩) (by first | exact Nat.ne_of_lt (Nat.lt_of_lt_of_le (by have := World.block_lt_of_cell? _ _ hw298_1; first | rwa [add_block] at this | exact this) GW301.out) | (rw [add_block]; exact Nat.ne_of_lt (Nat.lt_of_lt_of_le (by have := World.block_lt_of_cell? _ _ hw298_1; first | rwa [add_block] at this | exact this) GW301.out)) | (show (Addr.add _ _).block ≠ _; rw [add_block]; exact Nat.ne_of_lt (Nat.lt_of_lt_of_le (by have := World.block_lt_of_cell? _ _ hw298_1; first | rwa [add_block] at this | exact this) GW301.out)) | (dsimp only; exact Nat.ne_of_lt (Nat.lt_of_lt_of_le (by have := World.block_lt_of_cell? _ _ hw298_1; first | rwa [add_block] at this | exact this) GW301.out))) _).trans (((cell_far (p := ⟨gb301, _, none⟩) (by first | exact Nat.ne_of_lt (Nat.lt_of_lt_of_le (by have := World.block_lt_of_cell? _ _ hw298_1; first | rwa [add_block] at this | exact this) GW301.out) | (rw [add_block]; exact Nat.ne_of_lt (Nat.lt_of_lt_of_le (by have := World.block_lt_of_cell? _ _ hw298_1; first | rwa [add_block] at this | exact this) GW301.out)) | (show (Addr.add _ _).block ≠ _; rw [add_block]; exact Nat.ne_of_lt (Nat.lt_of_lt_of_le (by have := World.block_lt_of_cell? _ _ hw298_1; first | rwa [add_block] at this | exact this) GW301.out)) | (dsimp only; exact Nat.ne_of_lt (Nat.lt_of_lt_of_le (by have := World.block_lt_of_cell? _ _ hw298_1; first | rwa [add_block] at this | exact this) GW301.out))) _).trans (hHeld.2.1)))), ((cell_far (p := ⟨gb301, _, none⟩) (by first | exact Nat.ne_of_lt (Nat.lt_of_lt_of_le (by have := World.block_lt_of_cell? _ _ hw299_0; first | rwa [add_block] at this | exact this) GW301.out) | (rw [add_block]; exact Nat.ne_of_lt (Nat.lt_of_lt_of_le (by have := World.block_lt_of_cell? _ _ hw299_0; first | rwa [add_block] at this | exact this) GW301.out)) | (show (Addr.add _ _).block ≠ _; rw [add_block]; exact Nat.ne_of_lt (Nat.lt_of_lt_of_le (by have := World.block_lt_of_cell? _ _ hw299_0; first | rwa [add_block] at this | exact this) GW301.out)) | (dsimp only; exact Nat.ne_of_lt (Nat.lt_of_lt_of_le (by have := World.block_lt_of_cell? _ _ hw299_0; first | rwa [add_block] at this | exact this) GW301.out))) _).trans (((cell_far (p := ⟨gb301, _, none⟩) (by first | exact Nat.ne_of_lt (Nat.lt_of_lt_of_le (by have := World.block_lt_of_cell? _ _ hw299_0; first | rwa [add_block] at this | exact this) GW301.out) | (rw [add_block]; exact Nat.ne_of_lt (Nat.lt_of_lt_of_le (by have := World.block_lt_of_cell? _ _ hw299_0; first | rwa [add_block] at this | exact this) GW301.out)) | (show (Addr.add _ _).block ≠ _; rw [add_block]; exact Nat.ne_of_lt (Nat.lt_of_lt_of_le (by have := World.block_lt_of_cell? _ _ hw299_0; first | rwa [add_block] at this | exact this) GW301.out)) | (dsimp only; exact Nat.ne_of_lt (Nat.lt_of_lt_of_le (by have := World.block_lt_of_cell? _ _ hw299_0; first | rwa [add_block] at this | exact this) GW301.out))) _).trans (hHeld.2.2.1)))), ((cell_far (p := ⟨gb301, _, none⟩) (by first | exact Nat.ne_of_lt (Nat.lt_of_lt_of_le (by have := World.block_lt_of_cell? _ _ hw299_1; first | rwa [add_block] at this | exact this) GW301.out) | (rw [add_block]; exact Nat.ne_of_lt (Nat.lt_of_lt_of_le (by have := World.block_lt_of_cell? _ _ hw299_1; first | rwa [add_block] at this | exact this) GW301.out)) | (show (Addr.add _ _).block ≠ _; rw [add_block]; exact Nat.ne_of_lt (Nat.lt_of_lt_of_le (by have := World.block_lt_of_cell? _ _ hw299_1; first | rwa [add_block] at this | exact this) GW301.out)) | (dsimp only; exact Nat.ne_of_lt (Nat.lt_of_lt_of_le (by have := World.block_lt_of_cell? _ _ hw299_1; first | rwa [add_block] at this | exact this) GW301.out))) _).trans (((cell_far (p := ⟨gb301, _, none⟩) (by first | exact Nat.ne_of_lt (Nat.lt_of_lt_of_le (by have := World.block_lt_of_cell? _ _ hw299_1; first | rwa [add_block] at this | exact this) GW301.out) | (rw [add_block]; exact Nat.ne_of_lt (Nat.lt_of_lt_of_le (by have := World.block_lt_of_cell? _ _ hw299_1; first | rwa [add_block] at this | exact this) GW301.out)) | (show (Addr.add _ _).block ≠ _; rw [add_block]; exact Nat.ne_of_lt (Nat.lt_of_lt_of_le (by have := World.block_lt_of_cell? _ _ hw299_1; first | rwa [add_block] at this | exact this) GW301.out)) | (dsimp only; exact Nat.ne_of_lt (Nat.lt_of_lt_of_le (by have := World.block_lt_of_cell? _ _ hw299_1; first | rwa [add_block] at this | exact this) GW301.out))) _).trans (hHeld.2.2.2))))⟩ (fun hHeld => ?_)
       clear hK K
       refine done_ (done_of HT_.out (by kernel_rfl)) ?_
       go_upto_region 5 with (fail)
       go_cut [34] (fun v34 wc => ∃ (kq : Nat) (x34_7 : Bool), v34 = .bool x34_7 ∧ Aside0 (spec_MapRef.j1 kq l0 a1 x5_1 x34_7 ((rd_T48 l0 (ji4)).f0) ((rd_T48 l0 (ji4)).f1) ((rd_T48 l0 x5_1).f0) ((rd_T48 l0 x5_1).f1) = some r) ∧ Aside0 (kq ≤ k1) ∧ Aside0 (wc.heap[gb300]? = some (.cells #[.int .i64 ((rd_T48 l0 (ji4)).f0), .int .i64 ((rd_T48 l0 (ji4)).f1)] 48 (0, 0))) ∧ Aside0 (wc.heap[gb301]? = some (.cells #[.int .i64 ((rd_T48 l0 x5_1).f0), .int .i64 ((rd_T48 l0 x5_1).f1)] 48 (0, 0))) ∧ Aside0 (Below w.heap.size w wc))
       case first =>
        have H := HC8.out
        clear HC8
        by_cases c17 : (FloatKind.f64.format.order a1 (floatOfInt .f64 ((rd_T48 l0 (ji4)).f0)) == some .gt || FloatKind.f64.format.order a1 (floatOfInt .f64 ((rd_T48 l0 (ji4)).f0)) == some .eq) = true
        ·rw [if_pos c17] at H
         have c17b0 : (FloatKind.f64.format.order a1 (floatOfInt .f64 ((rd_T48 l0 (ji4)).f0)) == some .gt || FloatKind.f64.format.order a1 (floatOfInt .f64 ((rd_T48 l0 (ji4)).f0)) == some .eq) = true := c17
         (try (have c17b1 : decide (FloatKind.f64.format.order a1 (floatOfInt .f64 ((rd_T48 l0 (ji4)).f0)) = some .gt || FloatKind.f64.format.order a1 (floatOfInt .f64 ((rd_T48 l0 (ji4)).f0)) == some .eq) = true := by simpa using c17))
         (try (have c17b2 : (FloatKind.f64.format.order a1 (floatOfInt .f64 ((rd_T48 l0 (ji4)).f0)) == some .gt || FloatKind.f64.format.order a1 (floatOfInt .f64 ((rd_T48 l0 (ji4)).f0)) == some .eq) = true := by simpa using c17))
         clear c17
         (first | rw [c17b0] | (simp only [i64_w, i32_w]; rw [c17b0]) | skip)
         have H' := Aside0.mk H
         clear H
         have hnb18 := NB300_301.out
         have hnc18 := NB301_300.out
         have hcz19_0 : w12.cell? ⟨gb300, 0, none⟩ = some (.int .i64 0) := (blk_cell BK300.out 0).trans rfl
         have hcz19_1 : w12.cell? ⟨gb300, 1, none⟩ = some (.int .i64 0) := (blk_cell BK300.out 1).trans rfl
         have hfz19_0 := blk_frozen BK300.out 0
         have hfz19_1 := blk_frozen BK300.out 1
         have hcz20_0 : w12.cell? ⟨gb301, 0, none⟩ = some (.int .i64 0) := (blk_cell BK301.out 0).trans rfl
         have hcz20_1 : w12.cell? ⟨gb301, 1, none⟩ = some (.int .i64 0) := (blk_cell BK301.out 1).trans rfl
         have hfz20_0 := blk_frozen BK301.out 0
         have hfz20_1 := blk_frozen BK301.out 1
         go_wp2
         go_meet
         case rel => exact ⟨_, ((FloatKind.f64.format.order a1 (floatOfInt .f64 ((rd_T48 l0 x5_1).f0)) == some .lt || FloatKind.f64.format.order a1 (floatOfInt .f64 ((rd_T48 l0 x5_1).f0)) == some .eq)), (by first | rfl | (simp; done) | (simp [*]; done)), H', ⟨by have := HK1.out; first | omega | exact Nat.le_refl _⟩, ⟨by (with_reducible repeat (first | refine b1_ ?_ _ | refine b2_ ?_ | refine b3_ ?_ _)); refine blk_far ?_ NB300_301.out _; (with_reducible repeat (first | refine b1_ ?_ _ | refine b2_ ?_ | refine b3_ ?_ _)); refine blk_far ?_ NB300_301.out _; (with_reducible repeat (first | refine b1_ ?_ _ | refine b2_ ?_ | refine b3_ ?_ _)); refine blk_put (cs := #[.int .i64 ((rd_T48 l0 (ji4)).f0), .int .i64 0]) ?_ 1 _ rfl; (with_reducible repeat (first | refine b1_ ?_ _ | refine b2_ ?_ | refine b3_ ?_ _)); refine blk_put (cs := #[.int .i64 0, .int .i64 0]) ?_ 0 _ rfl; (with_reducible repeat (first | refine b1_ ?_ _ | refine b2_ ?_ | refine b3_ ?_ _)); exact BK300.out⟩, ⟨by (with_reducible repeat (first | refine b1_ ?_ _ | refine b2_ ?_ | refine b3_ ?_ _)); refine blk_put (cs := #[.int .i64 ((rd_T48 l0 x5_1).f0), .int .i64 0]) ?_ 1 _ rfl; (with_reducible repeat (first | refine b1_ ?_ _ | refine b2_ ?_ | refine b3_ ?_ _)); refine blk_put (cs := #[.int .i64 0, .int .i64 0]) ?_ 0 _ rfl; (with_reducible repeat (first | refine b1_ ?_ _ | refine b2_ ?_ | refine b3_ ?_ _)); refine blk_far ?_ NB301_300.out _; (with_reducible repeat (first | refine b1_ ?_ _ | refine b2_ ?_ | refine b3_ ?_ _)); refine blk_far ?_ NB301_300.out _; (with_reducible repeat (first | refine b1_ ?_ _ | refine b2_ ?_ | refine b3_ ?_ _)); exact BK301.out⟩, ⟨by repeat (first | (with_reducible first | exact HB.out | apply below_alloc | apply pw_below_drewN | apply below_drew1 | refine below_set ?_ GE300.out | refine below_set ?_ GE301.out) | exact HB.out)⟩⟩
        ·rw [if_neg c17] at H
         have c17b0 : (FloatKind.f64.format.order a1 (floatOfInt .f64 ((rd_T48 l0 (ji4)).f0)) == some .gt || FloatKind.f64.format.order a1 (floatOfInt .f64 ((rd_T48 l0 (ji4)).f0)) == some .eq) = false := by simpa using c17
         (try (have c17b1 : decide (FloatKind.f64.format.order a1 (floatOfInt .f64 ((rd_T48 l0 (ji4)).f0)) = some .gt || FloatKind.f64.format.order a1 (floatOfInt .f64 ((rd_T48 l0 (ji4)).f0)) == some .eq) = false := by simpa using c17))
         (try (have c17b2 : (FloatKind.f64.format.order a1 (floatOfInt .f64 ((rd_T48 l0 (ji4)).f0)) == some .gt || FloatKind.f64.format.order a1 (floatOfInt .f64 ((rd_T48 l0 (ji4)).f0)) == some .eq) = false := by simpa using c17))
         (try (have c17b3 : ¬ (FloatKind.f64.format.order a1 (floatOfInt .f64 ((rd_T48 l0 (ji4)).f0)) = some .gt || FloatKind.f64.format.order a1 (floatOfInt .f64 ((rd_T48 l0 (ji4)).f0)) == some .eq) := by simpa using c17))
         clear c17
         (first | rw [c17b0] | (simp only [i64_w, i32_w]; rw [c17b0]) | skip)
         have H' := Aside0.mk H
         clear H
         have hnb21 := NB300_301.out
         have hnc21 := NB301_300.out
         have hcz22_0 : w12.cell? ⟨gb300, 0, none⟩ = some (.int .i64 0) := (blk_cell BK300.out 0).trans rfl
         have hcz22_1 : w12.cell? ⟨gb300, 1, none⟩ = some (.int .i64 0) := (blk_cell BK300.out 1).trans rfl
         have hfz22_0 := blk_frozen BK300.out 0
         have hfz22_1 := blk_frozen BK300.out 1
         go_wp2
         go_meet
         case rel => exact ⟨_, (false), (by first | rfl | (simp; done) | (simp [*]; done)), H', ⟨by have := HK1.out; first | omega | exact Nat.le_refl _⟩, ⟨by (with_reducible repeat (first | refine b1_ ?_ _ | refine b2_ ?_ | refine b3_ ?_ _)); refine blk_far ?_ NB300_301.out _; (with_reducible repeat (first | refine b1_ ?_ _ | refine b2_ ?_ | refine b3_ ?_ _)); refine blk_far ?_ NB300_301.out _; (with_reducible repeat (first | refine b1_ ?_ _ | refine b2_ ?_ | refine b3_ ?_ _)); refine blk_put (cs := #[.int .i64 ((rd_T48 l0 (ji4)).f0), .int .i64 0]) ?_ 1 _ rfl; (with_reducible repeat (first | refine b1_ ?_ _ | refine b2_ ?_ | refine b3_ ?_ _)); refine blk_put (cs := #[.int .i64 0, .int .i64 0]) ?_ 0 _ rfl; (with_reducible repeat (first | refine b1_ ?_ _ | refine b2_ ?_ | refine b3_ ?_ _)); exact BK300.out⟩, ⟨by (with_reducible repeat (first | refine b1_ ?_ _ | refine b2_ ?_ | refine b3_ ?_ _)); refine blk_put (cs := #[.int .i64 ((rd_T48 l0 x5_1).f0), .int .i64 0]) ?_ 1 _ rfl; (with_reducible repeat (first | refine b1_ ?_ _ | refine b2_ ?_ | refine b3_ ?_ _)); refine blk_put (cs := #[.int .i64 0, .int .i64 0]) ?_ 0 _ rfl; (with_reducible repeat (first | refine b1_ ?_ _ | refine b2_ ?_ | refine b3_ ?_ _)); refine blk_far ?_ NB301_300.out _; (with_reducible repeat (first | refine b1_ ?_ _ | refine b2_ ?_ | refine b3_ ?_ _)); refine blk_far ?_ NB301_300.out _; (with_reducible repeat (first | refine b1_ ?_ _ | refine b2_ ?_ | refine b3_ ?_ _)); exact BK301.out⟩, ⟨by repeat (first | (with_reducible first | exact HB.out | apply below_alloc | apply pw_below_drewN | apply below_drew1 | refine below_set ?_ GE300.out | refine below_set ?_ GE301.out) | exact HB.out)⟩⟩
       case rest =>
        clear HC8
        try clear c1
        try clear c2
        try clear p2
        try clear q2
        try clear hx2
        try clear c3
        try clear c3b0
        try clear c5
        try clear c5b0
        try clear c6
        try clear c6b0
        try clear p6
        try clear c7
        try clear c7b0
        try clear c17
        try clear c17b0
        try clear c17b1
        try clear c17b2
        try clear c18
        try clear c21
        try clear hcz19_0
        try clear hcz19_1
        try clear hcz20_0
        try clear hcz20_1
        try clear hcz22_0
        try clear hcz22_1
        try clear hfz19_0
        try clear hfz19_1
        try clear hfz20_0
        try clear hfz20_1
        try clear hfz22_0
        try clear hfz22_1
        try clear hx298_0
        try clear hx298_1
        try clear hx299_0
        try clear hx299_1
        try clear p2
        try clear p298
        try clear p299
        try clear q298
        try clear q299
        obtain ⟨kq, x34_7, rfl, HA, HJ7, BK300, BK301, HB⟩ := hcut
        cases kq with
        | zero => exact absurd HA.out (by simp [spec_MapRef.j1])
        | succ kj7 =>
         have H := HA.out
         clear HA
         simp only [spec_MapRef.j1] at H
         by_cases c23 : x34_7 = true
         ·subst c23
          have H1 : (if fok .sub .f64 a1 (floatOfInt .f64 ((rd_T48 l0 (ji4)).f0)) = true then (if fok .mul .f64 (fv .sub .f64 a1 (floatOfInt .f64 ((rd_T48 l0 (ji4)).f0))) (floatOfInt .f64 (wrap64 (((rd_T48 l0 x5_1).f1) - ((rd_T48 l0 (ji4)).f1)))) = true then (if fok .quo .f64 (fv .mul .f64 (fv .sub .f64 a1 (floatOfInt .f64 ((rd_T48 l0 (ji4)).f0))) (floatOfInt .f64 (wrap64 (((rd_T48 l0 x5_1).f1) - ((rd_T48 l0 (ji4)).f1))))) (floatOfInt .f64 (wrap64 (((rd_T48 l0 x5_1).f0) - ((rd_T48 l0 (ji4)).f0)))) = true then (if fok .add .f64 (floatOfInt .f64 ((rd_T48 l0 (ji4)).f1)) (fv .quo .f64 (fv .mul .f64 (fv .sub .f64 a1 (floatOfInt .f64 ((rd_T48 l0 (ji4)).f0))) (floatOfInt .f64 (wrap64 (((rd_T48 l0 x5_1).f1) - ((rd_T48 l0 (ji4)).f1))))) (floatOfInt .f64 (wrap64 (((rd_T48 l0 x5_1).f0) - ((rd_T48 l0 (ji4)).f0))))) = true then (some (fv .add .f64 (floatOfInt .f64 ((rd_T48 l0 (ji4)).f1)) (fv .quo .f64 (fv .mul .f64 (fv .sub .f64 a1 (floatOfInt .f64 ((rd_T48 l0 (ji4)).f0))) (floatOfInt .f64 (wrap64 (((rd_T48 l0 x5_1).f1) - ((rd_T48 l0 (ji4)).f1))))) (floatOfInt .f64 (wrap64 (((rd_T48 l0 x5_1).f0) - ((rd_T48 l0 (ji4)).f0))))))) else (none)) else (none)) else (none)) else (none)) = some r := by rw [if_pos rfl] at H; exact H
          clear H
          have H := H1
          clear H1
          by_cases c24 : fok .sub .f64 a1 (floatOfInt .f64 ((rd_T48 l0 (ji4)).f0)) = true
          ·rw [if_pos c24] at H
           have c24b0 := eq_true c24
           have c24b1 : decide (fok .sub .f64 a1 (floatOfInt .f64 ((rd_T48 l0 (ji4)).f0)) = true) = true := decide_eq_true c24
           clear c24
           by_cases c25 : fok .mul .f64 (fv .sub .f64 a1 (floatOfInt .f64 ((rd_T48 l0 (ji4)).f0))) (floatOfInt .f64 (wrap64 (((rd_T48 l0 x5_1).f1) - ((rd_T48 l0 (ji4)).f1)))) = true
           ·rw [if_pos c25] at H
            have c25b0 := eq_true c25
            have c25b1 : decide (fok .mul .f64 (fv .sub .f64 a1 (floatOfInt .f64 ((rd_T48 l0 (ji4)).f0))) (floatOfInt .f64 (wrap64 (((rd_T48 l0 x5_1).f1) - ((rd_T48 l0 (ji4)).f1)))) = true) = true := decide_eq_true c25
            clear c25
            by_cases c26 : fok .quo .f64 (fv .mul .f64 (fv .sub .f64 a1 (floatOfInt .f64 ((rd_T48 l0 (ji4)).f0))) (floatOfInt .f64 (wrap64 (((rd_T48 l0 x5_1).f1) - ((rd_T48 l0 (ji4)).f1))))) (floatOfInt .f64 (wrap64 (((rd_T48 l0 x5_1).f0) - ((rd_T48 l0 (ji4)).f0)))) = true
            ·rw [if_pos c26] at H
             have c26b0 := eq_true c26
             have c26b1 : decide (fok .quo .f64 (fv .mul .f64 (fv .sub .f64 a1 (floatOfInt .f64 ((rd_T48 l0 (ji4)).f0))) (floatOfInt .f64 (wrap64 (((rd_T48 l0 x5_1).f1) - ((rd_T48 l0 (ji4)).f1))))) (floatOfInt .f64 (wrap64 (((rd_T48 l0 x5_1).f0) - ((rd_T48 l0 (ji4)).f0)))) = true) = true := decide_eq_true c26
             clear c26
             by_cases c27 : fok .add .f64 (floatOfInt .f64 ((rd_T48 l0 (ji4)).f1)) (fv .quo .f64 (fv .mul .f64 (fv .sub .f64 a1 (floatOfInt .f64 ((rd_T48 l0 (ji4)).f0))) (floatOfInt .f64 (wrap64 (((rd_T48 l0 x5_1).f1) - ((rd_T48 l0 (ji4)).f1))))) (floatOfInt .f64 (wrap64 (((rd_T48 l0 x5_1).f0) - ((rd_T48 l0 (ji4)).f0))))) = true
             ·rw [if_pos c27] at H
              have c27b0 := eq_true c27
              have c27b1 : decide (fok .add .f64 (floatOfInt .f64 ((rd_T48 l0 (ji4)).f1)) (fv .quo .f64 (fv .mul .f64 (fv .sub .f64 a1 (floatOfInt .f64 ((rd_T48 l0 (ji4)).f0))) (floatOfInt .f64 (wrap64 (((rd_T48 l0 x5_1).f1) - ((rd_T48 l0 (ji4)).f1))))) (floatOfInt .f64 (wrap64 (((rd_T48 l0 x5_1).f0) - ((rd_T48 l0 (ji4)).f0))))) = true) = true := decide_eq_true c27
              clear c27
              obtain rfl := Option.some.inj H
              have hnb28 := NB300_301.out
              have hnc28 := NB301_300.out
              have hcz29_0 : wc.cell? ⟨gb300, 0, none⟩ = some (.int .i64 ((rd_T48 l0 (ji4)).f0)) := (blk_cell BK300.out 0).trans rfl
              have hcz29_1 : wc.cell? ⟨gb300, 1, none⟩ = some (.int .i64 ((rd_T48 l0 (ji4)).f1)) := (blk_cell BK300.out 1).trans rfl
              have hfz29_0 := blk_frozen BK300.out 0
              have hfz29_1 := blk_frozen BK300.out 1
              have hcz30_0 : wc.cell? ⟨gb301, 0, none⟩ = some (.int .i64 ((rd_T48 l0 x5_1).f0)) := (blk_cell BK301.out 0).trans rfl
              have hcz30_1 : wc.cell? ⟨gb301, 1, none⟩ = some (.int .i64 ((rd_T48 l0 x5_1).f1)) := (blk_cell BK301.out 1).trans rfl
              have hfz30_0 := blk_frozen BK301.out 0
              have hfz30_1 := blk_frozen BK301.out 1
              go_wp2
              go_ret
              exact ⟨by first | rfl | (simp [errW_none, errW_some] <;> rfl) | (simp only [← hji4]; first | rfl | (simp [errW_none, errW_some] <;> rfl)) | (simp [*, errW_none, errW_some] <;> rfl), by repeat (first | (with_reducible first | exact HB.out | apply below_alloc | apply pw_below_drewN | apply below_drew1 | refine below_set ?_ GE300.out | refine below_set ?_ GE301.out) | exact HB.out)⟩
             ·rw [if_neg c27] at H
              exact absurd H (by simp)
            ·rw [if_neg c26] at H
             exact absurd H (by simp)
           ·rw [if_neg c25] at H
            exact absurd H (by simp)
          ·rw [if_neg c24] at H
           exact absurd H (by simp)
         ·replace c23 := Bool.eq_false_iff.mpr c23
          subst c23
          have H1 : (spec_MapRef.l0 kj7 l0 a1 (wrap64 (x5_1 + 1))) = some r := by rw [if_neg (show ¬ (false = true) by decide)] at H; exact H
          clear H
          have H := H1
          clear H1
          have H' := Aside0.mk H
          clear H
          go_wp2
          go_roundg kj7
          case measure => have := HK1.out; have := HJ7.out; omega
          case rel => exact ⟨(wrap64 (x5_1 + 1)), (by first | rfl | (simp; done) | (simp [*]; done)), H', ⟨by have := HK1.out; have := HJ7.out; omega⟩, ⟨by repeat (first | (with_reducible first | exact HB.out | apply below_alloc | apply pw_below_drewN | apply below_drew1 | refine below_set ?_ GE300.out | refine below_set ?_ GE301.out) | exact HB.out)⟩⟩
      ·rw [if_neg c7] at H
       exact absurd H (by simp)
     ·rw [if_neg c6] at H
      exact absurd H (by simp)
    ·rw [if_neg c5] at H
     exact absurd H (by simp)
   ·rw [if_neg c3] at H
    have c3b0 : decide (x5_1 < (l0.length : Int)) = false := decide_eq_false c3
    clear c3
    obtain rfl := Option.some.inj H
    go_wp2
    go_ret
    exact ⟨by first | rfl | (simp [errW_none, errW_some] <;> rfl) | (simp [*, errW_none, errW_some] <;> rfl), by repeat (first | (with_reducible first | exact HB.out | apply below_alloc | apply pw_below_drewN | apply below_drew1) | exact HB.out)⟩

end Go.Proofs.Ytlbmfnjhpojghaa.PFnNormalized
