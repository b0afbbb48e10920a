-- Written by a program of this session (xprint) out of the translation; Lean checks it.
import Derived.Test.YtlbmfnjhpojghaaPFnNormalizedx0
import Derived.Test.YtlbmfnjhpojghaaPFnNormalizedx1
import Derived.Test.YtlbmfnjhpojghaaPFnNormalizedx5
import Derived.Test.YtlbmfnjhpojghaaPFnNormalizedx10
import Derived.Test.YtlbmfnjhpojghaaPFnNormalizedx11
import Derived.Laws.Cover3
namespace Go.Proofs.Ytlbmfnjhpojghaa.PFnNormalized
open Go.RowKit Go.Proofs.YtlbmfnjhpojghaaW.PrintWords Go.Proofs.YtlbmfnjhpojghaaW.PrintLast Go.Proofs.YtlbmfnjhpojghaaW.PrintMore
attribute [local go_sem] max2_int min2_int max_two min_two max_three min_three max_four min_four   -- for this text's walks alone
set_option linter.unusedVariables false
set_option linter.unusedSimpArgs false

attribute [local go_sem] f_add f_sub f_mul f_quo f_conv f_same f_int f_max f_min f_neg f_store
/-! ### laws_FnNormalized: function 7 -/
mutual
def laws_FnNormalized.j0 : Nat → List (S161) → List (List (S164)) → List Int → Bool → Option (Bool)
 | 0, _, _, _, _ => none
 | k + 1, x0, x1, x2, x30 => if x30 = true then (some true) else ((spec_SomeAxes.f k x0 x1 x2).bind fun bt303 => (if (bt303.1.length : Int) = 0 then (some true) else ((impl_Normalized.f k bt303.1 bt303.2.1 bt303.2.2).bind fun bt312 => (if bt312.2 = true then (laws_FnNormalized.j1 k x1 bt303.1 bt303.2.1 bt303.2.2 bt312.1 ((bt312.1.length : Int) != (bt303.1.length : Int))) else (laws_FnNormalized.j1 k x1 bt303.1 bt303.2.1 bt303.2.2 bt312.1 true)))))
def laws_FnNormalized.j1 : Nat → List (List (S164)) → List (S92) → List (List (S48)) → List Nat → List Int → Bool → Option (Bool)
 | 0, _, _, _, _, _, _ => none
 | k + 1, x1, x7, x8, x9, x10, x57 => if x57 = true then (some false) else (laws_FnNormalized.l0 k x1 x7 x8 x9 x10 (x10.length : Int) 0)
def laws_FnNormalized.l0 : Nat → List (List (S164)) → List (S92) → List (List (S48)) → List Nat → List Int → Int → Int → Option (Bool)
 | 0, _, _, _, _, _, _, _ => none
 | k + 1, x1, x7, x8, x9, x58, x59, x60 => if x60 < x59 then (if 0 ≤ x60 then (if x60 < (x58.length : Int) then (if x60 < (x7.length : Int) then (if x60 < (x9.length : Int) then ((spec_NormalRef.f ((rd_T92 x7 x60).f0) ((rd_T92 x7 x60).f1) ((rd_T92 x7 x60).f2) (rdOf (0 : Nat) x9 x60)).bind fun t319 => (if fok .sub .f64 t319 4607227454796291113 = true then (if fmok .f64 13893604850437980160 (fv .sub .f64 t319 4607227454796291113) = true then (if fok .add .f64 t319 4607227454796291113 = true then (if fmok .f64 4670232813583204352 (fv .add .f64 t319 4607227454796291113) = true then (if (x1.length : Int) = 0 then (laws_FnNormalized.j3 k x1 x7 x8 x9 (rd x58 x60) (fmx .f64 13893604850437980160 (fv .sub .f64 t319 4607227454796291113)) (fmn .f64 4670232813583204352 (fv .add .f64 t319 4607227454796291113)) x58 x59 x60) else (if x60 < (x8.length : Int) then ((spec_MapRef.f k (rd_L8 x8 x60) (fmx .f64 13893604850437980160 (fv .sub .f64 t319 4607227454796291113))).bind fun t321 => ((spec_MapRef.f k (rd_L8 x8 x60) (fmn .f64 4670232813583204352 (fv .add .f64 t319 4607227454796291113))).bind fun t323 => (laws_FnNormalized.j3 k x1 x7 x8 x9 (rd x58 x60) t321 t323 x58 x59 x60))) else (none))) else (none)) else (none)) else (none)) else (none))) else (none)) else (none)) else (none)) else (none)) else (some true)
def laws_FnNormalized.j3 : Nat → List (List (S164)) → List (S92) → List (List (S48)) → List Nat → Int → Nat → Nat → List Int → Int → Int → Option (Bool)
 | 0, _, _, _, _, _, _, _, _, _, _ => none
 | k + 1, x1, x7, x8, x9, x13, x15, x16, x58, x59, x60 => if fok .sub .f64 x15 4607227454796291113 = true then (if (FloatKind.f64.format.order (floatOfInt .f64 x13) (fv .sub .f64 x15 4607227454796291113) == some .lt) = true then (laws_FnNormalized.j4 k x1 x7 x8 x9 x58 x59 x60 true) else (if fok .add .f64 x16 4607227454796291113 = true then (laws_FnNormalized.j4 k x1 x7 x8 x9 x58 x59 x60 (FloatKind.f64.format.order (floatOfInt .f64 x13) (fv .add .f64 x16 4607227454796291113) == some .gt)) else (none))) else (none)
def laws_FnNormalized.j4 : Nat → List (List (S164)) → List (S92) → List (List (S48)) → List Nat → List Int → Int → Int → Bool → Option (Bool)
 | 0, _, _, _, _, _, _, _, _ => none
 | k + 1, x1, x7, x8, x9, x58, x59, x60, x105 => if x105 = true then (some false) else (laws_FnNormalized.l0 k x1 x7 x8 x9 x58 x59 (wrap64 (x60 + 1)))
end
def laws_FnNormalized.f (k : Nat) (l0 : List (S161)) (l1 : List (List (S164))) (l2 : List Int) : Option (Bool) := if (l0.length : Int) > 2147483647 then (laws_FnNormalized.j0 k l0 l1 l2 true) else ((laws_zzFits40.f k l1).bind fun t302 => (if t302 = true then (laws_FnNormalized.j0 k l0 l1 l2 (decide ((l2.length : Int) > 2147483647))) else (laws_FnNormalized.j0 k l0 l1 l2 true)))
theorem laws_FnNormalized.mono_l : ∀ k, (∀ y0 y1 y2 y3, LeO (laws_FnNormalized.j0 k y0 y1 y2 y3) (laws_FnNormalized.j0 (k + 1) y0 y1 y2 y3)) ∧ (∀ y0 y1 y2 y3 y4 y5, LeO (laws_FnNormalized.j1 k y0 y1 y2 y3 y4 y5) (laws_FnNormalized.j1 (k + 1) y0 y1 y2 y3 y4 y5)) ∧ (∀ y0 y1 y2 y3 y4 y5 y6, LeO (laws_FnNormalized.l0 k y0 y1 y2 y3 y4 y5 y6) (laws_FnNormalized.l0 (k + 1) y0 y1 y2 y3 y4 y5 y6)) ∧ (∀ y0 y1 y2 y3 y4 y5 y6 y7 y8 y9, LeO (laws_FnNormalized.j3 k y0 y1 y2 y3 y4 y5 y6 y7 y8 y9) (laws_FnNormalized.j3 (k + 1) y0 y1 y2 y3 y4 y5 y6 y7 y8 y9)) ∧ (∀ y0 y1 y2 y3 y4 y5 y6 y7, LeO (laws_FnNormalized.j4 k y0 y1 y2 y3 y4 y5 y6 y7) (laws_FnNormalized.j4 (k + 1) y0 y1 y2 y3 y4 y5 y6 y7))
 | 0 => ⟨fun _ _ _ _ r h => by simp [laws_FnNormalized.j0] at h, fun _ _ _ _ _ _ r h => by simp [laws_FnNormalized.j1] at h, fun _ _ _ _ _ _ _ r h => by simp [laws_FnNormalized.l0] at h, fun _ _ _ _ _ _ _ _ _ _ r h => by simp [laws_FnNormalized.j3] at h, fun _ _ _ _ _ _ _ _ r h => by simp [laws_FnNormalized.j4] at h⟩
 | k + 1 => by
  obtain ⟨ih0, ih1, ih2, ih3, ih4⟩ := laws_FnNormalized.mono_l k
  refine ⟨?_, ?_, ?_, ?_, ?_⟩
  ·intro y0 y1 y2 y3
   unfold laws_FnNormalized.j0
   repeat' first
   | (with_reducible exact ih0 _ _ _ _)
   | (with_reducible exact ih1 _ _ _ _ _ _)
   | (with_reducible exact ih2 _ _ _ _ _ _ _)
   | (with_reducible exact ih3 _ _ _ _ _ _ _ _ _ _)
   | (with_reducible exact ih4 _ _ _ _ _ _ _ _)
   | (with_reducible exact impl_Normalized.mono _ _ _ _)
   | (with_reducible exact laws_zzFits40.mono _ _)
   | (with_reducible exact spec_MapRef.mono _ _ _)
   | (with_reducible exact spec_SomeAxes.mono _ _ _ _)
   | (with_reducible exact LeO.refl _)
   | (with_reducible exact LeO.none _)
   | (with_reducible refine LeO.ite ?_ ?_)
   | (with_reducible refine LeO.bind ?_ (fun _ => ?_))
   | exact ih0 _ _ _ _
   | exact ih1 _ _ _ _ _ _
   | exact ih2 _ _ _ _ _ _ _
   | exact ih3 _ _ _ _ _ _ _ _ _ _
   | exact ih4 _ _ _ _ _ _ _ _
   | exact impl_Normalized.mono _ _ _ _
   | exact laws_zzFits40.mono _ _
   | exact spec_MapRef.mono _ _ _
   | exact spec_SomeAxes.mono _ _ _ _
   | exact LeO.none _
   | refine LeO.ite ?_ ?_
   | refine LeO.bind ?_ (fun _ => ?_)
  ·intro y0 y1 y2 y3 y4 y5
   unfold laws_FnNormalized.j1
   repeat' first
   | (with_reducible exact ih0 _ _ _ _)
   | (with_reducible exact ih1 _ _ _ _ _ _)
   | (with_reducible exact ih2 _ _ _ _ _ _ _)
   | (with_reducible exact ih3 _ _ _ _ _ _ _ _ _ _)
   | (with_reducible exact ih4 _ _ _ _ _ _ _ _)
   | (with_reducible exact impl_Normalized.mono _ _ _ _)
   | (with_reducible exact laws_zzFits40.mono _ _)
   | (with_reducible exact spec_MapRef.mono _ _ _)
   | (with_reducible exact spec_SomeAxes.mono _ _ _ _)
   | (with_reducible exact LeO.refl _)
   | (with_reducible exact LeO.none _)
   | (with_reducible refine LeO.ite ?_ ?_)
   | (with_reducible refine LeO.bind ?_ (fun _ => ?_))
   | exact ih0 _ _ _ _
   | exact ih1 _ _ _ _ _ _
   | exact ih2 _ _ _ _ _ _ _
   | exact ih3 _ _ _ _ _ _ _ _ _ _
   | exact ih4 _ _ _ _ _ _ _ _
   | exact impl_Normalized.mono _ _ _ _
   | exact laws_zzFits40.mono _ _
   | exact spec_MapRef.mono _ _ _
   | exact spec_SomeAxes.mono _ _ _ _
   | exact LeO.none _
   | refine LeO.ite ?_ ?_
   | refine LeO.bind ?_ (fun _ => ?_)
  ·intro y0 y1 y2 y3 y4 y5 y6
   unfold laws_FnNormalized.l0
   repeat' first
   | (with_reducible exact ih0 _ _ _ _)
   | (with_reducible exact ih1 _ _ _ _ _ _)
   | (with_reducible exact ih2 _ _ _ _ _ _ _)
   | (with_reducible exact ih3 _ _ _ _ _ _ _ _ _ _)
   | (with_reducible exact ih4 _ _ _ _ _ _ _ _)
   | (with_reducible exact impl_Normalized.mono _ _ _ _)
   | (with_reducible exact laws_zzFits40.mono _ _)
   | (with_reducible exact spec_MapRef.mono _ _ _)
   | (with_reducible exact spec_SomeAxes.mono _ _ _ _)
   | (with_reducible exact LeO.refl _)
   | (with_reducible exact LeO.none _)
   | (with_reducible refine LeO.ite ?_ ?_)
   | (with_reducible refine LeO.bind ?_ (fun _ => ?_))
   | exact ih0 _ _ _ _
   | exact ih1 _ _ _ _ _ _
   | exact ih2 _ _ _ _ _ _ _
   | exact ih3 _ _ _ _ _ _ _ _ _ _
   | exact ih4 _ _ _ _ _ _ _ _
   | exact impl_Normalized.mono _ _ _ _
   | exact laws_zzFits40.mono _ _
   | exact spec_MapRef.mono _ _ _
   | exact spec_SomeAxes.mono _ _ _ _
   | exact LeO.none _
   | refine LeO.ite ?_ ?_
   | refine LeO.bind ?_ (fun _ => ?_)
  ·intro y0 y1 y2 y3 y4 y5 y6 y7 y8 y9
   unfold laws_FnNormalized.j3
   repeat' first
   | (with_reducible exact ih0 _ _ _ _)
   | (with_reducible exact ih1 _ _ _ _ _ _)
   | (with_reducible exact ih2 _ _ _ _ _ _ _)
   | (with_reducible exact ih3 _ _ _ _ _ _ _ _ _ _)
   | (with_reducible exact ih4 _ _ _ _ _ _ _ _)
   | (with_reducible exact impl_Normalized.mono _ _ _ _)
   | (with_reducible exact laws_zzFits40.mono _ _)
   | (with_reducible exact spec_MapRef.mono _ _ _)
   | (with_reducible exact spec_SomeAxes.mono _ _ _ _)
   | (with_reducible exact LeO.refl _)
   | (with_reducible exact LeO.none _)
   | (with_reducible refine LeO.ite ?_ ?_)
   | (with_reducible refine LeO.bind ?_ (fun _ => ?_))
   | exact ih0 _ _ _ _
   | exact ih1 _ _ _ _ _ _
   | exact ih2 _ _ _ _ _ _ _
   | exact ih3 _ _ _ _ _ _ _ _ _ _
   | exact ih4 _ _ _ _ _ _ _ _
   | exact impl_Normalized.mono _ _ _ _
   | exact laws_zzFits40.mono _ _
   | exact spec_MapRef.mono _ _ _
   | exact spec_SomeAxes.mono _ _ _ _
   | exact LeO.none _
   | refine LeO.ite ?_ ?_
   | refine LeO.bind ?_ (fun _ => ?_)
  ·intro y0 y1 y2 y3 y4 y5 y6 y7
   unfold laws_FnNormalized.j4
   repeat' first
   | (with_reducible exact ih0 _ _ _ _)
   | (with_reducible exact ih1 _ _ _ _ _ _)
   | (with_reducible exact ih2 _ _ _ _ _ _ _)
   | (with_reducible exact ih3 _ _ _ _ _ _ _ _ _ _)
   | (with_reducible exact ih4 _ _ _ _ _ _ _ _)
   | (with_reducible exact impl_Normalized.mono _ _ _ _)
   | (with_reducible exact laws_zzFits40.mono _ _)
   | (with_reducible exact spec_MapRef.mono _ _ _)
   | (with_reducible exact spec_SomeAxes.mono _ _ _ _)
   | (with_reducible exact LeO.refl _)
   | (with_reducible exact LeO.none _)
   | (with_reducible refine LeO.ite ?_ ?_)
   | (with_reducible refine LeO.bind ?_ (fun _ => ?_))
   | exact ih0 _ _ _ _
   | exact ih1 _ _ _ _ _ _
   | exact ih2 _ _ _ _ _ _ _
   | exact ih3 _ _ _ _ _ _ _ _ _ _
   | exact ih4 _ _ _ _ _ _ _ _
   | exact impl_Normalized.mono _ _ _ _
   | exact laws_zzFits40.mono _ _
   | exact spec_MapRef.mono _ _ _
   | exact spec_SomeAxes.mono _ _ _ _
   | exact LeO.none _
   | refine LeO.ite ?_ ?_
   | refine LeO.bind ?_ (fun _ => ?_)
theorem laws_FnNormalized.mono : ∀ a0 a1 a2 k, LeO (laws_FnNormalized.f k a0 a1 a2) (laws_FnNormalized.f (k + 1) a0 a1 a2) := by
 intro a0 a1 a2 k
 obtain ⟨ih0, ih1, ih2, ih3, ih4⟩ := laws_FnNormalized.mono_l k
 unfold laws_FnNormalized.f
 repeat' first
   | (with_reducible exact ih0 _ _ _ _)
   | (with_reducible exact ih1 _ _ _ _ _ _)
   | (with_reducible exact ih2 _ _ _ _ _ _ _)
   | (with_reducible exact ih3 _ _ _ _ _ _ _ _ _ _)
   | (with_reducible exact ih4 _ _ _ _ _ _ _ _)
   | (with_reducible exact impl_Normalized.mono _ _ _ _)
   | (with_reducible exact laws_zzFits40.mono _ _)
   | (with_reducible exact spec_MapRef.mono _ _ _)
   | (with_reducible exact spec_SomeAxes.mono _ _ _ _)
   | (with_reducible exact LeO.refl _)
   | (with_reducible exact LeO.none _)
   | (with_reducible refine LeO.ite ?_ ?_)
   | (with_reducible refine LeO.bind ?_ (fun _ => ?_))
   | exact ih0 _ _ _ _
   | exact ih1 _ _ _ _ _ _
   | exact ih2 _ _ _ _ _ _ _
   | exact ih3 _ _ _ _ _ _ _ _ _ _
   | exact ih4 _ _ _ _ _ _ _ _
   | exact impl_Normalized.mono _ _ _ _
   | exact laws_zzFits40.mono _ _
   | exact spec_MapRef.mono _ _ _
   | exact spec_SomeAxes.mono _ _ _ _
   | exact LeO.none _
   | refine LeO.ite ?_ ?_
   | refine LeO.bind ?_ (fun _ => ?_)
def laws_FnNormalized.T12 : Bool × List (List Nat × List Nat) := (true, [([], []), ([], []), ([0, 1], [0, 1]), ([2], [2]), ([], []), ([], []), ([4, 5], [4, 5]), ([6], [6]), ([3, 7], [3, 7]), ([8, 8, 0, 1, 2, 3, 4, 5, 6, 7, 8], [8])])
def laws_FnNormalized.B12 : List Nat := [0, 0, 3, 7, 0, 0, 48, 112, 255, 511]
theorem laws_FnNormalized.tab12 : rtab .any (opsOf Try.f7 12) = laws_FnNormalized.T12 := by kernel_rfl
theorem laws_FnNormalized.bits12 : waitsOk laws_FnNormalized.T12.2 laws_FnNormalized.B12 = true := by kernel_rfl
def laws_FnNormalized.T15 : Bool × List (List Nat × List Nat) := (true, [([], []), ([], []), ([0, 1], [0, 1]), ([2], [2]), ([], []), ([3, 4], [3, 4]), ([], []), ([], []), ([6, 7], [6, 7]), ([8], [8]), ([], []), ([9, 10, 5], [9, 10]), ([5, 11, 0, 1, 2, 3, 4, 5], [4, 5]), ([11, 12, 0, 1, 2, 3, 4, 5, 6, 7, 8, 9, 10, 11, 12], [10, 11])])
def laws_FnNormalized.B15 : List Nat := [0, 0, 3, 7, 0, 31, 0, 0, 192, 448, 0, 2047, 4095, 8191]
theorem laws_FnNormalized.tab15 : rtab .any (opsOf Try.f7 15) = laws_FnNormalized.T15 := by kernel_rfl
theorem laws_FnNormalized.bits15 : waitsOk laws_FnNormalized.T15.2 laws_FnNormalized.B15 = true := by kernel_rfl
set_option maxHeartbeats 8000000 in
set_option maxRecDepth 100000 in
theorem laws_FnNormalized.calls (k : Nat) (A0 : Option Addr) (c0 : Nat) (l0 : List (S161)) (A1 : Option Addr) (c1 : Nat) (l1 : List (List (S164))) (A2 : Option Addr) (c2 : Nat) (l2 : List Int) (r : Bool) (w : World) (hr0 : Kd.C k161 w A0 l0.length l0) (hc0 : l0.length ≤ c0) (hr1 : Kd.C (Kd.slice 164 k164) w A1 l1.length l1) (hc1 : l1.length ≤ c1) (hr2 : Kd.C (Kd.int .i16) w A2 l2.length l2) (hc2 : l2.length ≤ c2) (h : laws_FnNormalized.f k l0 l1 l2 = some r) :
  Calls Try.prog 7 #[.slice A0 l0.length c0, .slice A1 l1.length c1, .slice A2 l2.length c2] w fun e w' => e = .returned (.bool r) ∧ Below w.heap.size w w' := by
 have hu92 := Try.underlying92
 have HR0 := Aside0.mk hr0
 have HC0 := Aside0.mk hc0
 clear hr0 hc0
 have HR1 := Aside0.mk hr1
 have HC1 := Aside0.mk hc1
 clear hr1 hc1
 have HR2 := Aside0.mk hr2
 have HC2 := Aside0.mk hc2
 clear hr2 hc2
 have HB := Aside0.mk (Below.refl w.heap.size w)
 have H : (if (l0.length : Int) > 2147483647 then (laws_FnNormalized.j0 k l0 l1 l2 true) else ((laws_zzFits40.f k l1).bind fun t302 => (if t302 = true then (laws_FnNormalized.j0 k l0 l1 l2 (decide ((l2.length : Int) > 2147483647))) else (laws_FnNormalized.j0 k l0 l1 l2 true)))) = some r := h
 clear h
 have HC4 := Aside0.mk H
 clear H
 go_enter Try.func7, Try.ntmps7
 go_upto_region 1 with (fail)
 go_cut [30] (fun v30 wc => ∃ (kq : Nat) (x30_3 : Bool), v30 = .bool x30_3 ∧ Aside0 (laws_FnNormalized.j0 kq l0 l1 l2 x30_3 = some r) ∧ Aside0 (kq ≤ k) ∧ Aside0 (Below w.heap.size w wc))
 case first =>
  have H := HC4.out
  clear HC4
  by_cases c5 : (l0.length : Int) > 2147483647
  ·rw [if_pos c5] at H
   have c5b0 : decide (2147483647 < (l0.length : Int)) = true := decide_eq_true c5
   have c5b1 : decide (2147483647 < l0.length) = true := decide_eq_true (by omega)
   clear c5
   (first | rw [c5b0] | (simp only [i64_w, i32_w]; rw [c5b0]) | skip)
   have H' := Aside0.mk H
   clear H
   go_wp2
   go_meet
   case rel => exact ⟨_, (true), (by first | rfl | (simp; done) | (simp [*]; done)), H', ⟨by first | omega | exact Nat.le_refl _⟩, ⟨by repeat (first | (with_reducible first | exact HB.out | apply below_alloc | apply pw_below_drewN | apply below_drew1) | exact HB.out)⟩⟩
  ·rw [if_neg c5] at H
   have c5b0 : decide (2147483647 < (l0.length : Int)) = false := decide_eq_false c5
   have c5b1 : decide (2147483647 < l0.length) = false := decide_eq_false (by omega)
   clear c5
   (first | rw [c5b0] | (simp only [i64_w, i32_w]; rw [c5b0]) | skip)
   replace H := Option.bind_eq_some_iff.mp H
   obtain ⟨t302, A60, H⟩ := H
   replace H : (if t302 = true then (laws_FnNormalized.j0 k l0 l1 l2 (decide ((l2.length : Int) > 2147483647))) else (laws_FnNormalized.j0 k l0 l1 l2 true)) = some r := H
   have A6 := Aside0.mk A60
   clear A60
   by_cases c7 : t302 = true
   ·subst c7
    have H1 : (laws_FnNormalized.j0 k l0 l1 l2 (decide ((l2.length : Int) > 2147483647))) = some r := by rw [if_pos rfl] at H; exact H
    clear H
    have H := H1
    clear H1
    have H' := Aside0.mk H
    clear H
    go_wp2_with (first | (go_at_call 25; (with_reducible refine (laws_zzFits40.calls k _ _ l1 true _ ?side1 ?side2 A6.out).mono ?_); (case side1 => repeat (first | exact (Kd.C_below HR1.out HB.out) | (with_reducible refine Kd.C_alloc ?_ _) | (with_reducible refine Kd.C_drewN ?_ _) | (with_reducible refine Kd.C_drew ?_))); (case side2 => exact HC1.out); rintro e w' ⟨rfl, ⟨nd, rfl⟩⟩))
    go_meet
    case rel => exact ⟨_, (decide ((l2.length : Int) > 2147483647)), (by first | rfl | (simp; done) | (simp [*]; done)), H', ⟨by first | omega | exact Nat.le_refl _⟩, ⟨by repeat (first | (with_reducible first | exact HB.out | apply below_alloc | apply pw_below_drewN | apply below_drew1) | exact HB.out)⟩⟩
   ·replace c7 := Bool.eq_false_iff.mpr c7
    subst c7
    have H1 : (laws_FnNormalized.j0 k l0 l1 l2 true) = some r := by rw [if_neg (show ¬ (false = true) by decide)] at H; exact H
    clear H
    have H := H1
    clear H1
    have H' := Aside0.mk H
    clear H
    go_wp2_with (first | (go_at_call 25; (with_reducible refine (laws_zzFits40.calls k _ _ l1 false _ ?side1 ?side2 A6.out).mono ?_); (case side1 => repeat (first | exact (Kd.C_below HR1.out HB.out) | (with_reducible refine Kd.C_alloc ?_ _) | (with_reducible refine Kd.C_drewN ?_ _) | (with_reducible refine Kd.C_drew ?_))); (case side2 => exact HC1.out); rintro e w' ⟨rfl, ⟨nd, rfl⟩⟩))
    go_meet
    case rel => exact ⟨_, (true), (by first | rfl | (simp; done) | (simp [*]; done)), H', ⟨by first | omega | exact Nat.le_refl _⟩, ⟨by repeat (first | (with_reducible first | exact HB.out | apply below_alloc | apply pw_below_drewN | apply below_drew1) | exact HB.out)⟩⟩
 case rest =>
  clear HC4
  try clear c1
  try clear c2
  try clear p2
  try clear c5
  try clear c5b0
  try clear c5b1
  try clear c7
  obtain ⟨kq, x30_3, rfl, HA, HJ3, HB⟩ := hcut
  cases kq with
  | zero => exact absurd HA.out (by simp [laws_FnNormalized.j0])
  | succ kj3 =>
   have H := HA.out
   clear HA
   simp only [laws_FnNormalized.j0] at H
   by_cases c8 : x30_3 = true
   ·subst c8
    have H1 : (some true) = some r := by rw [if_pos rfl] at H; exact H
    clear H
    have H := H1
    clear H1
    obtain rfl := Option.some.inj H
    go_wp2
    go_ret
    exact ⟨by first | rfl | (simp [errW_none, errW_some] <;> rfl) | (simp [*, errW_none, errW_some] <;> rfl), by repeat (first | (with_reducible first | exact HB.out | apply below_alloc | apply pw_below_drewN | apply below_drew1) | exact HB.out)⟩
   ·replace c8 := Bool.eq_false_iff.mpr c8
    subst c8
    have H1 : ((spec_SomeAxes.f kj3 l0 l1 l2).bind fun bt303 => (if (bt303.1.length : Int) = 0 then (some true) else ((impl_Normalized.f kj3 bt303.1 bt303.2.1 bt303.2.2).bind fun bt312 => (if bt312.2 = true then (laws_FnNormalized.j1 kj3 l1 bt303.1 bt303.2.1 bt303.2.2 bt312.1 ((bt312.1.length : Int) != (bt303.1.length : Int))) else (laws_FnNormalized.j1 kj3 l1 bt303.1 bt303.2.1 bt303.2.2 bt312.1 true))))) = some r := by rw [if_neg (show ¬ (false = true) by decide)] at H; exact H
    clear H
    have H := H1
    clear H1
    replace H := Option.bind_eq_some_iff.mp H
    obtain ⟨⟨t303, t304, t305⟩, A90, H⟩ := H
    replace H : (if (t303.length : Int) = 0 then (some true) else ((impl_Normalized.f kj3 t303 t304 t305).bind fun bt312 => (if bt312.2 = true then (laws_FnNormalized.j1 kj3 l1 t303 t304 t305 bt312.1 ((bt312.1.length : Int) != (t303.length : Int))) else (laws_FnNormalized.j1 kj3 l1 t303 t304 t305 bt312.1 true)))) = some r := H
    have A9 := Aside0.mk A90
    clear A90
    by_cases c10 : (t303.length : Int) = 0
    ·rw [if_pos c10] at H
     have c10b0 : ((t303.length : Int) == 0) = true := beq_iff_eq.mpr c10
     have c10b1 : ((t303.length : Int) != 0) = false := bne_eq_false_iff_eq.mpr c10
     clear c10
     obtain rfl := Option.some.inj H
     go_wp2_with (first | ((with_reducible refine gate_callee (f := 26) rfl ?_); refine goesL_ (some 35) rfl rfl Try.func26 (by kernel_rfl) rfl #[.slice A0 l0.length c0, .slice A1 l1.length c1, .slice A2 l2.length c2] rfl (by (try simp only [List.map_toArray, List.map_cons, List.map_nil]); first | done | rfl | (simp only [List.length_drop, List.length_take]; rfl)) ?_; (with_reducible refine (spec_SomeAxes.calls kj3 _ _ l0 _ _ l1 _ _ l2 t303 t304 t305 _ ?side1 ?side2 ?side3 ?side4 ?side5 ?side6 A9.out).mono ?_); (case side1 => repeat (first | exact (Kd.C_below HR0.out HB.out) | (with_reducible refine Kd.C_alloc ?_ _) | (with_reducible refine Kd.C_drewN ?_ _) | (with_reducible refine Kd.C_drew ?_))); (case side2 => exact HC0.out); (case side3 => repeat (first | exact (Kd.C_below HR1.out HB.out) | (with_reducible refine Kd.C_alloc ?_ _) | (with_reducible refine Kd.C_drewN ?_ _) | (with_reducible refine Kd.C_drew ?_))); (case side4 => exact HC1.out); (case side5 => repeat (first | exact (Kd.C_below HR2.out HB.out) | (with_reducible refine Kd.C_alloc ?_ _) | (with_reducible refine Kd.C_drewN ?_ _) | (with_reducible refine Kd.C_drew ?_))); (case side6 => exact HC2.out); rintro e w11 ⟨v306, v308, v310, rfl, ho0, ho1, ho2, hb, hnil_⟩; refine ⟨_, rfl, ?_⟩; have HNIL := Aside0.mk hnil_; clear hnil_; have n0_ := Aside0.mk (Kd.R_lower ho0 (below_size (by repeat (first | (with_reducible first | exact HB.out | apply below_alloc | apply pw_below_drewN | apply below_drew1) | exact HB.out)))); have n1_ := Aside0.mk (Kd.S_lower ho1 (below_size (by repeat (first | (with_reducible first | exact HB.out | apply below_alloc | apply pw_below_drewN | apply below_drew1) | exact HB.out)))); have n2_ := Aside0.mk (Kd.R_lower ho2 (below_size (by repeat (first | (with_reducible first | exact HB.out | apply below_alloc | apply pw_below_drewN | apply below_drew1) | exact HB.out)))); have n3_ := Aside0.mk (below_step (by repeat (first | (with_reducible first | exact HB.out | apply below_alloc | apply pw_below_drewN | apply below_drew1) | exact HB.out)) hb); clear HB; have HO307 := n0_; have HO309 := n1_; have HO311 := n2_; have HB := n3_; clear n0_ n1_ n2_ n3_; (try clear hb); (try clear hb2); (try clear hk); (try clear hi); (try clear ho0); (try clear ho1); (try clear ho2); obtain ⟨Ao12, co12, eo12⟩ := Kd.R_slice HO307.out; subst eo12))
     go_ret
     exact ⟨by first | rfl | (simp [errW_none, errW_some] <;> rfl) | (simp [*, errW_none, errW_some] <;> rfl), by repeat (first | (with_reducible first | exact HB.out | apply below_alloc | apply pw_below_drewN | apply below_drew1) | exact HB.out)⟩
    ·rw [if_neg c10] at H
     have c10b0 : ((t303.length : Int) == 0) = false := beq_eq_false_iff_ne.mpr c10
     have c10b1 : ((t303.length : Int) != 0) = true := bne_iff_ne.mpr c10
     have c10b2 : ¬ (t303 = []) := fun h_ => c10 (by rw [h_]; rfl)
     replace H := Option.bind_eq_some_iff.mp H
     obtain ⟨⟨t312, t313⟩, A130, H⟩ := H
     replace H : (if t313 = true then (laws_FnNormalized.j1 kj3 l1 t303 t304 t305 t312 ((t312.length : Int) != (t303.length : Int))) else (laws_FnNormalized.j1 kj3 l1 t303 t304 t305 t312 true)) = some r := H
     have A13 := Aside0.mk A130
     clear A130
     have HC14 := Aside0.mk H
     clear H
     go_upto_region 7 with (first | ((with_reducible refine gate_callee (f := 26) rfl ?_); refine goesL_ (some 35) rfl rfl Try.func26 (by kernel_rfl) rfl #[.slice A0 l0.length c0, .slice A1 l1.length c1, .slice A2 l2.length c2] rfl (by (try simp only [List.map_toArray, List.map_cons, List.map_nil]); first | done | rfl | (simp only [List.length_drop, List.length_take]; rfl)) ?_; (with_reducible refine (spec_SomeAxes.calls kj3 _ _ l0 _ _ l1 _ _ l2 t303 t304 t305 _ ?side1 ?side2 ?side3 ?side4 ?side5 ?side6 A9.out).mono ?_); (case side1 => repeat (first | exact (Kd.C_below HR0.out HB.out) | (with_reducible refine Kd.C_alloc ?_ _) | (with_reducible refine Kd.C_drewN ?_ _) | (with_reducible refine Kd.C_drew ?_))); (case side2 => exact HC0.out); (case side3 => repeat (first | exact (Kd.C_below HR1.out HB.out) | (with_reducible refine Kd.C_alloc ?_ _) | (with_reducible refine Kd.C_drewN ?_ _) | (with_reducible refine Kd.C_drew ?_))); (case side4 => exact HC1.out); (case side5 => repeat (first | exact (Kd.C_below HR2.out HB.out) | (with_reducible refine Kd.C_alloc ?_ _) | (with_reducible refine Kd.C_drewN ?_ _) | (with_reducible refine Kd.C_drew ?_))); (case side6 => exact HC2.out); rintro e w15 ⟨v306, v308, v310, rfl, ho0, ho1, ho2, hb, hnil_⟩; refine ⟨_, rfl, ?_⟩; have HNIL := Aside0.mk hnil_; clear hnil_; have n0_ := Aside0.mk (Kd.R_lower ho0 (below_size (by repeat (first | (with_reducible first | exact HB.out | apply below_alloc | apply pw_below_drewN | apply below_drew1) | exact HB.out)))); have n1_ := Aside0.mk (Kd.S_lower ho1 (below_size (by repeat (first | (with_reducible first | exact HB.out | apply below_alloc | apply pw_below_drewN | apply below_drew1) | exact HB.out)))); have n2_ := Aside0.mk (Kd.R_lower ho2 (below_size (by repeat (first | (with_reducible first | exact HB.out | apply below_alloc | apply pw_below_drewN | apply below_drew1) | exact HB.out)))); have n3_ := Aside0.mk (below_step (by repeat (first | (with_reducible first | exact HB.out | apply below_alloc | apply pw_below_drewN | apply below_drew1) | exact HB.out)) hb); clear HB; have HO307 := n0_; have HO309 := n1_; have HO311 := n2_; have HB := n3_; clear n0_ n1_ n2_ n3_; (try clear hb); (try clear hb2); (try clear hk); (try clear hi); (try clear ho0); (try clear ho1); (try clear ho2); obtain ⟨Ao16, co16, eo16⟩ := Kd.R_slice HO307.out; subst eo16; obtain ⟨Ao17, co17, eo17⟩ := Kd.S_slice HO309.out; subst eo17; obtain ⟨Ao18, co18, eo18⟩ := Kd.R_slice HO311.out; subst eo18) | ((with_reducible refine gate_callee (f := 27) rfl ?_); refine goesL_ (some 46) rfl rfl Try.func27 (by kernel_rfl) rfl #[.slice Ao16 t303.length co16, .slice Ao17 t304.length co17, .slice Ao18 t305.length co18] rfl (by (try simp only [List.map_toArray, List.map_cons, List.map_nil]); first | done | rfl | (simp only [List.length_drop, List.length_take]; rfl)) ?_; (with_reducible refine (impl_Normalized.calls kj3 _ _ t303 _ _ t304 _ _ t305 t312 t313 _ ?side1 ?side2 ?side3 ?side4 ?side5 ?side6 A13.out).mono ?_); (case side1 => repeat (first | exact (Kd.R_reads' HO307.out).2.2 | (with_reducible refine Kd.C_alloc ?_ _) | (with_reducible refine Kd.C_drewN ?_ _) | (with_reducible refine Kd.C_drew ?_))); (case side2 => exact (Kd.R_reads' HO307.out).2.1); (case side3 => repeat (first | exact (Kd.S_reads' HO309.out).2.2 | (with_reducible refine Kd.C_alloc ?_ _) | (with_reducible refine Kd.C_drewN ?_ _) | (with_reducible refine Kd.C_drew ?_))); (case side4 => exact (Kd.S_reads' HO309.out).2.1); (case side5 => repeat (first | exact (Kd.R_reads' HO311.out).2.2 | (with_reducible refine Kd.C_alloc ?_ _) | (with_reducible refine Kd.C_drewN ?_ _) | (with_reducible refine Kd.C_drew ?_))); (case side6 => exact (Kd.R_reads' HO311.out).2.1); rintro e w19 ⟨v314, rfl, ho0, hb⟩; refine ⟨_, rfl, ?_⟩; have n0_ := Aside0.mk (Kd.R_below (by (with_reducible repeat (first | apply Kd.R_alloc | apply Kd.R_drewN | apply Kd.R_drew)); exact HO307.out) hb); have n1_ := Aside0.mk (Kd.S_below (by (with_reducible repeat (first | apply Kd.S_alloc | apply Kd.S_drewN | apply Kd.S_drew)); exact HO309.out) hb); have n2_ := Aside0.mk (Kd.R_below (by (with_reducible repeat (first | apply Kd.R_alloc | apply Kd.R_drewN | apply Kd.R_drew)); exact HO311.out) hb); have n3_ := Aside0.mk (Kd.R_lower ho0 (below_size (by repeat (first | (with_reducible first | exact HB.out | apply below_alloc | apply pw_below_drewN | apply below_drew1) | exact HB.out)))); have n4_ := Aside0.mk (below_step (by repeat (first | (with_reducible first | exact HB.out | apply below_alloc | apply pw_below_drewN | apply below_drew1) | exact HB.out)) hb); clear HO307; clear HO309; clear HO311; clear HB; have HO307 := n0_; have HO309 := n1_; have HO311 := n2_; have HO315 := n3_; have HB := n4_; clear n0_ n1_ n2_ n3_ n4_; (try clear hb); (try clear hb2); (try clear hk); (try clear hi); (try clear ho0)))
     (try simp only [Act.put, L1_, L2_, L3_])
     go_cut [57] (fun v57 wc => ∃ (kq : Nat) (x57_13 : Bool), v57 = .bool x57_13 ∧ Aside0 (laws_FnNormalized.j1 kq l1 t303 t304 t305 t312 x57_13 = some r) ∧ Aside0 (kq ≤ kj3) ∧ Aside0 (Kd.R k92 92 wc w.heap.size (fun _ => True) (.slice Ao16 t303.length co16) t303) ∧ Aside0 (Kd.S (Kd.slice 48 k48) 46 wc w.heap.size (fun _ => True) (.slice Ao17 t304.length co17) t304) ∧ Aside0 (Kd.R (kflt .f32) 34 wc w.heap.size (fun _ => True) (.slice Ao18 t305.length co18) t305) ∧ Aside0 (Kd.R (Kd.int .i64) 3 wc w.heap.size (fun _ => True) v314 t312) ∧ Aside0 (Below w.heap.size w wc))
     case first =>
      have H := HC14.out
      clear HC14
      by_cases c20 : t313 = true
      ·subst c20
       have H1 : (laws_FnNormalized.j1 kj3 l1 t303 t304 t305 t312 ((t312.length : Int) != (t303.length : Int))) = some r := by rw [if_pos rfl] at H; exact H
       clear H
       have H := H1
       clear H1
       have H' := Aside0.mk H
       clear H
       obtain ⟨Ao21, co21, eo21⟩ := Kd.R_slice HO315.out
       subst eo21
       go_wp2
       go_meet
       case rel => exact ⟨_, (((t312.length : Int) != (t303.length : Int))), (by first | rfl | (simp; done) | (simp [*]; done)), H', ⟨by have := HJ3.out; first | omega | exact Nat.le_refl _⟩, ⟨by (with_reducible repeat (first | apply Kd.R_alloc | apply Kd.R_drewN | apply Kd.R_drew)); exact HO307.out⟩, ⟨by (with_reducible repeat (first | apply Kd.S_alloc | apply Kd.S_drewN | apply Kd.S_drew)); exact HO309.out⟩, ⟨by (with_reducible repeat (first | apply Kd.R_alloc | apply Kd.R_drewN | apply Kd.R_drew)); exact HO311.out⟩, ⟨by (with_reducible repeat (first | apply Kd.R_alloc | apply Kd.R_drewN | apply Kd.R_drew)); exact HO315.out⟩, ⟨by repeat (first | (with_reducible first | exact HB.out | apply below_alloc | apply pw_below_drewN | apply below_drew1) | exact HB.out)⟩⟩
      ·replace c20 := Bool.eq_false_iff.mpr c20
       subst c20
       have H1 : (laws_FnNormalized.j1 kj3 l1 t303 t304 t305 t312 true) = some r := by rw [if_neg (show ¬ (false = true) by decide)] at H; exact H
       clear H
       have H := H1
       clear H1
       have H' := Aside0.mk H
       clear H
       go_wp2
       go_meet
       case rel => exact ⟨_, (true), (by first | rfl | (simp; done) | (simp [*]; done)), H', ⟨by have := HJ3.out; first | omega | exact Nat.le_refl _⟩, ⟨by (with_reducible repeat (first | apply Kd.R_alloc | apply Kd.R_drewN | apply Kd.R_drew)); exact HO307.out⟩, ⟨by (with_reducible repeat (first | apply Kd.S_alloc | apply Kd.S_drewN | apply Kd.S_drew)); exact HO309.out⟩, ⟨by (with_reducible repeat (first | apply Kd.R_alloc | apply Kd.R_drewN | apply Kd.R_drew)); exact HO311.out⟩, ⟨by (with_reducible repeat (first | apply Kd.R_alloc | apply Kd.R_drewN | apply Kd.R_drew)); exact HO315.out⟩, ⟨by repeat (first | (with_reducible first | exact HB.out | apply below_alloc | apply pw_below_drewN | apply below_drew1) | exact HB.out)⟩⟩
     case rest =>
      clear HC14
      try clear c1
      try clear c2
      try clear p2
      try clear c5
      try clear c5b0
      try clear c5b1
      try clear c7
      try clear c8
      try clear c10
      try clear c10b0
      try clear c10b1
      try clear c10b2
      try clear c20
      try clear p2
      obtain ⟨kq, x57_13, rfl, HA, HJ13, HO_7, HO_8, HO_9, HO_10, HB⟩ := hcut
      cases kq with
      | zero => exact absurd HA.out (by simp [laws_FnNormalized.j1])
      | succ kj13 =>
       have H := HA.out
       clear HA
       simp only [laws_FnNormalized.j1] at H
       by_cases c22 : x57_13 = true
       ·subst c22
        have H1 : (some false) = some r := by rw [if_pos rfl] at H; exact H
        clear H
        have H := H1
        clear H1
        obtain rfl := Option.some.inj H
        go_wp2
        go_ret
        exact ⟨by first | rfl | (simp [errW_none, errW_some] <;> rfl) | (simp [*, errW_none, errW_some] <;> rfl), by repeat (first | (with_reducible first | exact HB.out | apply below_alloc | apply pw_below_drewN | apply below_drew1) | exact HB.out)⟩
       ·replace c22 := Bool.eq_false_iff.mpr c22
        subst c22
        have H1 : (laws_FnNormalized.l0 kj13 l1 t303 t304 t305 t312 (t312.length : Int) 0) = some r := by rw [if_neg (show ¬ (false = true) by decide)] at H; exact H
        clear H
        have H := H1
        clear H1
        have H' := Aside0.mk H
        clear H
        obtain ⟨Ao23, co23, eo23⟩ := Kd.R_slice HO_10.out
        subst eo23
        go_wp2
        go_loopg [60] kj13 (fun kq v60 w' => ∃ (x60_3 : Int), v60 = .int .i64 x60_3 ∧ Aside0 (laws_FnNormalized.l0 kq l1 t303 t304 t305 t312 (t312.length : Int) x60_3 = some r) ∧ Aside0 (kq ≤ kj13) ∧ Aside0 (Kd.R k92 92 w' w.heap.size (fun _ => True) (.slice Ao16 t303.length co16) t303) ∧ Aside0 (Kd.S (Kd.slice 48 k48) 46 w' w.heap.size (fun _ => True) (.slice Ao17 t304.length co17) t304) ∧ Aside0 (Kd.R (kflt .f32) 34 w' w.heap.size (fun _ => True) (.slice Ao18 t305.length co18) t305) ∧ Aside0 (Kd.R (Kd.int .i64) 3 w' w.heap.size (fun _ => True) (.slice Ao23 t312.length co23) t312) ∧ Aside0 (Below w.heap.size w w'))
        case atStart => exact ⟨(0), (by first | rfl | (simp; done) | (simp [*]; done)), H', ⟨Nat.le_refl _⟩, ⟨by (with_reducible repeat (first | apply Kd.R_alloc | apply Kd.R_drewN | apply Kd.R_drew)); exact HO_7.out⟩, ⟨by (with_reducible repeat (first | apply Kd.S_alloc | apply Kd.S_drewN | apply Kd.S_drew)); exact HO_8.out⟩, ⟨by (with_reducible repeat (first | apply Kd.R_alloc | apply Kd.R_drewN | apply Kd.R_drew)); exact HO_9.out⟩, ⟨by (with_reducible repeat (first | apply Kd.R_alloc | apply Kd.R_drewN | apply Kd.R_drew)); exact HO_10.out⟩, ⟨by repeat (first | (with_reducible first | exact HB.out | apply below_alloc | apply pw_below_drewN | apply below_drew1) | exact HB.out)⟩⟩
        case round =>
         clear H'
         try clear c1
         try clear c2
         try clear p2
         try clear c5
         try clear c5b0
         try clear c5b1
         try clear c7
         try clear c8
         try clear c10
         try clear c10b0
         try clear c10b1
         try clear c10b2
         try clear c20
         try clear c22
         try clear p2
         obtain ⟨x60_3, rfl, HA, HK3, HO_7, HO_8, HO_9, HO_58, HB⟩ := hrel
         cases gk with
         | zero => exact absurd HA.out (by simp [laws_FnNormalized.l0])
         | succ k3 =>
          have H := HA.out
          clear HA
          simp only [laws_FnNormalized.l0] at H
          by_cases c24 : x60_3 < (t312.length : Int)
          ·rw [if_pos c24] at H
           have c24b0 : decide (x60_3 < (t312.length : Int)) = true := decide_eq_true c24
           clear c24
           by_cases c25 : 0 ≤ x60_3
           ·rw [if_pos c25] at H
            have c25b0 : decide (0 ≤ x60_3) = true := decide_eq_true c25
            clear c25
            by_cases c26 : x60_3 < (t312.length : Int)
            ·rw [if_pos c26] at H
             have c26b0 : decide (x60_3 < (t312.length : Int)) = true := decide_eq_true c26
             clear c26
             by_cases c27 : x60_3 < (t303.length : Int)
             ·rw [if_pos c27] at H
              have c27b0 : decide (x60_3 < (t303.length : Int)) = true := decide_eq_true c27
              clear c27
              by_cases c28 : x60_3 < (t305.length : Int)
              ·rw [if_pos c28] at H
               have c28b0 : decide (x60_3 < (t305.length : Int)) = true := decide_eq_true c28
               clear c28
               replace H := Option.bind_eq_some_iff.mp H
               obtain ⟨t319, A290, H⟩ := H
               replace H : (if fok .sub .f64 t319 4607227454796291113 = true then (if fmok .f64 13893604850437980160 (fv .sub .f64 t319 4607227454796291113) = true then (if fok .add .f64 t319 4607227454796291113 = true then (if fmok .f64 4670232813583204352 (fv .add .f64 t319 4607227454796291113) = true then (if (l1.length : Int) = 0 then (laws_FnNormalized.j3 k3 l1 t303 t304 t305 (rd t312 x60_3) (fmx .f64 13893604850437980160 (fv .sub .f64 t319 4607227454796291113)) (fmn .f64 4670232813583204352 (fv .add .f64 t319 4607227454796291113)) t312 (t312.length : Int) x60_3) else (if x60_3 < (t304.length : Int) then ((spec_MapRef.f k3 (rd_L8 t304 x60_3) (fmx .f64 13893604850437980160 (fv .sub .f64 t319 4607227454796291113))).bind fun t321 => ((spec_MapRef.f k3 (rd_L8 t304 x60_3) (fmn .f64 4670232813583204352 (fv .add .f64 t319 4607227454796291113))).bind fun t323 => (laws_FnNormalized.j3 k3 l1 t303 t304 t305 (rd t312 x60_3) t321 t323 t312 (t312.length : Int) x60_3))) else (none))) else (none)) else (none)) else (none)) else (none)) = some r := H
               have A29 := Aside0.mk A290
               clear A290
               by_cases c30 : fok .sub .f64 t319 4607227454796291113 = true
               ·rw [if_pos c30] at H
                have c30b0 := eq_true c30
                have c30b1 : decide (fok .sub .f64 t319 4607227454796291113 = true) = true := decide_eq_true c30
                clear c30
                by_cases c31 : fmok .f64 13893604850437980160 (fv .sub .f64 t319 4607227454796291113) = true
                ·rw [if_pos c31] at H
                 have c31b0 := eq_true c31
                 have c31b1 : decide (fmok .f64 13893604850437980160 (fv .sub .f64 t319 4607227454796291113) = true) = true := decide_eq_true c31
                 clear c31
                 by_cases c32 : fok .add .f64 t319 4607227454796291113 = true
                 ·rw [if_pos c32] at H
                  have c32b0 := eq_true c32
                  have c32b1 : decide (fok .add .f64 t319 4607227454796291113 = true) = true := decide_eq_true c32
                  clear c32
                  by_cases c33 : fmok .f64 4670232813583204352 (fv .add .f64 t319 4607227454796291113) = true
                  ·rw [if_pos c33] at H
                   have c33b0 := eq_true c33
                   have c33b1 : decide (fmok .f64 4670232813583204352 (fv .add .f64 t319 4607227454796291113) = true) = true := decide_eq_true c33
                   clear c33
                   have HC34 := Aside0.mk H
                   clear H
                   have p316 : 0 ≤ (x60_3 : Int) := of_decide_eq_true (by first | (with_reducible assumption) | assumption)
                   have q316 : x60_3 < (t312.length : Int) := of_decide_eq_true (by first | (with_reducible assumption) | assumption)
                   obtain ⟨ad316, e316, hx316_0⟩ := Kd.at_int (Kd.R_reads' HO_58.out).2.2 x60_3 p316 q316
                   cases e316
                   replace p316 := eq_true p316
                   replace q316 := eq_true q316
                   try go_wp2
                   have n0_ := Aside0.mk (Kd.R_drew HO_7.out)
                   have n1_ := Aside0.mk (Kd.S_drew HO_8.out)
                   have n2_ := Aside0.mk (Kd.R_drew HO_9.out)
                   have n3_ := Aside0.mk (Kd.R_drew HO_58.out)
                   have n4_ := Aside0.mk (below_drew1 HB.out)
                   clear HO_7
                   clear HO_8
                   clear HO_9
                   clear HO_58
                   clear HB
                   have HO_7 := n0_
                   have HO_8 := n1_
                   have HO_9 := n2_
                   have HO_58 := n3_
                   have HB := n4_
                   clear n0_ n1_ n2_ n3_ n4_
                   have p317 : 0 ≤ (x60_3 : Int) := of_decide_eq_true (by first | (with_reducible assumption) | assumption)
                   have q317 : x60_3 < (t303.length : Int) := of_decide_eq_true (by first | (with_reducible assumption) | assumption)
                   obtain ⟨ad317, e317, hx317_0, hx317_1, hx317_2⟩ := at_T92 (Kd.R_reads' HO_7.out).2.2 x60_3 p317 q317
                   cases e317
                   replace p317 := eq_true p317
                   replace q317 := eq_true q317
                   have p318 : 0 ≤ (x60_3 : Int) := of_decide_eq_true (by first | (with_reducible assumption) | assumption)
                   have q318 : x60_3 < (t305.length : Int) := of_decide_eq_true (by first | (with_reducible assumption) | assumption)
                   obtain ⟨ad318, e318, hx318_0⟩ := at_flt (Kd.R_reads' HO_9.out).2.2 x60_3 p318 q318
                   cases e318
                   replace p318 := eq_true p318
                   replace q318 := eq_true q318
                   refine start_ (n := 10) (S := fun w' => w'.cell? (ad317.add ((x60_3).toNat * 3)) = some (.float .f32 ((rd_T92 t303 x60_3).f0)) ∧ w'.cell? ⟨(ad317.add ((x60_3).toNat * 3)).block, (ad317.add ((x60_3).toNat * 3)).off + 1, none⟩ = some (.float .f32 ((rd_T92 t303 x60_3).f1)) ∧ w'.cell? ⟨(ad317.add ((x60_3).toNat * 3)).block, (ad317.add ((x60_3).toNat * 3)).off + 2, none⟩ = some (.float .f32 ((rd_T92 t303 x60_3).f2)) ∧ w'.cell? (ad318.add (x60_3).toNat) = some (.float .f32 (rdOf (0 : Nat) t305 x60_3))) (ds := []) #[ff,ff,ff,ff,ff,ff,ff,ff,ff,ff] (by kernel_rfl) rfl rfl ⟨hx317_0, hx317_1, hx317_2, hx318_0⟩ (fun hHeld => ?_); refine with_tabW laws_FnNormalized.tab12 laws_FnNormalized.bits12 (fun HT_ HW_ => ?_)
                   generalize wr.drew = w35 at HO_7 HO_8 HO_9 HO_58 HB hx317_0 hx317_1 hx317_2 hx318_0 hHeld ⊢
                   refine pure_ (i := 0) (N := some 65) (v := ?_) (a' := ?_) #[tt,ff,ff,ff,ff,ff,ff,ff,ff,ff] rfl rfl (any_of HT_.out (by kernel_rfl)) (fun _ _ _ h => h) (Or.inl ⟨by rfl, ?_⟩) ?_ ?_
                   rotate_left
                   ·intro w'
                    go_simp
                    with_reducible rfl
                   rotate_left
                   ·simp only [Act.put, L1_, L2_, L3_, i64_w, i32_w]
                    rfl
                   refine pure_ (i := 1) (N := some 66) (v := ?_) (a' := ?_) #[tt,tt,ff,ff,ff,ff,ff,ff,ff,ff] rfl rfl (any_of HT_.out (by kernel_rfl)) (fun _ _ _ h => h) (Or.inl ⟨by rfl, ?_⟩) ?_ ?_
                   rotate_left
                   ·intro w'
                    go_simp
                    with_reducible rfl
                   rotate_left
                   ·simp only [Act.put, L1_, L2_, L3_, i64_w, i32_w]
                    rfl
                   refine pure_ (i := 2) (N := some 67) (v := ?_) (a' := ?_) #[tt,tt,tt,ff,ff,ff,ff,ff,ff,ff] rfl rfl (any_of HT_.out (by kernel_rfl)) (fun _ _ _ h => h) (Or.inl ⟨by rfl, ?_⟩) ?_ ?_
                   rotate_left
                   ·intro w'
                    go_simp
                    with_reducible rfl
                   rotate_left
                   ·simp only [Act.put, L1_, L2_, L3_, i64_w, i32_w]
                    rfl
                   refine pure_ (i := 4) (N := some 69) (v := ?_) (a' := ?_) #[tt,tt,tt,ff,tt,ff,ff,ff,ff,ff] rfl rfl (any_of HT_.out (by kernel_rfl)) (fun _ _ _ h => h) (Or.inl ⟨by rfl, ?_⟩) ?_ ?_
                   rotate_left
                   ·intro w'
                    go_simp
                    with_reducible rfl
                   rotate_left
                   ·simp only [Act.put, L1_, L2_, L3_, i64_w, i32_w]
                    rfl
                   refine pure_ (i := 5) (N := some 70) (v := ?_) (a' := ?_) #[tt,tt,tt,ff,tt,tt,ff,ff,ff,ff] rfl rfl (any_of HT_.out (by kernel_rfl)) (fun _ _ _ h => h) (Or.inl ⟨by rfl, ?_⟩) ?_ ?_
                   rotate_left
                   ·intro w'
                    go_simp
                    with_reducible rfl
                   rotate_left
                   ·simp only [Act.put, L1_, L2_, L3_, i64_w, i32_w]
                    rfl
                   refine pure_ (i := 6) (N := some 71) (v := ?_) (a' := ?_) #[tt,tt,tt,ff,tt,tt,tt,ff,ff,ff] rfl rfl (any_of HT_.out (by kernel_rfl)) (fun _ _ _ h => h) (Or.inl ⟨by rfl, ?_⟩) ?_ ?_
                   rotate_left
                   ·intro w'
                    go_simp
                    with_reducible rfl
                   rotate_left
                   ·simp only [Act.put, L1_, L2_, L3_, i64_w, i32_w]
                    rfl
                   refine take_ (i := 3) (N := some 68) (v := ?_) (a' := ?_) #[tt,tt,tt,tt,tt,tt,tt,ff,ff,ff] rfl rfl (take_ofW HT_.out HW_.out (by kernel_rfl)) (fun _ _ _ h => h) (Or.inl ⟨by rfl, ?_⟩) hHeld ?_ ?_
                   rotate_left
                   ·rintro w' ⟨s0, s1, s2, s3⟩
                    go_simp
                    with_reducible rfl
                   rotate_left
                   ·simp only [Act.put, L1_, L2_, L3_, i64_w, i32_w]
                    rfl
                   refine take_ (i := 7) (N := some 72) (v := ?_) (a' := ?_) #[true, true, true, true, true, true, true, true, false, false] rfl rfl (take_ofW HT_.out HW_.out (by kernel_rfl)) (fun _ _ _ h => h) (Or.inl ⟨by rfl, ?_⟩) hHeld ?_ ?_
                   rotate_left
                   ·rintro w' ⟨s0, s1, s2, s3⟩
                    go_simp
                    with_reducible rfl
                   rotate_left
                   ·simp only [Act.put, L1_, L2_, L3_, i64_w, i32_w]
                    rfl
                   refine one_ (i := 8) (N := some 73) #[true, true, true, true, true, true, true, true, true, false] rfl rfl (one_of HT_.out (by kernel_rfl)) (by decide) (fun K hK => ?_)
                   refine goes_ Try.func28 (by kernel_rfl) rfl #[.agg #[.float .f32 ((rd_T92 t303 x60_3).f0), .float .f32 ((rd_T92 t303 x60_3).f1), .float .f32 ((rd_T92 t303 x60_3).f2)], .float .f32 (rdOf (0 : Nat) t305 x60_3)] (by rfl) rfl rfl (by (try simp only [List.map_toArray, List.map_cons, List.map_nil]); first | done | rfl | (simp only [List.length_drop, List.length_take]; rfl)) ?_
                   with_reducible refine (spec_NormalRef.calls ((rd_T92 t303 x60_3).f0) ((rd_T92 t303 x60_3).f1) ((rd_T92 t303 x60_3).f2) (rdOf (0 : Nat) t305 x60_3) t319 _ A29.out).mono ?_
                   rintro e w36 ⟨rfl, hb⟩
                   have HS0_ := (hb.cell (World.block_lt_of_cell? _ _ (hHeld.1))).trans (hHeld.1)
                   have HS1_ := (hb.cell (World.block_lt_of_cell? _ _ (hHeld.2.1))).trans (hHeld.2.1)
                   have HS2_ := (hb.cell (World.block_lt_of_cell? _ _ (hHeld.2.2.1))).trans (hHeld.2.2.1)
                   have HS3_ := (hb.cell (World.block_lt_of_cell? _ _ (hHeld.2.2.2))).trans (hHeld.2.2.2)
                   refine ⟨_, rfl, ?_⟩
                   have n0_ := Aside0.mk (Kd.R_below (by (with_reducible repeat (first | apply Kd.R_alloc | apply Kd.R_drewN | apply Kd.R_drew)); exact HO_7.out) hb)
                   have n1_ := Aside0.mk (Kd.S_below (by (with_reducible repeat (first | apply Kd.S_alloc | apply Kd.S_drewN | apply Kd.S_drew)); exact HO_8.out) hb)
                   have n2_ := Aside0.mk (Kd.R_below (by (with_reducible repeat (first | apply Kd.R_alloc | apply Kd.R_drewN | apply Kd.R_drew)); exact HO_9.out) hb)
                   have n3_ := Aside0.mk (Kd.R_below (by (with_reducible repeat (first | apply Kd.R_alloc | apply Kd.R_drewN | apply Kd.R_drew)); exact HO_58.out) hb)
                   have n4_ := Aside0.mk (below_step (by repeat (first | (with_reducible first | exact HB.out | apply below_alloc | apply pw_below_drewN | apply below_drew1) | exact HB.out)) hb)
                   clear HO_7
                   clear HO_8
                   clear HO_9
                   clear HO_58
                   clear HB
                   have HO_7 := n0_
                   have HO_8 := n1_
                   have HO_9 := n2_
                   have HO_58 := n3_
                   have HB := n4_
                   clear n0_ n1_ n2_ n3_ n4_
                   (try clear hb)
                   (try clear hb2)
                   (try clear hk)
                   (try clear hi)
                   refine hK.out _ _ ⟨HS0_, HS1_, HS2_, HS3_⟩ (fun hHeld => ?_)
                   clear hK K
                   refine norm_ (a' := ?_) ?_ ?_
                   rotate_left
                   ·show Act.put _ (some 73) _ = _
                    simp only [Act.put, L1_, L2_, L3_, i64_w, i32_w]
                    rfl
                   refine pure_ (i := 9) (N := some 14) (v := ?_) (a' := ?_) #[true, true, true, true, true, true, true, true, true, true] rfl rfl (any_of HT_.out (by kernel_rfl)) (fun _ _ _ h => h) (Or.inl ⟨by rfl, ?_⟩) ?_ ?_
                   rotate_left
                   ·intro w'
                    go_simp
                    with_reducible rfl
                   rotate_left
                   ·simp only [Act.put, L1_, L2_, L3_, i64_w, i32_w]
                    rfl
                   refine done_ (done_of HT_.out (by kernel_rfl)) ?_
                   go_upto_if 81 with (fail)
                   go_cut [15, 16] (fun v15 v16 wc => ∃ (kq : Nat) (x15_33 : Nat) (x16_33 : Nat), v15 = .float .f64 x15_33 ∧ v16 = .float .f64 x16_33 ∧ Aside0 (laws_FnNormalized.j3 kq l1 t303 t304 t305 (rd t312 x60_3) x15_33 x16_33 t312 (t312.length : Int) x60_3 = some r) ∧ Aside0 (kq ≤ k3) ∧ Aside0 (Kd.R k92 92 wc w.heap.size (fun _ => True) (.slice (some ad317) t303.length co16) t303) ∧ Aside0 (Kd.S (Kd.slice 48 k48) 46 wc w.heap.size (fun _ => True) (.slice Ao17 t304.length co17) t304) ∧ Aside0 (Kd.R (kflt .f32) 34 wc w.heap.size (fun _ => True) (.slice (some ad318) t305.length co18) t305) ∧ Aside0 (Kd.R (Kd.int .i64) 3 wc w.heap.size (fun _ => True) (.slice (some ad316) t312.length co23) t312) ∧ Aside0 (Below w.heap.size w wc))
                   case first =>
                    have H := HC34.out
                    clear HC34
                    by_cases c37 : (l1.length : Int) = 0
                    ·rw [if_pos c37] at H
                     have c37b0 : ((l1.length : Int) == 0) = true := beq_iff_eq.mpr c37
                     have c37b1 : ((l1.length : Int) != 0) = false := bne_eq_false_iff_eq.mpr c37
                     have hq_ : (!Ao17.isNone) = false := by have h_ := HNIL.out c37; injection h_ with h1_; rw [h1_]; rfl
                     first | rw [hq_] | (rw [Option.not_isNone] at hq_; rw [hq_])
                     clear c37
                     (first | rw [c37b0] | (simp only [i64_w, i32_w]; rw [c37b0]) | skip)
                     have H' := Aside0.mk H
                     clear H
                     go_wp2
                     go_meet
                     case rel => exact ⟨_, (fmx .f64 13893604850437980160 (fv .sub .f64 t319 4607227454796291113)), (fmn .f64 4670232813583204352 (fv .add .f64 t319 4607227454796291113)), (by first | rfl | (simp; done) | (simp [*]; done)), (by first | rfl | (simp; done) | (simp [*]; done)), H', ⟨by have := HJ3.out; have := HJ13.out; have := HK3.out; first | omega | exact Nat.le_refl _⟩, ⟨by (with_reducible repeat (first | apply Kd.R_alloc | apply Kd.R_drewN | apply Kd.R_drew)); exact HO_7.out⟩, ⟨by (with_reducible repeat (first | apply Kd.S_alloc | apply Kd.S_drewN | apply Kd.S_drew)); exact HO_8.out⟩, ⟨by (with_reducible repeat (first | apply Kd.R_alloc | apply Kd.R_drewN | apply Kd.R_drew)); exact HO_9.out⟩, ⟨by (with_reducible repeat (first | apply Kd.R_alloc | apply Kd.R_drewN | apply Kd.R_drew)); exact HO_58.out⟩, ⟨by repeat (first | (with_reducible first | exact HB.out | apply below_alloc | apply pw_below_drewN | apply below_drew1) | exact HB.out)⟩⟩
                    ·rw [if_neg c37] at H
                     have c37b0 : ((l1.length : Int) == 0) = false := beq_eq_false_iff_ne.mpr c37
                     have c37b1 : ((l1.length : Int) != 0) = true := bne_iff_ne.mpr c37
                     have c37b2 : ¬ (l1 = []) := fun h_ => c37 (by rw [h_]; rfl)
                     (first | rw [c37b0] | (simp only [i64_w, i32_w]; rw [c37b0]) | skip)
                     by_cases c38 : x60_3 < (t304.length : Int)
                     ·rw [if_pos c38] at H
                      have c38b0 : decide (x60_3 < (t304.length : Int)) = true := decide_eq_true c38
                      have hq_ : (!Ao17.isNone) = true := by obtain ⟨ad_, A_, c_, e_, _⟩ := at_L8 (Kd.S_reads' HO_8.out).2.2 x60_3 (of_decide_eq_true (by first | (with_reducible assumption) | assumption)) c38; rw [e_]; rfl
                      first | rw [hq_] | (rw [Option.not_isNone] at hq_; rw [hq_])
                      clear c38
                      replace H := Option.bind_eq_some_iff.mp H
                      obtain ⟨t321, A390, H⟩ := H
                      replace H : ((spec_MapRef.f k3 (rd_L8 t304 x60_3) (fmn .f64 4670232813583204352 (fv .add .f64 t319 4607227454796291113))).bind fun t323 => (laws_FnNormalized.j3 k3 l1 t303 t304 t305 (rd t312 x60_3) t321 t323 t312 (t312.length : Int) x60_3)) = some r := H
                      have A39 := Aside0.mk A390
                      clear A390
                      replace H := Option.bind_eq_some_iff.mp H
                      obtain ⟨t323, A400, H⟩ := H
                      replace H : (laws_FnNormalized.j3 k3 l1 t303 t304 t305 (rd t312 x60_3) t321 t323 t312 (t312.length : Int) x60_3) = some r := H
                      have A40 := Aside0.mk A400
                      clear A400
                      have H' := Aside0.mk H
                      clear H
                      try go_wp2
                      have n0_ := Aside0.mk (Kd.R_drew HO_7.out)
                      have n1_ := Aside0.mk (Kd.S_drew HO_8.out)
                      have n2_ := Aside0.mk (Kd.R_drew HO_9.out)
                      have n3_ := Aside0.mk (Kd.R_drew HO_58.out)
                      have n4_ := Aside0.mk (below_drew1 HB.out)
                      clear HO_7
                      clear HO_8
                      clear HO_9
                      clear HO_58
                      clear HB
                      have HO_7 := n0_
                      have HO_8 := n1_
                      have HO_9 := n2_
                      have HO_58 := n3_
                      have HB := n4_
                      clear n0_ n1_ n2_ n3_ n4_
                      have p320 : 0 ≤ (x60_3 : Int) := of_decide_eq_true (by first | (with_reducible assumption) | assumption)
                      have q320 : x60_3 < (t304.length : Int) := of_decide_eq_true (by first | (with_reducible assumption) | assumption)
                      obtain ⟨ad320, A320_0, c320_0, e320, hx320_0, hl320_0, hi320_0⟩ := at_L8 (Kd.S_reads' HO_8.out).2.2 x60_3 p320 q320
                      cases e320
                      obtain ⟨ce320, hce320, hMe320, hcc320⟩ := Kd.S_get HO_8.out [] x60_3 p320 (by first | exact q320 | exact of_decide_eq_true (by first | (with_reducible assumption) | assumption) | (have e_ := (Kd.S_reads' HO_8.out).1; omega))
                      obtain ⟨ve320_0, rfl, ge320_0⟩ := hMe320
                      have hv320_0 := hcc320 0 _ rfl
                      rw [Nat.add_zero, show ((Kd.slice 48 k48)).sz = 1 from rfl, Nat.mul_one] at hv320_0
                      replace hv320_0 := Option.some.inj (hv320_0.symm.trans hx320_0)
                      rw [hv320_0] at ge320_0
                      have HL320_0 := Aside0.mk (show Kd.R k48 48 _ _ _ _ (rd_L8 t304 x60_3) from ge320_0)
                      clear hv320_0 ge320_0
                      clear hcc320 hce320
                      have HR320_0 := Aside0.mk hi320_0
                      have HC320_0 := Aside0.mk hl320_0
                      clear hi320_0 hl320_0
                      replace p320 := eq_true p320
                      replace q320 := eq_true q320
                      have p322 : 0 ≤ (x60_3 : Int) := of_decide_eq_true (by first | (with_reducible assumption) | assumption)
                      have q322 : x60_3 < (t304.length : Int) := of_decide_eq_true (by first | (with_reducible assumption) | assumption)
                      obtain ⟨ad322, A322_0, c322_0, e322, hx322_0, hl322_0, hi322_0⟩ := at_L8 (Kd.S_reads' HO_8.out).2.2 x60_3 p322 q322
                      obtain rfl : ad320 = ad322 := (by injection e322)
                      obtain ⟨ce322, hce322, hMe322, hcc322⟩ := Kd.S_get HO_8.out [] x60_3 p322 (by first | exact q322 | exact of_decide_eq_true (by first | (with_reducible assumption) | assumption) | (have e_ := (Kd.S_reads' HO_8.out).1; omega))
                      obtain ⟨ve322_0, rfl, ge322_0⟩ := hMe322
                      have hv322_0 := hcc322 0 _ rfl
                      rw [Nat.add_zero, show ((Kd.slice 48 k48)).sz = 1 from rfl, Nat.mul_one] at hv322_0
                      replace hv322_0 := Option.some.inj (hv322_0.symm.trans hx322_0)
                      rw [hv322_0] at ge322_0
                      have HL322_0 := Aside0.mk (show Kd.R k48 48 _ _ _ _ (rd_L8 t304 x60_3) from ge322_0)
                      clear hv322_0 ge322_0
                      clear hcc322 hce322
                      have HR322_0 := Aside0.mk hi322_0
                      have HC322_0 := Aside0.mk hl322_0
                      clear hi322_0 hl322_0
                      replace p322 := eq_true p322
                      replace q322 := eq_true q322
                      have ea_ := Option.some.inj (hx320_0.symm.trans hx322_0)
                      injection ea_ with ea_ en_ ec_
                      subst ea_
                      subst ec_
                      clear en_
                      refine start_ (n := 14) (S := fun w' => w'.cell? (ad320.add (x60_3).toNat) = some (.slice A320_0 (rd_L8 t304 x60_3).length c320_0) ∧ w'.cell? (ad320.add (x60_3).toNat) = some (.slice A320_0 (rd_L8 t304 x60_3).length c320_0)) (ds := []) #[ff,ff,ff,ff,ff,ff,ff,ff,ff,ff,ff,ff,ff,ff] (by kernel_rfl) rfl rfl ⟨hx320_0, hx322_0⟩ (fun hHeld => ?_); refine with_tabW laws_FnNormalized.tab15 laws_FnNormalized.bits15 (fun HT_ HW_ => ?_)
                      generalize w36.drew = w41 at HO_7 HO_8 HO_9 HO_58 HB HL320_0 HL322_0 HR320_0 HR322_0 hx320_0 hx322_0 hHeld ⊢
                      refine pure_ (i := 0) (N := some 82) (v := ?_) (a' := ?_) #[tt,ff,ff,ff,ff,ff,ff,ff,ff,ff,ff,ff,ff,ff] rfl rfl (any_of HT_.out (by kernel_rfl)) (fun _ _ _ h => h) (Or.inl ⟨by rfl, ?_⟩) ?_ ?_
                      rotate_left
                      ·intro w'
                       go_simp
                       with_reducible rfl
                      rotate_left
                      ·simp only [Act.put, L1_, L2_, L3_, i64_w, i32_w]
                       rfl
                      refine pure_ (i := 1) (N := some 83) (v := ?_) (a' := ?_) #[tt,tt,ff,ff,ff,ff,ff,ff,ff,ff,ff,ff,ff,ff] rfl rfl (any_of HT_.out (by kernel_rfl)) (fun _ _ _ h => h) (Or.inl ⟨by rfl, ?_⟩) ?_ ?_
                      rotate_left
                      ·intro w'
                       go_simp
                       with_reducible rfl
                      rotate_left
                      ·simp only [Act.put, L1_, L2_, L3_, i64_w, i32_w]
                       rfl
                      refine pure_ (i := 2) (N := some 84) (v := ?_) (a' := ?_) #[tt,tt,tt,ff,ff,ff,ff,ff,ff,ff,ff,ff,ff,ff] rfl rfl (any_of HT_.out (by kernel_rfl)) (fun _ _ _ h => h) (Or.inl ⟨by rfl, ?_⟩) ?_ ?_
                      rotate_left
                      ·intro w'
                       go_simp
                       with_reducible rfl
                      rotate_left
                      ·simp only [Act.put, L1_, L2_, L3_, i64_w, i32_w]
                       rfl
                      refine pure_ (i := 4) (N := some 86) (v := ?_) (a' := ?_) #[tt,tt,tt,ff,tt,ff,ff,ff,ff,ff,ff,ff,ff,ff] rfl rfl (any_of HT_.out (by kernel_rfl)) (fun _ _ _ h => h) (Or.inl ⟨by rfl, ?_⟩) ?_ ?_
                      rotate_left
                      ·intro w'
                       go_simp
                       with_reducible rfl
                      rotate_left
                      ·simp only [Act.put, L1_, L2_, L3_, i64_w, i32_w]
                       rfl
                      refine pure_ (i := 6) (N := some 88) (v := ?_) (a' := ?_) #[tt,tt,tt,ff,tt,ff,tt,ff,ff,ff,ff,ff,ff,ff] rfl rfl (any_of HT_.out (by kernel_rfl)) (fun _ _ _ h => h) (Or.inl ⟨by rfl, ?_⟩) ?_ ?_
                      rotate_left
                      ·intro w'
                       go_simp
                       with_reducible rfl
                      rotate_left
                      ·simp only [Act.put, L1_, L2_, L3_, i64_w, i32_w]
                       rfl
                      refine pure_ (i := 7) (N := some 89) (v := ?_) (a' := ?_) #[tt,tt,tt,ff,tt,ff,tt,tt,ff,ff,ff,ff,ff,ff] rfl rfl (any_of HT_.out (by kernel_rfl)) (fun _ _ _ h => h) (Or.inl ⟨by rfl, ?_⟩) ?_ ?_
                      rotate_left
                      ·intro w'
                       go_simp
                       with_reducible rfl
                      rotate_left
                      ·simp only [Act.put, L1_, L2_, L3_, i64_w, i32_w]
                       rfl
                      refine pure_ (i := 8) (N := some 90) (v := ?_) (a' := ?_) #[tt,tt,tt,ff,tt,ff,tt,tt,tt,ff,ff,ff,ff,ff] rfl rfl (any_of HT_.out (by kernel_rfl)) (fun _ _ _ h => h) (Or.inl ⟨by rfl, ?_⟩) ?_ ?_
                      rotate_left
                      ·intro w'
                       go_simp
                       with_reducible rfl
                      rotate_left
                      ·simp only [Act.put, L1_, L2_, L3_, i64_w, i32_w]
                       rfl
                      refine pure_ (i := 10) (N := some 92) (v := ?_) (a' := ?_) #[tt,tt,tt,ff,tt,ff,tt,tt,tt,ff,tt,ff,ff,ff] rfl rfl (any_of HT_.out (by kernel_rfl)) (fun _ _ _ h => h) (Or.inl ⟨by rfl, ?_⟩) ?_ ?_
                      rotate_left
                      ·intro w'
                       go_simp
                       with_reducible rfl
                      rotate_left
                      ·simp only [Act.put, L1_, L2_, L3_, i64_w, i32_w]
                       rfl
                      refine take_ (i := 3) (N := some 85) (v := ?_) (a' := ?_) #[tt,tt,tt,tt,tt,ff,tt,tt,tt,ff,tt,ff,ff,ff] rfl rfl (take_ofW HT_.out HW_.out (by kernel_rfl)) (fun _ _ _ h => h) (Or.inl ⟨by rfl, ?_⟩) hHeld ?_ ?_
                      rotate_left
                      ·rintro w' ⟨s0, s1⟩
                       go_simp
                       with_reducible rfl
                      rotate_left
                      ·simp only [Act.put, L1_, L2_, L3_, i64_w, i32_w]
                       rfl
                      refine take_ (i := 9) (N := some 91) (v := ?_) (a' := ?_) #[tt,tt,tt,tt,tt,ff,tt,tt,tt,tt,tt,ff,ff,ff] rfl rfl (take_ofW HT_.out HW_.out (by kernel_rfl)) (fun _ _ _ h => h) (Or.inl ⟨by rfl, ?_⟩) hHeld ?_ ?_
                      rotate_left
                      ·rintro w' ⟨s0, s1⟩
                       go_simp
                       with_reducible rfl
                      rotate_left
                      ·simp only [Act.put, L1_, L2_, L3_, i64_w, i32_w]
                       rfl
                      refine one_ (i := 5) (N := some 87) #[tt,tt,tt,tt,tt,tt,tt,tt,tt,tt,tt,ff,ff,ff] rfl rfl (one_of HT_.out (by kernel_rfl)) (by decide) (fun K hK => ?_)
                      refine goes_ Try.func29 (by kernel_rfl) rfl #[.slice A320_0 (rd_L8 t304 x60_3).length c320_0, .float .f64 (fmx .f64 13893604850437980160 (fv .sub .f64 t319 4607227454796291113))] (by rfl) rfl rfl (by (try simp only [List.map_toArray, List.map_cons, List.map_nil]); first | done | rfl | (simp only [List.length_drop, List.length_take]; rfl)) ?_
                      with_reducible refine (spec_MapRef.calls k3 _ _ (rd_L8 t304 x60_3) (fmx .f64 13893604850437980160 (fv .sub .f64 t319 4607227454796291113)) t321 _ ?side1 ?side2 A39.out).mono ?_
                      (case side1 => repeat (first | exact (by repeat (first | (with_reducible exact HR320_0.out) | (with_reducible refine Kd.C_alloc ?_ _) | (with_reducible refine Kd.C_drewN ?_ _) | (with_reducible refine Kd.C_drew ?_) | exact HR320_0.out)) | (with_reducible refine Kd.C_alloc ?_ _) | (with_reducible refine Kd.C_drewN ?_ _) | (with_reducible refine Kd.C_drew ?_)))
                      (case side2 => exact HC320_0.out)
                      rintro e w42 ⟨rfl, hb⟩
                      have HS0_ := (hb.cell (World.block_lt_of_cell? _ _ (hHeld.1))).trans (hHeld.1)
                      have HS1_ := (hb.cell (World.block_lt_of_cell? _ _ (hHeld.2))).trans (hHeld.2)
                      refine ⟨_, rfl, ?_⟩
                      have n0_ := Aside0.mk (Kd.R_below (by (with_reducible repeat (first | apply Kd.R_alloc | apply Kd.R_drewN | apply Kd.R_drew)); exact HO_7.out) hb)
                      have n1_ := Aside0.mk (Kd.S_below (by (with_reducible repeat (first | apply Kd.S_alloc | apply Kd.S_drewN | apply Kd.S_drew)); exact HO_8.out) hb)
                      have n2_ := Aside0.mk (Kd.R_below (by (with_reducible repeat (first | apply Kd.R_alloc | apply Kd.R_drewN | apply Kd.R_drew)); exact HO_9.out) hb)
                      have n3_ := Aside0.mk (Kd.R_below (by (with_reducible repeat (first | apply Kd.R_alloc | apply Kd.R_drewN | apply Kd.R_drew)); exact HO_58.out) hb)
                      have n4_ := Aside0.mk (Kd.R_below (by (with_reducible repeat (first | apply Kd.R_alloc | apply Kd.R_drewN | apply Kd.R_drew)); exact HL320_0.out) hb)
                      have n5_ := Aside0.mk (Kd.R_below (by (with_reducible repeat (first | apply Kd.R_alloc | apply Kd.R_drewN | apply Kd.R_drew)); exact HL322_0.out) hb)
                      have n6_ := Aside0.mk (Kd.C_below (by repeat (first | (with_reducible exact HR320_0.out) | (with_reducible refine Kd.C_alloc ?_ _) | (with_reducible refine Kd.C_drewN ?_ _) | (with_reducible refine Kd.C_drew ?_) | exact HR320_0.out)) hb)
                      have n7_ := Aside0.mk (Kd.C_below (by repeat (first | (with_reducible exact HR322_0.out) | (with_reducible refine Kd.C_alloc ?_ _) | (with_reducible refine Kd.C_drewN ?_ _) | (with_reducible refine Kd.C_drew ?_) | exact HR322_0.out)) hb)
                      have n8_ := Aside0.mk (below_step (by repeat (first | (with_reducible first | exact HB.out | apply below_alloc | apply pw_below_drewN | apply below_drew1) | exact HB.out)) hb)
                      clear HO_7
                      clear HO_8
                      clear HO_9
                      clear HO_58
                      clear HL320_0
                      clear HL322_0
                      clear HR320_0
                      clear HR322_0
                      clear HB
                      have HO_7 := n0_
                      have HO_8 := n1_
                      have HO_9 := n2_
                      have HO_58 := n3_
                      have HL320_0 := n4_
                      have HL322_0 := n5_
                      have HR320_0 := n6_
                      have HR322_0 := n7_
                      have HB := n8_
                      clear n0_ n1_ n2_ n3_ n4_ n5_ n6_ n7_ n8_
                      (try clear hb)
                      (try clear hb2)
                      (try clear hk)
                      (try clear hi)
                      refine hK.out _ _ ⟨HS0_, HS1_⟩ (fun hHeld => ?_)
                      clear hK K
                      refine norm_ (a' := ?_) ?_ ?_
                      rotate_left
                      ·show Act.put _ (some 87) _ = _
                       simp only [Act.put, L1_, L2_, L3_, i64_w, i32_w]
                       rfl
                      refine one_ (i := 11) (N := some 93) #[tt,tt,tt,tt,tt,tt,tt,tt,tt,tt,tt,tt,ff,ff] rfl rfl (one_of HT_.out (by kernel_rfl)) (by decide) (fun K hK => ?_)
                      refine goes_ Try.func29 (by kernel_rfl) rfl #[.slice A320_0 (rd_L8 t304 x60_3).length c320_0, .float .f64 (fmn .f64 4670232813583204352 (fv .add .f64 t319 4607227454796291113))] (by rfl) rfl rfl (by (try simp only [List.map_toArray, List.map_cons, List.map_nil]); first | done | rfl | (simp only [List.length_drop, List.length_take]; rfl)) ?_
                      with_reducible refine (spec_MapRef.calls k3 _ _ (rd_L8 t304 x60_3) (fmn .f64 4670232813583204352 (fv .add .f64 t319 4607227454796291113)) t323 _ ?side1 ?side2 A40.out).mono ?_
                      (case side1 => repeat (first | exact (by repeat (first | (with_reducible exact HR322_0.out) | (with_reducible refine Kd.C_alloc ?_ _) | (with_reducible refine Kd.C_drewN ?_ _) | (with_reducible refine Kd.C_drew ?_) | exact HR322_0.out)) | (with_reducible refine Kd.C_alloc ?_ _) | (with_reducible refine Kd.C_drewN ?_ _) | (with_reducible refine Kd.C_drew ?_)))
                      (case side2 => exact HC322_0.out)
                      rintro e w43 ⟨rfl, hb⟩
                      have HS0_ := (hb.cell (World.block_lt_of_cell? _ _ (hHeld.1))).trans (hHeld.1)
                      have HS1_ := (hb.cell (World.block_lt_of_cell? _ _ (hHeld.2))).trans (hHeld.2)
                      refine ⟨_, rfl, ?_⟩
                      have n0_ := Aside0.mk (Kd.R_below (by (with_reducible repeat (first | apply Kd.R_alloc | apply Kd.R_drewN | apply Kd.R_drew)); exact HO_7.out) hb)
                      have n1_ := Aside0.mk (Kd.S_below (by (with_reducible repeat (first | apply Kd.S_alloc | apply Kd.S_drewN | apply Kd.S_drew)); exact HO_8.out) hb)
                      have n2_ := Aside0.mk (Kd.R_below (by (with_reducible repeat (first | apply Kd.R_alloc | apply Kd.R_drewN | apply Kd.R_drew)); exact HO_9.out) hb)
                      have n3_ := Aside0.mk (Kd.R_below (by (with_reducible repeat (first | apply Kd.R_alloc | apply Kd.R_drewN | apply Kd.R_drew)); exact HO_58.out) hb)
                      have n4_ := Aside0.mk (Kd.R_below (by (with_reducible repeat (first | apply Kd.R_alloc | apply Kd.R_drewN | apply Kd.R_drew)); exact HL320_0.out) hb)
                      have n5_ := Aside0.mk (Kd.R_below (by (with_reducible repeat (first | apply Kd.R_alloc | apply Kd.R_drewN | apply Kd.R_drew)); exact HL322_0.out) hb)
                      have n6_ := Aside0.mk (Kd.C_below (by repeat (first | (with_reducible exact HR320_0.out) | (with_reducible refine Kd.C_alloc ?_ _) | (with_reducible refine Kd.C_drewN ?_ _) | (with_reducible refine Kd.C_drew ?_) | exact HR320_0.out)) hb)
                      have n7_ := Aside0.mk (Kd.C_below (by repeat (first | (with_reducible exact HR322_0.out) | (with_reducible refine Kd.C_alloc ?_ _) | (with_reducible refine Kd.C_drewN ?_ _) | (with_reducible refine Kd.C_drew ?_) | exact HR322_0.out)) hb)
                      have n8_ := Aside0.mk (below_step (by repeat (first | (with_reducible first | exact HB.out | apply below_alloc | apply pw_below_drewN | apply below_drew1) | exact HB.out)) hb)
                      clear HO_7
                      clear HO_8
                      clear HO_9
                      clear HO_58
                      clear HL320_0
                      clear HL322_0
                      clear HR320_0
                      clear HR322_0
                      clear HB
                      have HO_7 := n0_
                      have HO_8 := n1_
                      have HO_9 := n2_
                      have HO_58 := n3_
                      have HL320_0 := n4_
                      have HL322_0 := n5_
                      have HR320_0 := n6_
                      have HR322_0 := n7_
                      have HB := n8_
                      clear n0_ n1_ n2_ n3_ n4_ n5_ n6_ n7_ n8_
                      (try clear hb)
                      (try clear hb2)
                      (try clear hk)
                      (try clear hi)
                      refine hK.out _ _ ⟨HS0_, HS1_⟩ (fun hHeld => ?_)
                      clear hK K
                      refine norm_ (a' := ?_) ?_ ?_
                      rotate_left
                      ·show Act.put _ (some 93) _ = _
                       simp only [Act.put, L1_, L2_, L3_, i64_w, i32_w]
                       rfl
                      refine pure_ (i := 12) (N := some 15) (v := ?_) (a' := ?_) #[tt,tt,tt,tt,tt,tt,tt,tt,tt,tt,tt,tt,tt,ff] rfl rfl (any_of HT_.out (by kernel_rfl)) (fun _ _ _ h => h) (Or.inl ⟨by rfl, ?_⟩) ?_ ?_
                      rotate_left
                      ·intro w'
                       go_simp
                       with_reducible rfl
                      rotate_left
                      ·simp only [Act.put, L1_, L2_, L3_, i64_w, i32_w]
                       rfl
                      refine pure_ (i := 13) (N := some 16) (v := ?_) (a' := ?_) #[tt,tt,tt,tt,tt,tt,tt,tt,tt,tt,tt,tt,tt,tt] rfl rfl (any_of HT_.out (by kernel_rfl)) (fun _ _ _ h => h) (Or.inl ⟨by rfl, ?_⟩) ?_ ?_
                      rotate_left
                      ·intro w'
                       go_simp
                       with_reducible rfl
                      rotate_left
                      ·simp only [Act.put, L1_, L2_, L3_, i64_w, i32_w]
                       rfl
                      refine done_ (done_of HT_.out (by kernel_rfl)) ?_
                      try go_wp2
                      go_meet
                      case rel => exact ⟨_, (t321), (t323), (by first | rfl | (simp; done) | (simp [*]; done)), (by first | rfl | (simp; done) | (simp [*]; done)), H', ⟨by have := HJ3.out; have := HJ13.out; have := HK3.out; first | omega | exact Nat.le_refl _⟩, ⟨by (with_reducible repeat (first | apply Kd.R_alloc | apply Kd.R_drewN | apply Kd.R_drew)); exact HO_7.out⟩, ⟨by (with_reducible repeat (first | apply Kd.S_alloc | apply Kd.S_drewN | apply Kd.S_drew)); exact HO_8.out⟩, ⟨by (with_reducible repeat (first | apply Kd.R_alloc | apply Kd.R_drewN | apply Kd.R_drew)); exact HO_9.out⟩, ⟨by (with_reducible repeat (first | apply Kd.R_alloc | apply Kd.R_drewN | apply Kd.R_drew)); exact HO_58.out⟩, ⟨by repeat (first | (with_reducible first | exact HB.out | apply below_alloc | apply pw_below_drewN | apply below_drew1) | exact HB.out)⟩⟩
                     ·rw [if_neg c38] at H
                      exact absurd H (by simp)
                   case rest =>
                    clear HC34
                    try clear c1
                    try clear c2
                    try clear p2
                    try clear c3
                    try clear p3
                    try clear q3
                    try clear hx3
                    try clear c5
                    try clear c5b0
                    try clear c5b1
                    try clear c7
                    try clear c8
                    try clear c10
                    try clear c10b0
                    try clear c10b1
                    try clear c10b2
                    try clear c20
                    try clear c22
                    try clear c24
                    try clear c24b0
                    try clear c25
                    try clear c25b0
                    try clear c26
                    try clear c26b0
                    try clear c27
                    try clear c27b0
                    try clear c28
                    try clear c28b0
                    try clear c29
                    try clear c30
                    try clear c30b0
                    try clear c30b1
                    try clear c31
                    try clear c31b0
                    try clear c31b1
                    try clear p31
                    try clear q31
                    try clear hx31
                    try clear c32
                    try clear c32b0
                    try clear c32b1
                    try clear p32
                    try clear q32
                    try clear hx32
                    try clear c33
                    try clear c33b0
                    try clear c33b1
                    try clear c37
                    try clear c37b0
                    try clear c37b1
                    try clear c37b2
                    try clear c38
                    try clear c38b0
                    try clear hx316_0
                    try clear hx317_0
                    try clear hx317_1
                    try clear hx317_2
                    try clear hx318_0
                    try clear hx320_0
                    try clear hx322_0
                    try clear p2
                    try clear p316
                    try clear p317
                    try clear p318
                    try clear p320
                    try clear p322
                    try clear q316
                    try clear q317
                    try clear q318
                    try clear q320
                    try clear q322
                    obtain ⟨kq, x15_33, x16_33, rfl, rfl, HA, HJ33, HO_7, HO_8, HO_9, HO_58, HB⟩ := hcut
                    cases kq with
                    | zero => exact absurd HA.out (by simp [laws_FnNormalized.j3])
                    | succ kj33 =>
                     have H := HA.out
                     clear HA
                     simp only [laws_FnNormalized.j3] at H
                     have HC44 := Aside0.mk H
                     clear H
                     go_upto_region 17 with (fail)
                     go_cut [105] (fun v105 wc => ∃ (kq : Nat) (x105_43 : Bool), v105 = .bool x105_43 ∧ Aside0 (laws_FnNormalized.j4 kq l1 t303 t304 t305 t312 (t312.length : Int) x60_3 x105_43 = some r) ∧ Aside0 (kq ≤ kj33) ∧ Aside0 (Kd.R k92 92 wc w.heap.size (fun _ => True) (.slice (some ad317) t303.length co16) t303) ∧ Aside0 (Kd.S (Kd.slice 48 k48) 46 wc w.heap.size (fun _ => True) (.slice Ao17 t304.length co17) t304) ∧ Aside0 (Kd.R (kflt .f32) 34 wc w.heap.size (fun _ => True) (.slice (some ad318) t305.length co18) t305) ∧ Aside0 (Kd.R (Kd.int .i64) 3 wc w.heap.size (fun _ => True) (.slice (some ad316) t312.length co23) t312) ∧ Aside0 (Below w.heap.size w wc))
                     case first =>
                      have H := HC44.out
                      clear HC44
                      by_cases c45 : fok .sub .f64 x15_33 4607227454796291113 = true
                      ·rw [if_pos c45] at H
                       have c45b0 := eq_true c45
                       have c45b1 : decide (fok .sub .f64 x15_33 4607227454796291113 = true) = true := decide_eq_true c45
                       clear c45
                       by_cases c46 : (FloatKind.f64.format.order (floatOfInt .f64 (rd t312 x60_3)) (fv .sub .f64 x15_33 4607227454796291113) == some .lt) = true
                       ·rw [if_pos c46] at H
                        have c46b0 : (FloatKind.f64.format.order (floatOfInt .f64 (rd t312 x60_3)) (fv .sub .f64 x15_33 4607227454796291113) == some .lt) = true := c46
                        (try (have c46b1 : decide (FloatKind.f64.format.order (floatOfInt .f64 (rd t312 x60_3)) (fv .sub .f64 x15_33 4607227454796291113) = some .lt) = true := by simpa using c46))
                        (try (have c46b2 : (FloatKind.f64.format.order (floatOfInt .f64 (rd t312 x60_3)) (fv .sub .f64 x15_33 4607227454796291113) == some .lt) = true := by simpa using c46))
                        clear c46
                        (first | rw [c46b0] | (simp only [i64_w, i32_w]; rw [c46b0]) | skip)
                        have H' := Aside0.mk H
                        clear H
                        go_wp2
                        go_meet
                        case rel => exact ⟨_, (true), (by first | rfl | (simp; done) | (simp [*]; done)), H', ⟨by have := HJ3.out; have := HJ13.out; have := HK3.out; have := HJ33.out; first | omega | exact Nat.le_refl _⟩, ⟨by (with_reducible repeat (first | apply Kd.R_alloc | apply Kd.R_drewN | apply Kd.R_drew)); exact HO_7.out⟩, ⟨by (with_reducible repeat (first | apply Kd.S_alloc | apply Kd.S_drewN | apply Kd.S_drew)); exact HO_8.out⟩, ⟨by (with_reducible repeat (first | apply Kd.R_alloc | apply Kd.R_drewN | apply Kd.R_drew)); exact HO_9.out⟩, ⟨by (with_reducible repeat (first | apply Kd.R_alloc | apply Kd.R_drewN | apply Kd.R_drew)); exact HO_58.out⟩, ⟨by repeat (first | (with_reducible first | exact HB.out | apply below_alloc | apply pw_below_drewN | apply below_drew1) | exact HB.out)⟩⟩
                       ·rw [if_neg c46] at H
                        have c46b0 : (FloatKind.f64.format.order (floatOfInt .f64 (rd t312 x60_3)) (fv .sub .f64 x15_33 4607227454796291113) == some .lt) = false := by simpa using c46
                        (try (have c46b1 : decide (FloatKind.f64.format.order (floatOfInt .f64 (rd t312 x60_3)) (fv .sub .f64 x15_33 4607227454796291113) = some .lt) = false := by simpa using c46))
                        (try (have c46b2 : (FloatKind.f64.format.order (floatOfInt .f64 (rd t312 x60_3)) (fv .sub .f64 x15_33 4607227454796291113) == some .lt) = false := by simpa using c46))
                        (try (have c46b3 : ¬ (FloatKind.f64.format.order (floatOfInt .f64 (rd t312 x60_3)) (fv .sub .f64 x15_33 4607227454796291113) = some .lt) := by simpa using c46))
                        clear c46
                        (first | rw [c46b0] | (simp only [i64_w, i32_w]; rw [c46b0]) | skip)
                        by_cases c47 : fok .add .f64 x16_33 4607227454796291113 = true
                        ·rw [if_pos c47] at H
                         have c47b0 := eq_true c47
                         have c47b1 : decide (fok .add .f64 x16_33 4607227454796291113 = true) = true := decide_eq_true c47
                         clear c47
                         have H' := Aside0.mk H
                         clear H
                         go_wp2
                         go_meet
                         case rel => exact ⟨_, ((FloatKind.f64.format.order (floatOfInt .f64 (rd t312 x60_3)) (fv .add .f64 x16_33 4607227454796291113) == some .gt)), (by first | rfl | (simp; done) | (simp [*]; done)), H', ⟨by have := HJ3.out; have := HJ13.out; have := HK3.out; have := HJ33.out; first | omega | exact Nat.le_refl _⟩, ⟨by (with_reducible repeat (first | apply Kd.R_alloc | apply Kd.R_drewN | apply Kd.R_drew)); exact HO_7.out⟩, ⟨by (with_reducible repeat (first | apply Kd.S_alloc | apply Kd.S_drewN | apply Kd.S_drew)); exact HO_8.out⟩, ⟨by (with_reducible repeat (first | apply Kd.R_alloc | apply Kd.R_drewN | apply Kd.R_drew)); exact HO_9.out⟩, ⟨by (with_reducible repeat (first | apply Kd.R_alloc | apply Kd.R_drewN | apply Kd.R_drew)); exact HO_58.out⟩, ⟨by repeat (first | (with_reducible first | exact HB.out | apply below_alloc | apply pw_below_drewN | apply below_drew1) | exact HB.out)⟩⟩
                        ·rw [if_neg c47] at H
                         exact absurd H (by simp)
                      ·rw [if_neg c45] at H
                       exact absurd H (by simp)
                     case rest =>
                      clear HC44
                      try clear c1
                      try clear c2
                      try clear p2
                      try clear c3
                      try clear p3
                      try clear q3
                      try clear hx3
                      try clear c4
                      try clear c5
                      try clear c5b0
                      try clear c5b1
                      try clear c7
                      try clear c8
                      try clear c10
                      try clear c10b0
                      try clear c10b1
                      try clear c10b2
                      try clear c20
                      try clear c22
                      try clear c24
                      try clear c24b0
                      try clear c25
                      try clear c25b0
                      try clear c26
                      try clear c26b0
                      try clear c27
                      try clear c27b0
                      try clear c28
                      try clear c28b0
                      try clear c29
                      try clear c30
                      try clear c30b0
                      try clear c30b1
                      try clear c31
                      try clear c31b0
                      try clear c31b1
                      try clear p31
                      try clear q31
                      try clear hx31
                      try clear c32
                      try clear c32b0
                      try clear c32b1
                      try clear p32
                      try clear q32
                      try clear hx32
                      try clear c33
                      try clear c33b0
                      try clear c33b1
                      try clear c37
                      try clear c37b0
                      try clear c37b1
                      try clear c37b2
                      try clear c38
                      try clear c38b0
                      try clear c45
                      try clear c45b0
                      try clear c45b1
                      try clear c46
                      try clear c46b0
                      try clear c46b1
                      try clear c46b2
                      try clear c47
                      try clear c47b0
                      try clear c47b1
                      try clear hx316_0
                      try clear hx317_0
                      try clear hx317_1
                      try clear hx317_2
                      try clear hx318_0
                      try clear hx320_0
                      try clear hx322_0
                      try clear p2
                      try clear p3
                      try clear p31
                      try clear p316
                      try clear p317
                      try clear p318
                      try clear p32
                      try clear p320
                      try clear p322
                      try clear q3
                      try clear q31
                      try clear q316
                      try clear q317
                      try clear q318
                      try clear q32
                      try clear q320
                      try clear q322
                      obtain ⟨kq, x105_43, rfl, HA, HJ43, HO_7, HO_8, HO_9, HO_58, HB⟩ := hcut
                      cases kq with
                      | zero => exact absurd HA.out (by simp [laws_FnNormalized.j4])
                      | succ kj43 =>
                       have H := HA.out
                       clear HA
                       simp only [laws_FnNormalized.j4] at H
                       by_cases c48 : x105_43 = true
                       ·subst c48
                        have H1 : (some false) = some r := by rw [if_pos rfl] at H; exact H
                        clear H
                        have H := H1
                        clear H1
                        obtain rfl := Option.some.inj H
                        go_wp2
                        go_ret
                        exact ⟨by first | rfl | (simp [errW_none, errW_some] <;> rfl) | (simp [*, errW_none, errW_some] <;> rfl), by repeat (first | (with_reducible first | exact HB.out | apply below_alloc | apply pw_below_drewN | apply below_drew1) | exact HB.out)⟩
                       ·replace c48 := Bool.eq_false_iff.mpr c48
                        subst c48
                        have H1 : (laws_FnNormalized.l0 kj43 l1 t303 t304 t305 t312 (t312.length : Int) (wrap64 (x60_3 + 1))) = some r := by rw [if_neg (show ¬ (false = true) by decide)] at H; exact H
                        clear H
                        have H := H1
                        clear H1
                        have H' := Aside0.mk H
                        clear H
                        go_wp2
                        go_roundg kj43
                        case measure => have := HJ3.out; have := HJ13.out; have := HK3.out; have := HJ33.out; have := HJ43.out; omega
                        case rel => exact ⟨(wrap64 (x60_3 + 1)), (by first | rfl | (simp; done) | (simp [*]; done)), H', ⟨by have := HJ3.out; have := HJ13.out; have := HK3.out; have := HJ33.out; have := HJ43.out; omega⟩, ⟨by (with_reducible repeat (first | apply Kd.R_alloc | apply Kd.R_drewN | apply Kd.R_drew)); exact HO_7.out⟩, ⟨by (with_reducible repeat (first | apply Kd.S_alloc | apply Kd.S_drewN | apply Kd.S_drew)); exact HO_8.out⟩, ⟨by (with_reducible repeat (first | apply Kd.R_alloc | apply Kd.R_drewN | apply Kd.R_drew)); exact HO_9.out⟩, ⟨by (with_reducible repeat (first | apply Kd.R_alloc | apply Kd.R_drewN | apply Kd.R_drew)); exact HO_58.out⟩, ⟨by repeat (first | (with_reducible first | exact HB.out | apply below_alloc | apply pw_below_drewN | apply below_drew1) | exact HB.out)⟩⟩
                  ·rw [if_neg c33] at H
                   exact absurd H (by simp)
                 ·rw [if_neg c32] at H
                  exact absurd H (by simp)
                ·rw [if_neg c31] at H
                 exact absurd H (by simp)
               ·rw [if_neg c30] at H
                exact absurd H (by simp)
              ·rw [if_neg c28] at H
               exact absurd H (by simp)
             ·rw [if_neg c27] at H
              exact absurd H (by simp)
            ·rw [if_neg c26] at H
             exact absurd H (by simp)
           ·rw [if_neg c25] at H
            exact absurd H (by simp)
          ·rw [if_neg c24] at H
           have c24b0 : decide (x60_3 < (t312.length : Int)) = false := decide_eq_false c24
           clear c24
           obtain rfl := Option.some.inj H
           go_wp2
           go_ret
           exact ⟨by first | rfl | (simp [errW_none, errW_some] <;> rfl) | (simp [*, errW_none, errW_some] <;> rfl), by repeat (first | (with_reducible first | exact HB.out | apply below_alloc | apply pw_below_drewN | apply below_drew1) | exact HB.out)⟩

/-- THE ONE PURE STATEMENT of laws_FnNormalized: yours. -/
def good161 (x : S161) : Prop := (Lit.int .i16 x.f0).wf = true ∧ (Lit.int .i16 x.f1).wf = true ∧ (Lit.int .i16 x.f2).wf = true
def good164 (x : S164) : Prop := (Lit.int .i16 x.f0).wf = true ∧ (Lit.int .i16 x.f1).wf = true
def laws_FnNormalized.Pure : Prop := ∀ (l0 : List (S161)) (l1 : List (List (S164))) (l2 : List Int), l0.length ≤ maxLen → (∀ y ∈ l0, good161 y) → l1.length ≤ maxLen → (∀ y ∈ l1, (y.length ≤ maxLen ∧ ∀ y_ ∈ y, good164 y_)) → l2.length ≤ maxLen → l2.length * 2 ≤ 140737488351232 → (∀ x ∈ l2, (Lit.int .i16 x).wf = true) → ∃ k, laws_FnNormalized.f k l0 l1 l2 = some true
theorem laws_FnNormalized.walk (P : laws_FnNormalized.Pure) (a0 : Option Addr) (cap0 : Nat) (l0 : List (S161)) (a1 : Option Addr) (cap1 : Nat) (l1 : List (List (S164))) (a2 : Option Addr) (len2 cap2 : Nat) (z2 : List Int) (w : World) (hc0 : l0.length ≤ cap0) (hC0 : Kd.C k161 w a0 l0.length l0) (hm0 : l0.length ≤ maxLen) (hg0 : ∀ y ∈ l0, good161 y) (hc1 : l1.length ≤ cap1) (hC1 : Kd.C (Kd.slice 164 k164) w a1 l1.length l1) (hm1 : l1.length ≤ maxLen) (hg1 : ∀ y ∈ l1, (y.length ≤ maxLen ∧ ∀ y_ ∈ y, good164 y_)) (w2 : (a2 = none ∧ len2 = 0 ∧ cap2 = 0 ∧ z2 = []) ∨ ∃ x, a2 = some x ∧ len2 ≤ cap2 ∧ cap2 ≤ maxLen ∧ z2.length = cap2 ∧ (∀ i, i < z2.length → w.cell? (x.add i) = some (.int .i16 (z2.getD i 0))) ∧ ∀ n ∈ z2, (Lit.int .i16 n).wf = true) (y2 : len2 * 2 ≤ 140737488351232) :
  Calls Try.prog 7 #[.slice a0 l0.length cap0, .slice a1 l1.length cap1, .slice a2 len2 cap2] w fun e w' => e = .returned (.bool true) ∧ Below w.heap.size w w' := by
 obtain ⟨l2, rfl, hr2, hm2, hw2, hc2⟩ := ReadsInt.ofRowC w2
 obtain ⟨k, h⟩ := P l0 l1 l2 hm0 hg0 hm1 hg1 hm2 y2 hw2
 refine (laws_FnNormalized.calls k _ _ l0 _ _ l1 _ _ l2 true w hC0 hc0 hC1 hc1 (Kd.C_of_reads (d := (0 : Int)) (h1 := fun _ => rfl) hr2) hc2 h).mono ?_
 rintro e w' ⟨rfl, hd⟩
 exact ⟨rfl, hd⟩

end Go.Proofs.Ytlbmfnjhpojghaa.PFnNormalized
