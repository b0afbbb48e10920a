-- Written by a program of this session (xprint) out of the translation; Lean checks it.
import Derived.Test.YtlbmfnjhpojghaaPFnNormalizedx0
import Derived.Test.YtlbmfnjhpojghaaPFnNormalizedx6
import Derived.Test.YtlbmfnjhpojghaaPFnNormalizedx7
namespace Go.Proofs.Ytlbmfnjhpojghaa.PFnNormalized
open Go.RowKit Go.Proofs.YtlbmfnjhpojghaaW.PrintWords Go.Proofs.YtlbmfnjhpojghaaW.PrintLast Go.Proofs.YtlbmfnjhpojghaaW.PrintMore
attribute [local go_sem] max2_int min2_int max_two min_two max_three min_three max_four min_four   -- for this text's walks alone
set_option linter.unusedVariables false
set_option linter.unusedSimpArgs false

attribute [local go_sem] f_add f_sub f_mul f_quo f_conv f_same f_int f_max f_min f_neg f_store
/-! ### tables_SegmentMaps_Map: function 89 -/
mutual
def tables_SegmentMaps_Map.j0 : Nat → Int → List (S177) → Int → Int → Bool → Option (Int)
 | 0, _, _, _, _, _ => none
 | k + 1, x1, x5, x6, x7, x57 => if x57 = true then (tables_SegmentMaps_Map.j1 k x1 x5 (wrap64 (x6 + 1)) x7) else (tables_SegmentMaps_Map.j1 k x1 x5 x6 x7)
def tables_SegmentMaps_Map.j1 : Nat → Int → List (S177) → Int → Int → Option (Int)
 | 0, _, _, _, _ => none
 | k + 1, x1, x5, x6, x7 => if 0 ≤ (wrap64 (x7 - 1)) then (if (wrap64 (x7 - 1)) < (x5.length : Int) then (if ((rd_T177 x5 (wrap64 (x7 - 1))).f0) = 16384 then (if ((rd_T177 x5 (wrap64 (x7 - 1))).f1) = 16384 then (if 0 ≤ (wrap64 (x7 - 2)) then (if (wrap64 (x7 - 2)) < (x5.length : Int) then (tables_SegmentMaps_Map.j2 k x1 x5 x6 x7 (((rd_T177 x5 (wrap64 (x7 - 2))).f0) == 16384)) else (none)) else (none)) else (tables_SegmentMaps_Map.j2 k x1 x5 x6 x7 false)) else (tables_SegmentMaps_Map.j2 k x1 x5 x6 x7 false)) else (none)) else (none)
def tables_SegmentMaps_Map.j2 : Nat → Int → List (S177) → Int → Int → Bool → Option (Int)
 | 0, _, _, _, _, _ => none
 | k + 1, x1, x5, x6, x7, x84 => if x84 = true then (tables_SegmentMaps_Map.j3 k x1 x5 x6 (wrap64 (x7 - 1))) else (tables_SegmentMaps_Map.j3 k x1 x5 x6 x7)
def tables_SegmentMaps_Map.j3 : Nat → Int → List (S177) → Int → Int → Option (Int)
 | 0, _, _, _, _ => none
 | k + 1, x1, x5, x6, x7 => tables_SegmentMaps_Map.l0 k x1 x5 x6 x7 x6
def tables_SegmentMaps_Map.j5 : Nat → Int → List (S177) → Int → Int → Int → Option (Int)
 | 0, _, _, _, _, _ => none
 | k + 1, x1, x5, x6, x7, x8 => if x8 < x7 then (tables_SegmentMaps_Map.l1 k x1 x5 x7 x8 x8) else (tables_SegmentMaps_Map.l2 k x1 x5 x7 x6)
def tables_SegmentMaps_Map.j7 : Nat → Int → List (S177) → Int → Int → Option (Int)
 | 0, _, _, _, _ => none
 | k + 1, x1, x5, x8, x9 => if x8 = x9 then (if 0 ≤ x8 then (if x8 < (x5.length : Int) then (some ((rd_T177 x5 x8).f1)) else (none)) else (none)) else (if (wrap64 (x8 + 2)) = x9 then (if 0 ≤ (wrap64 (x8 + 1)) then (if (wrap64 (x8 + 1)) < (x5.length : Int) then (some ((rd_T177 x5 (wrap64 (x8 + 1))).f1)) else (none)) else (none)) else (if x1 < 0 then (if 0 ≤ x9 then (if x9 < (x5.length : Int) then (some ((rd_T177 x5 x9).f1)) else (none)) else (none)) else (if x1 > 0 then (if 0 ≤ x8 then (if x8 < (x5.length : Int) then (some ((rd_T177 x5 x8).f1)) else (none)) else (none)) else (if 0 ≤ x8 then (if x8 < (x5.length : Int) then ((tables_abs.f ((rd_T177 x5 x8).f1)).bind fun t210 => (if 0 ≤ x9 then (if x9 < (x5.length : Int) then ((tables_abs.f ((rd_T177 x5 x9).f1)).bind fun t212 => (if t210 < t212 then (some ((rd_T177 x5 x8).f1)) else (some ((rd_T177 x5 x9).f1)))) else (none)) else (none))) else (none)) else (none)))))
def tables_SegmentMaps_Map.l1 : Nat → Int → List (S177) → Int → Int → Int → Option (Int)
 | 0, _, _, _, _, _ => none
 | k + 1, x1, x5, x7, x8, x9 => if (wrap64 (x9 + 1)) < x7 then (if 0 ≤ (wrap64 (x9 + 1)) then (if (wrap64 (x9 + 1)) < (x5.length : Int) then (if x1 = ((rd_T177 x5 (wrap64 (x9 + 1))).f0) then (tables_SegmentMaps_Map.l1 k x1 x5 x7 x8 (wrap64 (x9 + 1))) else (tables_SegmentMaps_Map.j7 k x1 x5 x8 x9)) else (none)) else (none)) else (tables_SegmentMaps_Map.j7 k x1 x5 x8 x9)
def tables_SegmentMaps_Map.j9 : Nat → Int → List (S177) → Int → Int → Option (Int)
 | 0, _, _, _, _ => none
 | k + 1, x1, x5, x7, x8 => if x8 = 0 then (if 0 < (x5.length : Int) then (some (IntKind.i16.wrap ((IntKind.i16.wrap (x1 - ((rd_T177 x5 0).f0))) + ((rd_T177 x5 0).f1)))) else (none)) else (if x8 = x7 then (if 0 ≤ (wrap64 (x7 - 1)) then (if (wrap64 (x7 - 1)) < (x5.length : Int) then (some (IntKind.i16.wrap ((IntKind.i16.wrap (x1 - ((rd_T177 x5 (wrap64 (x7 - 1))).f0))) + ((rd_T177 x5 (wrap64 (x7 - 1))).f1)))) else (none)) else (none)) else (if 0 ≤ (wrap64 (x8 - 1)) then (if (wrap64 (x8 - 1)) < (x5.length : Int) then (if 0 ≤ x8 then (if x8 < (x5.length : Int) then (if fok .mul .f64 (floatOfInt .f64 (IntKind.i16.wrap (((rd_T177 x5 x8).f1) - ((rd_T177 x5 (wrap64 (x8 - 1))).f1)))) (floatOfInt .f64 (IntKind.i16.wrap (x1 - ((rd_T177 x5 (wrap64 (x8 - 1))).f0)))) = true then ((math_Round.f (fv .mul .f64 (floatOfInt .f64 (IntKind.i16.wrap (((rd_T177 x5 x8).f1) - ((rd_T177 x5 (wrap64 (x8 - 1))).f1)))) (floatOfInt .f64 (IntKind.i16.wrap (x1 - ((rd_T177 x5 (wrap64 (x8 - 1))).f0)))))).bind fun t224 => (if fok .quo .f64 t224 (floatOfInt .f64 (IntKind.i16.wrap (((rd_T177 x5 x8).f0) - ((rd_T177 x5 (wrap64 (x8 - 1))).f0)))) = true then (if fiok .f64 (fv .quo .f64 t224 (floatOfInt .f64 (IntKind.i16.wrap (((rd_T177 x5 x8).f0) - ((rd_T177 x5 (wrap64 (x8 - 1))).f0))))) .i16 = true then (some (IntKind.i16.wrap (((rd_T177 x5 (wrap64 (x8 - 1))).f1) + (fi .f64 (fv .quo .f64 t224 (floatOfInt .f64 (IntKind.i16.wrap (((rd_T177 x5 x8).f0) - ((rd_T177 x5 (wrap64 (x8 - 1))).f0))))) .i16)))) else (none)) else (none))) else (none)) else (none)) else (none)) else (none)) else (none)))
def tables_SegmentMaps_Map.l2 : Nat → Int → List (S177) → Int → Int → Option (Int)
 | 0, _, _, _, _ => none
 | k + 1, x1, x5, x7, x8 => if x8 < x7 then (if 0 ≤ x8 then (if x8 < (x5.length : Int) then (if x1 < ((rd_T177 x5 x8).f0) then (tables_SegmentMaps_Map.j9 k x1 x5 x7 x8) else (tables_SegmentMaps_Map.l2 k x1 x5 x7 (wrap64 (x8 + 1)))) else (none)) else (none)) else (tables_SegmentMaps_Map.j9 k x1 x5 x7 x8)
def tables_SegmentMaps_Map.l0 : Nat → Int → List (S177) → Int → Int → Int → Option (Int)
 | 0, _, _, _, _, _ => none
 | k + 1, x1, x5, x6, x7, x8 => if x8 < x7 then (if 0 ≤ x8 then (if x8 < (x5.length : Int) then (if x1 = ((rd_T177 x5 x8).f0) then (tables_SegmentMaps_Map.j5 k x1 x5 x6 x7 x8) else (tables_SegmentMaps_Map.l0 k x1 x5 x6 x7 (wrap64 (x8 + 1)))) else (none)) else (none)) else (tables_SegmentMaps_Map.j5 k x1 x5 x6 x7 x8)
end
def tables_SegmentMaps_Map.f (k : Nat) (l0_0 : List (S177)) (a1 : Int) : Option (Int) := if (l0_0.length : Int) = 0 then (some a1) else (if (l0_0.length : Int) = 1 then (if 0 < (l0_0.length : Int) then (some (IntKind.i16.wrap ((IntKind.i16.wrap (a1 - ((rd_T177 l0_0 0).f0))) + ((rd_T177 l0_0 0).f1)))) else (none)) else (if 0 < (l0_0.length : Int) then (if ((rd_T177 l0_0 0).f0) = (-16384) then (if ((rd_T177 l0_0 0).f1) = (-16384) then (if 0 ≤ ((0 : Int) + 1) then (if ((0 : Int) + 1) < (l0_0.length : Int) then (tables_SegmentMaps_Map.j0 k a1 l0_0 0 (l0_0.length : Int) (((rd_T177 l0_0 ((0 : Int) + 1)).f0) == (-16384))) else (none)) else (none)) else (tables_SegmentMaps_Map.j0 k a1 l0_0 0 (l0_0.length : Int) false)) else (tables_SegmentMaps_Map.j0 k a1 l0_0 0 (l0_0.length : Int) false)) else (none)))
theorem tables_SegmentMaps_Map.mono_l : ∀ k, (∀ y0 y1 y2 y3 y4, LeO (tables_SegmentMaps_Map.j0 k y0 y1 y2 y3 y4) (tables_SegmentMaps_Map.j0 (k + 1) y0 y1 y2 y3 y4)) ∧ (∀ y0 y1 y2 y3, LeO (tables_SegmentMaps_Map.j1 k y0 y1 y2 y3) (tables_SegmentMaps_Map.j1 (k + 1) y0 y1 y2 y3)) ∧ (∀ y0 y1 y2 y3 y4, LeO (tables_SegmentMaps_Map.j2 k y0 y1 y2 y3 y4) (tables_SegmentMaps_Map.j2 (k + 1) y0 y1 y2 y3 y4)) ∧ (∀ y0 y1 y2 y3, LeO (tables_SegmentMaps_Map.j3 k y0 y1 y2 y3) (tables_SegmentMaps_Map.j3 (k + 1) y0 y1 y2 y3)) ∧ (∀ y0 y1 y2 y3 y4, LeO (tables_SegmentMaps_Map.j5 k y0 y1 y2 y3 y4) (tables_SegmentMaps_Map.j5 (k + 1) y0 y1 y2 y3 y4)) ∧ (∀ y0 y1 y2 y3, LeO (tables_SegmentMaps_Map.j7 k y0 y1 y2 y3) (tables_SegmentMaps_Map.j7 (k + 1) y0 y1 y2 y3)) ∧ (∀ y0 y1 y2 y3 y4, LeO (tables_SegmentMaps_Map.l1 k y0 y1 y2 y3 y4) (tables_SegmentMaps_Map.l1 (k + 1) y0 y1 y2 y3 y4)) ∧ (∀ y0 y1 y2 y3, LeO (tables_SegmentMaps_Map.j9 k y0 y1 y2 y3) (tables_SegmentMaps_Map.j9 (k + 1) y0 y1 y2 y3)) ∧ (∀ y0 y1 y2 y3, LeO (tables_SegmentMaps_Map.l2 k y0 y1 y2 y3) (tables_SegmentMaps_Map.l2 (k + 1) y0 y1 y2 y3)) ∧ (∀ y0 y1 y2 y3 y4, LeO (tables_SegmentMaps_Map.l0 k y0 y1 y2 y3 y4) (tables_SegmentMaps_Map.l0 (k + 1) y0 y1 y2 y3 y4))
 | 0 => ⟨fun _ _ _ _ _ r h => by simp [tables_SegmentMaps_Map.j0] at h, fun _ _ _ _ r h => by simp [tables_SegmentMaps_Map.j1] at h, fun _ _ _ _ _ r h => by simp [tables_SegmentMaps_Map.j2] at h, fun _ _ _ _ r h => by simp [tables_SegmentMaps_Map.j3] at h, fun _ _ _ _ _ r h => by simp [tables_SegmentMaps_Map.j5] at h, fun _ _ _ _ r h => by simp [tables_SegmentMaps_Map.j7] at h, fun _ _ _ _ _ r h => by simp [tables_SegmentMaps_Map.l1] at h, fun _ _ _ _ r h => by simp [tables_SegmentMaps_Map.j9] at h, fun _ _ _ _ r h => by simp [tables_SegmentMaps_Map.l2] at h, fun _ _ _ _ _ r h => by simp [tables_SegmentMaps_Map.l0] at h⟩
 | k + 1 => by
  obtain ⟨ih0, ih1, ih2, ih3, ih4, ih5, ih6, ih7, ih8, ih9⟩ := tables_SegmentMaps_Map.mono_l k
  refine ⟨?_, ?_, ?_, ?_, ?_, ?_, ?_, ?_, ?_, ?_⟩
  ·intro y0 y1 y2 y3 y4
   unfold tables_SegmentMaps_Map.j0
   repeat' first
   | (with_reducible exact ih0 _ _ _ _ _)
   | (with_reducible exact ih1 _ _ _ _)
   | (with_reducible exact ih2 _ _ _ _ _)
   | (with_reducible exact ih3 _ _ _ _)
   | (with_reducible exact ih4 _ _ _ _ _)
   | (with_reducible exact ih5 _ _ _ _)
   | (with_reducible exact ih6 _ _ _ _ _)
   | (with_reducible exact ih7 _ _ _ _)
   | (with_reducible exact ih8 _ _ _ _)
   | (with_reducible exact ih9 _ _ _ _ _)
   | (with_reducible exact LeO.refl _)
   | (with_reducible exact LeO.none _)
   | (with_reducible refine LeO.ite ?_ ?_)
   | (with_reducible refine LeO.bind ?_ (fun _ => ?_))
   | exact ih0 _ _ _ _ _
   | exact ih1 _ _ _ _
   | exact ih2 _ _ _ _ _
   | exact ih3 _ _ _ _
   | exact ih4 _ _ _ _ _
   | exact ih5 _ _ _ _
   | exact ih6 _ _ _ _ _
   | exact ih7 _ _ _ _
   | exact ih8 _ _ _ _
   | exact ih9 _ _ _ _ _
   | exact LeO.none _
   | refine LeO.ite ?_ ?_
   | refine LeO.bind ?_ (fun _ => ?_)
  ·intro y0 y1 y2 y3
   unfold tables_SegmentMaps_Map.j1
   repeat' first
   | (with_reducible exact ih0 _ _ _ _ _)
   | (with_reducible exact ih1 _ _ _ _)
   | (with_reducible exact ih2 _ _ _ _ _)
   | (with_reducible exact ih3 _ _ _ _)
   | (with_reducible exact ih4 _ _ _ _ _)
   | (with_reducible exact ih5 _ _ _ _)
   | (with_reducible exact ih6 _ _ _ _ _)
   | (with_reducible exact ih7 _ _ _ _)
   | (with_reducible exact ih8 _ _ _ _)
   | (with_reducible exact ih9 _ _ _ _ _)
   | (with_reducible exact LeO.refl _)
   | (with_reducible exact LeO.none _)
   | (with_reducible refine LeO.ite ?_ ?_)
   | (with_reducible refine LeO.bind ?_ (fun _ => ?_))
   | exact ih0 _ _ _ _ _
   | exact ih1 _ _ _ _
   | exact ih2 _ _ _ _ _
   | exact ih3 _ _ _ _
   | exact ih4 _ _ _ _ _
   | exact ih5 _ _ _ _
   | exact ih6 _ _ _ _ _
   | exact ih7 _ _ _ _
   | exact ih8 _ _ _ _
   | exact ih9 _ _ _ _ _
   | exact LeO.none _
   | refine LeO.ite ?_ ?_
   | refine LeO.bind ?_ (fun _ => ?_)
  ·intro y0 y1 y2 y3 y4
   unfold tables_SegmentMaps_Map.j2
   repeat' first
   | (with_reducible exact ih0 _ _ _ _ _)
   | (with_reducible exact ih1 _ _ _ _)
   | (with_reducible exact ih2 _ _ _ _ _)
   | (with_reducible exact ih3 _ _ _ _)
   | (with_reducible exact ih4 _ _ _ _ _)
   | (with_reducible exact ih5 _ _ _ _)
   | (with_reducible exact ih6 _ _ _ _ _)
   | (with_reducible exact ih7 _ _ _ _)
   | (with_reducible exact ih8 _ _ _ _)
   | (with_reducible exact ih9 _ _ _ _ _)
   | (with_reducible exact LeO.refl _)
   | (with_reducible exact LeO.none _)
   | (with_reducible refine LeO.ite ?_ ?_)
   | (with_reducible refine LeO.bind ?_ (fun _ => ?_))
   | exact ih0 _ _ _ _ _
   | exact ih1 _ _ _ _
   | exact ih2 _ _ _ _ _
   | exact ih3 _ _ _ _
   | exact ih4 _ _ _ _ _
   | exact ih5 _ _ _ _
   | exact ih6 _ _ _ _ _
   | exact ih7 _ _ _ _
   | exact ih8 _ _ _ _
   | exact ih9 _ _ _ _ _
   | exact LeO.none _
   | refine LeO.ite ?_ ?_
   | refine LeO.bind ?_ (fun _ => ?_)
  ·intro y0 y1 y2 y3
   unfold tables_SegmentMaps_Map.j3
   repeat' first
   | (with_reducible exact ih0 _ _ _ _ _)
   | (with_reducible exact ih1 _ _ _ _)
   | (with_reducible exact ih2 _ _ _ _ _)
   | (with_reducible exact ih3 _ _ _ _)
   | (with_reducible exact ih4 _ _ _ _ _)
   | (with_reducible exact ih5 _ _ _ _)
   | (with_reducible exact ih6 _ _ _ _ _)
   | (with_reducible exact ih7 _ _ _ _)
   | (with_reducible exact ih8 _ _ _ _)
   | (with_reducible exact ih9 _ _ _ _ _)
   | (with_reducible exact LeO.refl _)
   | (with_reducible exact LeO.none _)
   | (with_reducible refine LeO.ite ?_ ?_)
   | (with_reducible refine LeO.bind ?_ (fun _ => ?_))
   | exact ih0 _ _ _ _ _
   | exact ih1 _ _ _ _
   | exact ih2 _ _ _ _ _
   | exact ih3 _ _ _ _
   | exact ih4 _ _ _ _ _
   | exact ih5 _ _ _ _
   | exact ih6 _ _ _ _ _
   | exact ih7 _ _ _ _
   | exact ih8 _ _ _ _
   | exact ih9 _ _ _ _ _
   | exact LeO.none _
   | refine LeO.ite ?_ ?_
   | refine LeO.bind ?_ (fun _ => ?_)
  ·intro y0 y1 y2 y3 y4
   unfold tables_SegmentMaps_Map.j5
   repeat' first
   | (with_reducible exact ih0 _ _ _ _ _)
   | (with_reducible exact ih1 _ _ _ _)
   | (with_reducible exact ih2 _ _ _ _ _)
   | (with_reducible exact ih3 _ _ _ _)
   | (with_reducible exact ih4 _ _ _ _ _)
   | (with_reducible exact ih5 _ _ _ _)
   | (with_reducible exact ih6 _ _ _ _ _)
   | (with_reducible exact ih7 _ _ _ _)
   | (with_reducible exact ih8 _ _ _ _)
   | (with_reducible exact ih9 _ _ _ _ _)
   | (with_reducible exact LeO.refl _)
   | (with_reducible exact LeO.none _)
   | (with_reducible refine LeO.ite ?_ ?_)
   | (with_reducible refine LeO.bind ?_ (fun _ => ?_))
   | exact ih0 _ _ _ _ _
   | exact ih1 _ _ _ _
   | exact ih2 _ _ _ _ _
   | exact ih3 _ _ _ _
   | exact ih4 _ _ _ _ _
   | exact ih5 _ _ _ _
   | exact ih6 _ _ _ _ _
   | exact ih7 _ _ _ _
   | exact ih8 _ _ _ _
   | exact ih9 _ _ _ _ _
   | exact LeO.none _
   | refine LeO.ite ?_ ?_
   | refine LeO.bind ?_ (fun _ => ?_)
  ·intro y0 y1 y2 y3
   unfold tables_SegmentMaps_Map.j7
   repeat' first
   | (with_reducible exact ih0 _ _ _ _ _)
   | (with_reducible exact ih1 _ _ _ _)
   | (with_reducible exact ih2 _ _ _ _ _)
   | (with_reducible exact ih3 _ _ _ _)
   | (with_reducible exact ih4 _ _ _ _ _)
   | (with_reducible exact ih5 _ _ _ _)
   | (with_reducible exact ih6 _ _ _ _ _)
   | (with_reducible exact ih7 _ _ _ _)
   | (with_reducible exact ih8 _ _ _ _)
   | (with_reducible exact ih9 _ _ _ _ _)
   | (with_reducible exact LeO.refl _)
   | (with_reducible exact LeO.none _)
   | (with_reducible refine LeO.ite ?_ ?_)
   | (with_reducible refine LeO.bind ?_ (fun _ => ?_))
   | exact ih0 _ _ _ _ _
   | exact ih1 _ _ _ _
   | exact ih2 _ _ _ _ _
   | exact ih3 _ _ _ _
   | exact ih4 _ _ _ _ _
   | exact ih5 _ _ _ _
   | exact ih6 _ _ _ _ _
   | exact ih7 _ _ _ _
   | exact ih8 _ _ _ _
   | exact ih9 _ _ _ _ _
   | exact LeO.none _
   | refine LeO.ite ?_ ?_
   | refine LeO.bind ?_ (fun _ => ?_)
  ·intro y0 y1 y2 y3 y4
   unfold tables_SegmentMaps_Map.l1
   repeat' first
   | (with_reducible exact ih0 _ _ _ _ _)
   | (with_reducible exact ih1 _ _ _ _)
   | (with_reducible exact ih2 _ _ _ _ _)
   | (with_reducible exact ih3 _ _ _ _)
   | (with_reducible exact ih4 _ _ _ _ _)
   | (with_reducible exact ih5 _ _ _ _)
   | (with_reducible exact ih6 _ _ _ _ _)
   | (with_reducible exact ih7 _ _ _ _)
   | (with_reducible exact ih8 _ _ _ _)
   | (with_reducible exact ih9 _ _ _ _ _)
   | (with_reducible exact LeO.refl _)
   | (with_reducible exact LeO.none _)
   | (with_reducible refine LeO.ite ?_ ?_)
   | (with_reducible refine LeO.bind ?_ (fun _ => ?_))
   | exact ih0 _ _ _ _ _
   | exact ih1 _ _ _ _
   | exact ih2 _ _ _ _ _
   | exact ih3 _ _ _ _
   | exact ih4 _ _ _ _ _
   | exact ih5 _ _ _ _
   | exact ih6 _ _ _ _ _
   | exact ih7 _ _ _ _
   | exact ih8 _ _ _ _
   | exact ih9 _ _ _ _ _
   | exact LeO.none _
   | refine LeO.ite ?_ ?_
   | refine LeO.bind ?_ (fun _ => ?_)
  ·intro y0 y1 y2 y3
   unfold tables_SegmentMaps_Map.j9
   repeat' first
   | (with_reducible exact ih0 _ _ _ _ _)
   | (with_reducible exact ih1 _ _ _ _)
   | (with_reducible exact ih2 _ _ _ _ _)
   | (with_reducible exact ih3 _ _ _ _)
   | (with_reducible exact ih4 _ _ _ _ _)
   | (with_reducible exact ih5 _ _ _ _)
   | (with_reducible exact ih6 _ _ _ _ _)
   | (with_reducible exact ih7 _ _ _ _)
   | (with_reducible exact ih8 _ _ _ _)
   | (with_reducible exact ih9 _ _ _ _ _)
   | (with_reducible exact LeO.refl _)
   | (with_reducible exact LeO.none _)
   | (with_reducible refine LeO.ite ?_ ?_)
   | (with_reducible refine LeO.bind ?_ (fun _ => ?_))
   | exact ih0 _ _ _ _ _
   | exact ih1 _ _ _ _
   | exact ih2 _ _ _ _ _
   | exact ih3 _ _ _ _
   | exact ih4 _ _ _ _ _
   | exact ih5 _ _ _ _
   | exact ih6 _ _ _ _ _
   | exact ih7 _ _ _ _
   | exact ih8 _ _ _ _
   | exact ih9 _ _ _ _ _
   | exact LeO.none _
   | refine LeO.ite ?_ ?_
   | refine LeO.bind ?_ (fun _ => ?_)
  ·intro y0 y1 y2 y3
   unfold tables_SegmentMaps_Map.l2
   repeat' first
   | (with_reducible exact ih0 _ _ _ _ _)
   | (with_reducible exact ih1 _ _ _ _)
   | (with_reducible exact ih2 _ _ _ _ _)
   | (with_reducible exact ih3 _ _ _ _)
   | (with_reducible exact ih4 _ _ _ _ _)
   | (with_reducible exact ih5 _ _ _ _)
   | (with_reducible exact ih6 _ _ _ _ _)
   | (with_reducible exact ih7 _ _ _ _)
   | (with_reducible exact ih8 _ _ _ _)
   | (with_reducible exact ih9 _ _ _ _ _)
   | (with_reducible exact LeO.refl _)
   | (with_reducible exact LeO.none _)
   | (with_reducible refine LeO.ite ?_ ?_)
   | (with_reducible refine LeO.bind ?_ (fun _ => ?_))
   | exact ih0 _ _ _ _ _
   | exact ih1 _ _ _ _
   | exact ih2 _ _ _ _ _
   | exact ih3 _ _ _ _
   | exact ih4 _ _ _ _ _
   | exact ih5 _ _ _ _
   | exact ih6 _ _ _ _ _
   | exact ih7 _ _ _ _
   | exact ih8 _ _ _ _
   | exact ih9 _ _ _ _ _
   | exact LeO.none _
   | refine LeO.ite ?_ ?_
   | refine LeO.bind ?_ (fun _ => ?_)
  ·intro y0 y1 y2 y3 y4
   unfold tables_SegmentMaps_Map.l0
   repeat' first
   | (with_reducible exact ih0 _ _ _ _ _)
   | (with_reducible exact ih1 _ _ _ _)
   | (with_reducible exact ih2 _ _ _ _ _)
   | (with_reducible exact ih3 _ _ _ _)
   | (with_reducible exact ih4 _ _ _ _ _)
   | (with_reducible exact ih5 _ _ _ _)
   | (with_reducible exact ih6 _ _ _ _ _)
   | (with_reducible exact ih7 _ _ _ _)
   | (with_reducible exact ih8 _ _ _ _)
   | (with_reducible exact ih9 _ _ _ _ _)
   | (with_reducible exact LeO.refl _)
   | (with_reducible exact LeO.none _)
   | (with_reducible refine LeO.ite ?_ ?_)
   | (with_reducible refine LeO.bind ?_ (fun _ => ?_))
   | exact ih0 _ _ _ _ _
   | exact ih1 _ _ _ _
   | exact ih2 _ _ _ _ _
   | exact ih3 _ _ _ _
   | exact ih4 _ _ _ _ _
   | exact ih5 _ _ _ _
   | exact ih6 _ _ _ _ _
   | exact ih7 _ _ _ _
   | exact ih8 _ _ _ _
   | exact ih9 _ _ _ _ _
   | exact LeO.none _
   | refine LeO.ite ?_ ?_
   | refine LeO.bind ?_ (fun _ => ?_)
theorem tables_SegmentMaps_Map.mono : ∀ a0 a1 k, LeO (tables_SegmentMaps_Map.f k a0 a1) (tables_SegmentMaps_Map.f (k + 1) a0 a1) := by
 intro a0 a1 k
 obtain ⟨ih0, ih1, ih2, ih3, ih4, ih5, ih6, ih7, ih8, ih9⟩ := tables_SegmentMaps_Map.mono_l k
 unfold tables_SegmentMaps_Map.f
 repeat' first
   | (with_reducible exact ih0 _ _ _ _ _)
   | (with_reducible exact ih1 _ _ _ _)
   | (with_reducible exact ih2 _ _ _ _ _)
   | (with_reducible exact ih3 _ _ _ _)
   | (with_reducible exact ih4 _ _ _ _ _)
   | (with_reducible exact ih5 _ _ _ _)
   | (with_reducible exact ih6 _ _ _ _ _)
   | (with_reducible exact ih7 _ _ _ _)
   | (with_reducible exact ih8 _ _ _ _)
   | (with_reducible exact ih9 _ _ _ _ _)
   | (with_reducible exact LeO.refl _)
   | (with_reducible exact LeO.none _)
   | (with_reducible refine LeO.ite ?_ ?_)
   | (with_reducible refine LeO.bind ?_ (fun _ => ?_))
   | exact ih0 _ _ _ _ _
   | exact ih1 _ _ _ _
   | exact ih2 _ _ _ _ _
   | exact ih3 _ _ _ _
   | exact ih4 _ _ _ _ _
   | exact ih5 _ _ _ _
   | exact ih6 _ _ _ _ _
   | exact ih7 _ _ _ _
   | exact ih8 _ _ _ _
   | exact ih9 _ _ _ _ _
   | exact LeO.none _
   | refine LeO.ite ?_ ?_
   | refine LeO.bind ?_ (fun _ => ?_)
set_option maxHeartbeats 8000000 in
set_option maxRecDepth 100000 in
theorem tables_SegmentMaps_Map.calls (k : Nat) (A0_0 : Option Addr) (c0_0 : Nat) (l0_0 : List (S177)) (a1 : Int) (r : Int) (w : World) (hr0_0 : Kd.C k177 w A0_0 l0_0.length l0_0) (hc0_0 : l0_0.length ≤ c0_0) (h : tables_SegmentMaps_Map.f k l0_0 a1 = some r) :
  Calls Try.prog 89 #[.agg #[.slice A0_0 l0_0.length c0_0], .int .i16 a1] w fun e w' => e = .returned (.int .i16 r) ∧ Below w.heap.size w w' := by
 have hu174 := Try.underlying174
 have hu177 := Try.underlying177
 have HR0_0 := Aside0.mk hr0_0
 have HC0_0 := Aside0.mk hc0_0
 clear hr0_0 hc0_0
 have HB := Aside0.mk (Below.refl w.heap.size w)
 have H : (if (l0_0.length : Int) = 0 then (some a1) else (if (l0_0.length : Int) = 1 then (if 0 < (l0_0.length : Int) then (some (IntKind.i16.wrap ((IntKind.i16.wrap (a1 - ((rd_T177 l0_0 0).f0))) + ((rd_T177 l0_0 0).f1)))) else (none)) else (if 0 < (l0_0.length : Int) then (if ((rd_T177 l0_0 0).f0) = (-16384) then (if ((rd_T177 l0_0 0).f1) = (-16384) then (if 0 ≤ ((0 : Int) + 1) then (if ((0 : Int) + 1) < (l0_0.length : Int) then (tables_SegmentMaps_Map.j0 k a1 l0_0 0 (l0_0.length : Int) (((rd_T177 l0_0 ((0 : Int) + 1)).f0) == (-16384))) else (none)) else (none)) else (tables_SegmentMaps_Map.j0 k a1 l0_0 0 (l0_0.length : Int) false)) else (tables_SegmentMaps_Map.j0 k a1 l0_0 0 (l0_0.length : Int) false)) else (none)))) = some r := h
 clear h
 by_cases c3 : (l0_0.length : Int) = 0
 · as_aux_lemma =>
   rw [if_pos c3] at H
   have c3b0 : ((l0_0.length : Int) == 0) = true := beq_iff_eq.mpr c3
   have c3b1 : ((l0_0.length : Int) != 0) = false := bne_eq_false_iff_eq.mpr c3
   clear c3
   obtain rfl := Option.some.inj H
   go_enter Try.func89, Try.ntmps89
   go_wp2_with (first | ((with_reducible refine gate_dst (N := 2) rfl ?_); refine box_event ?hg (N := 2) ?hd (cs := #[.slice A0_0 l0_0.length c0_0]) (t := 174) ?hr ?_; (case hd => rfl); (case hg => rfl); (case hr => first | (go_simp; done) | (go_simp; rfl)); intro gb194 hg w4 hbox hb; have n0_ := Aside0.mk (below_step (by repeat (first | (with_reducible first | exact HB.out | apply below_alloc | apply pw_below_drewN | apply below_drew1) | exact HB.out)) hb); have n1_ := Aside0.mk (hbox); have n2_ := Aside0.mk ((by rw [hg]; exact (below_size (by repeat (first | (with_reducible first | exact HB.out | apply below_alloc | apply pw_below_drewN | apply below_drew1) | exact HB.out))) : w.heap.size ≤ gb194)); have n3_ := Aside0.mk ((by rw [hg]; exact (below_size (by repeat (first | (with_reducible first | exact HB.out | apply below_alloc | apply pw_below_drewN | apply below_drew1) | exact HB.out))) : w.heap.size ≤ gb194)); clear HB; have HB := n0_; have BK194 := n1_; have GW194 := n2_; have GE194 := n3_; clear n0_ n1_ n2_ n3_; clear hb hbox hg; have hcz5_0 : w4.cell? ⟨gb194, 0, none⟩ = some (.slice A0_0 l0_0.length c0_0) := (blk_cell BK194.out 0).trans rfl; have hfz5_0 := blk_frozen BK194.out 0))
   repeat (go_quiet (first | ((with_reducible refine gate_dst (N := 2) rfl ?_); refine box_event ?hg (N := 2) ?hd (cs := #[.slice A0_0 l0_0.length c0_0]) (t := 174) ?hr ?_; (case hd => rfl); (case hg => rfl); (case hr => first | (go_simp; done) | (go_simp; rfl)); intro gb194 hg w4 hbox hb; have n0_ := Aside0.mk (below_step (by repeat (first | (with_reducible first | exact HB.out | apply below_alloc | apply pw_below_drewN | apply below_drew1) | exact HB.out)) hb); have n1_ := Aside0.mk (hbox); have n2_ := Aside0.mk ((by rw [hg]; exact (below_size (by repeat (first | (with_reducible first | exact HB.out | apply below_alloc | apply pw_below_drewN | apply below_drew1) | exact HB.out))) : w.heap.size ≤ gb194)); have n3_ := Aside0.mk ((by rw [hg]; exact (below_size (by repeat (first | (with_reducible first | exact HB.out | apply below_alloc | apply pw_below_drewN | apply below_drew1) | exact HB.out))) : w.heap.size ≤ gb194)); clear HB; have HB := n0_; have BK194 := n1_; have GW194 := n2_; have GE194 := n3_; clear n0_ n1_ n2_ n3_; clear hb hbox hg; have hcz5_0 : w4.cell? ⟨gb194, 0, none⟩ = some (.slice A0_0 l0_0.length c0_0) := (blk_cell BK194.out 0).trans rfl; have hfz5_0 := blk_frozen BK194.out 0)); try go_wp2_with (first | ((with_reducible refine gate_dst (N := 2) rfl ?_); refine box_event ?hg (N := 2) ?hd (cs := #[.slice A0_0 l0_0.length c0_0]) (t := 174) ?hr ?_; (case hd => rfl); (case hg => rfl); (case hr => first | (go_simp; done) | (go_simp; rfl)); intro gb194 hg w4 hbox hb; have n0_ := Aside0.mk (below_step (by repeat (first | (with_reducible first | exact HB.out | apply below_alloc | apply pw_below_drewN | apply below_drew1) | exact HB.out)) hb); have n1_ := Aside0.mk (hbox); have n2_ := Aside0.mk ((by rw [hg]; exact (below_size (by repeat (first | (with_reducible first | exact HB.out | apply below_alloc | apply pw_below_drewN | apply below_drew1) | exact HB.out))) : w.heap.size ≤ gb194)); have n3_ := Aside0.mk ((by rw [hg]; exact (below_size (by repeat (first | (with_reducible first | exact HB.out | apply below_alloc | apply pw_below_drewN | apply below_drew1) | exact HB.out))) : w.heap.size ≤ gb194)); clear HB; have HB := n0_; have BK194 := n1_; have GW194 := n2_; have GE194 := n3_; clear n0_ n1_ n2_ n3_; clear hb hbox hg; have hcz5_0 : w4.cell? ⟨gb194, 0, none⟩ = some (.slice A0_0 l0_0.length c0_0) := (blk_cell BK194.out 0).trans rfl; have hfz5_0 := blk_frozen BK194.out 0)))
   go_ret
   exact ⟨by first | rfl | (simp [errW_none, errW_some] <;> rfl) | (simp [*, errW_none, errW_some] <;> rfl), by repeat (first | (with_reducible first | exact HB.out | apply below_alloc | apply pw_below_drewN | apply below_drew1 | refine below_set ?_ GE194.out) | exact HB.out)⟩
 ·rw [if_neg c3] at H
  have c3b0 : ((l0_0.length : Int) == 0) = false := beq_eq_false_iff_ne.mpr c3
  have c3b1 : ((l0_0.length : Int) != 0) = true := bne_iff_ne.mpr c3
  have c3b2 : ¬ (l0_0 = []) := fun h_ => c3 (by rw [h_]; rfl)
  by_cases c6 : (l0_0.length : Int) = 1
  ·rw [if_pos c6] at H
   have c6b0 : ((l0_0.length : Int) == 1) = true := beq_iff_eq.mpr c6
   have c6b1 : ((l0_0.length : Int) != 1) = false := bne_eq_false_iff_eq.mpr c6
   clear c6
   by_cases c7 : 0 < (l0_0.length : Int)
   · as_aux_lemma =>
     rw [if_pos c7] at H
     have c7b0 : decide (0 < (l0_0.length : Int)) = true := decide_eq_true c7
     have c7b1 : decide (0 < l0_0.length) = true := decide_eq_true (by omega)
     clear c7
     obtain rfl := Option.some.inj H
     go_enter Try.func89, Try.ntmps89
     go_wp2_with (first | ((with_reducible refine gate_dst (N := 2) rfl ?_); refine box_event ?hg (N := 2) ?hd (cs := #[.slice A0_0 l0_0.length c0_0]) (t := 174) ?hr ?_; (case hd => rfl); (case hg => rfl); (case hr => first | (go_simp; done) | (go_simp; rfl)); intro gb194 hg w8 hbox hb; have n0_ := Aside0.mk (below_step (by repeat (first | (with_reducible first | exact HB.out | apply below_alloc | apply pw_below_drewN | apply below_drew1) | exact HB.out)) hb); have n1_ := Aside0.mk (hbox); have n2_ := Aside0.mk ((by rw [hg]; exact (below_size (by repeat (first | (with_reducible first | exact HB.out | apply below_alloc | apply pw_below_drewN | apply below_drew1) | exact HB.out))) : w.heap.size ≤ gb194)); have n3_ := Aside0.mk ((by rw [hg]; exact (below_size (by repeat (first | (with_reducible first | exact HB.out | apply below_alloc | apply pw_below_drewN | apply below_drew1) | exact HB.out))) : w.heap.size ≤ gb194)); clear HB; have HB := n0_; have BK194 := n1_; have GW194 := n2_; have GE194 := n3_; clear n0_ n1_ n2_ n3_; clear hb hbox hg; have hcz9_0 : w8.cell? ⟨gb194, 0, none⟩ = some (.slice A0_0 l0_0.length c0_0) := (blk_cell BK194.out 0).trans rfl; have hfz9_0 := blk_frozen BK194.out 0; have p195 : 0 ≤ (0 : Int) := (by omega); have q195 : 0 < (l0_0.length : Int) := of_decide_eq_true (by first | (with_reducible assumption) | assumption); obtain ⟨ad195, e195, hx195_0, hx195_1⟩ := at_T177 HR0_0.out 0 p195 q195; cases e195; have qi195 : (0 < l0_0.length) = True := eq_true (by omega); (try rw [show ((0 : Int)).toNat = 0 from rfl] at hx195_0); (try rw [show 0 * 2 = 0 from rfl] at hx195_0); (try rw [Addr.add_zero'] at hx195_0); (try rw [show ((0 : Int)).toNat = 0 from rfl] at hx195_1); (try rw [show 0 * 2 = 0 from rfl] at hx195_1); (try rw [Addr.add_zero'] at hx195_1); replace hx195_0 := (HB.out.cell (World.block_lt_of_cell? w _ hx195_0)).trans hx195_0; replace hx195_1 := (HB.out.cell (World.block_lt_of_cell? w _ hx195_1)).trans hx195_1; replace p195 := eq_true p195; replace q195 := eq_true q195; have p196 : 0 ≤ (0 : Int) := (by omega); have q196 : 0 < (l0_0.length : Int) := of_decide_eq_true (by first | (with_reducible assumption) | assumption); obtain ⟨ad196, e196, hx196_0, hx196_1⟩ := at_T177 HR0_0.out 0 p196 q196; obtain rfl : ad195 = ad196 := (by injection e196); have qi196 : (0 < l0_0.length) = True := eq_true (by omega); (try rw [show ((0 : Int)).toNat = 0 from rfl] at hx196_0); (try rw [show 0 * 2 = 0 from rfl] at hx196_0); (try rw [Addr.add_zero'] at hx196_0); (try rw [show ((0 : Int)).toNat = 0 from rfl] at hx196_1); (try rw [show 0 * 2 = 0 from rfl] at hx196_1); (try rw [Addr.add_zero'] at hx196_1); replace hx196_0 := (HB.out.cell (World.block_lt_of_cell? w _ hx196_0)).trans hx196_0; replace hx196_1 := (HB.out.cell (World.block_lt_of_cell? w _ hx196_1)).trans hx196_1; replace p196 := eq_true p196; replace q196 := eq_true q196))
     repeat (go_quiet (first | ((with_reducible refine gate_dst (N := 2) rfl ?_); refine box_event ?hg (N := 2) ?hd (cs := #[.slice A0_0 l0_0.length c0_0]) (t := 174) ?hr ?_; (case hd => rfl); (case hg => rfl); (case hr => first | (go_simp; done) | (go_simp; rfl)); intro gb194 hg w8 hbox hb; have n0_ := Aside0.mk (below_step (by repeat (first | (with_reducible first | exact HB.out | apply below_alloc | apply pw_below_drewN | apply below_drew1) | exact HB.out)) hb); have n1_ := Aside0.mk (hbox); have n2_ := Aside0.mk ((by rw [hg]; exact (below_size (by repeat (first | (with_reducible first | exact HB.out | apply below_alloc | apply pw_below_drewN | apply below_drew1) | exact HB.out))) : w.heap.size ≤ gb194)); have n3_ := Aside0.mk ((by rw [hg]; exact (below_size (by repeat (first | (with_reducible first | exact HB.out | apply below_alloc | apply pw_below_drewN | apply below_drew1) | exact HB.out))) : w.heap.size ≤ gb194)); clear HB; have HB := n0_; have BK194 := n1_; have GW194 := n2_; have GE194 := n3_; clear n0_ n1_ n2_ n3_; clear hb hbox hg; have hcz9_0 : w8.cell? ⟨gb194, 0, none⟩ = some (.slice A0_0 l0_0.length c0_0) := (blk_cell BK194.out 0).trans rfl; have hfz9_0 := blk_frozen BK194.out 0; have p195 : 0 ≤ (0 : Int) := (by omega); have q195 : 0 < (l0_0.length : Int) := of_decide_eq_true (by first | (with_reducible assumption) | assumption); obtain ⟨ad195, e195, hx195_0, hx195_1⟩ := at_T177 HR0_0.out 0 p195 q195; cases e195; have qi195 : (0 < l0_0.length) = True := eq_true (by omega); (try rw [show ((0 : Int)).toNat = 0 from rfl] at hx195_0); (try rw [show 0 * 2 = 0 from rfl] at hx195_0); (try rw [Addr.add_zero'] at hx195_0); (try rw [show ((0 : Int)).toNat = 0 from rfl] at hx195_1); (try rw [show 0 * 2 = 0 from rfl] at hx195_1); (try rw [Addr.add_zero'] at hx195_1); replace hx195_0 := (HB.out.cell (World.block_lt_of_cell? w _ hx195_0)).trans hx195_0; replace hx195_1 := (HB.out.cell (World.block_lt_of_cell? w _ hx195_1)).trans hx195_1; replace p195 := eq_true p195; replace q195 := eq_true q195; have p196 : 0 ≤ (0 : Int) := (by omega); have q196 : 0 < (l0_0.length : Int) := of_decide_eq_true (by first | (with_reducible assumption) | assumption); obtain ⟨ad196, e196, hx196_0, hx196_1⟩ := at_T177 HR0_0.out 0 p196 q196; obtain rfl : ad195 = ad196 := (by injection e196); have qi196 : (0 < l0_0.length) = True := eq_true (by omega); (try rw [show ((0 : Int)).toNat = 0 from rfl] at hx196_0); (try rw [show 0 * 2 = 0 from rfl] at hx196_0); (try rw [Addr.add_zero'] at hx196_0); (try rw [show ((0 : Int)).toNat = 0 from rfl] at hx196_1); (try rw [show 0 * 2 = 0 from rfl] at hx196_1); (try rw [Addr.add_zero'] at hx196_1); replace hx196_0 := (HB.out.cell (World.block_lt_of_cell? w _ hx196_0)).trans hx196_0; replace hx196_1 := (HB.out.cell (World.block_lt_of_cell? w _ hx196_1)).trans hx196_1; replace p196 := eq_true p196; replace q196 := eq_true q196)); try go_wp2_with (first | ((with_reducible refine gate_dst (N := 2) rfl ?_); refine box_event ?hg (N := 2) ?hd (cs := #[.slice A0_0 l0_0.length c0_0]) (t := 174) ?hr ?_; (case hd => rfl); (case hg => rfl); (case hr => first | (go_simp; done) | (go_simp; rfl)); intro gb194 hg w8 hbox hb; have n0_ := Aside0.mk (below_step (by repeat (first | (with_reducible first | exact HB.out | apply below_alloc | apply pw_below_drewN | apply below_drew1) | exact HB.out)) hb); have n1_ := Aside0.mk (hbox); have n2_ := Aside0.mk ((by rw [hg]; exact (below_size (by repeat (first | (with_reducible first | exact HB.out | apply below_alloc | apply pw_below_drewN | apply below_drew1) | exact HB.out))) : w.heap.size ≤ gb194)); have n3_ := Aside0.mk ((by rw [hg]; exact (below_size (by repeat (first | (with_reducible first | exact HB.out | apply below_alloc | apply pw_below_drewN | apply below_drew1) | exact HB.out))) : w.heap.size ≤ gb194)); clear HB; have HB := n0_; have BK194 := n1_; have GW194 := n2_; have GE194 := n3_; clear n0_ n1_ n2_ n3_; clear hb hbox hg; have hcz9_0 : w8.cell? ⟨gb194, 0, none⟩ = some (.slice A0_0 l0_0.length c0_0) := (blk_cell BK194.out 0).trans rfl; have hfz9_0 := blk_frozen BK194.out 0; have p195 : 0 ≤ (0 : Int) := (by omega); have q195 : 0 < (l0_0.length : Int) := of_decide_eq_true (by first | (with_reducible assumption) | assumption); obtain ⟨ad195, e195, hx195_0, hx195_1⟩ := at_T177 HR0_0.out 0 p195 q195; cases e195; have qi195 : (0 < l0_0.length) = True := eq_true (by omega); (try rw [show ((0 : Int)).toNat = 0 from rfl] at hx195_0); (try rw [show 0 * 2 = 0 from rfl] at hx195_0); (try rw [Addr.add_zero'] at hx195_0); (try rw [show ((0 : Int)).toNat = 0 from rfl] at hx195_1); (try rw [show 0 * 2 = 0 from rfl] at hx195_1); (try rw [Addr.add_zero'] at hx195_1); replace hx195_0 := (HB.out.cell (World.block_lt_of_cell? w _ hx195_0)).trans hx195_0; replace hx195_1 := (HB.out.cell (World.block_lt_of_cell? w _ hx195_1)).trans hx195_1; replace p195 := eq_true p195; replace q195 := eq_true q195; have p196 : 0 ≤ (0 : Int) := (by omega); have q196 : 0 < (l0_0.length : Int) := of_decide_eq_true (by first | (with_reducible assumption) | assumption); obtain ⟨ad196, e196, hx196_0, hx196_1⟩ := at_T177 HR0_0.out 0 p196 q196; obtain rfl : ad195 = ad196 := (by injection e196); have qi196 : (0 < l0_0.length) = True := eq_true (by omega); (try rw [show ((0 : Int)).toNat = 0 from rfl] at hx196_0); (try rw [show 0 * 2 = 0 from rfl] at hx196_0); (try rw [Addr.add_zero'] at hx196_0); (try rw [show ((0 : Int)).toNat = 0 from rfl] at hx196_1); (try rw [show 0 * 2 = 0 from rfl] at hx196_1); (try rw [Addr.add_zero'] at hx196_1); replace hx196_0 := (HB.out.cell (World.block_lt_of_cell? w _ hx196_0)).trans hx196_0; replace hx196_1 := (HB.out.cell (World.block_lt_of_cell? w _ hx196_1)).trans hx196_1; replace p196 := eq_true p196; replace q196 := eq_true q196)))
     go_ret
     exact ⟨by first | rfl | (simp [errW_none, errW_some] <;> rfl) | (simp [*, errW_none, errW_some] <;> rfl), by repeat (first | (with_reducible first | exact HB.out | apply below_alloc | apply pw_below_drewN | apply below_drew1 | refine below_set ?_ GE194.out) | exact HB.out)⟩
   ·rw [if_neg c7] at H
    exact absurd H (by simp)
  ·rw [if_neg c6] at H
   have c6b0 : ((l0_0.length : Int) == 1) = false := beq_eq_false_iff_ne.mpr c6
   have c6b1 : ((l0_0.length : Int) != 1) = true := bne_iff_ne.mpr c6
   have HC10 := Aside0.mk H
   clear H
   go_enter Try.func89, Try.ntmps89
   go_upto_region 8 with (first | ((with_reducible refine gate_dst (N := 2) rfl ?_); refine box_event ?hg (N := 2) ?hd (cs := #[.slice A0_0 l0_0.length c0_0]) (t := 174) ?hr ?_; (case hd => rfl); (case hg => rfl); (case hr => first | (go_simp; done) | (go_simp; rfl)); intro gb194 hg w11 hbox hb; have n0_ := Aside0.mk (below_step (by repeat (first | (with_reducible first | exact HB.out | apply below_alloc | apply pw_below_drewN | apply below_drew1) | exact HB.out)) hb); have n1_ := Aside0.mk (hbox); have n2_ := Aside0.mk ((by rw [hg]; exact (below_size (by repeat (first | (with_reducible first | exact HB.out | apply below_alloc | apply pw_below_drewN | apply below_drew1) | exact HB.out))) : w.heap.size ≤ gb194)); have n3_ := Aside0.mk ((by rw [hg]; exact (below_size (by repeat (first | (with_reducible first | exact HB.out | apply below_alloc | apply pw_below_drewN | apply below_drew1) | exact HB.out))) : w.heap.size ≤ gb194)); clear HB; have HB := n0_; have BK194 := n1_; have GW194 := n2_; have GE194 := n3_; clear n0_ n1_ n2_ n3_; clear hb hbox hg; have hcz12_0 : w11.cell? ⟨gb194, 0, none⟩ = some (.slice A0_0 l0_0.length c0_0) := (blk_cell BK194.out 0).trans rfl; have hfz12_0 := blk_frozen BK194.out 0))
   repeat (go_quiet (first | ((with_reducible refine gate_dst (N := 2) rfl ?_); refine box_event ?hg (N := 2) ?hd (cs := #[.slice A0_0 l0_0.length c0_0]) (t := 174) ?hr ?_; (case hd => rfl); (case hg => rfl); (case hr => first | (go_simp; done) | (go_simp; rfl)); intro gb194 hg w11 hbox hb; have n0_ := Aside0.mk (below_step (by repeat (first | (with_reducible first | exact HB.out | apply below_alloc | apply pw_below_drewN | apply below_drew1) | exact HB.out)) hb); have n1_ := Aside0.mk (hbox); have n2_ := Aside0.mk ((by rw [hg]; exact (below_size (by repeat (first | (with_reducible first | exact HB.out | apply below_alloc | apply pw_below_drewN | apply below_drew1) | exact HB.out))) : w.heap.size ≤ gb194)); have n3_ := Aside0.mk ((by rw [hg]; exact (below_size (by repeat (first | (with_reducible first | exact HB.out | apply below_alloc | apply pw_below_drewN | apply below_drew1) | exact HB.out))) : w.heap.size ≤ gb194)); clear HB; have HB := n0_; have BK194 := n1_; have GW194 := n2_; have GE194 := n3_; clear n0_ n1_ n2_ n3_; clear hb hbox hg; have hcz12_0 : w11.cell? ⟨gb194, 0, none⟩ = some (.slice A0_0 l0_0.length c0_0) := (blk_cell BK194.out 0).trans rfl; have hfz12_0 := blk_frozen BK194.out 0)); go_upto_region 8 with (first | ((with_reducible refine gate_dst (N := 2) rfl ?_); refine box_event ?hg (N := 2) ?hd (cs := #[.slice A0_0 l0_0.length c0_0]) (t := 174) ?hr ?_; (case hd => rfl); (case hg => rfl); (case hr => first | (go_simp; done) | (go_simp; rfl)); intro gb194 hg w11 hbox hb; have n0_ := Aside0.mk (below_step (by repeat (first | (with_reducible first | exact HB.out | apply below_alloc | apply pw_below_drewN | apply below_drew1) | exact HB.out)) hb); have n1_ := Aside0.mk (hbox); have n2_ := Aside0.mk ((by rw [hg]; exact (below_size (by repeat (first | (with_reducible first | exact HB.out | apply below_alloc | apply pw_below_drewN | apply below_drew1) | exact HB.out))) : w.heap.size ≤ gb194)); have n3_ := Aside0.mk ((by rw [hg]; exact (below_size (by repeat (first | (with_reducible first | exact HB.out | apply below_alloc | apply pw_below_drewN | apply below_drew1) | exact HB.out))) : w.heap.size ≤ gb194)); clear HB; have HB := n0_; have BK194 := n1_; have GW194 := n2_; have GE194 := n3_; clear n0_ n1_ n2_ n3_; clear hb hbox hg; have hcz12_0 : w11.cell? ⟨gb194, 0, none⟩ = some (.slice A0_0 l0_0.length c0_0) := (blk_cell BK194.out 0).trans rfl; have hfz12_0 := blk_frozen BK194.out 0)))
   (try simp only [Act.put, L1_, L2_, L3_])
   go_cut [57] (fun v57 wc => ∃ (kq : Nat) (x57_9 : Bool), v57 = .bool x57_9 ∧ Aside0 (tables_SegmentMaps_Map.j0 kq a1 l0_0 0 (l0_0.length : Int) x57_9 = some r) ∧ Aside0 (kq ≤ k) ∧ Aside0 (wc.heap[gb194]? = some (.cells #[(.slice A0_0 l0_0.length c0_0)] 174 (0, 0))) ∧ Aside0 (Below w.heap.size w wc))
   case first =>
    have H := HC10.out
    clear HC10
    by_cases c13 : 0 < (l0_0.length : Int)
    ·rw [if_pos c13] at H
     have c13b0 : decide (0 < (l0_0.length : Int)) = true := decide_eq_true c13
     have c13b1 : decide (0 < l0_0.length) = true := decide_eq_true (by omega)
     clear c13
     (first | rw [c13b0] | (simp only [i64_w, i32_w]; rw [c13b0]) | skip)
     by_cases c14 : ((rd_T177 l0_0 0).f0) = (-16384)
     ·rw [if_pos c14] at H
      have c14b0 : (((rd_T177 l0_0 0).f0) == (-16384)) = true := beq_iff_eq.mpr c14
      have c14b1 : (((rd_T177 l0_0 0).f0) != (-16384)) = false := bne_eq_false_iff_eq.mpr c14
      clear c14
      by_cases c15 : ((rd_T177 l0_0 0).f1) = (-16384)
      ·rw [if_pos c15] at H
       have c15b0 : (((rd_T177 l0_0 0).f1) == (-16384)) = true := beq_iff_eq.mpr c15
       have c15b1 : (((rd_T177 l0_0 0).f1) != (-16384)) = false := bne_eq_false_iff_eq.mpr c15
       clear c15
       obtain ⟨ji16, hji16⟩ : ∃ j_ : Int, ((0 : Int) + 1) = j_ := ⟨_, rfl⟩
       replace H : (if 0 ≤ (ji16) then (if (ji16) < (l0_0.length : Int) then (tables_SegmentMaps_Map.j0 k a1 l0_0 0 (l0_0.length : Int) (((rd_T177 l0_0 (ji16)).f0) == (-16384))) else (none)) else (none)) = some r := by first | (rw [hji16] at H; exact H) | (simp only [hji16] at H ⊢; exact H)
       by_cases c17 : 0 ≤ (ji16)
       ·rw [if_pos c17] at H
        have c17b0 : decide (0 ≤ (ji16)) = true := decide_eq_true c17
        clear c17
        by_cases c18 : (ji16) < (l0_0.length : Int)
        · as_aux_lemma =>
          rw [if_pos c18] at H
          have c18b0 : decide ((ji16) < (l0_0.length : Int)) = true := decide_eq_true c18
          clear c18
          have H' := Aside0.mk H
          clear H
          have p197 : 0 ≤ (0 : Int) := (by omega)
          have q197 : 0 < (l0_0.length : Int) := of_decide_eq_true (by first | (with_reducible assumption) | assumption)
          obtain ⟨ad197, e197, hx197_0, hx197_1⟩ := at_T177 HR0_0.out 0 p197 q197
          cases e197
          have qi197 : (0 < l0_0.length) = True := eq_true (by omega)
          (try rw [show ((0 : Int)).toNat = 0 from rfl] at hx197_0)
          (try rw [show 0 * 2 = 0 from rfl] at hx197_0)
          (try rw [Addr.add_zero'] at hx197_0)
          (try rw [show ((0 : Int)).toNat = 0 from rfl] at hx197_1)
          (try rw [show 0 * 2 = 0 from rfl] at hx197_1)
          (try rw [Addr.add_zero'] at hx197_1)
          replace hx197_0 := (HB.out.cell (World.block_lt_of_cell? w _ hx197_0)).trans hx197_0
          replace hx197_1 := (HB.out.cell (World.block_lt_of_cell? w _ hx197_1)).trans hx197_1
          replace p197 := eq_true p197
          replace q197 := eq_true q197
          have p198 : 0 ≤ (0 : Int) := (by omega)
          have q198 : 0 < (l0_0.length : Int) := of_decide_eq_true (by first | (with_reducible assumption) | assumption)
          obtain ⟨ad198, e198, hx198_0, hx198_1⟩ := at_T177 HR0_0.out 0 p198 q198
          obtain rfl : ad197 = ad198 := (by injection e198)
          have qi198 : (0 < l0_0.length) = True := eq_true (by omega)
          (try rw [show ((0 : Int)).toNat = 0 from rfl] at hx198_0)
          (try rw [show 0 * 2 = 0 from rfl] at hx198_0)
          (try rw [Addr.add_zero'] at hx198_0)
          (try rw [show ((0 : Int)).toNat = 0 from rfl] at hx198_1)
          (try rw [show 0 * 2 = 0 from rfl] at hx198_1)
          (try rw [Addr.add_zero'] at hx198_1)
          replace hx198_0 := (HB.out.cell (World.block_lt_of_cell? w _ hx198_0)).trans hx198_0
          replace hx198_1 := (HB.out.cell (World.block_lt_of_cell? w _ hx198_1)).trans hx198_1
          replace p198 := eq_true p198
          replace q198 := eq_true q198
          have p199 : 0 ≤ ((ji16) : Int) := of_decide_eq_true (by first | (with_reducible assumption) | assumption)
          have q199 : (ji16) < (l0_0.length : Int) := of_decide_eq_true (by first | (with_reducible assumption) | assumption)
          obtain ⟨ad199, e199, hx199_0, hx199_1⟩ := at_T177 HR0_0.out (ji16) p199 q199
          obtain rfl : ad197 = ad199 := (by injection e199)
          replace hx199_0 := (HB.out.cell (World.block_lt_of_cell? w _ hx199_0)).trans hx199_0
          replace hx199_1 := (HB.out.cell (World.block_lt_of_cell? w _ hx199_1)).trans hx199_1
          replace p199 := eq_true p199
          replace q199 := eq_true q199
          go_wp2
          repeat (go_quiet (fail); try go_wp2)
          go_meet
          case rel => exact ⟨_, ((((rd_T177 l0_0 (ji16)).f0) == (-16384))), (by first | rfl | (simp; done) | (simp only [← hji16] <;> (first | rfl | simp)) | (simp [*]; done)), H', ⟨by first | omega | exact Nat.le_refl _⟩, ⟨by (with_reducible repeat (first | refine b1_ ?_ _ | refine b2_ ?_ | refine b3_ ?_ _)); exact BK194.out⟩, ⟨by repeat (first | (with_reducible first | exact HB.out | apply below_alloc | apply pw_below_drewN | apply below_drew1 | refine below_set ?_ GE194.out) | exact HB.out)⟩⟩
        ·rw [if_neg c18] at H
         exact absurd H (by simp)
       ·rw [if_neg c17] at H
        exact absurd H (by simp)
      · as_aux_lemma =>
        rw [if_neg c15] at H
        have c15b0 : (((rd_T177 l0_0 0).f1) == (-16384)) = false := beq_eq_false_iff_ne.mpr c15
        have c15b1 : (((rd_T177 l0_0 0).f1) != (-16384)) = true := bne_iff_ne.mpr c15
        have H' := Aside0.mk H
        clear H
        have p197 : 0 ≤ (0 : Int) := (by omega)
        have q197 : 0 < (l0_0.length : Int) := of_decide_eq_true (by first | (with_reducible assumption) | assumption)
        obtain ⟨ad197, e197, hx197_0, hx197_1⟩ := at_T177 HR0_0.out 0 p197 q197
        cases e197
        have qi197 : (0 < l0_0.length) = True := eq_true (by omega)
        (try rw [show ((0 : Int)).toNat = 0 from rfl] at hx197_0)
        (try rw [show 0 * 2 = 0 from rfl] at hx197_0)
        (try rw [Addr.add_zero'] at hx197_0)
        (try rw [show ((0 : Int)).toNat = 0 from rfl] at hx197_1)
        (try rw [show 0 * 2 = 0 from rfl] at hx197_1)
        (try rw [Addr.add_zero'] at hx197_1)
        replace hx197_0 := (HB.out.cell (World.block_lt_of_cell? w _ hx197_0)).trans hx197_0
        replace hx197_1 := (HB.out.cell (World.block_lt_of_cell? w _ hx197_1)).trans hx197_1
        replace p197 := eq_true p197
        replace q197 := eq_true q197
        have p198 : 0 ≤ (0 : Int) := (by omega)
        have q198 : 0 < (l0_0.length : Int) := of_decide_eq_true (by first | (with_reducible assumption) | assumption)
        obtain ⟨ad198, e198, hx198_0, hx198_1⟩ := at_T177 HR0_0.out 0 p198 q198
        obtain rfl : ad197 = ad198 := (by injection e198)
        have qi198 : (0 < l0_0.length) = True := eq_true (by omega)
        (try rw [show ((0 : Int)).toNat = 0 from rfl] at hx198_0)
        (try rw [show 0 * 2 = 0 from rfl] at hx198_0)
        (try rw [Addr.add_zero'] at hx198_0)
        (try rw [show ((0 : Int)).toNat = 0 from rfl] at hx198_1)
        (try rw [show 0 * 2 = 0 from rfl] at hx198_1)
        (try rw [Addr.add_zero'] at hx198_1)
        replace hx198_0 := (HB.out.cell (World.block_lt_of_cell? w _ hx198_0)).trans hx198_0
        replace hx198_1 := (HB.out.cell (World.block_lt_of_cell? w _ hx198_1)).trans hx198_1
        replace p198 := eq_true p198
        replace q198 := eq_true q198
        go_wp2
        repeat (go_quiet (fail); try go_wp2)
        go_meet
        case rel => exact ⟨_, (false), (by first | rfl | (simp; done) | (simp [*]; done)), H', ⟨by first | omega | exact Nat.le_refl _⟩, ⟨by (with_reducible repeat (first | refine b1_ ?_ _ | refine b2_ ?_ | refine b3_ ?_ _)); exact BK194.out⟩, ⟨by repeat (first | (with_reducible first | exact HB.out | apply below_alloc | apply pw_below_drewN | apply below_drew1 | refine below_set ?_ GE194.out) | exact HB.out)⟩⟩
     · as_aux_lemma =>
       rw [if_neg c14] at H
       have c14b0 : (((rd_T177 l0_0 0).f0) == (-16384)) = false := beq_eq_false_iff_ne.mpr c14
       have c14b1 : (((rd_T177 l0_0 0).f0) != (-16384)) = true := bne_iff_ne.mpr c14
       have H' := Aside0.mk H
       clear H
       have p197 : 0 ≤ (0 : Int) := (by omega)
       have q197 : 0 < (l0_0.length : Int) := of_decide_eq_true (by first | (with_reducible assumption) | assumption)
       obtain ⟨ad197, e197, hx197_0, hx197_1⟩ := at_T177 HR0_0.out 0 p197 q197
       cases e197
       have qi197 : (0 < l0_0.length) = True := eq_true (by omega)
       (try rw [show ((0 : Int)).toNat = 0 from rfl] at hx197_0)
       (try rw [show 0 * 2 = 0 from rfl] at hx197_0)
       (try rw [Addr.add_zero'] at hx197_0)
       (try rw [show ((0 : Int)).toNat = 0 from rfl] at hx197_1)
       (try rw [show 0 * 2 = 0 from rfl] at hx197_1)
       (try rw [Addr.add_zero'] at hx197_1)
       replace hx197_0 := (HB.out.cell (World.block_lt_of_cell? w _ hx197_0)).trans hx197_0
       replace hx197_1 := (HB.out.cell (World.block_lt_of_cell? w _ hx197_1)).trans hx197_1
       replace p197 := eq_true p197
       replace q197 := eq_true q197
       go_wp2
       repeat (go_quiet (fail); try go_wp2)
       go_meet
       case rel => exact ⟨_, (false), (by first | rfl | (simp; done) | (simp [*]; done)), H', ⟨by first | omega | exact Nat.le_refl _⟩, ⟨by (with_reducible repeat (first | refine b1_ ?_ _ | refine b2_ ?_ | refine b3_ ?_ _)); exact BK194.out⟩, ⟨by repeat (first | (with_reducible first | exact HB.out | apply below_alloc | apply pw_below_drewN | apply below_drew1 | refine below_set ?_ GE194.out) | exact HB.out)⟩⟩
    ·rw [if_neg c13] at H
     exact absurd H (by simp)
   case rest =>
    clear HC10
    try clear c1
    try clear p1
    try clear q1
    try clear hx1
    try clear qi1
    try clear p2
    try clear c3
    try clear c3b0
    try clear c3b1
    try clear c3b2
    try clear c6
    try clear c6b0
    try clear c6b1
    try clear c7
    try clear c7b0
    try clear c7b1
    try clear c8
    try clear c13
    try clear c13b0
    try clear c13b1
    try clear c14
    try clear c14b0
    try clear c14b1
    try clear c15
    try clear c15b0
    try clear c15b1
    try clear c17
    try clear c17b0
    try clear c18
    try clear c18b0
    try clear hcz12_0
    try clear hcz5_0
    try clear hcz9_0
    try clear hfz12_0
    try clear hfz5_0
    try clear hfz9_0
    try clear hx195_0
    try clear hx195_1
    try clear hx196_0
    try clear hx196_1
    try clear hx197_0
    try clear hx197_1
    try clear hx198_0
    try clear hx198_1
    try clear hx199_0
    try clear hx199_1
    try clear p195
    try clear p196
    try clear p197
    try clear p198
    try clear p199
    try clear q195
    try clear q196
    try clear q197
    try clear q198
    try clear q199
    obtain ⟨kq, x57_9, rfl, HA, HJ9, BK194, HB⟩ := hcut
    cases kq with
    | zero => exact absurd HA.out (by simp [tables_SegmentMaps_Map.j0])
    | succ kj9 =>
     have H := HA.out
     clear HA
     simp only [tables_SegmentMaps_Map.j0] at H
     have HC19 := Aside0.mk H
     clear H
     go_upto_if 57 with (fail)
     repeat (go_quiet (fail); go_upto_if 57 with (fail))
     go_cut [6] (fun v6 wc => ∃ (kq : Nat) (x6_18 : Int), v6 = .int .i64 x6_18 ∧ Aside0 (tables_SegmentMaps_Map.j1 kq a1 l0_0 x6_18 (l0_0.length : Int) = some r) ∧ Aside0 (kq ≤ kj9) ∧ Aside0 (wc.heap[gb194]? = some (.cells #[(.slice A0_0 l0_0.length c0_0)] 174 (0, 0))) ∧ Aside0 (Below w.heap.size w wc))
     case first =>
      have H := HC19.out
      clear HC19
      by_cases c20 : x57_9 = true
      · as_aux_lemma =>
        subst c20
        have H1 : (tables_SegmentMaps_Map.j1 kj9 a1 l0_0 (wrap64 ((0 : Int) + 1)) (l0_0.length : Int)) = some r := by rw [if_pos rfl] at H; exact H
        clear H
        have H := H1
        clear H1
        have H' := Aside0.mk H
        clear H
        go_wp2
        repeat (go_quiet (fail); try go_wp2)
        go_meet
        case rel => exact ⟨_, (wrap64 ((0 : Int) + 1)), (by first | rfl | (simp; done) | (simp [*]; done) | (simp; exact (by unfold wrap64; decide : (1 : Int) = wrap64 1))), H', ⟨by have := HJ9.out; first | omega | exact Nat.le_refl _⟩, ⟨by (with_reducible repeat (first | refine b1_ ?_ _ | refine b2_ ?_ | refine b3_ ?_ _)); exact BK194.out⟩, ⟨by repeat (first | (with_reducible first | exact HB.out | apply below_alloc | apply pw_below_drewN | apply below_drew1 | refine below_set ?_ GE194.out) | exact HB.out)⟩⟩
      · as_aux_lemma =>
        replace c20 := Bool.eq_false_iff.mpr c20
        subst c20
        have H1 : (tables_SegmentMaps_Map.j1 kj9 a1 l0_0 0 (l0_0.length : Int)) = some r := by rw [if_neg (show ¬ (false = true) by decide)] at H; exact H
        clear H
        have H := H1
        clear H1
        have H' := Aside0.mk H
        clear H
        go_wp2
        repeat (go_quiet (fail); try go_wp2)
        go_meet
        case rel => exact ⟨_, (0), (by first | rfl | (simp; done) | (simp [*]; done)), H', ⟨by have := HJ9.out; first | omega | exact Nat.le_refl _⟩, ⟨by (with_reducible repeat (first | refine b1_ ?_ _ | refine b2_ ?_ | refine b3_ ?_ _)); exact BK194.out⟩, ⟨by repeat (first | (with_reducible first | exact HB.out | apply below_alloc | apply pw_below_drewN | apply below_drew1 | refine below_set ?_ GE194.out) | exact HB.out)⟩⟩
     case rest =>
      clear HC19
      try clear c1
      try clear p1
      try clear q1
      try clear hx1
      try clear qi1
      try clear c2
      try clear p2
      try clear c3
      try clear c3b0
      try clear c3b1
      try clear c3b2
      try clear c6
      try clear c6b0
      try clear c6b1
      try clear p6
      try clear c7
      try clear c7b0
      try clear c7b1
      try clear c8
      try clear c13
      try clear c13b0
      try clear c13b1
      try clear c14
      try clear c14b0
      try clear c14b1
      try clear c15
      try clear c15b0
      try clear c15b1
      try clear c17
      try clear c17b0
      try clear c18
      try clear c18b0
      try clear p19
      try clear q19
      try clear hx19
      try clear qi19
      try clear c20
      try clear hcz12_0
      try clear hcz5_0
      try clear hcz9_0
      try clear hfz12_0
      try clear hfz5_0
      try clear hfz9_0
      try clear hx195_0
      try clear hx195_1
      try clear hx196_0
      try clear hx196_1
      try clear hx197_0
      try clear hx197_1
      try clear hx198_0
      try clear hx198_1
      try clear hx199_0
      try clear hx199_1
      try clear p1
      try clear p195
      try clear p196
      try clear p197
      try clear p198
      try clear p199
      try clear p2
      try clear q1
      try clear q195
      try clear q196
      try clear q197
      try clear q198
      try clear q199
      obtain ⟨kq, x6_18, rfl, HA, HJ18, BK194, HB⟩ := hcut
      cases kq with
      | zero => exact absurd HA.out (by simp [tables_SegmentMaps_Map.j1])
      | succ kj18 =>
       have H := HA.out
       clear HA
       simp only [tables_SegmentMaps_Map.j1] at H
       have HC21 := Aside0.mk H
       clear H
       go_upto_region 10 with (fail)
       repeat (go_quiet (fail); go_upto_region 10 with (fail))
       go_cut [84] (fun v84 wc => ∃ (kq : Nat) (x84_20 : Bool), v84 = .bool x84_20 ∧ Aside0 (tables_SegmentMaps_Map.j2 kq a1 l0_0 x6_18 (l0_0.length : Int) x84_20 = some r) ∧ Aside0 (kq ≤ kj18) ∧ Aside0 (wc.heap[gb194]? = some (.cells #[(.slice A0_0 l0_0.length c0_0)] 174 (0, 0))) ∧ Aside0 (Below w.heap.size w wc))
       case first =>
        have H := HC21.out
        clear HC21
        obtain ⟨ji22, hji22⟩ : ∃ j_ : Int, (wrap64 ((l0_0.length : Int) - 1)) = j_ := ⟨_, rfl⟩
        replace H : (if 0 ≤ (ji22) then (if (ji22) < (l0_0.length : Int) then (if ((rd_T177 l0_0 (ji22)).f0) = 16384 then (if ((rd_T177 l0_0 (ji22)).f1) = 16384 then (if 0 ≤ (wrap64 ((l0_0.length : Int) - 2)) then (if (wrap64 ((l0_0.length : Int) - 2)) < (l0_0.length : Int) then (tables_SegmentMaps_Map.j2 kj18 a1 l0_0 x6_18 (l0_0.length : Int) (((rd_T177 l0_0 (wrap64 ((l0_0.length : Int) - 2))).f0) == 16384)) else (none)) else (none)) else (tables_SegmentMaps_Map.j2 kj18 a1 l0_0 x6_18 (l0_0.length : Int) false)) else (tables_SegmentMaps_Map.j2 kj18 a1 l0_0 x6_18 (l0_0.length : Int) false)) else (none)) else (none)) = some r := by first | (rw [hji22] at H; exact H) | (simp only [hji22] at H ⊢; exact H)
        have hji22w : (IntKind.i64.wrap ((l0_0.length : Int) - 1)) = ji22 := (i64_w _).trans hji22
        by_cases c23 : 0 ≤ (ji22)
        ·rw [if_pos c23] at H
         have c23b0 : decide (0 ≤ (ji22)) = true := decide_eq_true c23
         clear c23
         (first | rw [c23b0] | (simp only [i64_w, i32_w]; rw [c23b0]) | skip)
         by_cases c24 : (ji22) < (l0_0.length : Int)
         ·rw [if_pos c24] at H
          have c24b0 : decide ((ji22) < (l0_0.length : Int)) = true := decide_eq_true c24
          clear c24
          by_cases c25 : ((rd_T177 l0_0 (ji22)).f0) = 16384
          ·rw [if_pos c25] at H
           have c25b0 : (((rd_T177 l0_0 (ji22)).f0) == 16384) = true := beq_iff_eq.mpr c25
           have c25b1 : (((rd_T177 l0_0 (ji22)).f0) != 16384) = false := bne_eq_false_iff_eq.mpr c25
           clear c25
           by_cases c26 : ((rd_T177 l0_0 (ji22)).f1) = 16384
           ·rw [if_pos c26] at H
            have c26b0 : (((rd_T177 l0_0 (ji22)).f1) == 16384) = true := beq_iff_eq.mpr c26
            have c26b1 : (((rd_T177 l0_0 (ji22)).f1) != 16384) = false := bne_eq_false_iff_eq.mpr c26
            clear c26
            obtain ⟨ji27, hji27⟩ : ∃ j_ : Int, (wrap64 ((l0_0.length : Int) - 2)) = j_ := ⟨_, rfl⟩
            replace H : (if 0 ≤ (ji27) then (if (ji27) < (l0_0.length : Int) then (tables_SegmentMaps_Map.j2 kj18 a1 l0_0 x6_18 (l0_0.length : Int) (((rd_T177 l0_0 (ji27)).f0) == 16384)) else (none)) else (none)) = some r := by first | (rw [hji27] at H; exact H) | (simp only [hji27] at H ⊢; exact H)
            have hji27w : (IntKind.i64.wrap ((l0_0.length : Int) - 2)) = ji27 := (i64_w _).trans hji27
            by_cases c28 : 0 ≤ (ji27)
            ·rw [if_pos c28] at H
             have c28b0 : decide (0 ≤ (ji27)) = true := decide_eq_true c28
             clear c28
             by_cases c29 : (ji27) < (l0_0.length : Int)
             · as_aux_lemma =>
               rw [if_pos c29] at H
               have c29b0 : decide ((ji27) < (l0_0.length : Int)) = true := decide_eq_true c29
               clear c29
               have H' := Aside0.mk H
               clear H
               have p200 : 0 ≤ ((ji22) : Int) := of_decide_eq_true (by first | (with_reducible assumption) | assumption)
               have q200 : (ji22) < (l0_0.length : Int) := of_decide_eq_true (by first | (with_reducible assumption) | assumption)
               obtain ⟨ad200, e200, hx200_0, hx200_1⟩ := at_T177 HR0_0.out (ji22) p200 q200
               cases e200
               replace hx200_0 := (HB.out.cell (World.block_lt_of_cell? w _ hx200_0)).trans hx200_0
               replace hx200_1 := (HB.out.cell (World.block_lt_of_cell? w _ hx200_1)).trans hx200_1
               replace p200 := eq_true p200
               replace q200 := eq_true q200
               have p201 : 0 ≤ ((ji22) : Int) := of_decide_eq_true (by first | (with_reducible assumption) | assumption)
               have q201 : (ji22) < (l0_0.length : Int) := of_decide_eq_true (by first | (with_reducible assumption) | assumption)
               obtain ⟨ad201, e201, hx201_0, hx201_1⟩ := at_T177 HR0_0.out (ji22) p201 q201
               obtain rfl : ad200 = ad201 := (by injection e201)
               replace hx201_0 := (HB.out.cell (World.block_lt_of_cell? w _ hx201_0)).trans hx201_0
               replace hx201_1 := (HB.out.cell (World.block_lt_of_cell? w _ hx201_1)).trans hx201_1
               replace p201 := eq_true p201
               replace q201 := eq_true q201
               have p202 : 0 ≤ ((ji27) : Int) := of_decide_eq_true (by first | (with_reducible assumption) | assumption)
               have q202 : (ji27) < (l0_0.length : Int) := of_decide_eq_true (by first | (with_reducible assumption) | assumption)
               obtain ⟨ad202, e202, hx202_0, hx202_1⟩ := at_T177 HR0_0.out (ji27) p202 q202
               obtain rfl : ad200 = ad202 := (by injection e202)
               replace hx202_0 := (HB.out.cell (World.block_lt_of_cell? w _ hx202_0)).trans hx202_0
               replace hx202_1 := (HB.out.cell (World.block_lt_of_cell? w _ hx202_1)).trans hx202_1
               replace p202 := eq_true p202
               replace q202 := eq_true q202
               go_wp2
               repeat (go_quiet (fail); try go_wp2)
               go_meet
               case rel => exact ⟨_, ((((rd_T177 l0_0 (ji27)).f0) == 16384)), (by first | rfl | (simp; done) | (simp only [← hji27] <;> (first | rfl | simp)) | (simp [*]; done)), H', ⟨by have := HJ9.out; have := HJ18.out; first | omega | exact Nat.le_refl _⟩, ⟨by (with_reducible repeat (first | refine b1_ ?_ _ | refine b2_ ?_ | refine b3_ ?_ _)); exact BK194.out⟩, ⟨by repeat (first | (with_reducible first | exact HB.out | apply below_alloc | apply pw_below_drewN | apply below_drew1 | refine below_set ?_ GE194.out) | exact HB.out)⟩⟩
             ·rw [if_neg c29] at H
              exact absurd H (by simp)
            ·rw [if_neg c28] at H
             exact absurd H (by simp)
           · as_aux_lemma =>
             rw [if_neg c26] at H
             have c26b0 : (((rd_T177 l0_0 (ji22)).f1) == 16384) = false := beq_eq_false_iff_ne.mpr c26
             have c26b1 : (((rd_T177 l0_0 (ji22)).f1) != 16384) = true := bne_iff_ne.mpr c26
             have H' := Aside0.mk H
             clear H
             have p200 : 0 ≤ ((ji22) : Int) := of_decide_eq_true (by first | (with_reducible assumption) | assumption)
             have q200 : (ji22) < (l0_0.length : Int) := of_decide_eq_true (by first | (with_reducible assumption) | assumption)
             obtain ⟨ad200, e200, hx200_0, hx200_1⟩ := at_T177 HR0_0.out (ji22) p200 q200
             cases e200
             replace hx200_0 := (HB.out.cell (World.block_lt_of_cell? w _ hx200_0)).trans hx200_0
             replace hx200_1 := (HB.out.cell (World.block_lt_of_cell? w _ hx200_1)).trans hx200_1
             replace p200 := eq_true p200
             replace q200 := eq_true q200
             have p201 : 0 ≤ ((ji22) : Int) := of_decide_eq_true (by first | (with_reducible assumption) | assumption)
             have q201 : (ji22) < (l0_0.length : Int) := of_decide_eq_true (by first | (with_reducible assumption) | assumption)
             obtain ⟨ad201, e201, hx201_0, hx201_1⟩ := at_T177 HR0_0.out (ji22) p201 q201
             obtain rfl : ad200 = ad201 := (by injection e201)
             replace hx201_0 := (HB.out.cell (World.block_lt_of_cell? w _ hx201_0)).trans hx201_0
             replace hx201_1 := (HB.out.cell (World.block_lt_of_cell? w _ hx201_1)).trans hx201_1
             replace p201 := eq_true p201
             replace q201 := eq_true q201
             go_wp2
             repeat (go_quiet (fail); try go_wp2)
             go_meet
             case rel => exact ⟨_, (false), (by first | rfl | (simp; done) | (simp [*]; done)), H', ⟨by have := HJ9.out; have := HJ18.out; first | omega | exact Nat.le_refl _⟩, ⟨by (with_reducible repeat (first | refine b1_ ?_ _ | refine b2_ ?_ | refine b3_ ?_ _)); exact BK194.out⟩, ⟨by repeat (first | (with_reducible first | exact HB.out | apply below_alloc | apply pw_below_drewN | apply below_drew1 | refine below_set ?_ GE194.out) | exact HB.out)⟩⟩
          · as_aux_lemma =>
            rw [if_neg c25] at H
            have c25b0 : (((rd_T177 l0_0 (ji22)).f0) == 16384) = false := beq_eq_false_iff_ne.mpr c25
            have c25b1 : (((rd_T177 l0_0 (ji22)).f0) != 16384) = true := bne_iff_ne.mpr c25
            have H' := Aside0.mk H
            clear H
            have p200 : 0 ≤ ((ji22) : Int) := of_decide_eq_true (by first | (with_reducible assumption) | assumption)
            have q200 : (ji22) < (l0_0.length : Int) := of_decide_eq_true (by first | (with_reducible assumption) | assumption)
            obtain ⟨ad200, e200, hx200_0, hx200_1⟩ := at_T177 HR0_0.out (ji22) p200 q200
            cases e200
            replace hx200_0 := (HB.out.cell (World.block_lt_of_cell? w _ hx200_0)).trans hx200_0
            replace hx200_1 := (HB.out.cell (World.block_lt_of_cell? w _ hx200_1)).trans hx200_1
            replace p200 := eq_true p200
            replace q200 := eq_true q200
            go_wp2
            repeat (go_quiet (fail); try go_wp2)
            go_meet
            case rel => exact ⟨_, (false), (by first | rfl | (simp; done) | (simp [*]; done)), H', ⟨by have := HJ9.out; have := HJ18.out; first | omega | exact Nat.le_refl _⟩, ⟨by (with_reducible repeat (first | refine b1_ ?_ _ | refine b2_ ?_ | refine b3_ ?_ _)); exact BK194.out⟩, ⟨by repeat (first | (with_reducible first | exact HB.out | apply below_alloc | apply pw_below_drewN | apply below_drew1 | refine below_set ?_ GE194.out) | exact HB.out)⟩⟩
         ·rw [if_neg c24] at H
          exact absurd H (by simp)
        ·rw [if_neg c23] at H
         exact absurd H (by simp)
       case rest =>
        clear HC21
        try clear c1
        try clear p1
        try clear q1
        try clear hx1
        try clear qi1
        try clear c2
        try clear p2
        try clear q2
        try clear hx2
        try clear c3
        try clear c3b0
        try clear c3b1
        try clear c3b2
        try clear c6
        try clear c6b0
        try clear c6b1
        try clear p6
        try clear c7
        try clear c7b0
        try clear c7b1
        try clear c8
        try clear c13
        try clear c13b0
        try clear c13b1
        try clear c14
        try clear c14b0
        try clear c14b1
        try clear c15
        try clear c15b0
        try clear c15b1
        try clear c17
        try clear c17b0
        try clear c18
        try clear c18b0
        try clear p19
        try clear q19
        try clear hx19
        try clear qi19
        try clear c20
        try clear p20
        try clear q20
        try clear hx20
        try clear c23
        try clear c23b0
        try clear c24
        try clear c24b0
        try clear c25
        try clear c25b0
        try clear c25b1
        try clear c26
        try clear c26b0
        try clear c26b1
        try clear c28
        try clear c28b0
        try clear c29
        try clear c29b0
        try clear hcz12_0
        try clear hcz5_0
        try clear hcz9_0
        try clear hfz12_0
        try clear hfz5_0
        try clear hfz9_0
        try clear hx195_0
        try clear hx195_1
        try clear hx196_0
        try clear hx196_1
        try clear hx197_0
        try clear hx197_1
        try clear hx198_0
        try clear hx198_1
        try clear hx199_0
        try clear hx199_1
        try clear hx200_0
        try clear hx200_1
        try clear hx201_0
        try clear hx201_1
        try clear hx202_0
        try clear hx202_1
        try clear p1
        try clear p19
        try clear p195
        try clear p196
        try clear p197
        try clear p198
        try clear p199
        try clear p2
        try clear p200
        try clear p201
        try clear p202
        try clear p6
        try clear q1
        try clear q19
        try clear q195
        try clear q196
        try clear q197
        try clear q198
        try clear q199
        try clear q200
        try clear q201
        try clear q202
        obtain ⟨kq, x84_20, rfl, HA, HJ20, BK194, HB⟩ := hcut
        cases kq with
        | zero => exact absurd HA.out (by simp [tables_SegmentMaps_Map.j2])
        | succ kj20 =>
         have H := HA.out
         clear HA
         simp only [tables_SegmentMaps_Map.j2] at H
         have HC30 := Aside0.mk H
         clear H
         go_upto_if 84 with (fail)
         repeat (go_quiet (fail); go_upto_if 84 with (fail))
         go_cut [7] (fun v7 wc => ∃ (kq : Nat) (x7_29 : Int), v7 = .int .i64 x7_29 ∧ Aside0 (tables_SegmentMaps_Map.j3 kq a1 l0_0 x6_18 x7_29 = some r) ∧ Aside0 (kq ≤ kj20) ∧ Aside0 (wc.heap[gb194]? = some (.cells #[(.slice A0_0 l0_0.length c0_0)] 174 (0, 0))) ∧ Aside0 (Below w.heap.size w wc))
         case first =>
          have H := HC30.out
          clear HC30
          by_cases c31 : x84_20 = true
          · as_aux_lemma =>
            subst c31
            have H1 : (tables_SegmentMaps_Map.j3 kj20 a1 l0_0 x6_18 (wrap64 ((l0_0.length : Int) - 1))) = some r := by rw [if_pos rfl] at H; exact H
            clear H
            have H := H1
            clear H1
            have H' := Aside0.mk H
            clear H
            go_wp2
            repeat (go_quiet (fail); try go_wp2)
            go_meet
            case rel => exact ⟨_, (wrap64 ((l0_0.length : Int) - 1)), (by first | rfl | (simp; done) | (simp [*]; done)), H', ⟨by have := HJ9.out; have := HJ18.out; have := HJ20.out; first | omega | exact Nat.le_refl _⟩, ⟨by (with_reducible repeat (first | refine b1_ ?_ _ | refine b2_ ?_ | refine b3_ ?_ _)); exact BK194.out⟩, ⟨by repeat (first | (with_reducible first | exact HB.out | apply below_alloc | apply pw_below_drewN | apply below_drew1 | refine below_set ?_ GE194.out) | exact HB.out)⟩⟩
          · as_aux_lemma =>
            replace c31 := Bool.eq_false_iff.mpr c31
            subst c31
            have H1 : (tables_SegmentMaps_Map.j3 kj20 a1 l0_0 x6_18 (l0_0.length : Int)) = some r := by rw [if_neg (show ¬ (false = true) by decide)] at H; exact H
            clear H
            have H := H1
            clear H1
            have H' := Aside0.mk H
            clear H
            go_wp2
            repeat (go_quiet (fail); try go_wp2)
            go_meet
            case rel => exact ⟨_, ((l0_0.length : Int)), (by first | rfl | (simp; done) | (simp [*]; done)), H', ⟨by have := HJ9.out; have := HJ18.out; have := HJ20.out; first | omega | exact Nat.le_refl _⟩, ⟨by (with_reducible repeat (first | refine b1_ ?_ _ | refine b2_ ?_ | refine b3_ ?_ _)); exact BK194.out⟩, ⟨by repeat (first | (with_reducible first | exact HB.out | apply below_alloc | apply pw_below_drewN | apply below_drew1 | refine below_set ?_ GE194.out) | exact HB.out)⟩⟩
         case rest =>
          clear HC30
          try clear c1
          try clear p1
          try clear q1
          try clear hx1
          try clear qi1
          try clear c2
          try clear p2
          try clear q2
          try clear hx2
          try clear c3
          try clear c3b0
          try clear c3b1
          try clear c3b2
          try clear c6
          try clear c6b0
          try clear c6b1
          try clear p6
          try clear c7
          try clear c7b0
          try clear c7b1
          try clear c8
          try clear c13
          try clear c13b0
          try clear c13b1
          try clear c14
          try clear c14b0
          try clear c14b1
          try clear c15
          try clear c15b0
          try clear c15b1
          try clear c17
          try clear c17b0
          try clear c18
          try clear c18b0
          try clear p19
          try clear q19
          try clear hx19
          try clear qi19
          try clear c20
          try clear p20
          try clear q20
          try clear hx20
          try clear c23
          try clear c23b0
          try clear c24
          try clear c24b0
          try clear c25
          try clear c25b0
          try clear c25b1
          try clear c26
          try clear c26b0
          try clear c26b1
          try clear c28
          try clear c28b0
          try clear c29
          try clear c29b0
          try clear c31
          try clear hcz12_0
          try clear hcz5_0
          try clear hcz9_0
          try clear hfz12_0
          try clear hfz5_0
          try clear hfz9_0
          try clear hx195_0
          try clear hx195_1
          try clear hx196_0
          try clear hx196_1
          try clear hx197_0
          try clear hx197_1
          try clear hx198_0
          try clear hx198_1
          try clear hx199_0
          try clear hx199_1
          try clear hx200_0
          try clear hx200_1
          try clear hx201_0
          try clear hx201_1
          try clear hx202_0
          try clear hx202_1
          try clear p1
          try clear p19
          try clear p195
          try clear p196
          try clear p197
          try clear p198
          try clear p199
          try clear p2
          try clear p20
          try clear p200
          try clear p201
          try clear p202
          try clear p6
          try clear q1
          try clear q19
          try clear q195
          try clear q196
          try clear q197
          try clear q198
          try clear q199
          try clear q2
          try clear q20
          try clear q200
          try clear q201
          try clear q202
          obtain ⟨kq, x7_29, rfl, HA, HJ29, BK194, HB⟩ := hcut
          cases kq with
          | zero => exact absurd HA.out (by simp [tables_SegmentMaps_Map.j3])
          | succ kj29 =>
           have H := HA.out
           clear HA
           simp only [tables_SegmentMaps_Map.j3] at H
           have HC32 := Aside0.mk H
           clear H
           go_upto_block 0 with (fail)
           repeat (go_quiet (fail); go_upto_block 0 with (fail))
           go_cut [8] (fun v8 wc => ∃ (kq : Nat) (x8_31 : Int), v8 = .int .i64 x8_31 ∧ Aside0 (tables_SegmentMaps_Map.j5 kq a1 l0_0 x6_18 x7_29 x8_31 = some r) ∧ Aside0 (kq ≤ kj29) ∧ Aside0 (wc.heap[gb194]? = some (.cells #[(.slice A0_0 l0_0.length c0_0)] 174 (0, 0))) ∧ Aside0 (Below w.heap.size w wc))
           case first =>
            have H := HC32.out
            clear HC32
            have H' := Aside0.mk H
            clear H
            go_wp2
            repeat (go_quiet (fail); try go_wp2)
            go_loopg [8] kj29 (fun kq v8 w' => ∃ (x8_5 : Int), v8 = .int .i64 x8_5 ∧ Aside0 (tables_SegmentMaps_Map.l0 kq a1 l0_0 x6_18 x7_29 x8_5 = some r) ∧ Aside0 (kq ≤ kj29) ∧ Aside0 (w'.heap[gb194]? = some (.cells #[(.slice A0_0 l0_0.length c0_0)] 174 (0, 0))) ∧ Aside0 (Below w.heap.size w w'))
            case atStart => exact ⟨(x6_18), (by first | rfl | (simp; done) | (simp [*]; done)), H', ⟨Nat.le_refl _⟩, ⟨by (with_reducible repeat (first | refine b1_ ?_ _ | refine b2_ ?_ | refine b3_ ?_ _)); exact BK194.out⟩, ⟨by repeat (first | (with_reducible first | exact HB.out | apply below_alloc | apply pw_below_drewN | apply below_drew1 | refine below_set ?_ GE194.out) | exact HB.out)⟩⟩
            case round =>
             clear H'
             try clear c1
             try clear p1
             try clear q1
             try clear hx1
             try clear qi1
             try clear c2
             try clear p2
             try clear q2
             try clear hx2
             try clear c3
             try clear c3b0
             try clear c3b1
             try clear c3b2
             try clear c6
             try clear c6b0
             try clear c6b1
             try clear p6
             try clear c7
             try clear c7b0
             try clear c7b1
             try clear c8
             try clear c13
             try clear c13b0
             try clear c13b1
             try clear c14
             try clear c14b0
             try clear c14b1
             try clear c15
             try clear c15b0
             try clear c15b1
             try clear c17
             try clear c17b0
             try clear c18
             try clear c18b0
             try clear p19
             try clear q19
             try clear hx19
             try clear qi19
             try clear c20
             try clear p20
             try clear q20
             try clear hx20
             try clear c23
             try clear c23b0
             try clear c24
             try clear c24b0
             try clear c25
             try clear c25b0
             try clear c25b1
             try clear c26
             try clear c26b0
             try clear c26b1
             try clear c28
             try clear c28b0
             try clear c29
             try clear c29b0
             try clear c31
             try clear hcz12_0
             try clear hcz5_0
             try clear hcz9_0
             try clear hfz12_0
             try clear hfz5_0
             try clear hfz9_0
             try clear hx195_0
             try clear hx195_1
             try clear hx196_0
             try clear hx196_1
             try clear hx197_0
             try clear hx197_1
             try clear hx198_0
             try clear hx198_1
             try clear hx199_0
             try clear hx199_1
             try clear hx200_0
             try clear hx200_1
             try clear hx201_0
             try clear hx201_1
             try clear hx202_0
             try clear hx202_1
             try clear p1
             try clear p19
             try clear p195
             try clear p196
             try clear p197
             try clear p198
             try clear p199
             try clear p2
             try clear p20
             try clear p200
             try clear p201
             try clear p202
             try clear p6
             try clear q1
             try clear q19
             try clear q195
             try clear q196
             try clear q197
             try clear q198
             try clear q199
             try clear q2
             try clear q20
             try clear q200
             try clear q201
             try clear q202
             obtain ⟨x8_5, rfl, HA, HK5, BK194, HB⟩ := hrel
             cases gk with
             | zero => exact absurd HA.out (by simp [tables_SegmentMaps_Map.l0])
             | succ k5 =>
              have H := HA.out
              clear HA
              simp only [tables_SegmentMaps_Map.l0] at H
              by_cases c33 : x8_5 < x7_29
              ·rw [if_pos c33] at H
               have c33b0 : decide (x8_5 < x7_29) = true := decide_eq_true c33
               clear c33
               (first | rw [c33b0] | (simp only [i64_w, i32_w]; rw [c33b0]) | skip)
               by_cases c34 : 0 ≤ x8_5
               ·rw [if_pos c34] at H
                have c34b0 : decide (0 ≤ x8_5) = true := decide_eq_true c34
                clear c34
                by_cases c35 : x8_5 < (l0_0.length : Int)
                ·rw [if_pos c35] at H
                 have c35b0 : decide (x8_5 < (l0_0.length : Int)) = true := decide_eq_true c35
                 clear c35
                 by_cases c36 : a1 = ((rd_T177 l0_0 x8_5).f0)
                 · as_aux_lemma =>
                   rw [if_pos c36] at H
                   have c36b0 : (a1 == ((rd_T177 l0_0 x8_5).f0)) = true := beq_iff_eq.mpr c36
                   have c36b1 : (a1 != ((rd_T177 l0_0 x8_5).f0)) = false := bne_eq_false_iff_eq.mpr c36
                   clear c36
                   have H' := Aside0.mk H
                   clear H
                   have p203 : 0 ≤ (x8_5 : Int) := of_decide_eq_true (by first | (with_reducible assumption) | assumption)
                   have q203 : x8_5 < (l0_0.length : Int) := of_decide_eq_true (by first | (with_reducible assumption) | assumption)
                   obtain ⟨ad203, e203, hx203_0, hx203_1⟩ := at_T177 HR0_0.out x8_5 p203 q203
                   cases e203
                   replace hx203_0 := (HB.out.cell (World.block_lt_of_cell? w _ hx203_0)).trans hx203_0
                   replace hx203_1 := (HB.out.cell (World.block_lt_of_cell? w _ hx203_1)).trans hx203_1
                   replace p203 := eq_true p203
                   replace q203 := eq_true q203
                   go_wp2
                   repeat (go_quiet (fail); try go_wp2)
                   go_meet
                   case rel => exact ⟨_, (x8_5), (by first | rfl | (simp; done) | (simp [*]; done)), H', ⟨by have := HJ9.out; have := HJ18.out; have := HJ20.out; have := HJ29.out; have := HK5.out; first | omega | exact Nat.le_refl _⟩, ⟨by (with_reducible repeat (first | refine b1_ ?_ _ | refine b2_ ?_ | refine b3_ ?_ _)); exact BK194.out⟩, ⟨by repeat (first | (with_reducible first | exact HB.out | apply below_alloc | apply pw_below_drewN | apply below_drew1 | refine below_set ?_ GE194.out) | exact HB.out)⟩⟩
                 · as_aux_lemma =>
                   rw [if_neg c36] at H
                   have c36b0 : (a1 == ((rd_T177 l0_0 x8_5).f0)) = false := beq_eq_false_iff_ne.mpr c36
                   have c36b1 : (a1 != ((rd_T177 l0_0 x8_5).f0)) = true := bne_iff_ne.mpr c36
                   have H' := Aside0.mk H
                   clear H
                   have p203 : 0 ≤ (x8_5 : Int) := of_decide_eq_true (by first | (with_reducible assumption) | assumption)
                   have q203 : x8_5 < (l0_0.length : Int) := of_decide_eq_true (by first | (with_reducible assumption) | assumption)
                   obtain ⟨ad203, e203, hx203_0, hx203_1⟩ := at_T177 HR0_0.out x8_5 p203 q203
                   cases e203
                   replace hx203_0 := (HB.out.cell (World.block_lt_of_cell? w _ hx203_0)).trans hx203_0
                   replace hx203_1 := (HB.out.cell (World.block_lt_of_cell? w _ hx203_1)).trans hx203_1
                   replace p203 := eq_true p203
                   replace q203 := eq_true q203
                   go_wp2
                   repeat (go_quiet (fail); try go_wp2)
                   go_roundg k5
                   case measure => have := HJ9.out; have := HJ18.out; have := HJ20.out; have := HJ29.out; have := HK5.out; omega
                   case rel => exact ⟨(wrap64 (x8_5 + 1)), (by first | rfl | (simp; done) | (simp [*]; done)), H', ⟨by have := HJ9.out; have := HJ18.out; have := HJ20.out; have := HJ29.out; have := HK5.out; omega⟩, ⟨by (with_reducible repeat (first | refine b1_ ?_ _ | refine b2_ ?_ | refine b3_ ?_ _)); exact BK194.out⟩, ⟨by repeat (first | (with_reducible first | exact HB.out | apply below_alloc | apply pw_below_drewN | apply below_drew1 | refine below_set ?_ GE194.out) | exact HB.out)⟩⟩
                ·rw [if_neg c35] at H
                 exact absurd H (by simp)
               ·rw [if_neg c34] at H
                exact absurd H (by simp)
              · as_aux_lemma =>
                rw [if_neg c33] at H
                have c33b0 : decide (x8_5 < x7_29) = false := decide_eq_false c33
                clear c33
                (first | rw [c33b0] | (simp only [i64_w, i32_w]; rw [c33b0]) | skip)
                have H' := Aside0.mk H
                clear H
                go_wp2
                repeat (go_quiet (fail); try go_wp2)
                go_meet
                case rel => exact ⟨_, (x8_5), (by first | rfl | (simp; done) | (simp [*]; done)), H', ⟨by have := HJ9.out; have := HJ18.out; have := HJ20.out; have := HJ29.out; have := HK5.out; first | omega | exact Nat.le_refl _⟩, ⟨by (with_reducible repeat (first | refine b1_ ?_ _ | refine b2_ ?_ | refine b3_ ?_ _)); exact BK194.out⟩, ⟨by repeat (first | (with_reducible first | exact HB.out | apply below_alloc | apply pw_below_drewN | apply below_drew1 | refine below_set ?_ GE194.out) | exact HB.out)⟩⟩
           case rest =>
            clear HC32
            try clear c1
            try clear p1
            try clear q1
            try clear hx1
            try clear qi1
            try clear c2
            try clear p2
            try clear q2
            try clear hx2
            try clear c3
            try clear c3b0
            try clear c3b1
            try clear c3b2
            try clear c6
            try clear c6b0
            try clear c6b1
            try clear p6
            try clear c7
            try clear c7b0
            try clear c7b1
            try clear c8
            try clear c13
            try clear c13b0
            try clear c13b1
            try clear c14
            try clear c14b0
            try clear c14b1
            try clear c15
            try clear c15b0
            try clear c15b1
            try clear c17
            try clear c17b0
            try clear c18
            try clear c18b0
            try clear p19
            try clear q19
            try clear hx19
            try clear qi19
            try clear c20
            try clear p20
            try clear q20
            try clear hx20
            try clear c23
            try clear c23b0
            try clear c24
            try clear c24b0
            try clear c25
            try clear c25b0
            try clear c25b1
            try clear c26
            try clear c26b0
            try clear c26b1
            try clear c28
            try clear c28b0
            try clear c29
            try clear c29b0
            try clear c31
            try clear c33
            try clear c33b0
            try clear c34
            try clear c34b0
            try clear c35
            try clear c35b0
            try clear c36
            try clear c36b0
            try clear c36b1
            try clear hcz12_0
            try clear hcz5_0
            try clear hcz9_0
            try clear hfz12_0
            try clear hfz5_0
            try clear hfz9_0
            try clear hx195_0
            try clear hx195_1
            try clear hx196_0
            try clear hx196_1
            try clear hx197_0
            try clear hx197_1
            try clear hx198_0
            try clear hx198_1
            try clear hx199_0
            try clear hx199_1
            try clear hx200_0
            try clear hx200_1
            try clear hx201_0
            try clear hx201_1
            try clear hx202_0
            try clear hx202_1
            try clear hx203_0
            try clear hx203_1
            try clear p1
            try clear p19
            try clear p195
            try clear p196
            try clear p197
            try clear p198
            try clear p199
            try clear p2
            try clear p20
            try clear p200
            try clear p201
            try clear p202
            try clear p203
            try clear p6
            try clear q1
            try clear q19
            try clear q195
            try clear q196
            try clear q197
            try clear q198
            try clear q199
            try clear q2
            try clear q20
            try clear q200
            try clear q201
            try clear q202
            try clear q203
            obtain ⟨kq, x8_31, rfl, HA, HJ31, BK194, HB⟩ := hcut
            cases kq with
            | zero => exact absurd HA.out (by simp [tables_SegmentMaps_Map.j5])
            | succ kj31 =>
             have H := HA.out
             clear HA
             simp only [tables_SegmentMaps_Map.j5] at H
             by_cases c37 : x8_31 < x7_29
             ·rw [if_pos c37] at H
              have c37b0 : decide (x8_31 < x7_29) = true := decide_eq_true c37
              clear c37
              have HC38 := Aside0.mk H
              clear H
              go_upto_block 2 with (fail)
              repeat (go_quiet (fail); go_upto_block 2 with (fail))
              go_cut [9] (fun v9 wc => ∃ (kq : Nat) (x9_37 : Int), v9 = .int .i64 x9_37 ∧ Aside0 (tables_SegmentMaps_Map.j7 kq a1 l0_0 x8_31 x9_37 = some r) ∧ Aside0 (kq ≤ kj31) ∧ Aside0 (wc.heap[gb194]? = some (.cells #[(.slice A0_0 l0_0.length c0_0)] 174 (0, 0))) ∧ Aside0 (Below w.heap.size w wc))
              case first =>
               have H := HC38.out
               clear HC38
               have H' := Aside0.mk H
               clear H
               go_wp2
               repeat (go_quiet (fail); try go_wp2)
               go_loopg [9] kj31 (fun kq v9 w' => ∃ (x9_6 : Int), v9 = .int .i64 x9_6 ∧ Aside0 (tables_SegmentMaps_Map.l1 kq a1 l0_0 x7_29 x8_31 x9_6 = some r) ∧ Aside0 (kq ≤ kj31) ∧ Aside0 (w'.heap[gb194]? = some (.cells #[(.slice A0_0 l0_0.length c0_0)] 174 (0, 0))) ∧ Aside0 (Below w.heap.size w w'))
               case atStart => exact ⟨(x8_31), (by first | rfl | (simp; done) | (simp [*]; done)), H', ⟨Nat.le_refl _⟩, ⟨by (with_reducible repeat (first | refine b1_ ?_ _ | refine b2_ ?_ | refine b3_ ?_ _)); exact BK194.out⟩, ⟨by repeat (first | (with_reducible first | exact HB.out | apply below_alloc | apply pw_below_drewN | apply below_drew1 | refine below_set ?_ GE194.out) | exact HB.out)⟩⟩
               case round =>
                clear H'
                try clear c1
                try clear p1
                try clear q1
                try clear hx1
                try clear qi1
                try clear c2
                try clear p2
                try clear q2
                try clear hx2
                try clear c3
                try clear c3b0
                try clear c3b1
                try clear c3b2
                try clear c6
                try clear c6b0
                try clear c6b1
                try clear p6
                try clear c7
                try clear c7b0
                try clear c7b1
                try clear c8
                try clear c13
                try clear c13b0
                try clear c13b1
                try clear c14
                try clear c14b0
                try clear c14b1
                try clear c15
                try clear c15b0
                try clear c15b1
                try clear c17
                try clear c17b0
                try clear c18
                try clear c18b0
                try clear p19
                try clear q19
                try clear hx19
                try clear qi19
                try clear c20
                try clear p20
                try clear q20
                try clear hx20
                try clear c23
                try clear c23b0
                try clear c24
                try clear c24b0
                try clear c25
                try clear c25b0
                try clear c25b1
                try clear c26
                try clear c26b0
                try clear c26b1
                try clear c28
                try clear c28b0
                try clear c29
                try clear c29b0
                try clear c31
                try clear c33
                try clear c33b0
                try clear c34
                try clear c34b0
                try clear c35
                try clear c35b0
                try clear c36
                try clear c36b0
                try clear c36b1
                try clear c37
                try clear c37b0
                try clear hcz12_0
                try clear hcz5_0
                try clear hcz9_0
                try clear hfz12_0
                try clear hfz5_0
                try clear hfz9_0
                try clear hx195_0
                try clear hx195_1
                try clear hx196_0
                try clear hx196_1
                try clear hx197_0
                try clear hx197_1
                try clear hx198_0
                try clear hx198_1
                try clear hx199_0
                try clear hx199_1
                try clear hx200_0
                try clear hx200_1
                try clear hx201_0
                try clear hx201_1
                try clear hx202_0
                try clear hx202_1
                try clear hx203_0
                try clear hx203_1
                try clear p1
                try clear p19
                try clear p195
                try clear p196
                try clear p197
                try clear p198
                try clear p199
                try clear p2
                try clear p20
                try clear p200
                try clear p201
                try clear p202
                try clear p203
                try clear p6
                try clear q1
                try clear q19
                try clear q195
                try clear q196
                try clear q197
                try clear q198
                try clear q199
                try clear q2
                try clear q20
                try clear q200
                try clear q201
                try clear q202
                try clear q203
                obtain ⟨x9_6, rfl, HA, HK6, BK194, HB⟩ := hrel
                cases gk with
                | zero => exact absurd HA.out (by simp [tables_SegmentMaps_Map.l1])
                | succ k6 =>
                 have H := HA.out
                 clear HA
                 simp only [tables_SegmentMaps_Map.l1] at H
                 by_cases c39 : (wrap64 (x9_6 + 1)) < x7_29
                 ·rw [if_pos c39] at H
                  have c39b0 : decide ((wrap64 (x9_6 + 1)) < x7_29) = true := decide_eq_true c39
                  clear c39
                  (first | rw [c39b0] | (simp only [i64_w, i32_w]; rw [c39b0]) | skip)
                  obtain ⟨ji40, hji40⟩ : ∃ j_ : Int, (wrap64 (x9_6 + 1)) = j_ := ⟨_, rfl⟩
                  replace H : (if 0 ≤ (ji40) then (if (ji40) < (l0_0.length : Int) then (if a1 = ((rd_T177 l0_0 (ji40)).f0) then (tables_SegmentMaps_Map.l1 k6 a1 l0_0 x7_29 x8_31 ji40) else (tables_SegmentMaps_Map.j7 k6 a1 l0_0 x8_31 x9_6)) else (none)) else (none)) = some r := by first | (rw [hji40] at H; exact H) | (simp only [hji40] at H ⊢; exact H)
                  (try rw [hji40] at c39b0)
                  have hji40w : (IntKind.i64.wrap (x9_6 + 1)) = ji40 := (i64_w _).trans hji40
                  by_cases c41 : 0 ≤ (ji40)
                  ·rw [if_pos c41] at H
                   have c41b0 : decide (0 ≤ (ji40)) = true := decide_eq_true c41
                   clear c41
                   by_cases c42 : (ji40) < (l0_0.length : Int)
                   ·rw [if_pos c42] at H
                    have c42b0 : decide ((ji40) < (l0_0.length : Int)) = true := decide_eq_true c42
                    clear c42
                    by_cases c43 : a1 = ((rd_T177 l0_0 (ji40)).f0)
                    · as_aux_lemma =>
                      rw [if_pos c43] at H
                      have c43b0 : (a1 == ((rd_T177 l0_0 (ji40)).f0)) = true := beq_iff_eq.mpr c43
                      have c43b1 : (a1 != ((rd_T177 l0_0 (ji40)).f0)) = false := bne_eq_false_iff_eq.mpr c43
                      clear c43
                      have H' := Aside0.mk H
                      clear H
                      have p204 : 0 ≤ ((ji40) : Int) := of_decide_eq_true (by first | (with_reducible assumption) | assumption)
                      have q204 : (ji40) < (l0_0.length : Int) := of_decide_eq_true (by first | (with_reducible assumption) | assumption)
                      obtain ⟨ad204, e204, hx204_0, hx204_1⟩ := at_T177 HR0_0.out (ji40) p204 q204
                      cases e204
                      replace hx204_0 := (HB.out.cell (World.block_lt_of_cell? w _ hx204_0)).trans hx204_0
                      replace hx204_1 := (HB.out.cell (World.block_lt_of_cell? w _ hx204_1)).trans hx204_1
                      replace p204 := eq_true p204
                      replace q204 := eq_true q204
                      go_wp2
                      repeat (go_quiet (fail); try go_wp2)
                      go_roundg k6
                      case measure => have := HJ9.out; have := HJ18.out; have := HJ20.out; have := HJ29.out; have := HJ31.out; have := HK6.out; omega
                      case rel => exact ⟨(ji40), (by first | rfl | (simp; done) | (simp only [← hji40] <;> (first | rfl | simp)) | (simp [*]; done)), H', ⟨by have := HJ9.out; have := HJ18.out; have := HJ20.out; have := HJ29.out; have := HJ31.out; have := HK6.out; omega⟩, ⟨by (with_reducible repeat (first | refine b1_ ?_ _ | refine b2_ ?_ | refine b3_ ?_ _)); exact BK194.out⟩, ⟨by repeat (first | (with_reducible first | exact HB.out | apply below_alloc | apply pw_below_drewN | apply below_drew1 | refine below_set ?_ GE194.out) | exact HB.out)⟩⟩
                    · as_aux_lemma =>
                      rw [if_neg c43] at H
                      have c43b0 : (a1 == ((rd_T177 l0_0 (ji40)).f0)) = false := beq_eq_false_iff_ne.mpr c43
                      have c43b1 : (a1 != ((rd_T177 l0_0 (ji40)).f0)) = true := bne_iff_ne.mpr c43
                      have H' := Aside0.mk H
                      clear H
                      have p204 : 0 ≤ ((ji40) : Int) := of_decide_eq_true (by first | (with_reducible assumption) | assumption)
                      have q204 : (ji40) < (l0_0.length : Int) := of_decide_eq_true (by first | (with_reducible assumption) | assumption)
                      obtain ⟨ad204, e204, hx204_0, hx204_1⟩ := at_T177 HR0_0.out (ji40) p204 q204
                      cases e204
                      replace hx204_0 := (HB.out.cell (World.block_lt_of_cell? w _ hx204_0)).trans hx204_0
                      replace hx204_1 := (HB.out.cell (World.block_lt_of_cell? w _ hx204_1)).trans hx204_1
                      replace p204 := eq_true p204
                      replace q204 := eq_true q204
                      go_wp2
                      repeat (go_quiet (fail); try go_wp2)
                      go_meet
                      case rel => exact ⟨_, (x9_6), (by first | rfl | (simp; done) | (simp [*]; done)), H', ⟨by have := HJ9.out; have := HJ18.out; have := HJ20.out; have := HJ29.out; have := HJ31.out; have := HK6.out; first | omega | exact Nat.le_refl _⟩, ⟨by (with_reducible repeat (first | refine b1_ ?_ _ | refine b2_ ?_ | refine b3_ ?_ _)); exact BK194.out⟩, ⟨by repeat (first | (with_reducible first | exact HB.out | apply below_alloc | apply pw_below_drewN | apply below_drew1 | refine below_set ?_ GE194.out) | exact HB.out)⟩⟩
                   ·rw [if_neg c42] at H
                    exact absurd H (by simp)
                  ·rw [if_neg c41] at H
                   exact absurd H (by simp)
                 · as_aux_lemma =>
                   rw [if_neg c39] at H
                   have c39b0 : decide ((wrap64 (x9_6 + 1)) < x7_29) = false := decide_eq_false c39
                   clear c39
                   (first | rw [c39b0] | (simp only [i64_w, i32_w]; rw [c39b0]) | skip)
                   have H' := Aside0.mk H
                   clear H
                   go_wp2
                   repeat (go_quiet (fail); try go_wp2)
                   go_meet
                   case rel => exact ⟨_, (x9_6), (by first | rfl | (simp; done) | (simp [*]; done)), H', ⟨by have := HJ9.out; have := HJ18.out; have := HJ20.out; have := HJ29.out; have := HJ31.out; have := HK6.out; first | omega | exact Nat.le_refl _⟩, ⟨by (with_reducible repeat (first | refine b1_ ?_ _ | refine b2_ ?_ | refine b3_ ?_ _)); exact BK194.out⟩, ⟨by repeat (first | (with_reducible first | exact HB.out | apply below_alloc | apply pw_below_drewN | apply below_drew1 | refine below_set ?_ GE194.out) | exact HB.out)⟩⟩
              case rest =>
               clear HC38
               try clear c1
               try clear p1
               try clear q1
               try clear hx1
               try clear qi1
               try clear c2
               try clear p2
               try clear q2
               try clear hx2
               try clear c3
               try clear c3b0
               try clear c3b1
               try clear c3b2
               try clear c4
               try clear c6
               try clear c6b0
               try clear c6b1
               try clear p6
               try clear c7
               try clear c7b0
               try clear c7b1
               try clear c8
               try clear c13
               try clear c13b0
               try clear c13b1
               try clear c14
               try clear c14b0
               try clear c14b1
               try clear c15
               try clear c15b0
               try clear c15b1
               try clear c17
               try clear c17b0
               try clear c18
               try clear c18b0
               try clear p19
               try clear q19
               try clear hx19
               try clear qi19
               try clear c20
               try clear p20
               try clear q20
               try clear hx20
               try clear c23
               try clear c23b0
               try clear c24
               try clear c24b0
               try clear c25
               try clear c25b0
               try clear c25b1
               try clear c26
               try clear c26b0
               try clear c26b1
               try clear c28
               try clear c28b0
               try clear c29
               try clear c29b0
               try clear c31
               try clear c33
               try clear c33b0
               try clear c34
               try clear c34b0
               try clear c35
               try clear c35b0
               try clear c36
               try clear c36b0
               try clear c36b1
               try clear c37
               try clear c37b0
               try clear c39
               try clear c39b0
               try clear c41
               try clear c41b0
               try clear c42
               try clear c42b0
               try clear c43
               try clear c43b0
               try clear c43b1
               try clear hcz12_0
               try clear hcz5_0
               try clear hcz9_0
               try clear hfz12_0
               try clear hfz5_0
               try clear hfz9_0
               try clear hx195_0
               try clear hx195_1
               try clear hx196_0
               try clear hx196_1
               try clear hx197_0
               try clear hx197_1
               try clear hx198_0
               try clear hx198_1
               try clear hx199_0
               try clear hx199_1
               try clear hx200_0
               try clear hx200_1
               try clear hx201_0
               try clear hx201_1
               try clear hx202_0
               try clear hx202_1
               try clear hx203_0
               try clear hx203_1
               try clear hx204_0
               try clear hx204_1
               try clear p1
               try clear p19
               try clear p195
               try clear p196
               try clear p197
               try clear p198
               try clear p199
               try clear p2
               try clear p20
               try clear p200
               try clear p201
               try clear p202
               try clear p203
               try clear p204
               try clear p6
               try clear q1
               try clear q19
               try clear q195
               try clear q196
               try clear q197
               try clear q198
               try clear q199
               try clear q2
               try clear q20
               try clear q200
               try clear q201
               try clear q202
               try clear q203
               try clear q204
               obtain ⟨kq, x9_37, rfl, HA, HJ37, BK194, HB⟩ := hcut
               cases kq with
               | zero => exact absurd HA.out (by simp [tables_SegmentMaps_Map.j7])
               | succ kj37 =>
                have H := HA.out
                clear HA
                simp only [tables_SegmentMaps_Map.j7] at H
                by_cases c44 : x8_31 = x9_37
                ·rw [if_pos c44] at H
                 have c44b0 : (x8_31 == x9_37) = true := beq_iff_eq.mpr c44
                 have c44b1 : (x8_31 != x9_37) = false := bne_eq_false_iff_eq.mpr c44
                 clear c44
                 by_cases c45 : 0 ≤ x8_31
                 ·rw [if_pos c45] at H
                  have c45b0 : decide (0 ≤ x8_31) = true := decide_eq_true c45
                  clear c45
                  by_cases c46 : x8_31 < (l0_0.length : Int)
                  · as_aux_lemma =>
                    rw [if_pos c46] at H
                    have c46b0 : decide (x8_31 < (l0_0.length : Int)) = true := decide_eq_true c46
                    clear c46
                    obtain rfl := Option.some.inj H
                    have p205 : 0 ≤ (x8_31 : Int) := of_decide_eq_true (by first | (with_reducible assumption) | assumption)
                    have q205 : x8_31 < (l0_0.length : Int) := of_decide_eq_true (by first | (with_reducible assumption) | assumption)
                    obtain ⟨ad205, e205, hx205_0, hx205_1⟩ := at_T177 HR0_0.out x8_31 p205 q205
                    cases e205
                    replace hx205_0 := (HB.out.cell (World.block_lt_of_cell? w _ hx205_0)).trans hx205_0
                    replace hx205_1 := (HB.out.cell (World.block_lt_of_cell? w _ hx205_1)).trans hx205_1
                    replace p205 := eq_true p205
                    replace q205 := eq_true q205
                    go_wp2
                    repeat (go_quiet (fail); try go_wp2)
                    go_ret
                    exact ⟨by first | rfl | (simp [errW_none, errW_some] <;> rfl) | (simp [*, errW_none, errW_some] <;> rfl), by repeat (first | (with_reducible first | exact HB.out | apply below_alloc | apply pw_below_drewN | apply below_drew1 | refine below_set ?_ GE194.out) | exact HB.out)⟩
                  ·rw [if_neg c46] at H
                   exact absurd H (by simp)
                 ·rw [if_neg c45] at H
                  exact absurd H (by simp)
                ·rw [if_neg c44] at H
                 have c44b0 : (x8_31 == x9_37) = false := beq_eq_false_iff_ne.mpr c44
                 have c44b1 : (x8_31 != x9_37) = true := bne_iff_ne.mpr c44
                 by_cases c47 : (wrap64 (x8_31 + 2)) = x9_37
                 ·rw [if_pos c47] at H
                  have c47b0 : ((wrap64 (x8_31 + 2)) == x9_37) = true := beq_iff_eq.mpr c47
                  have c47b1 : ((wrap64 (x8_31 + 2)) != x9_37) = false := bne_eq_false_iff_eq.mpr c47
                  clear c47
                  obtain ⟨ji48, hji48⟩ : ∃ j_ : Int, (wrap64 (x8_31 + 1)) = j_ := ⟨_, rfl⟩
                  replace H : (if 0 ≤ (ji48) then (if (ji48) < (l0_0.length : Int) then (some ((rd_T177 l0_0 (ji48)).f1)) else (none)) else (none)) = some r := by first | (rw [hji48] at H; exact H) | (simp only [hji48] at H ⊢; exact H)
                  have hji48w : (IntKind.i64.wrap (x8_31 + 1)) = ji48 := (i64_w _).trans hji48
                  by_cases c49 : 0 ≤ (ji48)
                  ·rw [if_pos c49] at H
                   have c49b0 : decide (0 ≤ (ji48)) = true := decide_eq_true c49
                   clear c49
                   by_cases c50 : (ji48) < (l0_0.length : Int)
                   · as_aux_lemma =>
                     rw [if_pos c50] at H
                     have c50b0 : decide ((ji48) < (l0_0.length : Int)) = true := decide_eq_true c50
                     clear c50
                     obtain rfl := Option.some.inj H
                     have p206 : 0 ≤ ((ji48) : Int) := of_decide_eq_true (by first | (with_reducible assumption) | assumption)
                     have q206 : (ji48) < (l0_0.length : Int) := of_decide_eq_true (by first | (with_reducible assumption) | assumption)
                     obtain ⟨ad206, e206, hx206_0, hx206_1⟩ := at_T177 HR0_0.out (ji48) p206 q206
                     cases e206
                     replace hx206_0 := (HB.out.cell (World.block_lt_of_cell? w _ hx206_0)).trans hx206_0
                     replace hx206_1 := (HB.out.cell (World.block_lt_of_cell? w _ hx206_1)).trans hx206_1
                     replace p206 := eq_true p206
                     replace q206 := eq_true q206
                     go_wp2
                     repeat (go_quiet (fail); try go_wp2)
                     go_ret
                     exact ⟨by first | rfl | (simp [errW_none, errW_some] <;> rfl) | (simp only [← hji48]; first | rfl | (simp [errW_none, errW_some] <;> rfl)) | (simp [*, errW_none, errW_some] <;> rfl), by repeat (first | (with_reducible first | exact HB.out | apply below_alloc | apply pw_below_drewN | apply below_drew1 | refine below_set ?_ GE194.out) | exact HB.out)⟩
                   ·rw [if_neg c50] at H
                    exact absurd H (by simp)
                  ·rw [if_neg c49] at H
                   exact absurd H (by simp)
                 ·rw [if_neg c47] at H
                  have c47b0 : ((wrap64 (x8_31 + 2)) == x9_37) = false := beq_eq_false_iff_ne.mpr c47
                  have c47b1 : ((wrap64 (x8_31 + 2)) != x9_37) = true := bne_iff_ne.mpr c47
                  by_cases c51 : a1 < 0
                  ·rw [if_pos c51] at H
                   have c51b0 : decide (a1 < 0) = true := decide_eq_true c51
                   clear c51
                   by_cases c52 : 0 ≤ x9_37
                   ·rw [if_pos c52] at H
                    have c52b0 : decide (0 ≤ x9_37) = true := decide_eq_true c52
                    clear c52
                    by_cases c53 : x9_37 < (l0_0.length : Int)
                    · as_aux_lemma =>
                      rw [if_pos c53] at H
                      have c53b0 : decide (x9_37 < (l0_0.length : Int)) = true := decide_eq_true c53
                      clear c53
                      obtain rfl := Option.some.inj H
                      have p207 : 0 ≤ (x9_37 : Int) := of_decide_eq_true (by first | (with_reducible assumption) | assumption)
                      have q207 : x9_37 < (l0_0.length : Int) := of_decide_eq_true (by first | (with_reducible assumption) | assumption)
                      obtain ⟨ad207, e207, hx207_0, hx207_1⟩ := at_T177 HR0_0.out x9_37 p207 q207
                      cases e207
                      replace hx207_0 := (HB.out.cell (World.block_lt_of_cell? w _ hx207_0)).trans hx207_0
                      replace hx207_1 := (HB.out.cell (World.block_lt_of_cell? w _ hx207_1)).trans hx207_1
                      replace p207 := eq_true p207
                      replace q207 := eq_true q207
                      go_wp2
                      repeat (go_quiet (fail); try go_wp2)
                      go_ret
                      exact ⟨by first | rfl | (simp [errW_none, errW_some] <;> rfl) | (simp [*, errW_none, errW_some] <;> rfl), by repeat (first | (with_reducible first | exact HB.out | apply below_alloc | apply pw_below_drewN | apply below_drew1 | refine below_set ?_ GE194.out) | exact HB.out)⟩
                    ·rw [if_neg c53] at H
                     exact absurd H (by simp)
                   ·rw [if_neg c52] at H
                    exact absurd H (by simp)
                  ·rw [if_neg c51] at H
                   have c51b0 : decide (a1 < 0) = false := decide_eq_false c51
                   clear c51
                   by_cases c54 : a1 > 0
                   ·rw [if_pos c54] at H
                    have c54b0 : decide (0 < a1) = true := decide_eq_true c54
                    clear c54
                    by_cases c55 : 0 ≤ x8_31
                    ·rw [if_pos c55] at H
                     have c55b0 : decide (0 ≤ x8_31) = true := decide_eq_true c55
                     clear c55
                     by_cases c56 : x8_31 < (l0_0.length : Int)
                     · as_aux_lemma =>
                       rw [if_pos c56] at H
                       have c56b0 : decide (x8_31 < (l0_0.length : Int)) = true := decide_eq_true c56
                       clear c56
                       obtain rfl := Option.some.inj H
                       have p208 : 0 ≤ (x8_31 : Int) := of_decide_eq_true (by first | (with_reducible assumption) | assumption)
                       have q208 : x8_31 < (l0_0.length : Int) := of_decide_eq_true (by first | (with_reducible assumption) | assumption)
                       obtain ⟨ad208, e208, hx208_0, hx208_1⟩ := at_T177 HR0_0.out x8_31 p208 q208
                       cases e208
                       replace hx208_0 := (HB.out.cell (World.block_lt_of_cell? w _ hx208_0)).trans hx208_0
                       replace hx208_1 := (HB.out.cell (World.block_lt_of_cell? w _ hx208_1)).trans hx208_1
                       replace p208 := eq_true p208
                       replace q208 := eq_true q208
                       go_wp2
                       repeat (go_quiet (fail); try go_wp2)
                       go_ret
                       exact ⟨by first | rfl | (simp [errW_none, errW_some] <;> rfl) | (simp [*, errW_none, errW_some] <;> rfl), by repeat (first | (with_reducible first | exact HB.out | apply below_alloc | apply pw_below_drewN | apply below_drew1 | refine below_set ?_ GE194.out) | exact HB.out)⟩
                     ·rw [if_neg c56] at H
                      exact absurd H (by simp)
                    ·rw [if_neg c55] at H
                     exact absurd H (by simp)
                   ·rw [if_neg c54] at H
                    have c54b0 : decide (0 < a1) = false := decide_eq_false c54
                    clear c54
                    by_cases c57 : 0 ≤ x8_31
                    ·rw [if_pos c57] at H
                     have c57b0 : decide (0 ≤ x8_31) = true := decide_eq_true c57
                     clear c57
                     by_cases c58 : x8_31 < (l0_0.length : Int)
                     ·rw [if_pos c58] at H
                      have c58b0 : decide (x8_31 < (l0_0.length : Int)) = true := decide_eq_true c58
                      clear c58
                      replace H := Option.bind_eq_some_iff.mp H
                      obtain ⟨t210, A590, H⟩ := H
                      replace H : (if 0 ≤ x9_37 then (if x9_37 < (l0_0.length : Int) then ((tables_abs.f ((rd_T177 l0_0 x9_37).f1)).bind fun t212 => (if t210 < t212 then (some ((rd_T177 l0_0 x8_31).f1)) else (some ((rd_T177 l0_0 x9_37).f1)))) else (none)) else (none)) = some r := H
                      have A59 := Aside0.mk A590
                      clear A590
                      by_cases c60 : 0 ≤ x9_37
                      ·rw [if_pos c60] at H
                       have c60b0 : decide (0 ≤ x9_37) = true := decide_eq_true c60
                       clear c60
                       by_cases c61 : x9_37 < (l0_0.length : Int)
                       ·rw [if_pos c61] at H
                        have c61b0 : decide (x9_37 < (l0_0.length : Int)) = true := decide_eq_true c61
                        clear c61
                        replace H := Option.bind_eq_some_iff.mp H
                        obtain ⟨t212, A620, H⟩ := H
                        replace H : (if t210 < t212 then (some ((rd_T177 l0_0 x8_31).f1)) else (some ((rd_T177 l0_0 x9_37).f1))) = some r := H
                        have A62 := Aside0.mk A620
                        clear A620
                        by_cases c63 : t210 < t212
                        · as_aux_lemma =>
                          rw [if_pos c63] at H
                          have c63b0 : decide (t210 < t212) = true := decide_eq_true c63
                          clear c63
                          obtain rfl := Option.some.inj H
                          have p209 : 0 ≤ (x8_31 : Int) := of_decide_eq_true (by first | (with_reducible assumption) | assumption)
                          have q209 : x8_31 < (l0_0.length : Int) := of_decide_eq_true (by first | (with_reducible assumption) | assumption)
                          obtain ⟨ad209, e209, hx209_0, hx209_1⟩ := at_T177 HR0_0.out x8_31 p209 q209
                          cases e209
                          replace hx209_0 := (HB.out.cell (World.block_lt_of_cell? w _ hx209_0)).trans hx209_0
                          replace hx209_1 := (HB.out.cell (World.block_lt_of_cell? w _ hx209_1)).trans hx209_1
                          replace p209 := eq_true p209
                          replace q209 := eq_true q209
                          go_wp2_with (first | (go_at_call 103; (with_reducible refine (tables_abs.calls ((rd_T177 l0_0 x8_31).f1) t210 _ A59.out).mono ?_); rintro e w' ⟨rfl, ⟨nd, rfl⟩⟩; (try first | exact ⟨rfl, _, World.drewN_drewN _ _ _⟩ | exact ⟨rfl, _, Eq.trans (World.drewN_drewN _ _ _) (congrArg (World.drewN _) (Nat.add_assoc _ _ _))⟩); have p211 : 0 ≤ (x9_37 : Int) := of_decide_eq_true (by first | (with_reducible assumption) | assumption); have q211 : x9_37 < (l0_0.length : Int) := of_decide_eq_true (by first | (with_reducible assumption) | assumption); obtain ⟨ad211, e211, hx211_0, hx211_1⟩ := at_T177 HR0_0.out x9_37 p211 q211; obtain rfl : ad209 = ad211 := (by injection e211); replace hx211_0 := (HB.out.cell (World.block_lt_of_cell? w _ hx211_0)).trans hx211_0; replace hx211_1 := (HB.out.cell (World.block_lt_of_cell? w _ hx211_1)).trans hx211_1; replace p211 := eq_true p211; replace q211 := eq_true q211) | (go_at_call 103; (with_reducible refine (tables_abs.calls ((rd_T177 l0_0 x9_37).f1) t212 _ A62.out).mono ?_); rintro e w' ⟨rfl, ⟨nd, rfl⟩⟩; (try first | exact ⟨rfl, _, World.drewN_drewN _ _ _⟩ | exact ⟨rfl, _, Eq.trans (World.drewN_drewN _ _ _) (congrArg (World.drewN _) (Nat.add_assoc _ _ _))⟩); have p213 : 0 ≤ (x8_31 : Int) := of_decide_eq_true (by first | (with_reducible assumption) | assumption); have q213 : x8_31 < (l0_0.length : Int) := of_decide_eq_true (by first | (with_reducible assumption) | assumption); obtain ⟨ad213, e213, hx213_0, hx213_1⟩ := at_T177 HR0_0.out x8_31 p213 q213; obtain rfl : ad209 = ad213 := (by injection e213); replace hx213_0 := (HB.out.cell (World.block_lt_of_cell? w _ hx213_0)).trans hx213_0; replace hx213_1 := (HB.out.cell (World.block_lt_of_cell? w _ hx213_1)).trans hx213_1; replace p213 := eq_true p213; replace q213 := eq_true q213))
                          repeat (go_quiet (first | (go_at_call 103; (with_reducible refine (tables_abs.calls ((rd_T177 l0_0 x8_31).f1) t210 _ A59.out).mono ?_); rintro e w' ⟨rfl, ⟨nd, rfl⟩⟩; (try first | exact ⟨rfl, _, World.drewN_drewN _ _ _⟩ | exact ⟨rfl, _, Eq.trans (World.drewN_drewN _ _ _) (congrArg (World.drewN _) (Nat.add_assoc _ _ _))⟩); have p211 : 0 ≤ (x9_37 : Int) := of_decide_eq_true (by first | (with_reducible assumption) | assumption); have q211 : x9_37 < (l0_0.length : Int) := of_decide_eq_true (by first | (with_reducible assumption) | assumption); obtain ⟨ad211, e211, hx211_0, hx211_1⟩ := at_T177 HR0_0.out x9_37 p211 q211; obtain rfl : ad209 = ad211 := (by injection e211); replace hx211_0 := (HB.out.cell (World.block_lt_of_cell? w _ hx211_0)).trans hx211_0; replace hx211_1 := (HB.out.cell (World.block_lt_of_cell? w _ hx211_1)).trans hx211_1; replace p211 := eq_true p211; replace q211 := eq_true q211) | (go_at_call 103; (with_reducible refine (tables_abs.calls ((rd_T177 l0_0 x9_37).f1) t212 _ A62.out).mono ?_); rintro e w' ⟨rfl, ⟨nd, rfl⟩⟩; (try first | exact ⟨rfl, _, World.drewN_drewN _ _ _⟩ | exact ⟨rfl, _, Eq.trans (World.drewN_drewN _ _ _) (congrArg (World.drewN _) (Nat.add_assoc _ _ _))⟩); have p213 : 0 ≤ (x8_31 : Int) := of_decide_eq_true (by first | (with_reducible assumption) | assumption); have q213 : x8_31 < (l0_0.length : Int) := of_decide_eq_true (by first | (with_reducible assumption) | assumption); obtain ⟨ad213, e213, hx213_0, hx213_1⟩ := at_T177 HR0_0.out x8_31 p213 q213; obtain rfl : ad209 = ad213 := (by injection e213); replace hx213_0 := (HB.out.cell (World.block_lt_of_cell? w _ hx213_0)).trans hx213_0; replace hx213_1 := (HB.out.cell (World.block_lt_of_cell? w _ hx213_1)).trans hx213_1; replace p213 := eq_true p213; replace q213 := eq_true q213)); try go_wp2_with (first | (go_at_call 103; (with_reducible refine (tables_abs.calls ((rd_T177 l0_0 x8_31).f1) t210 _ A59.out).mono ?_); rintro e w' ⟨rfl, ⟨nd, rfl⟩⟩; (try first | exact ⟨rfl, _, World.drewN_drewN _ _ _⟩ | exact ⟨rfl, _, Eq.trans (World.drewN_drewN _ _ _) (congrArg (World.drewN _) (Nat.add_assoc _ _ _))⟩); have p211 : 0 ≤ (x9_37 : Int) := of_decide_eq_true (by first | (with_reducible assumption) | assumption); have q211 : x9_37 < (l0_0.length : Int) := of_decide_eq_true (by first | (with_reducible assumption) | assumption); obtain ⟨ad211, e211, hx211_0, hx211_1⟩ := at_T177 HR0_0.out x9_37 p211 q211; obtain rfl : ad209 = ad211 := (by injection e211); replace hx211_0 := (HB.out.cell (World.block_lt_of_cell? w _ hx211_0)).trans hx211_0; replace hx211_1 := (HB.out.cell (World.block_lt_of_cell? w _ hx211_1)).trans hx211_1; replace p211 := eq_true p211; replace q211 := eq_true q211) | (go_at_call 103; (with_reducible refine (tables_abs.calls ((rd_T177 l0_0 x9_37).f1) t212 _ A62.out).mono ?_); rintro e w' ⟨rfl, ⟨nd, rfl⟩⟩; (try first | exact ⟨rfl, _, World.drewN_drewN _ _ _⟩ | exact ⟨rfl, _, Eq.trans (World.drewN_drewN _ _ _) (congrArg (World.drewN _) (Nat.add_assoc _ _ _))⟩); have p213 : 0 ≤ (x8_31 : Int) := of_decide_eq_true (by first | (with_reducible assumption) | assumption); have q213 : x8_31 < (l0_0.length : Int) := of_decide_eq_true (by first | (with_reducible assumption) | assumption); obtain ⟨ad213, e213, hx213_0, hx213_1⟩ := at_T177 HR0_0.out x8_31 p213 q213; obtain rfl : ad209 = ad213 := (by injection e213); replace hx213_0 := (HB.out.cell (World.block_lt_of_cell? w _ hx213_0)).trans hx213_0; replace hx213_1 := (HB.out.cell (World.block_lt_of_cell? w _ hx213_1)).trans hx213_1; replace p213 := eq_true p213; replace q213 := eq_true q213)))
                          go_ret
                          exact ⟨by first | rfl | (simp [errW_none, errW_some] <;> rfl) | (simp [*, errW_none, errW_some] <;> rfl), by repeat (first | (with_reducible first | exact HB.out | apply below_alloc | apply pw_below_drewN | apply below_drew1 | refine below_set ?_ GE194.out) | exact HB.out)⟩
                        · as_aux_lemma =>
                          rw [if_neg c63] at H
                          have c63b0 : decide (t210 < t212) = false := decide_eq_false c63
                          clear c63
                          obtain rfl := Option.some.inj H
                          have p209 : 0 ≤ (x8_31 : Int) := of_decide_eq_true (by first | (with_reducible assumption) | assumption)
                          have q209 : x8_31 < (l0_0.length : Int) := of_decide_eq_true (by first | (with_reducible assumption) | assumption)
                          obtain ⟨ad209, e209, hx209_0, hx209_1⟩ := at_T177 HR0_0.out x8_31 p209 q209
                          cases e209
                          replace hx209_0 := (HB.out.cell (World.block_lt_of_cell? w _ hx209_0)).trans hx209_0
                          replace hx209_1 := (HB.out.cell (World.block_lt_of_cell? w _ hx209_1)).trans hx209_1
                          replace p209 := eq_true p209
                          replace q209 := eq_true q209
                          go_wp2_with (first | (go_at_call 103; (with_reducible refine (tables_abs.calls ((rd_T177 l0_0 x8_31).f1) t210 _ A59.out).mono ?_); rintro e w' ⟨rfl, ⟨nd, rfl⟩⟩; (try first | exact ⟨rfl, _, World.drewN_drewN _ _ _⟩ | exact ⟨rfl, _, Eq.trans (World.drewN_drewN _ _ _) (congrArg (World.drewN _) (Nat.add_assoc _ _ _))⟩); have p211 : 0 ≤ (x9_37 : Int) := of_decide_eq_true (by first | (with_reducible assumption) | assumption); have q211 : x9_37 < (l0_0.length : Int) := of_decide_eq_true (by first | (with_reducible assumption) | assumption); obtain ⟨ad211, e211, hx211_0, hx211_1⟩ := at_T177 HR0_0.out x9_37 p211 q211; obtain rfl : ad209 = ad211 := (by injection e211); replace hx211_0 := (HB.out.cell (World.block_lt_of_cell? w _ hx211_0)).trans hx211_0; replace hx211_1 := (HB.out.cell (World.block_lt_of_cell? w _ hx211_1)).trans hx211_1; replace p211 := eq_true p211; replace q211 := eq_true q211) | (go_at_call 103; (with_reducible refine (tables_abs.calls ((rd_T177 l0_0 x9_37).f1) t212 _ A62.out).mono ?_); rintro e w' ⟨rfl, ⟨nd, rfl⟩⟩; (try first | exact ⟨rfl, _, World.drewN_drewN _ _ _⟩ | exact ⟨rfl, _, Eq.trans (World.drewN_drewN _ _ _) (congrArg (World.drewN _) (Nat.add_assoc _ _ _))⟩); have p214 : 0 ≤ (x9_37 : Int) := of_decide_eq_true (by first | (with_reducible assumption) | assumption); have q214 : x9_37 < (l0_0.length : Int) := of_decide_eq_true (by first | (with_reducible assumption) | assumption); obtain ⟨ad214, e214, hx214_0, hx214_1⟩ := at_T177 HR0_0.out x9_37 p214 q214; obtain rfl : ad209 = ad214 := (by injection e214); replace hx214_0 := (HB.out.cell (World.block_lt_of_cell? w _ hx214_0)).trans hx214_0; replace hx214_1 := (HB.out.cell (World.block_lt_of_cell? w _ hx214_1)).trans hx214_1; replace p214 := eq_true p214; replace q214 := eq_true q214))
                          repeat (go_quiet (first | (go_at_call 103; (with_reducible refine (tables_abs.calls ((rd_T177 l0_0 x8_31).f1) t210 _ A59.out).mono ?_); rintro e w' ⟨rfl, ⟨nd, rfl⟩⟩; (try first | exact ⟨rfl, _, World.drewN_drewN _ _ _⟩ | exact ⟨rfl, _, Eq.trans (World.drewN_drewN _ _ _) (congrArg (World.drewN _) (Nat.add_assoc _ _ _))⟩); have p211 : 0 ≤ (x9_37 : Int) := of_decide_eq_true (by first | (with_reducible assumption) | assumption); have q211 : x9_37 < (l0_0.length : Int) := of_decide_eq_true (by first | (with_reducible assumption) | assumption); obtain ⟨ad211, e211, hx211_0, hx211_1⟩ := at_T177 HR0_0.out x9_37 p211 q211; obtain rfl : ad209 = ad211 := (by injection e211); replace hx211_0 := (HB.out.cell (World.block_lt_of_cell? w _ hx211_0)).trans hx211_0; replace hx211_1 := (HB.out.cell (World.block_lt_of_cell? w _ hx211_1)).trans hx211_1; replace p211 := eq_true p211; replace q211 := eq_true q211) | (go_at_call 103; (with_reducible refine (tables_abs.calls ((rd_T177 l0_0 x9_37).f1) t212 _ A62.out).mono ?_); rintro e w' ⟨rfl, ⟨nd, rfl⟩⟩; (try first | exact ⟨rfl, _, World.drewN_drewN _ _ _⟩ | exact ⟨rfl, _, Eq.trans (World.drewN_drewN _ _ _) (congrArg (World.drewN _) (Nat.add_assoc _ _ _))⟩); have p214 : 0 ≤ (x9_37 : Int) := of_decide_eq_true (by first | (with_reducible assumption) | assumption); have q214 : x9_37 < (l0_0.length : Int) := of_decide_eq_true (by first | (with_reducible assumption) | assumption); obtain ⟨ad214, e214, hx214_0, hx214_1⟩ := at_T177 HR0_0.out x9_37 p214 q214; obtain rfl : ad209 = ad214 := (by injection e214); replace hx214_0 := (HB.out.cell (World.block_lt_of_cell? w _ hx214_0)).trans hx214_0; replace hx214_1 := (HB.out.cell (World.block_lt_of_cell? w _ hx214_1)).trans hx214_1; replace p214 := eq_true p214; replace q214 := eq_true q214)); try go_wp2_with (first | (go_at_call 103; (with_reducible refine (tables_abs.calls ((rd_T177 l0_0 x8_31).f1) t210 _ A59.out).mono ?_); rintro e w' ⟨rfl, ⟨nd, rfl⟩⟩; (try first | exact ⟨rfl, _, World.drewN_drewN _ _ _⟩ | exact ⟨rfl, _, Eq.trans (World.drewN_drewN _ _ _) (congrArg (World.drewN _) (Nat.add_assoc _ _ _))⟩); have p211 : 0 ≤ (x9_37 : Int) := of_decide_eq_true (by first | (with_reducible assumption) | assumption); have q211 : x9_37 < (l0_0.length : Int) := of_decide_eq_true (by first | (with_reducible assumption) | assumption); obtain ⟨ad211, e211, hx211_0, hx211_1⟩ := at_T177 HR0_0.out x9_37 p211 q211; obtain rfl : ad209 = ad211 := (by injection e211); replace hx211_0 := (HB.out.cell (World.block_lt_of_cell? w _ hx211_0)).trans hx211_0; replace hx211_1 := (HB.out.cell (World.block_lt_of_cell? w _ hx211_1)).trans hx211_1; replace p211 := eq_true p211; replace q211 := eq_true q211) | (go_at_call 103; (with_reducible refine (tables_abs.calls ((rd_T177 l0_0 x9_37).f1) t212 _ A62.out).mono ?_); rintro e w' ⟨rfl, ⟨nd, rfl⟩⟩; (try first | exact ⟨rfl, _, World.drewN_drewN _ _ _⟩ | exact ⟨rfl, _, Eq.trans (World.drewN_drewN _ _ _) (congrArg (World.drewN _) (Nat.add_assoc _ _ _))⟩); have p214 : 0 ≤ (x9_37 : Int) := of_decide_eq_true (by first | (with_reducible assumption) | assumption); have q214 : x9_37 < (l0_0.length : Int) := of_decide_eq_true (by first | (with_reducible assumption) | assumption); obtain ⟨ad214, e214, hx214_0, hx214_1⟩ := at_T177 HR0_0.out x9_37 p214 q214; obtain rfl : ad209 = ad214 := (by injection e214); replace hx214_0 := (HB.out.cell (World.block_lt_of_cell? w _ hx214_0)).trans hx214_0; replace hx214_1 := (HB.out.cell (World.block_lt_of_cell? w _ hx214_1)).trans hx214_1; replace p214 := eq_true p214; replace q214 := eq_true q214)))
                          go_ret
                          exact ⟨by first | rfl | (simp [errW_none, errW_some] <;> rfl) | (simp [*, errW_none, errW_some] <;> rfl), by repeat (first | (with_reducible first | exact HB.out | apply below_alloc | apply pw_below_drewN | apply below_drew1 | refine below_set ?_ GE194.out) | exact HB.out)⟩
                       ·rw [if_neg c61] at H
                        exact absurd H (by simp)
                      ·rw [if_neg c60] at H
                       exact absurd H (by simp)
                     ·rw [if_neg c58] at H
                      exact absurd H (by simp)
                    ·rw [if_neg c57] at H
                     exact absurd H (by simp)
             ·rw [if_neg c37] at H
              have c37b0 : decide (x8_31 < x7_29) = false := decide_eq_false c37
              clear c37
              have HC64 := Aside0.mk H
              clear H
              go_upto_block 4 with (fail)
              repeat (go_quiet (fail); go_upto_block 4 with (fail))
              go_cut [8] (fun v8 wc => ∃ (kq : Nat) (x8_63 : Int), v8 = .int .i64 x8_63 ∧ Aside0 (tables_SegmentMaps_Map.j9 kq a1 l0_0 x7_29 x8_63 = some r) ∧ Aside0 (kq ≤ kj31) ∧ Aside0 (wc.heap[gb194]? = some (.cells #[(.slice A0_0 l0_0.length c0_0)] 174 (0, 0))) ∧ Aside0 (Below w.heap.size w wc))
              case first =>
               have H := HC64.out
               clear HC64
               have H' := Aside0.mk H
               clear H
               go_wp2
               repeat (go_quiet (fail); try go_wp2)
               go_loopg [8] kj31 (fun kq v8 w' => ∃ (x8_6 : Int), v8 = .int .i64 x8_6 ∧ Aside0 (tables_SegmentMaps_Map.l2 kq a1 l0_0 x7_29 x8_6 = some r) ∧ Aside0 (kq ≤ kj31) ∧ Aside0 (w'.heap[gb194]? = some (.cells #[(.slice A0_0 l0_0.length c0_0)] 174 (0, 0))) ∧ Aside0 (Below w.heap.size w w'))
               case atStart => exact ⟨(x6_18), (by first | rfl | (simp; done) | (simp [*]; done)), H', ⟨Nat.le_refl _⟩, ⟨by (with_reducible repeat (first | refine b1_ ?_ _ | refine b2_ ?_ | refine b3_ ?_ _)); exact BK194.out⟩, ⟨by repeat (first | (with_reducible first | exact HB.out | apply below_alloc | apply pw_below_drewN | apply below_drew1 | refine below_set ?_ GE194.out) | exact HB.out)⟩⟩
               case round =>
                clear H'
                try clear c1
                try clear p1
                try clear q1
                try clear hx1
                try clear qi1
                try clear c2
                try clear p2
                try clear q2
                try clear hx2
                try clear c3
                try clear c3b0
                try clear c3b1
                try clear c3b2
                try clear c4
                try clear c5
                try clear c6
                try clear c6b0
                try clear c6b1
                try clear p6
                try clear c7
                try clear c7b0
                try clear c7b1
                try clear c8
                try clear c13
                try clear c13b0
                try clear c13b1
                try clear c14
                try clear c14b0
                try clear c14b1
                try clear c15
                try clear c15b0
                try clear c15b1
                try clear c17
                try clear c17b0
                try clear c18
                try clear c18b0
                try clear p19
                try clear q19
                try clear hx19
                try clear qi19
                try clear c20
                try clear p20
                try clear q20
                try clear hx20
                try clear p21
                try clear q21
                try clear hx21
                try clear c23
                try clear c23b0
                try clear c24
                try clear c24b0
                try clear c25
                try clear c25b0
                try clear c25b1
                try clear c26
                try clear c26b0
                try clear c26b1
                try clear c28
                try clear c28b0
                try clear c29
                try clear c29b0
                try clear c31
                try clear c33
                try clear c33b0
                try clear c34
                try clear c34b0
                try clear c35
                try clear c35b0
                try clear c36
                try clear c36b0
                try clear c36b1
                try clear c37
                try clear c37b0
                try clear c39
                try clear c39b0
                try clear c41
                try clear c41b0
                try clear c42
                try clear c42b0
                try clear c43
                try clear c43b0
                try clear c43b1
                try clear c44
                try clear c44b0
                try clear c44b1
                try clear c45
                try clear c45b0
                try clear c46
                try clear c46b0
                try clear c47
                try clear c47b0
                try clear c47b1
                try clear c49
                try clear c49b0
                try clear c50
                try clear c50b0
                try clear c51
                try clear c51b0
                try clear c52
                try clear c52b0
                try clear c53
                try clear c53b0
                try clear c54
                try clear c54b0
                try clear c55
                try clear c55b0
                try clear c56
                try clear c56b0
                try clear c57
                try clear c57b0
                try clear c58
                try clear c58b0
                try clear c60
                try clear c60b0
                try clear c61
                try clear c61b0
                try clear c63
                try clear c63b0
                try clear p64
                try clear hcz12_0
                try clear hcz5_0
                try clear hcz9_0
                try clear hfz12_0
                try clear hfz5_0
                try clear hfz9_0
                try clear hx195_0
                try clear hx195_1
                try clear hx196_0
                try clear hx196_1
                try clear hx197_0
                try clear hx197_1
                try clear hx198_0
                try clear hx198_1
                try clear hx199_0
                try clear hx199_1
                try clear hx200_0
                try clear hx200_1
                try clear hx201_0
                try clear hx201_1
                try clear hx202_0
                try clear hx202_1
                try clear hx203_0
                try clear hx203_1
                try clear hx204_0
                try clear hx204_1
                try clear hx205_0
                try clear hx205_1
                try clear hx206_0
                try clear hx206_1
                try clear hx207_0
                try clear hx207_1
                try clear hx208_0
                try clear hx208_1
                try clear hx209_0
                try clear hx209_1
                try clear hx211_0
                try clear hx211_1
                try clear hx213_0
                try clear hx213_1
                try clear hx214_0
                try clear hx214_1
                try clear p1
                try clear p19
                try clear p195
                try clear p196
                try clear p197
                try clear p198
                try clear p199
                try clear p2
                try clear p20
                try clear p200
                try clear p201
                try clear p202
                try clear p203
                try clear p204
                try clear p205
                try clear p206
                try clear p207
                try clear p208
                try clear p209
                try clear p211
                try clear p213
                try clear p214
                try clear p6
                try clear q1
                try clear q19
                try clear q195
                try clear q196
                try clear q197
                try clear q198
                try clear q199
                try clear q2
                try clear q20
                try clear q200
                try clear q201
                try clear q202
                try clear q203
                try clear q204
                try clear q205
                try clear q206
                try clear q207
                try clear q208
                try clear q209
                try clear q211
                try clear q213
                try clear q214
                obtain ⟨x8_6, rfl, HA, HK6, BK194, HB⟩ := hrel
                cases gk with
                | zero => exact absurd HA.out (by simp [tables_SegmentMaps_Map.l2])
                | succ k6 =>
                 have H := HA.out
                 clear HA
                 simp only [tables_SegmentMaps_Map.l2] at H
                 by_cases c65 : x8_6 < x7_29
                 ·rw [if_pos c65] at H
                  have c65b0 : decide (x8_6 < x7_29) = true := decide_eq_true c65
                  clear c65
                  (first | rw [c65b0] | (simp only [i64_w, i32_w]; rw [c65b0]) | skip)
                  by_cases c66 : 0 ≤ x8_6
                  ·rw [if_pos c66] at H
                   have c66b0 : decide (0 ≤ x8_6) = true := decide_eq_true c66
                   clear c66
                   by_cases c67 : x8_6 < (l0_0.length : Int)
                   ·rw [if_pos c67] at H
                    have c67b0 : decide (x8_6 < (l0_0.length : Int)) = true := decide_eq_true c67
                    clear c67
                    by_cases c68 : a1 < ((rd_T177 l0_0 x8_6).f0)
                    · as_aux_lemma =>
                      rw [if_pos c68] at H
                      have c68b0 : decide (a1 < ((rd_T177 l0_0 x8_6).f0)) = true := decide_eq_true c68
                      clear c68
                      have H' := Aside0.mk H
                      clear H
                      have p215 : 0 ≤ (x8_6 : Int) := of_decide_eq_true (by first | (with_reducible assumption) | assumption)
                      have q215 : x8_6 < (l0_0.length : Int) := of_decide_eq_true (by first | (with_reducible assumption) | assumption)
                      obtain ⟨ad215, e215, hx215_0, hx215_1⟩ := at_T177 HR0_0.out x8_6 p215 q215
                      cases e215
                      replace hx215_0 := (HB.out.cell (World.block_lt_of_cell? w _ hx215_0)).trans hx215_0
                      replace hx215_1 := (HB.out.cell (World.block_lt_of_cell? w _ hx215_1)).trans hx215_1
                      replace p215 := eq_true p215
                      replace q215 := eq_true q215
                      go_wp2
                      repeat (go_quiet (fail); try go_wp2)
                      go_meet
                      case rel => exact ⟨_, (x8_6), (by first | rfl | (simp; done) | (simp [*]; done)), H', ⟨by have := HJ9.out; have := HJ18.out; have := HJ20.out; have := HJ29.out; have := HJ31.out; have := HK6.out; first | omega | exact Nat.le_refl _⟩, ⟨by (with_reducible repeat (first | refine b1_ ?_ _ | refine b2_ ?_ | refine b3_ ?_ _)); exact BK194.out⟩, ⟨by repeat (first | (with_reducible first | exact HB.out | apply below_alloc | apply pw_below_drewN | apply below_drew1 | refine below_set ?_ GE194.out) | exact HB.out)⟩⟩
                    · as_aux_lemma =>
                      rw [if_neg c68] at H
                      have c68b0 : decide (a1 < ((rd_T177 l0_0 x8_6).f0)) = false := decide_eq_false c68
                      clear c68
                      have H' := Aside0.mk H
                      clear H
                      have p215 : 0 ≤ (x8_6 : Int) := of_decide_eq_true (by first | (with_reducible assumption) | assumption)
                      have q215 : x8_6 < (l0_0.length : Int) := of_decide_eq_true (by first | (with_reducible assumption) | assumption)
                      obtain ⟨ad215, e215, hx215_0, hx215_1⟩ := at_T177 HR0_0.out x8_6 p215 q215
                      cases e215
                      replace hx215_0 := (HB.out.cell (World.block_lt_of_cell? w _ hx215_0)).trans hx215_0
                      replace hx215_1 := (HB.out.cell (World.block_lt_of_cell? w _ hx215_1)).trans hx215_1
                      replace p215 := eq_true p215
                      replace q215 := eq_true q215
                      go_wp2
                      repeat (go_quiet (fail); try go_wp2)
                      go_roundg k6
                      case measure => have := HJ9.out; have := HJ18.out; have := HJ20.out; have := HJ29.out; have := HJ31.out; have := HK6.out; omega
                      case rel => exact ⟨(wrap64 (x8_6 + 1)), (by first | rfl | (simp; done) | (simp [*]; done)), H', ⟨by have := HJ9.out; have := HJ18.out; have := HJ20.out; have := HJ29.out; have := HJ31.out; have := HK6.out; omega⟩, ⟨by (with_reducible repeat (first | refine b1_ ?_ _ | refine b2_ ?_ | refine b3_ ?_ _)); exact BK194.out⟩, ⟨by repeat (first | (with_reducible first | exact HB.out | apply below_alloc | apply pw_below_drewN | apply below_drew1 | refine below_set ?_ GE194.out) | exact HB.out)⟩⟩
                   ·rw [if_neg c67] at H
                    exact absurd H (by simp)
                  ·rw [if_neg c66] at H
                   exact absurd H (by simp)
                 · as_aux_lemma =>
                   rw [if_neg c65] at H
                   have c65b0 : decide (x8_6 < x7_29) = false := decide_eq_false c65
                   clear c65
                   (first | rw [c65b0] | (simp only [i64_w, i32_w]; rw [c65b0]) | skip)
                   have H' := Aside0.mk H
                   clear H
                   go_wp2
                   repeat (go_quiet (fail); try go_wp2)
                   go_meet
                   case rel => exact ⟨_, (x8_6), (by first | rfl | (simp; done) | (simp [*]; done)), H', ⟨by have := HJ9.out; have := HJ18.out; have := HJ20.out; have := HJ29.out; have := HJ31.out; have := HK6.out; first | omega | exact Nat.le_refl _⟩, ⟨by (with_reducible repeat (first | refine b1_ ?_ _ | refine b2_ ?_ | refine b3_ ?_ _)); exact BK194.out⟩, ⟨by repeat (first | (with_reducible first | exact HB.out | apply below_alloc | apply pw_below_drewN | apply below_drew1 | refine below_set ?_ GE194.out) | exact HB.out)⟩⟩
              case rest =>
               clear HC64
               try clear c1
               try clear p1
               try clear q1
               try clear hx1
               try clear qi1
               try clear c2
               try clear p2
               try clear q2
               try clear hx2
               try clear c3
               try clear c3b0
               try clear c3b1
               try clear c3b2
               try clear c4
               try clear c5
               try clear c6
               try clear c6b0
               try clear c6b1
               try clear p6
               try clear c7
               try clear c7b0
               try clear c7b1
               try clear c8
               try clear c13
               try clear c13b0
               try clear c13b1
               try clear c14
               try clear c14b0
               try clear c14b1
               try clear c15
               try clear c15b0
               try clear c15b1
               try clear c17
               try clear c17b0
               try clear c18
               try clear c18b0
               try clear p19
               try clear q19
               try clear hx19
               try clear qi19
               try clear c20
               try clear p20
               try clear q20
               try clear hx20
               try clear p21
               try clear q21
               try clear hx21
               try clear c23
               try clear c23b0
               try clear c24
               try clear c24b0
               try clear c25
               try clear c25b0
               try clear c25b1
               try clear c26
               try clear c26b0
               try clear c26b1
               try clear c28
               try clear c28b0
               try clear c29
               try clear c29b0
               try clear c31
               try clear c33
               try clear c33b0
               try clear c34
               try clear c34b0
               try clear c35
               try clear c35b0
               try clear c36
               try clear c36b0
               try clear c36b1
               try clear c37
               try clear c37b0
               try clear c39
               try clear c39b0
               try clear c41
               try clear c41b0
               try clear c42
               try clear c42b0
               try clear c43
               try clear c43b0
               try clear c43b1
               try clear c44
               try clear c44b0
               try clear c44b1
               try clear c45
               try clear c45b0
               try clear c46
               try clear c46b0
               try clear c47
               try clear c47b0
               try clear c47b1
               try clear c49
               try clear c49b0
               try clear c50
               try clear c50b0
               try clear c51
               try clear c51b0
               try clear c52
               try clear c52b0
               try clear c53
               try clear c53b0
               try clear c54
               try clear c54b0
               try clear c55
               try clear c55b0
               try clear c56
               try clear c56b0
               try clear c57
               try clear c57b0
               try clear c58
               try clear c58b0
               try clear c60
               try clear c60b0
               try clear c61
               try clear c61b0
               try clear c63
               try clear c63b0
               try clear p64
               try clear c65
               try clear c65b0
               try clear c66
               try clear c66b0
               try clear c67
               try clear c67b0
               try clear c68
               try clear c68b0
               try clear hcz12_0
               try clear hcz5_0
               try clear hcz9_0
               try clear hfz12_0
               try clear hfz5_0
               try clear hfz9_0
               try clear hx195_0
               try clear hx195_1
               try clear hx196_0
               try clear hx196_1
               try clear hx197_0
               try clear hx197_1
               try clear hx198_0
               try clear hx198_1
               try clear hx199_0
               try clear hx199_1
               try clear hx200_0
               try clear hx200_1
               try clear hx201_0
               try clear hx201_1
               try clear hx202_0
               try clear hx202_1
               try clear hx203_0
               try clear hx203_1
               try clear hx204_0
               try clear hx204_1
               try clear hx205_0
               try clear hx205_1
               try clear hx206_0
               try clear hx206_1
               try clear hx207_0
               try clear hx207_1
               try clear hx208_0
               try clear hx208_1
               try clear hx209_0
               try clear hx209_1
               try clear hx211_0
               try clear hx211_1
               try clear hx213_0
               try clear hx213_1
               try clear hx214_0
               try clear hx214_1
               try clear hx215_0
               try clear hx215_1
               try clear p1
               try clear p19
               try clear p195
               try clear p196
               try clear p197
               try clear p198
               try clear p199
               try clear p2
               try clear p20
               try clear p200
               try clear p201
               try clear p202
               try clear p203
               try clear p204
               try clear p205
               try clear p206
               try clear p207
               try clear p208
               try clear p209
               try clear p21
               try clear p211
               try clear p213
               try clear p214
               try clear p215
               try clear p6
               try clear p64
               try clear q1
               try clear q19
               try clear q195
               try clear q196
               try clear q197
               try clear q198
               try clear q199
               try clear q2
               try clear q20
               try clear q200
               try clear q201
               try clear q202
               try clear q203
               try clear q204
               try clear q205
               try clear q206
               try clear q207
               try clear q208
               try clear q209
               try clear q21
               try clear q211
               try clear q213
               try clear q214
               try clear q215
               obtain ⟨kq, x8_63, rfl, HA, HJ63, BK194, HB⟩ := hcut
               cases kq with
               | zero => exact absurd HA.out (by simp [tables_SegmentMaps_Map.j9])
               | succ kj63 =>
                have H := HA.out
                clear HA
                simp only [tables_SegmentMaps_Map.j9] at H
                by_cases c69 : x8_63 = 0
                ·rw [if_pos c69] at H
                 have c69b0 : (x8_63 == 0) = true := beq_iff_eq.mpr c69
                 have c69b1 : (x8_63 != 0) = false := bne_eq_false_iff_eq.mpr c69
                 clear c69
                 by_cases c70 : 0 < (l0_0.length : Int)
                 · as_aux_lemma =>
                   rw [if_pos c70] at H
                   have c70b0 : decide (0 < (l0_0.length : Int)) = true := decide_eq_true c70
                   have c70b1 : decide (0 < l0_0.length) = true := decide_eq_true (by omega)
                   clear c70
                   obtain rfl := Option.some.inj H
                   have p216 : 0 ≤ (0 : Int) := (by omega)
                   have q216 : 0 < (l0_0.length : Int) := of_decide_eq_true (by first | (with_reducible assumption) | assumption)
                   obtain ⟨ad216, e216, hx216_0, hx216_1⟩ := at_T177 HR0_0.out 0 p216 q216
                   cases e216
                   have qi216 : (0 < l0_0.length) = True := eq_true (by omega)
                   (try rw [show ((0 : Int)).toNat = 0 from rfl] at hx216_0)
                   (try rw [show 0 * 2 = 0 from rfl] at hx216_0)
                   (try rw [Addr.add_zero'] at hx216_0)
                   (try rw [show ((0 : Int)).toNat = 0 from rfl] at hx216_1)
                   (try rw [show 0 * 2 = 0 from rfl] at hx216_1)
                   (try rw [Addr.add_zero'] at hx216_1)
                   replace hx216_0 := (HB.out.cell (World.block_lt_of_cell? w _ hx216_0)).trans hx216_0
                   replace hx216_1 := (HB.out.cell (World.block_lt_of_cell? w _ hx216_1)).trans hx216_1
                   replace p216 := eq_true p216
                   replace q216 := eq_true q216
                   have p217 : 0 ≤ (0 : Int) := (by omega)
                   have q217 : 0 < (l0_0.length : Int) := of_decide_eq_true (by first | (with_reducible assumption) | assumption)
                   obtain ⟨ad217, e217, hx217_0, hx217_1⟩ := at_T177 HR0_0.out 0 p217 q217
                   obtain rfl : ad216 = ad217 := (by injection e217)
                   have qi217 : (0 < l0_0.length) = True := eq_true (by omega)
                   (try rw [show ((0 : Int)).toNat = 0 from rfl] at hx217_0)
                   (try rw [show 0 * 2 = 0 from rfl] at hx217_0)
                   (try rw [Addr.add_zero'] at hx217_0)
                   (try rw [show ((0 : Int)).toNat = 0 from rfl] at hx217_1)
                   (try rw [show 0 * 2 = 0 from rfl] at hx217_1)
                   (try rw [Addr.add_zero'] at hx217_1)
                   replace hx217_0 := (HB.out.cell (World.block_lt_of_cell? w _ hx217_0)).trans hx217_0
                   replace hx217_1 := (HB.out.cell (World.block_lt_of_cell? w _ hx217_1)).trans hx217_1
                   replace p217 := eq_true p217
                   replace q217 := eq_true q217
                   go_wp2
                   repeat (go_quiet (fail); try go_wp2)
                   go_ret
                   exact ⟨by first | rfl | (simp [errW_none, errW_some] <;> rfl) | (simp [*, errW_none, errW_some] <;> rfl), by repeat (first | (with_reducible first | exact HB.out | apply below_alloc | apply pw_below_drewN | apply below_drew1 | refine below_set ?_ GE194.out) | exact HB.out)⟩
                 ·rw [if_neg c70] at H
                  exact absurd H (by simp)
                ·rw [if_neg c69] at H
                 have c69b0 : (x8_63 == 0) = false := beq_eq_false_iff_ne.mpr c69
                 have c69b1 : (x8_63 != 0) = true := bne_iff_ne.mpr c69
                 by_cases c71 : x8_63 = x7_29
                 ·rw [if_pos c71] at H
                  have c71b0 : (x8_63 == x7_29) = true := beq_iff_eq.mpr c71
                  have c71b1 : (x8_63 != x7_29) = false := bne_eq_false_iff_eq.mpr c71
                  clear c71
                  obtain ⟨ji72, hji72⟩ : ∃ j_ : Int, (wrap64 (x7_29 - 1)) = j_ := ⟨_, rfl⟩
                  replace H : (if 0 ≤ (ji72) then (if (ji72) < (l0_0.length : Int) then (some (IntKind.i16.wrap ((IntKind.i16.wrap (a1 - ((rd_T177 l0_0 (ji72)).f0))) + ((rd_T177 l0_0 (ji72)).f1)))) else (none)) else (none)) = some r := by first | (rw [hji72] at H; exact H) | (simp only [hji72] at H ⊢; exact H)
                  have hji72w : (IntKind.i64.wrap (x7_29 - 1)) = ji72 := (i64_w _).trans hji72
                  by_cases c73 : 0 ≤ (ji72)
                  ·rw [if_pos c73] at H
                   have c73b0 : decide (0 ≤ (ji72)) = true := decide_eq_true c73
                   clear c73
                   by_cases c74 : (ji72) < (l0_0.length : Int)
                   · as_aux_lemma =>
                     rw [if_pos c74] at H
                     have c74b0 : decide ((ji72) < (l0_0.length : Int)) = true := decide_eq_true c74
                     clear c74
                     obtain rfl := Option.some.inj H
                     have p218 : 0 ≤ ((ji72) : Int) := of_decide_eq_true (by first | (with_reducible assumption) | assumption)
                     have q218 : (ji72) < (l0_0.length : Int) := of_decide_eq_true (by first | (with_reducible assumption) | assumption)
                     obtain ⟨ad218, e218, hx218_0, hx218_1⟩ := at_T177 HR0_0.out (ji72) p218 q218
                     cases e218
                     replace hx218_0 := (HB.out.cell (World.block_lt_of_cell? w _ hx218_0)).trans hx218_0
                     replace hx218_1 := (HB.out.cell (World.block_lt_of_cell? w _ hx218_1)).trans hx218_1
                     replace p218 := eq_true p218
                     replace q218 := eq_true q218
                     have p219 : 0 ≤ ((ji72) : Int) := of_decide_eq_true (by first | (with_reducible assumption) | assumption)
                     have q219 : (ji72) < (l0_0.length : Int) := of_decide_eq_true (by first | (with_reducible assumption) | assumption)
                     obtain ⟨ad219, e219, hx219_0, hx219_1⟩ := at_T177 HR0_0.out (ji72) p219 q219
                     obtain rfl : ad218 = ad219 := (by injection e219)
                     replace hx219_0 := (HB.out.cell (World.block_lt_of_cell? w _ hx219_0)).trans hx219_0
                     replace hx219_1 := (HB.out.cell (World.block_lt_of_cell? w _ hx219_1)).trans hx219_1
                     replace p219 := eq_true p219
                     replace q219 := eq_true q219
                     go_wp2
                     repeat (go_quiet (fail); try go_wp2)
                     go_ret
                     exact ⟨by first | rfl | (simp [errW_none, errW_some] <;> rfl) | (simp only [← hji72]; first | rfl | (simp [errW_none, errW_some] <;> rfl)) | (simp [*, errW_none, errW_some] <;> rfl), by repeat (first | (with_reducible first | exact HB.out | apply below_alloc | apply pw_below_drewN | apply below_drew1 | refine below_set ?_ GE194.out) | exact HB.out)⟩
                   ·rw [if_neg c74] at H
                    exact absurd H (by simp)
                  ·rw [if_neg c73] at H
                   exact absurd H (by simp)
                 ·rw [if_neg c71] at H
                  have c71b0 : (x8_63 == x7_29) = false := beq_eq_false_iff_ne.mpr c71
                  have c71b1 : (x8_63 != x7_29) = true := bne_iff_ne.mpr c71
                  obtain ⟨ji75, hji75⟩ : ∃ j_ : Int, (wrap64 (x8_63 - 1)) = j_ := ⟨_, rfl⟩
                  replace H : (if 0 ≤ (ji75) then (if (ji75) < (l0_0.length : Int) then (if 0 ≤ x8_63 then (if x8_63 < (l0_0.length : Int) then (if fok .mul .f64 (floatOfInt .f64 (IntKind.i16.wrap (((rd_T177 l0_0 x8_63).f1) - ((rd_T177 l0_0 (ji75)).f1)))) (floatOfInt .f64 (IntKind.i16.wrap (a1 - ((rd_T177 l0_0 (ji75)).f0)))) = true then ((math_Round.f (fv .mul .f64 (floatOfInt .f64 (IntKind.i16.wrap (((rd_T177 l0_0 x8_63).f1) - ((rd_T177 l0_0 (ji75)).f1)))) (floatOfInt .f64 (IntKind.i16.wrap (a1 - ((rd_T177 l0_0 (ji75)).f0)))))).bind fun t224 => (if fok .quo .f64 t224 (floatOfInt .f64 (IntKind.i16.wrap (((rd_T177 l0_0 x8_63).f0) - ((rd_T177 l0_0 (ji75)).f0)))) = true then (if fiok .f64 (fv .quo .f64 t224 (floatOfInt .f64 (IntKind.i16.wrap (((rd_T177 l0_0 x8_63).f0) - ((rd_T177 l0_0 (ji75)).f0))))) .i16 = true then (some (IntKind.i16.wrap (((rd_T177 l0_0 (ji75)).f1) + (fi .f64 (fv .quo .f64 t224 (floatOfInt .f64 (IntKind.i16.wrap (((rd_T177 l0_0 x8_63).f0) - ((rd_T177 l0_0 (ji75)).f0))))) .i16)))) else (none)) else (none))) else (none)) else (none)) else (none)) else (none)) else (none)) = some r := by first | (rw [hji75] at H; exact H) | (simp only [hji75] at H ⊢; exact H)
                  have hji75w : (IntKind.i64.wrap (x8_63 - 1)) = ji75 := (i64_w _).trans hji75
                  by_cases c76 : 0 ≤ (ji75)
                  ·rw [if_pos c76] at H
                   have c76b0 : decide (0 ≤ (ji75)) = true := decide_eq_true c76
                   clear c76
                   by_cases c77 : (ji75) < (l0_0.length : Int)
                   ·rw [if_pos c77] at H
                    have c77b0 : decide ((ji75) < (l0_0.length : Int)) = true := decide_eq_true c77
                    clear c77
                    by_cases c78 : 0 ≤ x8_63
                    ·rw [if_pos c78] at H
                     have c78b0 : decide (0 ≤ x8_63) = true := decide_eq_true c78
                     clear c78
                     by_cases c79 : x8_63 < (l0_0.length : Int)
                     ·rw [if_pos c79] at H
                      have c79b0 : decide (x8_63 < (l0_0.length : Int)) = true := decide_eq_true c79
                      clear c79
                      by_cases c80 : fok .mul .f64 (floatOfInt .f64 (IntKind.i16.wrap (((rd_T177 l0_0 x8_63).f1) - ((rd_T177 l0_0 (ji75)).f1)))) (floatOfInt .f64 (IntKind.i16.wrap (a1 - ((rd_T177 l0_0 (ji75)).f0)))) = true
                      ·rw [if_pos c80] at H
                       have c80b0 := eq_true c80
                       have c80b1 : decide (fok .mul .f64 (floatOfInt .f64 (IntKind.i16.wrap (((rd_T177 l0_0 x8_63).f1) - ((rd_T177 l0_0 (ji75)).f1)))) (floatOfInt .f64 (IntKind.i16.wrap (a1 - ((rd_T177 l0_0 (ji75)).f0)))) = true) = true := decide_eq_true c80
                       clear c80
                       replace H := Option.bind_eq_some_iff.mp H
                       obtain ⟨t224, A810, H⟩ := H
                       replace H : (if fok .quo .f64 t224 (floatOfInt .f64 (IntKind.i16.wrap (((rd_T177 l0_0 x8_63).f0) - ((rd_T177 l0_0 (ji75)).f0)))) = true then (if fiok .f64 (fv .quo .f64 t224 (floatOfInt .f64 (IntKind.i16.wrap (((rd_T177 l0_0 x8_63).f0) - ((rd_T177 l0_0 (ji75)).f0))))) .i16 = true then (some (IntKind.i16.wrap (((rd_T177 l0_0 (ji75)).f1) + (fi .f64 (fv .quo .f64 t224 (floatOfInt .f64 (IntKind.i16.wrap (((rd_T177 l0_0 x8_63).f0) - ((rd_T177 l0_0 (ji75)).f0))))) .i16)))) else (none)) else (none)) = some r := H
                       have A81 := Aside0.mk A810
                       clear A810
                       by_cases c82 : fok .quo .f64 t224 (floatOfInt .f64 (IntKind.i16.wrap (((rd_T177 l0_0 x8_63).f0) - ((rd_T177 l0_0 (ji75)).f0)))) = true
                       ·rw [if_pos c82] at H
                        have c82b0 := eq_true c82
                        have c82b1 : decide (fok .quo .f64 t224 (floatOfInt .f64 (IntKind.i16.wrap (((rd_T177 l0_0 x8_63).f0) - ((rd_T177 l0_0 (ji75)).f0)))) = true) = true := decide_eq_true c82
                        clear c82
                        by_cases c83 : fiok .f64 (fv .quo .f64 t224 (floatOfInt .f64 (IntKind.i16.wrap (((rd_T177 l0_0 x8_63).f0) - ((rd_T177 l0_0 (ji75)).f0))))) .i16 = true
                        · as_aux_lemma =>
                          rw [if_pos c83] at H
                          have c83b0 := eq_true c83
                          have c83b1 : decide (fiok .f64 (fv .quo .f64 t224 (floatOfInt .f64 (IntKind.i16.wrap (((rd_T177 l0_0 x8_63).f0) - ((rd_T177 l0_0 (ji75)).f0))))) .i16 = true) = true := decide_eq_true c83
                          clear c83
                          obtain rfl := Option.some.inj H
                          have p220 : 0 ≤ ((ji75) : Int) := of_decide_eq_true (by first | (with_reducible assumption) | assumption)
                          have q220 : (ji75) < (l0_0.length : Int) := of_decide_eq_true (by first | (with_reducible assumption) | assumption)
                          obtain ⟨ad220, e220, hx220_0, hx220_1⟩ := at_T177 HR0_0.out (ji75) p220 q220
                          cases e220
                          replace hx220_0 := (HB.out.cell (World.block_lt_of_cell? w _ hx220_0)).trans hx220_0
                          replace hx220_1 := (HB.out.cell (World.block_lt_of_cell? w _ hx220_1)).trans hx220_1
                          replace p220 := eq_true p220
                          replace q220 := eq_true q220
                          go_wp2_with (first | ((with_reducible refine gate_dst (N := 10) rfl ?_); refine box_event ?hg (N := 10) ?hd (cs := #[.int .i16 0, .int .i16 0]) (t := 177) ?hr ?_; (case hd => rfl); (case hg => rfl); (case hr => first | (go_simp; done) | (go_simp; rfl)); intro gb221 hg w84 hbox hb; have n0_ := Aside0.mk (blk_below (g := gb194) (o := .cells #[.slice (some ad220) l0_0.length c0_0] 174 (0, 0)) (by (with_reducible repeat (first | refine b1_ ?_ _ | refine b2_ ?_ | refine b3_ ?_ _)); exact BK194.out) hb); have n1_ := Aside0.mk (below_step (by repeat (first | (with_reducible first | exact HB.out | apply below_alloc | apply pw_below_drewN | apply below_drew1 | refine below_set ?_ GE194.out) | exact HB.out)) hb); have n2_ := Aside0.mk (hbox); have n3_ := Aside0.mk ((by rw [hg]; exact (below_size (by repeat (first | (with_reducible first | exact HB.out | apply below_alloc | apply pw_below_drewN | apply below_drew1 | refine below_set ?_ GE194.out) | exact HB.out))) : w.heap.size ≤ gb221)); have n4_ := Aside0.mk ((by rw [hg]; exact (below_size (by repeat (first | (with_reducible first | exact HB.out | apply below_alloc | apply pw_below_drewN | apply below_drew1 | refine below_set ?_ GE194.out) | exact HB.out))) : w.heap.size ≤ gb221)); have n5_ := Aside0.mk ((by rw [hg]; exact Nat.ne_of_lt (blk_lt (g := gb194) (o := .cells #[.slice (some ad220) l0_0.length c0_0] 174 (0, 0)) (by (with_reducible repeat (first | refine b1_ ?_ _ | refine b2_ ?_ | refine b3_ ?_ _)); exact BK194.out)) : gb194 ≠ gb221)); have n6_ := Aside0.mk ((by rw [hg]; exact Nat.ne_of_gt (blk_lt (g := gb194) (o := .cells #[.slice (some ad220) l0_0.length c0_0] 174 (0, 0)) (by (with_reducible repeat (first | refine b1_ ?_ _ | refine b2_ ?_ | refine b3_ ?_ _)); exact BK194.out)) : gb221 ≠ gb194)); clear BK194; clear HB; have BK194 := n0_; have HB := n1_; have BK221 := n2_; have GW221 := n3_; have GE221 := n4_; have NB194_221 := n5_; have NB221_194 := n6_; clear n0_ n1_ n2_ n3_ n4_ n5_ n6_; clear hb hbox hg; have hnb85 := NB221_194.out; have hnc85 := NB194_221.out; have hcz86_0 : w84.cell? ⟨gb221, 0, none⟩ = some (.int .i16 0) := (blk_cell BK221.out 0).trans rfl; have hcz86_1 : w84.cell? ⟨gb221, 1, none⟩ = some (.int .i16 0) := (blk_cell BK221.out 1).trans rfl; have hfz86_0 := blk_frozen BK221.out 0; have hfz86_1 := blk_frozen BK221.out 1; have p222 : 0 ≤ (x8_63 : Int) := of_decide_eq_true (by first | (with_reducible assumption) | assumption); have q222 : x8_63 < (l0_0.length : Int) := of_decide_eq_true (by first | (with_reducible assumption) | assumption); obtain ⟨ad222, e222, hx222_0, hx222_1⟩ := at_T177 HR0_0.out x8_63 p222 q222; obtain rfl : ad220 = ad222 := (by injection e222); have hn222_0 : ad220.block ≠ gb221 := Nat.ne_of_lt (Nat.lt_of_lt_of_le (by have := World.block_lt_of_cell? _ _ hx222_0; first | rwa [add_block] at this | exact this) GW221.out); have hn222_1 : ad220.block ≠ gb221 := Nat.ne_of_lt (Nat.lt_of_lt_of_le (by have := World.block_lt_of_cell? _ _ hx222_0; first | rwa [add_block] at this | exact this) GW221.out); replace hx222_0 := (HB.out.cell (World.block_lt_of_cell? w _ hx222_0)).trans hx222_0; replace hx222_1 := (HB.out.cell (World.block_lt_of_cell? w _ hx222_1)).trans hx222_1; replace hx222_0 := (cell_far (p := ⟨gb221, 0, none⟩) (by first | (rw [add_block]; exact hn222_0) | (show (Addr.add _ _).block ≠ _; rw [add_block]; exact hn222_0) | exact hn222_0) (.int .i16 ((rd_T177 l0_0 (ji75)).f0))).trans hx222_0; replace hx222_1 := (cell_far (p := ⟨gb221, 0, none⟩) (by first | (rw [add_block]; exact hn222_0) | (show (Addr.add _ _).block ≠ _; rw [add_block]; exact hn222_0) | exact hn222_0) (.int .i16 ((rd_T177 l0_0 (ji75)).f0))).trans hx222_1; replace hx222_0 := (cell_far (p := ⟨gb221, 1, none⟩) (by first | (rw [add_block]; exact hn222_1) | (show (Addr.add _ _).block ≠ _; rw [add_block]; exact hn222_1) | exact hn222_1) (.int .i16 ((rd_T177 l0_0 (ji75)).f1))).trans hx222_0; replace hx222_1 := (cell_far (p := ⟨gb221, 1, none⟩) (by first | (rw [add_block]; exact hn222_1) | (show (Addr.add _ _).block ≠ _; rw [add_block]; exact hn222_1) | exact hn222_1) (.int .i16 ((rd_T177 l0_0 (ji75)).f1))).trans hx222_1; (try have hy222_0 := fun (n_ : Nat) => (show ((((w84.drewN n_).setCell ⟨gb221, 0, none⟩ (.int .i16 ((rd_T177 l0_0 (ji75)).f0))).setCell ⟨gb221, 1, none⟩ (.int .i16 ((rd_T177 l0_0 (ji75)).f1)))).cell? _ = some _ from hx222_0)); (try have hy222_1 := fun (n_ : Nat) => (show ((((w84.drewN n_).setCell ⟨gb221, 0, none⟩ (.int .i16 ((rd_T177 l0_0 (ji75)).f0))).setCell ⟨gb221, 1, none⟩ (.int .i16 ((rd_T177 l0_0 (ji75)).f1)))).cell? _ = some _ from hx222_1)); clear hn222_0; clear hn222_1; replace p222 := eq_true p222; replace q222 := eq_true q222) | ((with_reducible refine gate_dst (N := 11) rfl ?_); refine box_event ?hg (N := 11) ?hd (cs := #[.int .i16 0, .int .i16 0]) (t := 177) ?hr ?_; (case hd => rfl); (case hg => rfl); (case hr => first | (go_simp; done) | (go_simp; rfl)); intro gb223 hg w87 hbox hb; have n0_ := Aside0.mk (blk_below (g := gb194) (o := .cells #[.slice (some ad220) l0_0.length c0_0] 174 (0, 0)) (by (with_reducible repeat (first | refine b1_ ?_ _ | refine b2_ ?_ | refine b3_ ?_ _)); refine blk_far ?_ NB194_221.out _; (with_reducible repeat (first | refine b1_ ?_ _ | refine b2_ ?_ | refine b3_ ?_ _)); refine blk_far ?_ NB194_221.out _; (with_reducible repeat (first | refine b1_ ?_ _ | refine b2_ ?_ | refine b3_ ?_ _)); exact BK194.out) hb); have n1_ := Aside0.mk (blk_below (g := gb221) (o := .cells #[.int .i16 ((rd_T177 l0_0 (ji75)).f0), .int .i16 ((rd_T177 l0_0 (ji75)).f1)] 177 (0, 0)) (by (with_reducible repeat (first | refine b1_ ?_ _ | refine b2_ ?_ | refine b3_ ?_ _)); refine blk_put (cs := #[.int .i16 ((rd_T177 l0_0 (ji75)).f0), .int .i16 0]) ?_ 1 _ rfl; (with_reducible repeat (first | refine b1_ ?_ _ | refine b2_ ?_ | refine b3_ ?_ _)); refine blk_put (cs := #[.int .i16 0, .int .i16 0]) ?_ 0 _ rfl; (with_reducible repeat (first | refine b1_ ?_ _ | refine b2_ ?_ | refine b3_ ?_ _)); exact BK221.out) hb); have n2_ := Aside0.mk (below_step (by repeat (first | (with_reducible first | exact HB.out | apply below_alloc | apply pw_below_drewN | apply below_drew1 | refine below_set ?_ GE194.out | refine below_set ?_ GE221.out) | exact HB.out)) hb); have n3_ := Aside0.mk (hbox); have n4_ := Aside0.mk ((by rw [hg]; exact (below_size (by repeat (first | (with_reducible first | exact HB.out | apply below_alloc | apply pw_below_drewN | apply below_drew1 | refine below_set ?_ GE194.out | refine below_set ?_ GE221.out) | exact HB.out))) : w.heap.size ≤ gb223)); have n5_ := Aside0.mk ((by rw [hg]; exact (below_size (by repeat (first | (with_reducible first | exact HB.out | apply below_alloc | apply pw_below_drewN | apply below_drew1 | refine below_set ?_ GE194.out | refine below_set ?_ GE221.out) | exact HB.out))) : w.heap.size ≤ gb223)); have n6_ := Aside0.mk ((by rw [hg]; exact Nat.ne_of_lt (blk_lt (g := gb194) (o := .cells #[.slice (some ad220) l0_0.length c0_0] 174 (0, 0)) (by (with_reducible repeat (first | refine b1_ ?_ _ | refine b2_ ?_ | refine b3_ ?_ _)); refine blk_far ?_ NB194_221.out _; (with_reducible repeat (first | refine b1_ ?_ _ | refine b2_ ?_ | refine b3_ ?_ _)); refine blk_far ?_ NB194_221.out _; (with_reducible repeat (first | refine b1_ ?_ _ | refine b2_ ?_ | refine b3_ ?_ _)); exact BK194.out)) : gb194 ≠ gb223)); have n7_ := Aside0.mk ((by rw [hg]; exact Nat.ne_of_gt (blk_lt (g := gb194) (o := .cells #[.slice (some ad220) l0_0.length c0_0] 174 (0, 0)) (by (with_reducible repeat (first | refine b1_ ?_ _ | refine b2_ ?_ | refine b3_ ?_ _)); refine blk_far ?_ NB194_221.out _; (with_reducible repeat (first | refine b1_ ?_ _ | refine b2_ ?_ | refine b3_ ?_ _)); refine blk_far ?_ NB194_221.out _; (with_reducible repeat (first | refine b1_ ?_ _ | refine b2_ ?_ | refine b3_ ?_ _)); exact BK194.out)) : gb223 ≠ gb194)); have n8_ := Aside0.mk ((by rw [hg]; exact Nat.ne_of_lt (blk_lt (g := gb221) (o := .cells #[.int .i16 ((rd_T177 l0_0 (ji75)).f0), .int .i16 ((rd_T177 l0_0 (ji75)).f1)] 177 (0, 0)) (by (with_reducible repeat (first | refine b1_ ?_ _ | refine b2_ ?_ | refine b3_ ?_ _)); refine blk_put (cs := #[.int .i16 ((rd_T177 l0_0 (ji75)).f0), .int .i16 0]) ?_ 1 _ rfl; (with_reducible repeat (first | refine b1_ ?_ _ | refine b2_ ?_ | refine b3_ ?_ _)); refine blk_put (cs := #[.int .i16 0, .int .i16 0]) ?_ 0 _ rfl; (with_reducible repeat (first | refine b1_ ?_ _ | refine b2_ ?_ | refine b3_ ?_ _)); exact BK221.out)) : gb221 ≠ gb223)); have n9_ := Aside0.mk ((by rw [hg]; exact Nat.ne_of_gt (blk_lt (g := gb221) (o := .cells #[.int .i16 ((rd_T177 l0_0 (ji75)).f0), .int .i16 ((rd_T177 l0_0 (ji75)).f1)] 177 (0, 0)) (by (with_reducible repeat (first | refine b1_ ?_ _ | refine b2_ ?_ | refine b3_ ?_ _)); refine blk_put (cs := #[.int .i16 ((rd_T177 l0_0 (ji75)).f0), .int .i16 0]) ?_ 1 _ rfl; (with_reducible repeat (first | refine b1_ ?_ _ | refine b2_ ?_ | refine b3_ ?_ _)); refine blk_put (cs := #[.int .i16 0, .int .i16 0]) ?_ 0 _ rfl; (with_reducible repeat (first | refine b1_ ?_ _ | refine b2_ ?_ | refine b3_ ?_ _)); exact BK221.out)) : gb223 ≠ gb221)); clear BK194; clear BK221; clear HB; have BK194 := n0_; have BK221 := n1_; have HB := n2_; have BK223 := n3_; have GW223 := n4_; have GE223 := n5_; have NB194_223 := n6_; have NB223_194 := n7_; have NB221_223 := n8_; have NB223_221 := n9_; clear n0_ n1_ n2_ n3_ n4_ n5_ n6_ n7_ n8_ n9_; clear hb hbox hg; have hnb88 := NB223_194.out; have hnc88 := NB194_223.out; have hnb89 := NB223_221.out; have hnc89 := NB221_223.out; have hcz90_0 : w87.cell? ⟨gb223, 0, none⟩ = some (.int .i16 0) := (blk_cell BK223.out 0).trans rfl; have hcz90_1 : w87.cell? ⟨gb223, 1, none⟩ = some (.int .i16 0) := (blk_cell BK223.out 1).trans rfl; have hfz90_0 := blk_frozen BK223.out 0; have hfz90_1 := blk_frozen BK223.out 1; have hcz91_0 : w87.cell? ⟨gb221, 0, none⟩ = some (.int .i16 ((rd_T177 l0_0 (ji75)).f0)) := (blk_cell BK221.out 0).trans rfl; have hcz91_1 : w87.cell? ⟨gb221, 1, none⟩ = some (.int .i16 ((rd_T177 l0_0 (ji75)).f1)) := (blk_cell BK221.out 1).trans rfl; have hfz91_0 := blk_frozen BK221.out 0; have hfz91_1 := blk_frozen BK221.out 1) | (go_at_call 102; (with_reducible refine (math_Round.calls (fv .mul .f64 (floatOfInt .f64 (IntKind.i16.wrap (((rd_T177 l0_0 x8_63).f1) - ((rd_T177 l0_0 (ji75)).f1)))) (floatOfInt .f64 (IntKind.i16.wrap (a1 - ((rd_T177 l0_0 (ji75)).f0))))) t224 _ A81.out).mono ?_); rintro e w' ⟨rfl, ⟨nd, rfl⟩⟩; (try first | exact ⟨rfl, _, World.drewN_drewN _ _ _⟩ | exact ⟨rfl, _, Eq.trans (World.drewN_drewN _ _ _) (congrArg (World.drewN _) (Nat.add_assoc _ _ _))⟩)))
                          repeat (go_quiet (first | ((with_reducible refine gate_dst (N := 10) rfl ?_); refine box_event ?hg (N := 10) ?hd (cs := #[.int .i16 0, .int .i16 0]) (t := 177) ?hr ?_; (case hd => rfl); (case hg => rfl); (case hr => first | (go_simp; done) | (go_simp; rfl)); intro gb221 hg w84 hbox hb; have n0_ := Aside0.mk (blk_below (g := gb194) (o := .cells #[.slice (some ad220) l0_0.length c0_0] 174 (0, 0)) (by (with_reducible repeat (first | refine b1_ ?_ _ | refine b2_ ?_ | refine b3_ ?_ _)); exact BK194.out) hb); have n1_ := Aside0.mk (below_step (by repeat (first | (with_reducible first | exact HB.out | apply below_alloc | apply pw_below_drewN | apply below_drew1 | refine below_set ?_ GE194.out) | exact HB.out)) hb); have n2_ := Aside0.mk (hbox); have n3_ := Aside0.mk ((by rw [hg]; exact (below_size (by repeat (first | (with_reducible first | exact HB.out | apply below_alloc | apply pw_below_drewN | apply below_drew1 | refine below_set ?_ GE194.out) | exact HB.out))) : w.heap.size ≤ gb221)); have n4_ := Aside0.mk ((by rw [hg]; exact (below_size (by repeat (first | (with_reducible first | exact HB.out | apply below_alloc | apply pw_below_drewN | apply below_drew1 | refine below_set ?_ GE194.out) | exact HB.out))) : w.heap.size ≤ gb221)); have n5_ := Aside0.mk ((by rw [hg]; exact Nat.ne_of_lt (blk_lt (g := gb194) (o := .cells #[.slice (some ad220) l0_0.length c0_0] 174 (0, 0)) (by (with_reducible repeat (first | refine b1_ ?_ _ | refine b2_ ?_ | refine b3_ ?_ _)); exact BK194.out)) : gb194 ≠ gb221)); have n6_ := Aside0.mk ((by rw [hg]; exact Nat.ne_of_gt (blk_lt (g := gb194) (o := .cells #[.slice (some ad220) l0_0.length c0_0] 174 (0, 0)) (by (with_reducible repeat (first | refine b1_ ?_ _ | refine b2_ ?_ | refine b3_ ?_ _)); exact BK194.out)) : gb221 ≠ gb194)); clear BK194; clear HB; have BK194 := n0_; have HB := n1_; have BK221 := n2_; have GW221 := n3_; have GE221 := n4_; have NB194_221 := n5_; have NB221_194 := n6_; clear n0_ n1_ n2_ n3_ n4_ n5_ n6_; clear hb hbox hg; have hnb85 := NB221_194.out; have hnc85 := NB194_221.out; have hcz86_0 : w84.cell? ⟨gb221, 0, none⟩ = some (.int .i16 0) := (blk_cell BK221.out 0).trans rfl; have hcz86_1 : w84.cell? ⟨gb221, 1, none⟩ = some (.int .i16 0) := (blk_cell BK221.out 1).trans rfl; have hfz86_0 := blk_frozen BK221.out 0; have hfz86_1 := blk_frozen BK221.out 1; have p222 : 0 ≤ (x8_63 : Int) := of_decide_eq_true (by first | (with_reducible assumption) | assumption); have q222 : x8_63 < (l0_0.length : Int) := of_decide_eq_true (by first | (with_reducible assumption) | assumption); obtain ⟨ad222, e222, hx222_0, hx222_1⟩ := at_T177 HR0_0.out x8_63 p222 q222; obtain rfl : ad220 = ad222 := (by injection e222); have hn222_0 : ad220.block ≠ gb221 := Nat.ne_of_lt (Nat.lt_of_lt_of_le (by have := World.block_lt_of_cell? _ _ hx222_0; first | rwa [add_block] at this | exact this) GW221.out); have hn222_1 : ad220.block ≠ gb221 := Nat.ne_of_lt (Nat.lt_of_lt_of_le (by have := World.block_lt_of_cell? _ _ hx222_0; first | rwa [add_block] at this | exact this) GW221.out); replace hx222_0 := (HB.out.cell (World.block_lt_of_cell? w _ hx222_0)).trans hx222_0; replace hx222_1 := (HB.out.cell (World.block_lt_of_cell? w _ hx222_1)).trans hx222_1; replace hx222_0 := (cell_far (p := ⟨gb221, 0, none⟩) (by first | (rw [add_block]; exact hn222_0) | (show (Addr.add _ _).block ≠ _; rw [add_block]; exact hn222_0) | exact hn222_0) (.int .i16 ((rd_T177 l0_0 (ji75)).f0))).trans hx222_0; replace hx222_1 := (cell_far (p := ⟨gb221, 0, none⟩) (by first | (rw [add_block]; exact hn222_0) | (show (Addr.add _ _).block ≠ _; rw [add_block]; exact hn222_0) | exact hn222_0) (.int .i16 ((rd_T177 l0_0 (ji75)).f0))).trans hx222_1; replace hx222_0 := (cell_far (p := ⟨gb221, 1, none⟩) (by first | (rw [add_block]; exact hn222_1) | (show (Addr.add _ _).block ≠ _; rw [add_block]; exact hn222_1) | exact hn222_1) (.int .i16 ((rd_T177 l0_0 (ji75)).f1))).trans hx222_0; replace hx222_1 := (cell_far (p := ⟨gb221, 1, none⟩) (by first | (rw [add_block]; exact hn222_1) | (show (Addr.add _ _).block ≠ _; rw [add_block]; exact hn222_1) | exact hn222_1) (.int .i16 ((rd_T177 l0_0 (ji75)).f1))).trans hx222_1; (try have hy222_0 := fun (n_ : Nat) => (show ((((w84.drewN n_).setCell ⟨gb221, 0, none⟩ (.int .i16 ((rd_T177 l0_0 (ji75)).f0))).setCell ⟨gb221, 1, none⟩ (.int .i16 ((rd_T177 l0_0 (ji75)).f1)))).cell? _ = some _ from hx222_0)); (try have hy222_1 := fun (n_ : Nat) => (show ((((w84.drewN n_).setCell ⟨gb221, 0, none⟩ (.int .i16 ((rd_T177 l0_0 (ji75)).f0))).setCell ⟨gb221, 1, none⟩ (.int .i16 ((rd_T177 l0_0 (ji75)).f1)))).cell? _ = some _ from hx222_1)); clear hn222_0; clear hn222_1; replace p222 := eq_true p222; replace q222 := eq_true q222) | ((with_reducible refine gate_dst (N := 11) rfl ?_); refine box_event ?hg (N := 11) ?hd (cs := #[.int .i16 0, .int .i16 0]) (t := 177) ?hr ?_; (case hd => rfl); (case hg => rfl); (case hr => first | (go_simp; done) | (go_simp; rfl)); intro gb223 hg w87 hbox hb; have n0_ := Aside0.mk (blk_below (g := gb194) (o := .cells #[.slice (some ad220) l0_0.length c0_0] 174 (0, 0)) (by (with_reducible repeat (first | refine b1_ ?_ _ | refine b2_ ?_ | refine b3_ ?_ _)); refine blk_far ?_ NB194_221.out _; (with_reducible repeat (first | refine b1_ ?_ _ | refine b2_ ?_ | refine b3_ ?_ _)); refine blk_far ?_ NB194_221.out _; (with_reducible repeat (first | refine b1_ ?_ _ | refine b2_ ?_ | refine b3_ ?_ _)); exact BK194.out) hb); have n1_ := Aside0.mk (blk_below (g := gb221) (o := .cells #[.int .i16 ((rd_T177 l0_0 (ji75)).f0), .int .i16 ((rd_T177 l0_0 (ji75)).f1)] 177 (0, 0)) (by (with_reducible repeat (first | refine b1_ ?_ _ | refine b2_ ?_ | refine b3_ ?_ _)); refine blk_put (cs := #[.int .i16 ((rd_T177 l0_0 (ji75)).f0), .int .i16 0]) ?_ 1 _ rfl; (with_reducible repeat (first | refine b1_ ?_ _ | refine b2_ ?_ | refine b3_ ?_ _)); refine blk_put (cs := #[.int .i16 0, .int .i16 0]) ?_ 0 _ rfl; (with_reducible repeat (first | refine b1_ ?_ _ | refine b2_ ?_ | refine b3_ ?_ _)); exact BK221.out) hb); have n2_ := Aside0.mk (below_step (by repeat (first | (with_reducible first | exact HB.out | apply below_alloc | apply pw_below_drewN | apply below_drew1 | refine below_set ?_ GE194.out | refine below_set ?_ GE221.out) | exact HB.out)) hb); have n3_ := Aside0.mk (hbox); have n4_ := Aside0.mk ((by rw [hg]; exact (below_size (by repeat (first | (with_reducible first | exact HB.out | apply below_alloc | apply pw_below_drewN | apply below_drew1 | refine below_set ?_ GE194.out | refine below_set ?_ GE221.out) | exact HB.out))) : w.heap.size ≤ gb223)); have n5_ := Aside0.mk ((by rw [hg]; exact (below_size (by repeat (first | (with_reducible first | exact HB.out | apply below_alloc | apply pw_below_drewN | apply below_drew1 | refine below_set ?_ GE194.out | refine below_set ?_ GE221.out) | exact HB.out))) : w.heap.size ≤ gb223)); have n6_ := Aside0.mk ((by rw [hg]; exact Nat.ne_of_lt (blk_lt (g := gb194) (o := .cells #[.slice (some ad220) l0_0.length c0_0] 174 (0, 0)) (by (with_reducible repeat (first | refine b1_ ?_ _ | refine b2_ ?_ | refine b3_ ?_ _)); refine blk_far ?_ NB194_221.out _; (with_reducible repeat (first | refine b1_ ?_ _ | refine b2_ ?_ | refine b3_ ?_ _)); refine blk_far ?_ NB194_221.out _; (with_reducible repeat (first | refine b1_ ?_ _ | refine b2_ ?_ | refine b3_ ?_ _)); exact BK194.out)) : gb194 ≠ gb223)); have n7_ := Aside0.mk ((by rw [hg]; exact Nat.ne_of_gt (blk_lt (g := gb194) (o := .cells #[.slice (some ad220) l0_0.length c0_0] 174 (0, 0)) (by (with_reducible repeat (first | refine b1_ ?_ _ | refine b2_ ?_ | refine b3_ ?_ _)); refine blk_far ?_ NB194_221.out _; (with_reducible repeat (first | refine b1_ ?_ _ | refine b2_ ?_ | refine b3_ ?_ _)); refine blk_far ?_ NB194_221.out _; (with_reducible repeat (first | refine b1_ ?_ _ | refine b2_ ?_ | refine b3_ ?_ _)); exact BK194.out)) : gb223 ≠ gb194)); have n8_ := Aside0.mk ((by rw [hg]; exact Nat.ne_of_lt (blk_lt (g := gb221) (o := .cells #[.int .i16 ((rd_T177 l0_0 (ji75)).f0), .int .i16 ((rd_T177 l0_0 (ji75)).f1)] 177 (0, 0)) (by (with_reducible repeat (first | refine b1_ ?_ _ | refine b2_ ?_ | refine b3_ ?_ _)); refine blk_put (cs := #[.int .i16 ((rd_T177 l0_0 (ji75)).f0), .int .i16 0]) ?_ 1 _ rfl; (with_reducible repeat (first | refine b1_ ?_ _ | refine b2_ ?_ | refine b3_ ?_ _)); refine blk_put (cs := #[.int .i16 0, .int .i16 0]) ?_ 0 _ rfl; (with_reducible repeat (first | refine b1_ ?_ _ | refine b2_ ?_ | refine b3_ ?_ _)); exact BK221.out)) : gb221 ≠ gb223)); have n9_ := Aside0.mk ((by rw [hg]; exact Nat.ne_of_gt (blk_lt (g := gb221) (o := .cells #[.int .i16 ((rd_T177 l0_0 (ji75)).f0), .int .i16 ((rd_T177 l0_0 (ji75)).f1)] 177 (0, 0)) (by (with_reducible repeat (first | refine b1_ ?_ _ | refine b2_ ?_ | refine b3_ ?_ _)); refine blk_put (cs := #[.int .i16 ((rd_T177 l0_0 (ji75)).f0), .int .i16 0]) ?_ 1 _ rfl; (with_reducible repeat (first | refine b1_ ?_ _ | refine b2_ ?_ | refine b3_ ?_ _)); refine blk_put (cs := #[.int .i16 0, .int .i16 0]) ?_ 0 _ rfl; (with_reducible repeat (first | refine b1_ ?_ _ | refine b2_ ?_ | refine b3_ ?_ _)); exact BK221.out)) : gb223 ≠ gb221)); clear BK194; clear BK221; clear HB; have BK194 := n0_; have BK221 := n1_; have HB := n2_; have BK223 := n3_; have GW223 := n4_; have GE223 := n5_; have NB194_223 := n6_; have NB223_194 := n7_; have NB221_223 := n8_; have NB223_221 := n9_; clear n0_ n1_ n2_ n3_ n4_ n5_ n6_ n7_ n8_ n9_; clear hb hbox hg; have hnb88 := NB223_194.out; have hnc88 := NB194_223.out; have hnb89 := NB223_221.out; have hnc89 := NB221_223.out; have hcz90_0 : w87.cell? ⟨gb223, 0, none⟩ = some (.int .i16 0) := (blk_cell BK223.out 0).trans rfl; have hcz90_1 : w87.cell? ⟨gb223, 1, none⟩ = some (.int .i16 0) := (blk_cell BK223.out 1).trans rfl; have hfz90_0 := blk_frozen BK223.out 0; have hfz90_1 := blk_frozen BK223.out 1; have hcz91_0 : w87.cell? ⟨gb221, 0, none⟩ = some (.int .i16 ((rd_T177 l0_0 (ji75)).f0)) := (blk_cell BK221.out 0).trans rfl; have hcz91_1 : w87.cell? ⟨gb221, 1, none⟩ = some (.int .i16 ((rd_T177 l0_0 (ji75)).f1)) := (blk_cell BK221.out 1).trans rfl; have hfz91_0 := blk_frozen BK221.out 0; have hfz91_1 := blk_frozen BK221.out 1) | (go_at_call 102; (with_reducible refine (math_Round.calls (fv .mul .f64 (floatOfInt .f64 (IntKind.i16.wrap (((rd_T177 l0_0 x8_63).f1) - ((rd_T177 l0_0 (ji75)).f1)))) (floatOfInt .f64 (IntKind.i16.wrap (a1 - ((rd_T177 l0_0 (ji75)).f0))))) t224 _ A81.out).mono ?_); rintro e w' ⟨rfl, ⟨nd, rfl⟩⟩; (try first | exact ⟨rfl, _, World.drewN_drewN _ _ _⟩ | exact ⟨rfl, _, Eq.trans (World.drewN_drewN _ _ _) (congrArg (World.drewN _) (Nat.add_assoc _ _ _))⟩))); try go_wp2_with (first | ((with_reducible refine gate_dst (N := 10) rfl ?_); refine box_event ?hg (N := 10) ?hd (cs := #[.int .i16 0, .int .i16 0]) (t := 177) ?hr ?_; (case hd => rfl); (case hg => rfl); (case hr => first | (go_simp; done) | (go_simp; rfl)); intro gb221 hg w84 hbox hb; have n0_ := Aside0.mk (blk_below (g := gb194) (o := .cells #[.slice (some ad220) l0_0.length c0_0] 174 (0, 0)) (by (with_reducible repeat (first | refine b1_ ?_ _ | refine b2_ ?_ | refine b3_ ?_ _)); exact BK194.out) hb); have n1_ := Aside0.mk (below_step (by repeat (first | (with_reducible first | exact HB.out | apply below_alloc | apply pw_below_drewN | apply below_drew1 | refine below_set ?_ GE194.out) | exact HB.out)) hb); have n2_ := Aside0.mk (hbox); have n3_ := Aside0.mk ((by rw [hg]; exact (below_size (by repeat (first | (with_reducible first | exact HB.out | apply below_alloc | apply pw_below_drewN | apply below_drew1 | refine below_set ?_ GE194.out) | exact HB.out))) : w.heap.size ≤ gb221)); have n4_ := Aside0.mk ((by rw [hg]; exact (below_size (by repeat (first | (with_reducible first | exact HB.out | apply below_alloc | apply pw_below_drewN | apply below_drew1 | refine below_set ?_ GE194.out) | exact HB.out))) : w.heap.size ≤ gb221)); have n5_ := Aside0.mk ((by rw [hg]; exact Nat.ne_of_lt (blk_lt (g := gb194) (o := .cells #[.slice (some ad220) l0_0.length c0_0] 174 (0, 0)) (by (with_reducible repeat (first | refine b1_ ?_ _ | refine b2_ ?_ | refine b3_ ?_ _)); exact BK194.out)) : gb194 ≠ gb221)); have n6_ := Aside0.mk ((by rw [hg]; exact Nat.ne_of_gt (blk_lt (g := gb194) (o := .cells #[.slice (some ad220) l0_0.length c0_0] 174 (0, 0)) (by (with_reducible repeat (first | refine b1_ ?_ _ | refine b2_ ?_ | refine b3_ ?_ _)); exact BK194.out)) : gb221 ≠ gb194)); clear BK194; clear HB; have BK194 := n0_; have HB := n1_; have BK221 := n2_; have GW221 := n3_; have GE221 := n4_; have NB194_221 := n5_; have NB221_194 := n6_; clear n0_ n1_ n2_ n3_ n4_ n5_ n6_; clear hb hbox hg; have hnb85 := NB221_194.out; have hnc85 := NB194_221.out; have hcz86_0 : w84.cell? ⟨gb221, 0, none⟩ = some (.int .i16 0) := (blk_cell BK221.out 0).trans rfl; have hcz86_1 : w84.cell? ⟨gb221, 1, none⟩ = some (.int .i16 0) := (blk_cell BK221.out 1).trans rfl; have hfz86_0 := blk_frozen BK221.out 0; have hfz86_1 := blk_frozen BK221.out 1; have p222 : 0 ≤ (x8_63 : Int) := of_decide_eq_true (by first | (with_reducible assumption) | assumption); have q222 : x8_63 < (l0_0.length : Int) := of_decide_eq_true (by first | (with_reducible assumption) | assumption); obtain ⟨ad222, e222, hx222_0, hx222_1⟩ := at_T177 HR0_0.out x8_63 p222 q222; obtain rfl : ad220 = ad222 := (by injection e222); have hn222_0 : ad220.block ≠ gb221 := Nat.ne_of_lt (Nat.lt_of_lt_of_le (by have := World.block_lt_of_cell? _ _ hx222_0; first | rwa [add_block] at this | exact this) GW221.out); have hn222_1 : ad220.block ≠ gb221 := Nat.ne_of_lt (Nat.lt_of_lt_of_le (by have := World.block_lt_of_cell? _ _ hx222_0; first | rwa [add_block] at this | exact this) GW221.out); replace hx222_0 := (HB.out.cell (World.block_lt_of_cell? w _ hx222_0)).trans hx222_0; replace hx222_1 := (HB.out.cell (World.block_lt_of_cell? w _ hx222_1)).trans hx222_1; replace hx222_0 := (cell_far (p := ⟨gb221, 0, none⟩) (by first | (rw [add_block]; exact hn222_0) | (show (Addr.add _ _).block ≠ _; rw [add_block]; exact hn222_0) | exact hn222_0) (.int .i16 ((rd_T177 l0_0 (ji75)).f0))).trans hx222_0; replace hx222_1 := (cell_far (p := ⟨gb221, 0, none⟩) (by first | (rw [add_block]; exact hn222_0) | (show (Addr.add _ _).block ≠ _; rw [add_block]; exact hn222_0) | exact hn222_0) (.int .i16 ((rd_T177 l0_0 (ji75)).f0))).trans hx222_1; replace hx222_0 := (cell_far (p := ⟨gb221, 1, none⟩) (by first | (rw [add_block]; exact hn222_1) | (show (Addr.add _ _).block ≠ _; rw [add_block]; exact hn222_1) | exact hn222_1) (.int .i16 ((rd_T177 l0_0 (ji75)).f1))).trans hx222_0; replace hx222_1 := (cell_far (p := ⟨gb221, 1, none⟩) (by first | (rw [add_block]; exact hn222_1) | (show (Addr.add _ _).block ≠ _; rw [add_block]; exact hn222_1) | exact hn222_1) (.int .i16 ((rd_T177 l0_0 (ji75)).f1))).trans hx222_1; (try have hy222_0 := fun (n_ : Nat) => (show ((((w84.drewN n_).setCell ⟨gb221, 0, none⟩ (.int .i16 ((rd_T177 l0_0 (ji75)).f0))).setCell ⟨gb221, 1, none⟩ (.int .i16 ((rd_T177 l0_0 (ji75)).f1)))).cell? _ = some _ from hx222_0)); (try have hy222_1 := fun (n_ : Nat) => (show ((((w84.drewN n_).setCell ⟨gb221, 0, none⟩ (.int .i16 ((rd_T177 l0_0 (ji75)).f0))).setCell ⟨gb221, 1, none⟩ (.int .i16 ((rd_T177 l0_0 (ji75)).f1)))).cell? _ = some _ from hx222_1)); clear hn222_0; clear hn222_1; replace p222 := eq_true p222; replace q222 := eq_true q222) | ((with_reducible refine gate_dst (N := 11) rfl ?_); refine box_event ?hg (N := 11) ?hd (cs := #[.int .i16 0, .int .i16 0]) (t := 177) ?hr ?_; (case hd => rfl); (case hg => rfl); (case hr => first | (go_simp; done) | (go_simp; rfl)); intro gb223 hg w87 hbox hb; have n0_ := Aside0.mk (blk_below (g := gb194) (o := .cells #[.slice (some ad220) l0_0.length c0_0] 174 (0, 0)) (by (with_reducible repeat (first | refine b1_ ?_ _ | refine b2_ ?_ | refine b3_ ?_ _)); refine blk_far ?_ NB194_221.out _; (with_reducible repeat (first | refine b1_ ?_ _ | refine b2_ ?_ | refine b3_ ?_ _)); refine blk_far ?_ NB194_221.out _; (with_reducible repeat (first | refine b1_ ?_ _ | refine b2_ ?_ | refine b3_ ?_ _)); exact BK194.out) hb); have n1_ := Aside0.mk (blk_below (g := gb221) (o := .cells #[.int .i16 ((rd_T177 l0_0 (ji75)).f0), .int .i16 ((rd_T177 l0_0 (ji75)).f1)] 177 (0, 0)) (by (with_reducible repeat (first | refine b1_ ?_ _ | refine b2_ ?_ | refine b3_ ?_ _)); refine blk_put (cs := #[.int .i16 ((rd_T177 l0_0 (ji75)).f0), .int .i16 0]) ?_ 1 _ rfl; (with_reducible repeat (first | refine b1_ ?_ _ | refine b2_ ?_ | refine b3_ ?_ _)); refine blk_put (cs := #[.int .i16 0, .int .i16 0]) ?_ 0 _ rfl; (with_reducible repeat (first | refine b1_ ?_ _ | refine b2_ ?_ | refine b3_ ?_ _)); exact BK221.out) hb); have n2_ := Aside0.mk (below_step (by repeat (first | (with_reducible first | exact HB.out | apply below_alloc | apply pw_below_drewN | apply below_drew1 | refine below_set ?_ GE194.out | refine below_set ?_ GE221.out) | exact HB.out)) hb); have n3_ := Aside0.mk (hbox); have n4_ := Aside0.mk ((by rw [hg]; exact (below_size (by repeat (first | (with_reducible first | exact HB.out | apply below_alloc | apply pw_below_drewN | apply below_drew1 | refine below_set ?_ GE194.out | refine below_set ?_ GE221.out) | exact HB.out))) : w.heap.size ≤ gb223)); have n5_ := Aside0.mk ((by rw [hg]; exact (below_size (by repeat (first | (with_reducible first | exact HB.out | apply below_alloc | apply pw_below_drewN | apply below_drew1 | refine below_set ?_ GE194.out | refine below_set ?_ GE221.out) | exact HB.out))) : w.heap.size ≤ gb223)); have n6_ := Aside0.mk ((by rw [hg]; exact Nat.ne_of_lt (blk_lt (g := gb194) (o := .cells #[.slice (some ad220) l0_0.length c0_0] 174 (0, 0)) (by (with_reducible repeat (first | refine b1_ ?_ _ | refine b2_ ?_ | refine b3_ ?_ _)); refine blk_far ?_ NB194_221.out _; (with_reducible repeat (first | refine b1_ ?_ _ | refine b2_ ?_ | refine b3_ ?_ _)); refine blk_far ?_ NB194_221.out _; (with_reducible repeat (first | refine b1_ ?_ _ | refine b2_ ?_ | refine b3_ ?_ _)); exact BK194.out)) : gb194 ≠ gb223)); have n7_ := Aside0.mk ((by rw [hg]; exact Nat.ne_of_gt (blk_lt (g := gb194) (o := .cells #[.slice (some ad220) l0_0.length c0_0] 174 (0, 0)) (by (with_reducible repeat (first | refine b1_ ?_ _ | refine b2_ ?_ | refine b3_ ?_ _)); refine blk_far ?_ NB194_221.out _; (with_reducible repeat (first | refine b1_ ?_ _ | refine b2_ ?_ | refine b3_ ?_ _)); refine blk_far ?_ NB194_221.out _; (with_reducible repeat (first | refine b1_ ?_ _ | refine b2_ ?_ | refine b3_ ?_ _)); exact BK194.out)) : gb223 ≠ gb194)); have n8_ := Aside0.mk ((by rw [hg]; exact Nat.ne_of_lt (blk_lt (g := gb221) (o := .cells #[.int .i16 ((rd_T177 l0_0 (ji75)).f0), .int .i16 ((rd_T177 l0_0 (ji75)).f1)] 177 (0, 0)) (by (with_reducible repeat (first | refine b1_ ?_ _ | refine b2_ ?_ | refine b3_ ?_ _)); refine blk_put (cs := #[.int .i16 ((rd_T177 l0_0 (ji75)).f0), .int .i16 0]) ?_ 1 _ rfl; (with_reducible repeat (first | refine b1_ ?_ _ | refine b2_ ?_ | refine b3_ ?_ _)); refine blk_put (cs := #[.int .i16 0, .int .i16 0]) ?_ 0 _ rfl; (with_reducible repeat (first | refine b1_ ?_ _ | refine b2_ ?_ | refine b3_ ?_ _)); exact BK221.out)) : gb221 ≠ gb223)); have n9_ := Aside0.mk ((by rw [hg]; exact Nat.ne_of_gt (blk_lt (g := gb221) (o := .cells #[.int .i16 ((rd_T177 l0_0 (ji75)).f0), .int .i16 ((rd_T177 l0_0 (ji75)).f1)] 177 (0, 0)) (by (with_reducible repeat (first | refine b1_ ?_ _ | refine b2_ ?_ | refine b3_ ?_ _)); refine blk_put (cs := #[.int .i16 ((rd_T177 l0_0 (ji75)).f0), .int .i16 0]) ?_ 1 _ rfl; (with_reducible repeat (first | refine b1_ ?_ _ | refine b2_ ?_ | refine b3_ ?_ _)); refine blk_put (cs := #[.int .i16 0, .int .i16 0]) ?_ 0 _ rfl; (with_reducible repeat (first | refine b1_ ?_ _ | refine b2_ ?_ | refine b3_ ?_ _)); exact BK221.out)) : gb223 ≠ gb221)); clear BK194; clear BK221; clear HB; have BK194 := n0_; have BK221 := n1_; have HB := n2_; have BK223 := n3_; have GW223 := n4_; have GE223 := n5_; have NB194_223 := n6_; have NB223_194 := n7_; have NB221_223 := n8_; have NB223_221 := n9_; clear n0_ n1_ n2_ n3_ n4_ n5_ n6_ n7_ n8_ n9_; clear hb hbox hg; have hnb88 := NB223_194.out; have hnc88 := NB194_223.out; have hnb89 := NB223_221.out; have hnc89 := NB221_223.out; have hcz90_0 : w87.cell? ⟨gb223, 0, none⟩ = some (.int .i16 0) := (blk_cell BK223.out 0).trans rfl; have hcz90_1 : w87.cell? ⟨gb223, 1, none⟩ = some (.int .i16 0) := (blk_cell BK223.out 1).trans rfl; have hfz90_0 := blk_frozen BK223.out 0; have hfz90_1 := blk_frozen BK223.out 1; have hcz91_0 : w87.cell? ⟨gb221, 0, none⟩ = some (.int .i16 ((rd_T177 l0_0 (ji75)).f0)) := (blk_cell BK221.out 0).trans rfl; have hcz91_1 : w87.cell? ⟨gb221, 1, none⟩ = some (.int .i16 ((rd_T177 l0_0 (ji75)).f1)) := (blk_cell BK221.out 1).trans rfl; have hfz91_0 := blk_frozen BK221.out 0; have hfz91_1 := blk_frozen BK221.out 1) | (go_at_call 102; (with_reducible refine (math_Round.calls (fv .mul .f64 (floatOfInt .f64 (IntKind.i16.wrap (((rd_T177 l0_0 x8_63).f1) - ((rd_T177 l0_0 (ji75)).f1)))) (floatOfInt .f64 (IntKind.i16.wrap (a1 - ((rd_T177 l0_0 (ji75)).f0))))) t224 _ A81.out).mono ?_); rintro e w' ⟨rfl, ⟨nd, rfl⟩⟩; (try first | exact ⟨rfl, _, World.drewN_drewN _ _ _⟩ | exact ⟨rfl, _, Eq.trans (World.drewN_drewN _ _ _) (congrArg (World.drewN _) (Nat.add_assoc _ _ _))⟩))))
                          go_ret
                          exact ⟨by first | rfl | (simp [errW_none, errW_some] <;> rfl) | (simp only [← hji75]; first | rfl | (simp [errW_none, errW_some] <;> rfl)) | (simp [*, errW_none, errW_some] <;> rfl), by repeat (first | (with_reducible first | exact HB.out | apply below_alloc | apply pw_below_drewN | apply below_drew1 | refine below_set ?_ GE194.out | refine below_set ?_ GE221.out | refine below_set ?_ GE223.out) | exact HB.out)⟩
                        ·rw [if_neg c83] at H
                         exact absurd H (by simp)
                       ·rw [if_neg c82] at H
                        exact absurd H (by simp)
                      ·rw [if_neg c80] at H
                       exact absurd H (by simp)
                     ·rw [if_neg c79] at H
                      exact absurd H (by simp)
                    ·rw [if_neg c78] at H
                     exact absurd H (by simp)
                   ·rw [if_neg c77] at H
                    exact absurd H (by simp)
                  ·rw [if_neg c76] at H
                   exact absurd H (by simp)

end Go.Proofs.Ytlbmfnjhpojghaa.PFnNormalized
