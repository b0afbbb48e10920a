-- Written by a program of this session (xprint) out of the translation; Lean checks it.
import Derived.Test.YtlbmfnjhpojghaaPFnNormalizedx0
import Derived.Test.YtlbmfnjhpojghaaPFnNormalizedx1
import Derived.Test.YtlbmfnjhpojghaaPFnNormalizedx3
import Derived.Test.YtlbmfnjhpojghaaPFnNormalizedx4
namespace Go.Proofs.Ytlbmfnjhpojghaa.PFnNormalized
open Go.RowKit Go.Proofs.YtlbmfnjhpojghaaW.PrintWords Go.Proofs.YtlbmfnjhpojghaaW.PrintLast Go.Proofs.YtlbmfnjhpojghaaW.PrintMore
attribute [local go_sem] max2_int min2_int max_two min_two max_three min_three max_four min_four   -- for this text's walks alone
set_option linter.unusedVariables false
set_option linter.unusedSimpArgs false

attribute [local go_sem] f_add f_sub f_mul f_quo f_conv f_same f_int f_max f_min f_neg f_store
/-! ### spec_SomeAxes: function 26 -/
mutual
def spec_SomeAxes.l0 : Nat → List (S161) → List (List (S164)) → List Int → List (S92) → List Nat → Int → Option ((List (S92)) × (List (List (S48))) × List Nat)
 | 0, _, _, _, _, _, _ => none
 | k + 1, x0, x1, x2, x6, x8, x9 => if x9 < (x0.length : Int) then (spec_SomeAxes.j1 k x0 x1 x2 x6 ([] : List (List (S48))) x8 x9 (decide (x9 < 4))) else (spec_SomeAxes.j1 k x0 x1 x2 x6 ([] : List (List (S48))) x8 x9 false)
def spec_SomeAxes.j1 : Nat → List (S161) → List (List (S164)) → List Int → List (S92) → List (List (S48)) → List Nat → Int → Bool → Option ((List (S92)) × (List (List (S48))) × List Nat)
 | 0, _, _, _, _, _, _, _, _ => none
 | k + 1, x0, x1, x2, x6, x7, x8, x9, x23 => if x23 = true then (if 0 ≤ x9 then (if x9 < (x0.length : Int) then ((some (([IntKind.i16.wrap (Int.tdiv ((rd_T161 x0 x9).f0) 4), IntKind.i16.wrap (Int.tdiv ((rd_T161 x0 x9).f1) 4), IntKind.i16.wrap (Int.tdiv ((rd_T161 x0 x9).f2) 4)] : List Int) : List Int)).bind fun y136 => ((slices_Sort_int16_int16.f k y136).bind fun t139 => (if 0 < (y136.length : Int) then (if 1 < (y136.length : Int) then (if 2 < (y136.length : Int) then (if x6.length < 11728124029610 then ((some (x6 ++ [(⟨floatOfInt .f32 (rd t139 0), floatOfInt .f32 (rd t139 1), floatOfInt .f32 (rd t139 2)⟩ : S92)] : List (S92))).bind fun y143 => (if x9 < (x2.length : Int) then (if x8.length < 35184372088832 then (spec_SomeAxes.l0 k x0 x1 x2 y143 (x8 ++ [floatOfInt .f32 (IntKind.i16.wrap (Int.tdiv (rd x2 x9) 2))]) (wrap64 (x9 + 1))) else (none)) else (if x8.length < 35184372088832 then (spec_SomeAxes.l0 k x0 x1 x2 y143 (x8 ++ [0]) (wrap64 (x9 + 1))) else (none)))) else (none)) else (none)) else (none)) else (none)))) else (none)) else (none)) else (if (x1.length : Int) = 0 then (some (x6, ([] : List (List (S48))), x8)) else (spec_SomeAxes.l1 k x1 x6 x7 x8 (x6.length : Int) 0))
def spec_SomeAxes.l1 : Nat → List (List (S164)) → List (S92) → List (List (S48)) → List Nat → Int → Int → Option ((List (S92)) × (List (List (S48))) × List Nat)
 | 0, _, _, _, _, _, _ => none
 | k + 1, x1, x6, x7, x8, x83, x84 => if x84 < x83 then (spec_SomeAxes.l2 k x1 x6 x7 x8 x84 ([] : List (S48)) x83 x84 0) else (some (x6, x7, x8))
def spec_SomeAxes.l2 : Nat → List (List (S164)) → List (S92) → List (List (S48)) → List Nat → Int → List (S48) → Int → Int → Int → Option ((List (S92)) × (List (List (S48))) × List Nat)
 | 0, _, _, _, _, _, _, _, _, _ => none
 | k + 1, x1, x6, x7, x8, x12, x13, x83, x84, x87 => if x87 < 3 then (if x13.length < 8796093022208 then (spec_SomeAxes.l2 k x1 x6 x7 x8 x12 (x13 ++ [(⟨wrap64 ((wrap64 (x87 - 1)) * 16384), wrap64 ((wrap64 (x87 - 1)) * 16384)⟩ : S48)]) x83 x84 (wrap64 (x87 + 1))) else (none)) else (if x12 < (x1.length : Int) then (spec_SomeAxes.l3 k x1 x6 x7 x8 x12 x13 0 x83 x84) else (if x7.length < 5864062014805 then (spec_SomeAxes.l1 k x1 x6 (x7 ++ [x13]) x8 x83 (wrap64 (x84 + 1))) else (none)))
def spec_SomeAxes.l3 : Nat → List (List (S164)) → List (S92) → List (List (S48)) → List Nat → Int → List (S48) → Int → Int → Int → Option ((List (S92)) × (List (List (S48))) × List Nat)
 | 0, _, _, _, _, _, _, _, _, _ => none
 | k + 1, x1, x6, x7, x8, x12, x13, x15, x83, x84 => if 0 ≤ x12 then (if x12 < (x1.length : Int) then (if x15 < ((rd_L2 x1 x12).length : Int) then (spec_SomeAxes.j5 k x1 x6 x7 x8 x12 x13 x15 x83 x84 (decide (x15 < 5))) else (spec_SomeAxes.j5 k x1 x6 x7 x8 x12 x13 x15 x83 x84 false)) else (none)) else (none)
def spec_SomeAxes.j5 : Nat → List (List (S164)) → List (S92) → List (List (S48)) → List Nat → Int → List (S48) → Int → Int → Int → Bool → Option ((List (S92)) × (List (List (S48))) × List Nat)
 | 0, _, _, _, _, _, _, _, _, _, _ => none
 | k + 1, x1, x6, x7, x8, x12, x13, x15, x83, x84, x115 => if x115 = true then (if 0 ≤ x12 then (if x12 < (x1.length : Int) then (if 0 ≤ x15 then (if x15 < ((rd_L2 x1 x12).length : Int) then ((spec_Coord.f ((rd_T164 (rd_L2 x1 x12) x15).f0)).bind fun t162 => ((spec_Coord.f ((rd_T164 (rd_L2 x1 x12) x15).f1)).bind fun t165 => ((spec_risingMap.f k x13 t162 t165).bind fun t166 => (spec_SomeAxes.l3 k x1 x6 x7 x8 x12 t166 (wrap64 (x15 + 1)) x83 x84)))) else (none)) else (none)) else (none)) else (none)) else (if x7.length < 5864062014805 then (spec_SomeAxes.l1 k x1 x6 (x7 ++ [x13]) x8 x83 (wrap64 (x84 + 1))) else (none))
end
def spec_SomeAxes.f (k : Nat) (l0 : List (S161)) (l1 : List (List (S164))) (l2 : List Int) : Option ((List (S92)) × (List (List (S48))) × List Nat) := spec_SomeAxes.l0 k l0 l1 l2 ([] : List (S92)) ([] : List Nat) 0
theorem spec_SomeAxes.mono_l : ∀ k, (∀ y0 y1 y2 y3 y4 y5, LeO (spec_SomeAxes.l0 k y0 y1 y2 y3 y4 y5) (spec_SomeAxes.l0 (k + 1) y0 y1 y2 y3 y4 y5)) ∧ (∀ y0 y1 y2 y3 y4 y5 y6 y7, LeO (spec_SomeAxes.j1 k y0 y1 y2 y3 y4 y5 y6 y7) (spec_SomeAxes.j1 (k + 1) y0 y1 y2 y3 y4 y5 y6 y7)) ∧ (∀ y0 y1 y2 y3 y4 y5, LeO (spec_SomeAxes.l1 k y0 y1 y2 y3 y4 y5) (spec_SomeAxes.l1 (k + 1) y0 y1 y2 y3 y4 y5)) ∧ (∀ y0 y1 y2 y3 y4 y5 y6 y7 y8, LeO (spec_SomeAxes.l2 k y0 y1 y2 y3 y4 y5 y6 y7 y8) (spec_SomeAxes.l2 (k + 1) y0 y1 y2 y3 y4 y5 y6 y7 y8)) ∧ (∀ y0 y1 y2 y3 y4 y5 y6 y7 y8, LeO (spec_SomeAxes.l3 k y0 y1 y2 y3 y4 y5 y6 y7 y8) (spec_SomeAxes.l3 (k + 1) y0 y1 y2 y3 y4 y5 y6 y7 y8)) ∧ (∀ y0 y1 y2 y3 y4 y5 y6 y7 y8 y9, LeO (spec_SomeAxes.j5 k y0 y1 y2 y3 y4 y5 y6 y7 y8 y9) (spec_SomeAxes.j5 (k + 1) y0 y1 y2 y3 y4 y5 y6 y7 y8 y9))
 | 0 => ⟨fun _ _ _ _ _ _ r h => by simp [spec_SomeAxes.l0] at h, fun _ _ _ _ _ _ _ _ r h => by simp [spec_SomeAxes.j1] at h, fun _ _ _ _ _ _ r h => by simp [spec_SomeAxes.l1] at h, fun _ _ _ _ _ _ _ _ _ r h => by simp [spec_SomeAxes.l2] at h, fun _ _ _ _ _ _ _ _ _ r h => by simp [spec_SomeAxes.l3] at h, fun _ _ _ _ _ _ _ _ _ _ r h => by simp [spec_SomeAxes.j5] at h⟩
 | k + 1 => by
  obtain ⟨ih0, ih1, ih2, ih3, ih4, ih5⟩ := spec_SomeAxes.mono_l k
  refine ⟨?_, ?_, ?_, ?_, ?_, ?_⟩
  ·intro y0 y1 y2 y3 y4 y5
   unfold spec_SomeAxes.l0
   repeat' first
   | (with_reducible exact ih0 _ _ _ _ _ _)
   | (with_reducible exact ih1 _ _ _ _ _ _ _ _)
   | (with_reducible exact ih2 _ _ _ _ _ _)
   | (with_reducible exact ih3 _ _ _ _ _ _ _ _ _)
   | (with_reducible exact ih4 _ _ _ _ _ _ _ _ _)
   | (with_reducible exact ih5 _ _ _ _ _ _ _ _ _ _)
   | (with_reducible exact slices_Sort_int16_int16.mono _ _)
   | (with_reducible exact spec_risingMap.mono _ _ _ _)
   | (with_reducible exact LeO.refl _)
   | (with_reducible exact LeO.none _)
   | (with_reducible refine LeO.ite ?_ ?_)
   | (with_reducible refine LeO.bind ?_ (fun _ => ?_))
   | exact ih0 _ _ _ _ _ _
   | exact ih1 _ _ _ _ _ _ _ _
   | exact ih2 _ _ _ _ _ _
   | exact ih3 _ _ _ _ _ _ _ _ _
   | exact ih4 _ _ _ _ _ _ _ _ _
   | exact ih5 _ _ _ _ _ _ _ _ _ _
   | exact slices_Sort_int16_int16.mono _ _
   | exact spec_risingMap.mono _ _ _ _
   | exact LeO.none _
   | refine LeO.ite ?_ ?_
   | refine LeO.bind ?_ (fun _ => ?_)
  ·intro y0 y1 y2 y3 y4 y5 y6 y7
   unfold spec_SomeAxes.j1
   repeat' first
   | (with_reducible exact ih0 _ _ _ _ _ _)
   | (with_reducible exact ih1 _ _ _ _ _ _ _ _)
   | (with_reducible exact ih2 _ _ _ _ _ _)
   | (with_reducible exact ih3 _ _ _ _ _ _ _ _ _)
   | (with_reducible exact ih4 _ _ _ _ _ _ _ _ _)
   | (with_reducible exact ih5 _ _ _ _ _ _ _ _ _ _)
   | (with_reducible exact slices_Sort_int16_int16.mono _ _)
   | (with_reducible exact spec_risingMap.mono _ _ _ _)
   | (with_reducible exact LeO.refl _)
   | (with_reducible exact LeO.none _)
   | (with_reducible refine LeO.ite ?_ ?_)
   | (with_reducible refine LeO.bind ?_ (fun _ => ?_))
   | exact ih0 _ _ _ _ _ _
   | exact ih1 _ _ _ _ _ _ _ _
   | exact ih2 _ _ _ _ _ _
   | exact ih3 _ _ _ _ _ _ _ _ _
   | exact ih4 _ _ _ _ _ _ _ _ _
   | exact ih5 _ _ _ _ _ _ _ _ _ _
   | exact slices_Sort_int16_int16.mono _ _
   | exact spec_risingMap.mono _ _ _ _
   | exact LeO.none _
   | refine LeO.ite ?_ ?_
   | refine LeO.bind ?_ (fun _ => ?_)
  ·intro y0 y1 y2 y3 y4 y5
   unfold spec_SomeAxes.l1
   repeat' first
   | (with_reducible exact ih0 _ _ _ _ _ _)
   | (with_reducible exact ih1 _ _ _ _ _ _ _ _)
   | (with_reducible exact ih2 _ _ _ _ _ _)
   | (with_reducible exact ih3 _ _ _ _ _ _ _ _ _)
   | (with_reducible exact ih4 _ _ _ _ _ _ _ _ _)
   | (with_reducible exact ih5 _ _ _ _ _ _ _ _ _ _)
   | (with_reducible exact slices_Sort_int16_int16.mono _ _)
   | (with_reducible exact spec_risingMap.mono _ _ _ _)
   | (with_reducible exact LeO.refl _)
   | (with_reducible exact LeO.none _)
   | (with_reducible refine LeO.ite ?_ ?_)
   | (with_reducible refine LeO.bind ?_ (fun _ => ?_))
   | exact ih0 _ _ _ _ _ _
   | exact ih1 _ _ _ _ _ _ _ _
   | exact ih2 _ _ _ _ _ _
   | exact ih3 _ _ _ _ _ _ _ _ _
   | exact ih4 _ _ _ _ _ _ _ _ _
   | exact ih5 _ _ _ _ _ _ _ _ _ _
   | exact slices_Sort_int16_int16.mono _ _
   | exact spec_risingMap.mono _ _ _ _
   | exact LeO.none _
   | refine LeO.ite ?_ ?_
   | refine LeO.bind ?_ (fun _ => ?_)
  ·intro y0 y1 y2 y3 y4 y5 y6 y7 y8
   unfold spec_SomeAxes.l2
   repeat' first
   | (with_reducible exact ih0 _ _ _ _ _ _)
   | (with_reducible exact ih1 _ _ _ _ _ _ _ _)
   | (with_reducible exact ih2 _ _ _ _ _ _)
   | (with_reducible exact ih3 _ _ _ _ _ _ _ _ _)
   | (with_reducible exact ih4 _ _ _ _ _ _ _ _ _)
   | (with_reducible exact ih5 _ _ _ _ _ _ _ _ _ _)
   | (with_reducible exact slices_Sort_int16_int16.mono _ _)
   | (with_reducible exact spec_risingMap.mono _ _ _ _)
   | (with_reducible exact LeO.refl _)
   | (with_reducible exact LeO.none _)
   | (with_reducible refine LeO.ite ?_ ?_)
   | (with_reducible refine LeO.bind ?_ (fun _ => ?_))
   | exact ih0 _ _ _ _ _ _
   | exact ih1 _ _ _ _ _ _ _ _
   | exact ih2 _ _ _ _ _ _
   | exact ih3 _ _ _ _ _ _ _ _ _
   | exact ih4 _ _ _ _ _ _ _ _ _
   | exact ih5 _ _ _ _ _ _ _ _ _ _
   | exact slices_Sort_int16_int16.mono _ _
   | exact spec_risingMap.mono _ _ _ _
   | exact LeO.none _
   | refine LeO.ite ?_ ?_
   | refine LeO.bind ?_ (fun _ => ?_)
  ·intro y0 y1 y2 y3 y4 y5 y6 y7 y8
   unfold spec_SomeAxes.l3
   repeat' first
   | (with_reducible exact ih0 _ _ _ _ _ _)
   | (with_reducible exact ih1 _ _ _ _ _ _ _ _)
   | (with_reducible exact ih2 _ _ _ _ _ _)
   | (with_reducible exact ih3 _ _ _ _ _ _ _ _ _)
   | (with_reducible exact ih4 _ _ _ _ _ _ _ _ _)
   | (with_reducible exact ih5 _ _ _ _ _ _ _ _ _ _)
   | (with_reducible exact slices_Sort_int16_int16.mono _ _)
   | (with_reducible exact spec_risingMap.mono _ _ _ _)
   | (with_reducible exact LeO.refl _)
   | (with_reducible exact LeO.none _)
   | (with_reducible refine LeO.ite ?_ ?_)
   | (with_reducible refine LeO.bind ?_ (fun _ => ?_))
   | exact ih0 _ _ _ _ _ _
   | exact ih1 _ _ _ _ _ _ _ _
   | exact ih2 _ _ _ _ _ _
   | exact ih3 _ _ _ _ _ _ _ _ _
   | exact ih4 _ _ _ _ _ _ _ _ _
   | exact ih5 _ _ _ _ _ _ _ _ _ _
   | exact slices_Sort_int16_int16.mono _ _
   | exact spec_risingMap.mono _ _ _ _
   | exact LeO.none _
   | refine LeO.ite ?_ ?_
   | refine LeO.bind ?_ (fun _ => ?_)
  ·intro y0 y1 y2 y3 y4 y5 y6 y7 y8 y9
   unfold spec_SomeAxes.j5
   repeat' first
   | (with_reducible exact ih0 _ _ _ _ _ _)
   | (with_reducible exact ih1 _ _ _ _ _ _ _ _)
   | (with_reducible exact ih2 _ _ _ _ _ _)
   | (with_reducible exact ih3 _ _ _ _ _ _ _ _ _)
   | (with_reducible exact ih4 _ _ _ _ _ _ _ _ _)
   | (with_reducible exact ih5 _ _ _ _ _ _ _ _ _ _)
   | (with_reducible exact slices_Sort_int16_int16.mono _ _)
   | (with_reducible exact spec_risingMap.mono _ _ _ _)
   | (with_reducible exact LeO.refl _)
   | (with_reducible exact LeO.none _)
   | (with_reducible refine LeO.ite ?_ ?_)
   | (with_reducible refine LeO.bind ?_ (fun _ => ?_))
   | exact ih0 _ _ _ _ _ _
   | exact ih1 _ _ _ _ _ _ _ _
   | exact ih2 _ _ _ _ _ _
   | exact ih3 _ _ _ _ _ _ _ _ _
   | exact ih4 _ _ _ _ _ _ _ _ _
   | exact ih5 _ _ _ _ _ _ _ _ _ _
   | exact slices_Sort_int16_int16.mono _ _
   | exact spec_risingMap.mono _ _ _ _
   | exact LeO.none _
   | refine LeO.ite ?_ ?_
   | refine LeO.bind ?_ (fun _ => ?_)
theorem spec_SomeAxes.mono : ∀ a0 a1 a2 k, LeO (spec_SomeAxes.f k a0 a1 a2) (spec_SomeAxes.f (k + 1) a0 a1 a2) := by
 intro a0 a1 a2 k
 obtain ⟨ih0, ih1, ih2, ih3, ih4, ih5⟩ := spec_SomeAxes.mono_l k
 unfold spec_SomeAxes.f
 repeat' first
   | (with_reducible exact ih0 _ _ _ _ _ _)
   | (with_reducible exact ih1 _ _ _ _ _ _ _ _)
   | (with_reducible exact ih2 _ _ _ _ _ _)
   | (with_reducible exact ih3 _ _ _ _ _ _ _ _ _)
   | (with_reducible exact ih4 _ _ _ _ _ _ _ _ _)
   | (with_reducible exact ih5 _ _ _ _ _ _ _ _ _ _)
   | (with_reducible exact slices_Sort_int16_int16.mono _ _)
   | (with_reducible exact spec_risingMap.mono _ _ _ _)
   | (with_reducible exact LeO.refl _)
   | (with_reducible exact LeO.none _)
   | (with_reducible refine LeO.ite ?_ ?_)
   | (with_reducible refine LeO.bind ?_ (fun _ => ?_))
   | exact ih0 _ _ _ _ _ _
   | exact ih1 _ _ _ _ _ _ _ _
   | exact ih2 _ _ _ _ _ _
   | exact ih3 _ _ _ _ _ _ _ _ _
   | exact ih4 _ _ _ _ _ _ _ _ _
   | exact ih5 _ _ _ _ _ _ _ _ _ _
   | exact slices_Sort_int16_int16.mono _ _
   | exact spec_risingMap.mono _ _ _ _
   | exact LeO.none _
   | refine LeO.ite ?_ ?_
   | refine LeO.bind ?_ (fun _ => ?_)
def spec_SomeAxes.T4 : Bool × List (List Nat × List Nat) := (true, [([], []), ([], []), ([0, 1], [0, 1]), ([2], [2]), ([3], [3]), ([4], [4]), ([], []), ([], []), ([6, 7], [6, 7]), ([8], [8]), ([9], [9]), ([10], [10]), ([], []), ([], []), ([12, 13], [12, 13]), ([14], [14]), ([15], [15]), ([16], [16]), ([5, 11, 17], [5, 11, 17]), ([18, 0, 1, 2, 3, 4, 5, 6, 7, 8, 9, 10, 11, 12, 13, 14, 15, 16, 17, 18], [18])])
def spec_SomeAxes.B4 : List Nat := [0, 0, 3, 7, 15, 31, 0, 0, 192, 448, 960, 1984, 0, 0, 12288, 28672, 61440, 126976, 262143, 524287]
theorem spec_SomeAxes.tab4 : rtab .any (opsOf Try.f26 4) = spec_SomeAxes.T4 := by kernel_rfl
theorem spec_SomeAxes.bits4 : waitsOk spec_SomeAxes.T4.2 spec_SomeAxes.B4 = true := by kernel_rfl
def spec_SomeAxes.T6 : Bool × List (List Nat × List Nat) := (true, [([], []), ([], []), ([1], [1]), ([2], [2]), ([3], [3]), ([], []), ([5], [5]), ([6], [6]), ([7], [7]), ([], []), ([9], [9]), ([10], [10]), ([11], [11]), ([4, 8, 12], [4, 8, 12]), ([13], [13]), ([0, 14], [0, 14]), ([15, 15, 0, 1, 2, 3, 4, 5, 6, 7, 8, 9, 10, 11, 12, 13, 14, 15], [0, 15])])
def spec_SomeAxes.B6 : List Nat := [0, 0, 2, 6, 14, 0, 32, 96, 224, 0, 512, 1536, 3584, 8190, 16382, 32767, 65535]
theorem spec_SomeAxes.tab6 : rtab .any (opsOf Try.f26 6) = spec_SomeAxes.T6 := by kernel_rfl
theorem spec_SomeAxes.bits6 : waitsOk spec_SomeAxes.T6.2 spec_SomeAxes.B6 = true := by kernel_rfl
def spec_SomeAxes.T26 : Bool × List (List Nat × List Nat) := (true, [([], []), ([], []), ([], []), ([1, 2], [1, 2]), ([3], [3]), ([], []), ([4, 5], [4, 5]), ([6], [6]), ([7], [7]), ([8], [8]), ([], []), ([], []), ([10, 11], [10, 11]), ([12], [12]), ([], []), ([13, 14], [13, 14]), ([15], [15]), ([16], [16]), ([17, 9], [17]), ([0, 9, 18, 18], [0, 9, 18]), ([19, 19, 0, 1, 2, 3, 4, 5, 6, 7, 8, 9, 10, 11, 12, 13, 14, 15, 16, 17, 18, 19], [0, 19])])
def spec_SomeAxes.B26 : List Nat := [0, 0, 0, 6, 14, 0, 62, 126, 254, 510, 0, 0, 3072, 7168, 0, 31744, 64512, 130048, 262142, 524287, 1048575]
theorem spec_SomeAxes.tab26 : rtab .any (opsOf Try.f26 26) = spec_SomeAxes.T26 := by kernel_rfl
theorem spec_SomeAxes.bits26 : waitsOk spec_SomeAxes.T26.2 spec_SomeAxes.B26 = true := by kernel_rfl
set_option maxHeartbeats 8000000 in
set_option maxRecDepth 100000 in
theorem spec_SomeAxes.calls (k : Nat) (A0 : Option Addr) (c0 : Nat) (l0 : List (S161)) (A1 : Option Addr) (c1 : Nat) (l1 : List (List (S164))) (A2 : Option Addr) (c2 : Nat) (l2 : List Int) (r1 : List (S92)) (r2 : List (List (S48))) (r3 : List Nat) (w : World) (hr0 : Kd.C k161 w A0 l0.length l0) (hc0 : l0.length ≤ c0) (hr1 : Kd.C (Kd.slice 164 k164) w A1 l1.length l1) (hc1 : l1.length ≤ c1) (hr2 : Kd.C (Kd.int .i16) w A2 l2.length l2) (hc2 : l2.length ≤ c2) (h : spec_SomeAxes.f k l0 l1 l2 = some (r1, r2, r3)) :
  Calls Try.prog 26 #[.slice A0 l0.length c0, .slice A1 l1.length c1, .slice A2 l2.length c2] w fun e w' => ∃ v0_ v1_ v2_ : Value, e = .returned (.tuple #[v0_, v1_, v2_]) ∧ Kd.R k92 92 w' w.heap.size (fun _ => True) v0_ r1 ∧ Kd.S (Kd.slice 48 k48) 46 w' w.heap.size (fun _ => True) v1_ r2 ∧ Kd.R (kflt .f32) 34 w' w.heap.size (fun _ => True) v2_ r3 ∧ Below w.heap.size w w' ∧ ((l1.length : Int) = 0 → v1_ = .slice none 0 0) := by
 have hu92 := Try.underlying92
 have hu48 := Try.underlying48
 have HR0 := Aside0.mk hr0
 have HC0 := Aside0.mk hc0
 clear hr0 hc0
 have HR1 := Aside0.mk hr1
 have HC1 := Aside0.mk hc1
 clear hr1 hc1
 have HR2 := Aside0.mk hr2
 have HC2 := Aside0.mk hc2
 clear hr2 hc2
 have HB := Aside0.mk (Below.refl w.heap.size w)
 have H : (spec_SomeAxes.l0 k l0 l1 l2 ([] : List (S92)) ([] : List Nat) 0) = some (r1, r2, r3) := h
 clear h
 have H' := Aside0.mk H
 clear H
 go_enter Try.func26, Try.ntmps26
 go_wp2
 go_loopg [6, 8, 9] k (fun kq v6 v8 v9 w' => ∃ (x6_1 : List (S92)) (x8_1 : List Nat) (x9_1 : Int), v9 = .int .i64 x9_1 ∧ Aside0 (spec_SomeAxes.l0 kq l0 l1 l2 x6_1 x8_1 x9_1 = some (r1, r2, r3)) ∧ Aside0 (kq ≤ k) ∧ Aside0 (Kd.R k92 92 w' w.heap.size (fun _ => True) v6 x6_1) ∧ Aside0 (Kd.R (kflt .f32) 34 w' w.heap.size (fun _ => True) v8 x8_1) ∧ Aside0 (Below w.heap.size w w'))
 case atStart => exact ⟨(([] : List (S92))), (([] : List Nat)), (0), (by first | rfl | (simp; done) | (simp [*]; done)), H', ⟨Nat.le_refl _⟩, ⟨by first | exact Kd.R_nil _ _ _ _ _ | exact Kd.N_nil _ _ _ _ _ | exact Kd.V_nil _ _ _ _ _ | exact Kd.Q_nil _ _ _ _ _ | exact Kd.S_nil _ _ _ _ _⟩, ⟨by first | exact Kd.R_nil _ _ _ _ _ | exact Kd.N_nil _ _ _ _ _ | exact Kd.V_nil _ _ _ _ _ | exact Kd.Q_nil _ _ _ _ _ | exact Kd.S_nil _ _ _ _ _⟩, ⟨by repeat (first | (with_reducible first | exact HB.out | apply below_alloc | apply pw_below_drewN | apply below_drew1) | exact HB.out)⟩⟩
 case round =>
  clear H'
  try clear c1
  try clear c2
  try clear p2
  obtain ⟨x6_1, x8_1, x9_1, rfl, HA, HK1, HO_6, HO_8, HB⟩ := hrel
  cases gk with
  | zero => exact absurd HA.out (by simp [spec_SomeAxes.l0])
  | succ k1 =>
   have H := HA.out
   clear HA
   simp only [spec_SomeAxes.l0] at H
   have HC4 := Aside0.mk H
   clear H
   go_upto_region 2 with (fail)
   go_cut [23] (fun v23 wc => ∃ (kq : Nat) (x23_3 : Bool), v23 = .bool x23_3 ∧ Aside0 (spec_SomeAxes.j1 kq l0 l1 l2 x6_1 ([] : List (List (S48))) x8_1 x9_1 x23_3 = some (r1, r2, r3)) ∧ Aside0 (kq ≤ k1) ∧ Aside0 (Kd.R k92 92 wc w.heap.size (fun _ => True) u6 x6_1) ∧ Aside0 (Kd.S (Kd.slice 48 k48) 46 wc w.heap.size (fun _ => True) (.slice none 0 0) ([] : List (List (S48)))) ∧ Aside0 (Kd.R (kflt .f32) 34 wc w.heap.size (fun _ => True) u8 x8_1) ∧ Aside0 (Below w.heap.size w wc))
   case first =>
    have H := HC4.out
    clear HC4
    by_cases c5 : x9_1 < (l0.length : Int)
    ·rw [if_pos c5] at H
     have c5b0 : decide (x9_1 < (l0.length : Int)) = true := decide_eq_true c5
     clear c5
     (first | rw [c5b0] | (simp only [i64_w, i32_w]; rw [c5b0]) | skip)
     have H' := Aside0.mk H
     clear H
     go_wp2
     go_meet
     case rel => exact ⟨_, (decide (x9_1 < 4)), (by first | rfl | (simp; done) | (simp [*]; done)), H', ⟨by have := HK1.out; first | omega | exact Nat.le_refl _⟩, ⟨by (with_reducible repeat (first | apply Kd.R_alloc | apply Kd.R_drewN | apply Kd.R_drew)); exact HO_6.out⟩, ⟨by first | exact Kd.S_nil _ _ _ _ _ | exact Kd.N_nil _ _ _ _ _ | exact Kd.V_nil _ _ _ _ _ | exact Kd.Q_nil _ _ _ _ _ | exact Kd.R_nil _ _ _ _ _⟩, ⟨by (with_reducible repeat (first | apply Kd.R_alloc | apply Kd.R_drewN | apply Kd.R_drew)); exact HO_8.out⟩, ⟨by repeat (first | (with_reducible first | exact HB.out | apply below_alloc | apply pw_below_drewN | apply below_drew1) | exact HB.out)⟩⟩
    ·rw [if_neg c5] at H
     have c5b0 : decide (x9_1 < (l0.length : Int)) = false := decide_eq_false c5
     clear c5
     (first | rw [c5b0] | (simp only [i64_w, i32_w]; rw [c5b0]) | skip)
     have H' := Aside0.mk H
     clear H
     go_wp2
     go_meet
     case rel => exact ⟨_, (false), (by first | rfl | (simp; done) | (simp [*]; done)), H', ⟨by have := HK1.out; first | omega | exact Nat.le_refl _⟩, ⟨by (with_reducible repeat (first | apply Kd.R_alloc | apply Kd.R_drewN | apply Kd.R_drew)); exact HO_6.out⟩, ⟨by first | exact Kd.S_nil _ _ _ _ _ | exact Kd.N_nil _ _ _ _ _ | exact Kd.V_nil _ _ _ _ _ | exact Kd.Q_nil _ _ _ _ _ | exact Kd.R_nil _ _ _ _ _⟩, ⟨by (with_reducible repeat (first | apply Kd.R_alloc | apply Kd.R_drewN | apply Kd.R_drew)); exact HO_8.out⟩, ⟨by repeat (first | (with_reducible first | exact HB.out | apply below_alloc | apply pw_below_drewN | apply below_drew1) | exact HB.out)⟩⟩
   case rest =>
    clear HC4
    try clear c1
    try clear c2
    try clear p2
    try clear c5
    try clear c5b0
    try clear p2
    obtain ⟨kq, x23_3, rfl, HA, HJ3, HO_6, HO_7, HO_8, HB⟩ := hcut
    cases kq with
    | zero => exact absurd HA.out (by simp [spec_SomeAxes.j1])
    | succ kj3 =>
     have H := HA.out
     clear HA
     simp only [spec_SomeAxes.j1] at H
     by_cases c6 : x23_3 = true
     ·subst c6
      have H1 : (if 0 ≤ x9_1 then (if x9_1 < (l0.length : Int) then ((some (([IntKind.i16.wrap (Int.tdiv ((rd_T161 l0 x9_1).f0) 4), IntKind.i16.wrap (Int.tdiv ((rd_T161 l0 x9_1).f1) 4), IntKind.i16.wrap (Int.tdiv ((rd_T161 l0 x9_1).f2) 4)] : List Int) : List Int)).bind fun y136 => ((slices_Sort_int16_int16.f kj3 y136).bind fun t139 => (if 0 < (y136.length : Int) then (if 1 < (y136.length : Int) then (if 2 < (y136.length : Int) then (if x6_1.length < 11728124029610 then ((some (x6_1 ++ [(⟨floatOfInt .f32 (rd t139 0), floatOfInt .f32 (rd t139 1), floatOfInt .f32 (rd t139 2)⟩ : S92)] : List (S92))).bind fun y143 => (if x9_1 < (l2.length : Int) then (if x8_1.length < 35184372088832 then (spec_SomeAxes.l0 kj3 l0 l1 l2 y143 (x8_1 ++ [floatOfInt .f32 (IntKind.i16.wrap (Int.tdiv (rd l2 x9_1) 2))]) (wrap64 (x9_1 + 1))) else (none)) else (if x8_1.length < 35184372088832 then (spec_SomeAxes.l0 kj3 l0 l1 l2 y143 (x8_1 ++ [0]) (wrap64 (x9_1 + 1))) else (none)))) else (none)) else (none)) else (none)) else (none)))) else (none)) else (none)) = some (r1, r2, r3) := by rw [if_pos rfl] at H; exact H
      clear H
      have H := H1
      clear H1
      by_cases c7 : 0 ≤ x9_1
      ·rw [if_pos c7] at H
       have c7b0 : decide (0 ≤ x9_1) = true := decide_eq_true c7
       clear c7
       by_cases c8 : x9_1 < (l0.length : Int)
       ·rw [if_pos c8] at H
        have c8b0 : decide (x9_1 < (l0.length : Int)) = true := decide_eq_true c8
        clear c8
        obtain ⟨y136, hy136⟩ : ∃ y_ : List Int, y_ = (([IntKind.i16.wrap (Int.tdiv ((rd_T161 l0 x9_1).f0) 4), IntKind.i16.wrap (Int.tdiv ((rd_T161 l0 x9_1).f1) 4), IntKind.i16.wrap (Int.tdiv ((rd_T161 l0 x9_1).f2) 4)] : List Int)) := ⟨_, rfl⟩
        replace H : ((slices_Sort_int16_int16.f kj3 y136).bind fun t139 => (if 0 < (y136.length : Int) then (if 1 < (y136.length : Int) then (if 2 < (y136.length : Int) then (if x6_1.length < 11728124029610 then ((some (x6_1 ++ [(⟨floatOfInt .f32 (rd t139 0), floatOfInt .f32 (rd t139 1), floatOfInt .f32 (rd t139 2)⟩ : S92)] : List (S92))).bind fun y143 => (if x9_1 < (l2.length : Int) then (if x8_1.length < 35184372088832 then (spec_SomeAxes.l0 kj3 l0 l1 l2 y143 (x8_1 ++ [floatOfInt .f32 (IntKind.i16.wrap (Int.tdiv (rd l2 x9_1) 2))]) (wrap64 (x9_1 + 1))) else (none)) else (if x8_1.length < 35184372088832 then (spec_SomeAxes.l0 kj3 l0 l1 l2 y143 (x8_1 ++ [0]) (wrap64 (x9_1 + 1))) else (none)))) else (none)) else (none)) else (none)) else (none))) = some (r1, r2, r3) := by first | (rw [hy136]; with_reducible exact H) | (have H2_ := (Option.bind_some _ _).symm.trans H; rw [hy136]; with_reducible exact H2_) | (have H2_ := (Option.bind_some _ _).symm.trans H; with_reducible exact H2_) | with_reducible exact H | (rw [hy136]; exact H) | exact H
        have Ny136 := Aside0.mk hy136
        clear hy136
        replace H := Option.bind_eq_some_iff.mp H
        obtain ⟨t139, A90, H⟩ := H
        replace H : (if 0 < (y136.length : Int) then (if 1 < (y136.length : Int) then (if 2 < (y136.length : Int) then (if x6_1.length < 11728124029610 then ((some (x6_1 ++ [(⟨floatOfInt .f32 (rd t139 0), floatOfInt .f32 (rd t139 1), floatOfInt .f32 (rd t139 2)⟩ : S92)] : List (S92))).bind fun y143 => (if x9_1 < (l2.length : Int) then (if x8_1.length < 35184372088832 then (spec_SomeAxes.l0 kj3 l0 l1 l2 y143 (x8_1 ++ [floatOfInt .f32 (IntKind.i16.wrap (Int.tdiv (rd l2 x9_1) 2))]) (wrap64 (x9_1 + 1))) else (none)) else (if x8_1.length < 35184372088832 then (spec_SomeAxes.l0 kj3 l0 l1 l2 y143 (x8_1 ++ [0]) (wrap64 (x9_1 + 1))) else (none)))) else (none)) else (none)) else (none)) else (none)) = some (r1, r2, r3) := H
        have A9 := Aside0.mk A90
        clear A90
        by_cases c10 : 0 < (y136.length : Int)
        ·rw [if_pos c10] at H
         have c10b0 : decide (0 < (y136.length : Int)) = true := decide_eq_true c10
         have c10b1 : decide (0 < y136.length) = true := decide_eq_true (by omega)
         clear c10
         by_cases c11 : 1 < (y136.length : Int)
         ·rw [if_pos c11] at H
          have c11b0 : decide (1 < (y136.length : Int)) = true := decide_eq_true c11
          have c11b1 : decide (1 < y136.length) = true := decide_eq_true (by omega)
          clear c11
          by_cases c12 : 2 < (y136.length : Int)
          ·rw [if_pos c12] at H
           have c12b0 : decide (2 < (y136.length : Int)) = true := decide_eq_true c12
           have c12b1 : decide (2 < y136.length) = true := decide_eq_true (by omega)
           clear c12
           by_cases c13 : x6_1.length < 11728124029610
           ·rw [if_pos c13] at H
            have LMc13 := Aside0.mk c13
            clear c13
            obtain ⟨y143, hy143⟩ : ∃ y_ : List (S92), y_ = (x6_1 ++ [(⟨floatOfInt .f32 (rd t139 0), floatOfInt .f32 (rd t139 1), floatOfInt .f32 (rd t139 2)⟩ : S92)]) := ⟨_, rfl⟩
            replace H : (if x9_1 < (l2.length : Int) then (if x8_1.length < 35184372088832 then (spec_SomeAxes.l0 kj3 l0 l1 l2 y143 (x8_1 ++ [floatOfInt .f32 (IntKind.i16.wrap (Int.tdiv (rd l2 x9_1) 2))]) (wrap64 (x9_1 + 1))) else (none)) else (if x8_1.length < 35184372088832 then (spec_SomeAxes.l0 kj3 l0 l1 l2 y143 (x8_1 ++ [0]) (wrap64 (x9_1 + 1))) else (none))) = some (r1, r2, r3) := by first | (rw [hy143]; with_reducible exact H) | (have H2_ := (Option.bind_some _ _).symm.trans H; rw [hy143]; with_reducible exact H2_) | (have H2_ := (Option.bind_some _ _).symm.trans H; with_reducible exact H2_) | with_reducible exact H | (rw [hy143]; exact H) | exact H
            have Ny143 := Aside0.mk hy143
            clear hy143
            by_cases c14 : x9_1 < (l2.length : Int)
            ·rw [if_pos c14] at H
             have c14b0 : decide (x9_1 < (l2.length : Int)) = true := decide_eq_true c14
             clear c14
             by_cases c15 : x8_1.length < 35184372088832
             ·rw [if_pos c15] at H
              have LMc15 := Aside0.mk c15
              clear c15
              obtain ⟨y147, hy147⟩ : ∃ y_ : List Nat, y_ = (x8_1 ++ [floatOfInt .f32 (IntKind.i16.wrap (Int.tdiv (rd l2 x9_1) 2))]) := ⟨_, rfl⟩
              replace H : (spec_SomeAxes.l0 kj3 l0 l1 l2 y143 y147 (wrap64 (x9_1 + 1))) = some (r1, r2, r3) := by first | (rw [hy147]; with_reducible exact H) | (have H2_ := (Option.bind_some _ _).symm.trans H; rw [hy147]; with_reducible exact H2_) | (have H2_ := (Option.bind_some _ _).symm.trans H; with_reducible exact H2_) | with_reducible exact H | (rw [hy147]; exact H) | exact H
              have Ny147 := Aside0.mk hy147
              clear hy147
              have H' := Aside0.mk H
              clear H
              try go_wp2
              have n0_ := Aside0.mk (Kd.R_drew HO_6.out)
              have n1_ := Aside0.mk (Kd.S_drew HO_7.out)
              have n2_ := Aside0.mk (Kd.R_drew HO_8.out)
              have n3_ := Aside0.mk (below_drew1 HB.out)
              clear HO_6
              clear HO_7
              clear HO_8
              clear HB
              have HO_6 := n0_
              have HO_7 := n1_
              have HO_8 := n2_
              have HB := n3_
              clear n0_ n1_ n2_ n3_
              have p133 : 0 ≤ (x9_1 : Int) := of_decide_eq_true (by first | (with_reducible assumption) | assumption)
              have q133 : x9_1 < (l0.length : Int) := of_decide_eq_true (by first | (with_reducible assumption) | assumption)
              obtain ⟨ad133, e133, hx133_0, hx133_1, hx133_2⟩ := at_T161 HR0.out x9_1 p133 q133
              have hw133_2 := hx133_2
              have hw133_1 := hx133_1
              have hw133_0 := hx133_0
              cases e133
              replace hx133_0 := (HB.out.cell (World.block_lt_of_cell? w _ hx133_0)).trans hx133_0
              replace hx133_1 := (HB.out.cell (World.block_lt_of_cell? w _ hx133_1)).trans hx133_1
              replace hx133_2 := (HB.out.cell (World.block_lt_of_cell? w _ hx133_2)).trans hx133_2
              replace p133 := eq_true p133
              replace q133 := eq_true q133
              have p134 : 0 ≤ (x9_1 : Int) := of_decide_eq_true (by first | (with_reducible assumption) | assumption)
              have q134 : x9_1 < (l0.length : Int) := of_decide_eq_true (by first | (with_reducible assumption) | assumption)
              obtain ⟨ad134, e134, hx134_0, hx134_1, hx134_2⟩ := at_T161 HR0.out x9_1 p134 q134
              have hw134_2 := hx134_2
              have hw134_1 := hx134_1
              have hw134_0 := hx134_0
              obtain rfl : ad133 = ad134 := (by injection e134)
              replace hx134_0 := (HB.out.cell (World.block_lt_of_cell? w _ hx134_0)).trans hx134_0
              replace hx134_1 := (HB.out.cell (World.block_lt_of_cell? w _ hx134_1)).trans hx134_1
              replace hx134_2 := (HB.out.cell (World.block_lt_of_cell? w _ hx134_2)).trans hx134_2
              replace p134 := eq_true p134
              replace q134 := eq_true q134
              have p135 : 0 ≤ (x9_1 : Int) := of_decide_eq_true (by first | (with_reducible assumption) | assumption)
              have q135 : x9_1 < (l0.length : Int) := of_decide_eq_true (by first | (with_reducible assumption) | assumption)
              obtain ⟨ad135, e135, hx135_0, hx135_1, hx135_2⟩ := at_T161 HR0.out x9_1 p135 q135
              have hw135_2 := hx135_2
              have hw135_1 := hx135_1
              have hw135_0 := hx135_0
              obtain rfl : ad133 = ad135 := (by injection e135)
              replace hx135_0 := (HB.out.cell (World.block_lt_of_cell? w _ hx135_0)).trans hx135_0
              replace hx135_1 := (HB.out.cell (World.block_lt_of_cell? w _ hx135_1)).trans hx135_1
              replace hx135_2 := (HB.out.cell (World.block_lt_of_cell? w _ hx135_2)).trans hx135_2
              replace p135 := eq_true p135
              replace q135 := eq_true q135
              refine start_ (n := 20) (S := fun w' => w'.cell? (ad133.add ((x9_1).toNat * 3)) = some (.int .i16 ((rd_T161 l0 x9_1).f0)) ∧ w'.cell? ⟨(ad133.add ((x9_1).toNat * 3)).block, (ad133.add ((x9_1).toNat * 3)).off + 1, none⟩ = some (.int .i16 ((rd_T161 l0 x9_1).f1)) ∧ w'.cell? ⟨(ad133.add ((x9_1).toNat * 3)).block, (ad133.add ((x9_1).toNat * 3)).off + 2, none⟩ = some (.int .i16 ((rd_T161 l0 x9_1).f2)) ∧ w'.cell? (ad133.add ((x9_1).toNat * 3)) = some (.int .i16 ((rd_T161 l0 x9_1).f0)) ∧ w'.cell? ⟨(ad133.add ((x9_1).toNat * 3)).block, (ad133.add ((x9_1).toNat * 3)).off + 1, none⟩ = some (.int .i16 ((rd_T161 l0 x9_1).f1)) ∧ w'.cell? ⟨(ad133.add ((x9_1).toNat * 3)).block, (ad133.add ((x9_1).toNat * 3)).off + 2, none⟩ = some (.int .i16 ((rd_T161 l0 x9_1).f2)) ∧ w'.cell? (ad133.add ((x9_1).toNat * 3)) = some (.int .i16 ((rd_T161 l0 x9_1).f0)) ∧ w'.cell? ⟨(ad133.add ((x9_1).toNat * 3)).block, (ad133.add ((x9_1).toNat * 3)).off + 1, none⟩ = some (.int .i16 ((rd_T161 l0 x9_1).f1)) ∧ w'.cell? ⟨(ad133.add ((x9_1).toNat * 3)).block, (ad133.add ((x9_1).toNat * 3)).off + 2, none⟩ = some (.int .i16 ((rd_T161 l0 x9_1).f2))) (ds := []) #[ff,ff,ff,ff,ff,ff,ff,ff,ff,ff,ff,ff,ff,ff,ff,ff,ff,ff,ff,ff] (by kernel_rfl) rfl rfl ⟨((HB.out.cell (World.block_lt_of_cell? w _ hw133_0)).trans hw133_0), ((HB.out.cell (World.block_lt_of_cell? w _ hw133_1)).trans hw133_1), ((HB.out.cell (World.block_lt_of_cell? w _ hw133_2)).trans hw133_2), ((HB.out.cell (World.block_lt_of_cell? w _ hw134_0)).trans hw134_0), ((HB.out.cell (World.block_lt_of_cell? w _ hw134_1)).trans hw134_1), ((HB.out.cell (World.block_lt_of_cell? w _ hw134_2)).trans hw134_2), ((HB.out.cell (World.block_lt_of_cell? w _ hw135_0)).trans hw135_0), ((HB.out.cell (World.block_lt_of_cell? w _ hw135_1)).trans hw135_1), ((HB.out.cell (World.block_lt_of_cell? w _ hw135_2)).trans hw135_2)⟩ (fun hHeld => ?_); refine with_tabW spec_SomeAxes.tab4 spec_SomeAxes.bits4 (fun HT_ HW_ => ?_)
              generalize wc.drew = w16 at HO_6 HO_7 HO_8 HB hx133_0 hx133_1 hx133_2 hx134_0 hx134_1 hx134_2 hx135_0 hx135_1 hx135_2 hHeld ⊢
              refine pure_ (i := 0) (N := some 26) (v := ?_) (a' := ?_) #[tt,ff,ff,ff,ff,ff,ff,ff,ff,ff,ff,ff,ff,ff,ff,ff,ff,ff,ff,ff] rfl rfl (any_of HT_.out (by kernel_rfl)) (fun _ _ _ h => h) (Or.inl ⟨by rfl, ?_⟩) ?_ ?_
              rotate_left
              ·intro w'
               go_simp
               with_reducible rfl
              rotate_left
              ·simp only [Act.put, L1_, L2_, L3_, i64_w, i32_w]
               rfl
              refine pure_ (i := 1) (N := some 27) (v := ?_) (a' := ?_) #[tt,tt,ff,ff,ff,ff,ff,ff,ff,ff,ff,ff,ff,ff,ff,ff,ff,ff,ff,ff] rfl rfl (any_of HT_.out (by kernel_rfl)) (fun _ _ _ h => h) (Or.inl ⟨by rfl, ?_⟩) ?_ ?_
              rotate_left
              ·intro w'
               go_simp
               with_reducible rfl
              rotate_left
              ·simp only [Act.put, L1_, L2_, L3_, i64_w, i32_w]
               rfl
              refine pure_ (i := 2) (N := some 28) (v := ?_) (a' := ?_) #[tt,tt,tt,ff,ff,ff,ff,ff,ff,ff,ff,ff,ff,ff,ff,ff,ff,ff,ff,ff] rfl rfl (any_of HT_.out (by kernel_rfl)) (fun _ _ _ h => h) (Or.inl ⟨by rfl, ?_⟩) ?_ ?_
              rotate_left
              ·intro w'
               go_simp
               with_reducible rfl
              rotate_left
              ·simp only [Act.put, L1_, L2_, L3_, i64_w, i32_w]
               rfl
              refine pure_ (i := 3) (N := some 29) (v := ?_) (a' := ?_) #[tt,tt,tt,tt,ff,ff,ff,ff,ff,ff,ff,ff,ff,ff,ff,ff,ff,ff,ff,ff] rfl rfl (any_of HT_.out (by kernel_rfl)) (fun _ _ _ h => h) (Or.inl ⟨by rfl, ?_⟩) ?_ ?_
              rotate_left
              ·intro w'
               go_simp
               with_reducible rfl
              rotate_left
              ·simp only [Act.put, L1_, L2_, L3_, i64_w, i32_w]
               rfl
              refine pure_ (i := 6) (N := some 32) (v := ?_) (a' := ?_) #[tt,tt,tt,tt,ff,ff,tt,ff,ff,ff,ff,ff,ff,ff,ff,ff,ff,ff,ff,ff] rfl rfl (any_of HT_.out (by kernel_rfl)) (fun _ _ _ h => h) (Or.inl ⟨by rfl, ?_⟩) ?_ ?_
              rotate_left
              ·intro w'
               go_simp
               with_reducible rfl
              rotate_left
              ·simp only [Act.put, L1_, L2_, L3_, i64_w, i32_w]
               rfl
              refine pure_ (i := 7) (N := some 33) (v := ?_) (a' := ?_) #[tt,tt,tt,tt,ff,ff,tt,tt,ff,ff,ff,ff,ff,ff,ff,ff,ff,ff,ff,ff] rfl rfl (any_of HT_.out (by kernel_rfl)) (fun _ _ _ h => h) (Or.inl ⟨by rfl, ?_⟩) ?_ ?_
              rotate_left
              ·intro w'
               go_simp
               with_reducible rfl
              rotate_left
              ·simp only [Act.put, L1_, L2_, L3_, i64_w, i32_w]
               rfl
              refine pure_ (i := 8) (N := some 34) (v := ?_) (a' := ?_) #[tt,tt,tt,tt,ff,ff,tt,tt,tt,ff,ff,ff,ff,ff,ff,ff,ff,ff,ff,ff] rfl rfl (any_of HT_.out (by kernel_rfl)) (fun _ _ _ h => h) (Or.inl ⟨by rfl, ?_⟩) ?_ ?_
              rotate_left
              ·intro w'
               go_simp
               with_reducible rfl
              rotate_left
              ·simp only [Act.put, L1_, L2_, L3_, i64_w, i32_w]
               rfl
              refine pure_ (i := 9) (N := some 35) (v := ?_) (a' := ?_) #[tt,tt,tt,tt,ff,ff,tt,tt,tt,tt,ff,ff,ff,ff,ff,ff,ff,ff,ff,ff] rfl rfl (any_of HT_.out (by kernel_rfl)) (fun _ _ _ h => h) (Or.inl ⟨by rfl, ?_⟩) ?_ ?_
              rotate_left
              ·intro w'
               go_simp
               with_reducible rfl
              rotate_left
              ·simp only [Act.put, L1_, L2_, L3_, i64_w, i32_w]
               rfl
              refine pure_ (i := 12) (N := some 38) (v := ?_) (a' := ?_) #[tt,tt,tt,tt,ff,ff,tt,tt,tt,tt,ff,ff,tt,ff,ff,ff,ff,ff,ff,ff] rfl rfl (any_of HT_.out (by kernel_rfl)) (fun _ _ _ h => h) (Or.inl ⟨by rfl, ?_⟩) ?_ ?_
              rotate_left
              ·intro w'
               go_simp
               with_reducible rfl
              rotate_left
              ·simp only [Act.put, L1_, L2_, L3_, i64_w, i32_w]
               rfl
              refine pure_ (i := 13) (N := some 39) (v := ?_) (a' := ?_) #[tt,tt,tt,tt,ff,ff,tt,tt,tt,tt,ff,ff,tt,tt,ff,ff,ff,ff,ff,ff] rfl rfl (any_of HT_.out (by kernel_rfl)) (fun _ _ _ h => h) (Or.inl ⟨by rfl, ?_⟩) ?_ ?_
              rotate_left
              ·intro w'
               go_simp
               with_reducible rfl
              rotate_left
              ·simp only [Act.put, L1_, L2_, L3_, i64_w, i32_w]
               rfl
              refine pure_ (i := 14) (N := some 40) (v := ?_) (a' := ?_) #[tt,tt,tt,tt,ff,ff,tt,tt,tt,tt,ff,ff,tt,tt,tt,ff,ff,ff,ff,ff] rfl rfl (any_of HT_.out (by kernel_rfl)) (fun _ _ _ h => h) (Or.inl ⟨by rfl, ?_⟩) ?_ ?_
              rotate_left
              ·intro w'
               go_simp
               with_reducible rfl
              rotate_left
              ·simp only [Act.put, L1_, L2_, L3_, i64_w, i32_w]
               rfl
              refine pure_ (i := 15) (N := some 41) (v := ?_) (a' := ?_) #[tt,tt,tt,tt,ff,ff,tt,tt,tt,tt,ff,ff,tt,tt,tt,tt,ff,ff,ff,ff] rfl rfl (any_of HT_.out (by kernel_rfl)) (fun _ _ _ h => h) (Or.inl ⟨by rfl, ?_⟩) ?_ ?_
              rotate_left
              ·intro w'
               go_simp
               with_reducible rfl
              rotate_left
              ·simp only [Act.put, L1_, L2_, L3_, i64_w, i32_w]
               rfl
              refine take_ (i := 4) (N := some 30) (v := ?_) (a' := ?_) #[tt,tt,tt,tt,tt,ff,tt,tt,tt,tt,ff,ff,tt,tt,tt,tt,ff,ff,ff,ff] rfl rfl (take_ofW HT_.out HW_.out (by kernel_rfl)) (fun _ _ _ h => h) (Or.inl ⟨by rfl, ?_⟩) hHeld ?_ ?_
              rotate_left
              ·rintro w' ⟨s0, s1, s2, s3, s4, s5, s6, s7, s8⟩
               go_simp
               with_reducible rfl
              rotate_left
              ·simp only [Act.put, L1_, L2_, L3_, i64_w, i32_w]
               rfl
              refine pure_ (i := 5) (N := some 31) (v := ?_) (a' := ?_) #[tt,tt,tt,tt,tt,tt,tt,tt,tt,tt,ff,ff,tt,tt,tt,tt,ff,ff,ff,ff] rfl rfl (any_of HT_.out (by kernel_rfl)) (fun _ _ _ h => h) (Or.inl ⟨by rfl, ?_⟩) ?_ ?_
              rotate_left
              ·intro w'
               go_simp
               with_reducible rfl
              rotate_left
              ·(try go_ints); (try simp (disch := omega) only [n3_]); simp only [Act.put, L1_, L2_, L3_, i64_w, i32_w]
               rfl
              refine take_ (i := 10) (N := some 36) (v := ?_) (a' := ?_) #[tt,tt,tt,tt,tt,tt,tt,tt,tt,tt,tt,ff,tt,tt,tt,tt,ff,ff,ff,ff] rfl rfl (take_ofW HT_.out HW_.out (by kernel_rfl)) (fun _ _ _ h => h) (Or.inl ⟨by rfl, ?_⟩) hHeld ?_ ?_
              rotate_left
              ·rintro w' ⟨s0, s1, s2, s3, s4, s5, s6, s7, s8⟩
               go_simp
               with_reducible rfl
              rotate_left
              ·simp only [Act.put, L1_, L2_, L3_, i64_w, i32_w]
               rfl
              refine pure_ (i := 11) (N := some 37) (v := ?_) (a' := ?_) #[tt,tt,tt,tt,tt,tt,tt,tt,tt,tt,tt,tt,tt,tt,tt,tt,ff,ff,ff,ff] rfl rfl (any_of HT_.out (by kernel_rfl)) (fun _ _ _ h => h) (Or.inl ⟨by rfl, ?_⟩) ?_ ?_
              rotate_left
              ·intro w'
               go_simp
               with_reducible rfl
              rotate_left
              ·(try go_ints); (try simp (disch := omega) only [n3_]); simp only [Act.put, L1_, L2_, L3_, i64_w, i32_w]
               rfl
              refine take_ (i := 16) (N := some 42) (v := ?_) (a' := ?_) #[tt,tt,tt,tt,tt,tt,tt,tt,tt,tt,tt,tt,tt,tt,tt,tt,tt,ff,ff,ff] rfl rfl (take_ofW HT_.out HW_.out (by kernel_rfl)) (fun _ _ _ h => h) (Or.inl ⟨by rfl, ?_⟩) hHeld ?_ ?_
              rotate_left
              ·rintro w' ⟨s0, s1, s2, s3, s4, s5, s6, s7, s8⟩
               go_simp
               with_reducible rfl
              rotate_left
              ·simp only [Act.put, L1_, L2_, L3_, i64_w, i32_w]
               rfl
              refine pure_ (i := 17) (N := some 43) (v := ?_) (a' := ?_) #[tt,tt,tt,tt,tt,tt,tt,tt,tt,tt,tt,tt,tt,tt,tt,tt,tt,tt,ff,ff] rfl rfl (any_of HT_.out (by kernel_rfl)) (fun _ _ _ h => h) (Or.inl ⟨by rfl, ?_⟩) ?_ ?_
              rotate_left
              ·intro w'
               go_simp
               with_reducible rfl
              rotate_left
              ·(try go_ints); (try simp (disch := omega) only [n3_]); simp only [Act.put, L1_, L2_, L3_, i64_w, i32_w]
               rfl
              refine one_ (i := 18) (N := some 44) #[tt,tt,tt,tt,tt,tt,tt,tt,tt,tt,tt,tt,tt,tt,tt,tt,tt,tt,tt,ff] rfl rfl (one_of HT_.out (by kernel_rfl)) (by decide) (fun K hK => ?_)
              refine Kd.R_lit_step (Kd.int .i16) _ 98 ?hg (N := 44) ?hd (xs := ([IntKind.i16.wrap (Int.tdiv ((rd_T161 l0 x9_1).f0) 4), IntKind.i16.wrap (Int.tdiv ((rd_T161 l0 x9_1).f1) 4), IntKind.i16.wrap (Int.tdiv ((rd_T161 l0 x9_1).f2) 4)] : List Int)) (inner := [.int .i16 (IntKind.i16.wrap (Int.tdiv ((rd_T161 l0 x9_1).f0) 4)), .int .i16 (IntKind.i16.wrap (Int.tdiv ((rd_T161 l0 x9_1).f1) 4)), .int .i16 (IntKind.i16.wrap (Int.tdiv ((rd_T161 l0 x9_1).f2) 4))]) (ok := fun _ => True) (okp := fun _ => True) ?hr ?hp (fun _ hk => hk) trivial (Below.refl _ _) (Nat.le_refl _) (by simp) ?_; (case hd => rfl); (case hg => rfl); (case hr => first | (go_simp; done) | (go_simp; rfl)); (case hp => exact (Reps.one (show Kd.M (Kd.int .i16) _ _ _ (IntKind.i16.wrap (Int.tdiv ((rd_T161 l0 x9_1).f0) 4)) [.int .i16 (IntKind.i16.wrap (Int.tdiv ((rd_T161 l0 x9_1).f0) 4))] from rfl) (Reps.one (show Kd.M (Kd.int .i16) _ _ _ (IntKind.i16.wrap (Int.tdiv ((rd_T161 l0 x9_1).f1) 4)) [.int .i16 (IntKind.i16.wrap (Int.tdiv ((rd_T161 l0 x9_1).f1) 4))] from rfl) (Reps.one (show Kd.M (Kd.int .i16) _ _ _ (IntKind.i16.wrap (Int.tdiv ((rd_T161 l0 x9_1).f2) 4)) [.int .i16 (IntKind.i16.wrap (Int.tdiv ((rd_T161 l0 x9_1).f2) 4))] from rfl) (Reps.none _ _)))))
              intro v137 w17 ho18 hb hg_ hnew_
              clear hg_ hnew_
              (first | rw [← Ny136.out] at ho18 | (simp only [Int.reduceToNat] at ho18; rw [← Ny136.out] at ho18))
              have n0_ := Aside0.mk (Kd.R_below (by (with_reducible repeat (first | apply Kd.R_alloc | apply Kd.R_drewN | apply Kd.R_drew)); exact HO_6.out) hb)
              have n1_ := Aside0.mk (Kd.S_below (by (with_reducible repeat (first | apply Kd.S_alloc | apply Kd.S_drewN | apply Kd.S_drew)); exact HO_7.out) hb)
              have n2_ := Aside0.mk (Kd.R_below (by (with_reducible repeat (first | apply Kd.R_alloc | apply Kd.R_drewN | apply Kd.R_drew)); exact HO_8.out) hb)
              have n3_ := Aside0.mk (Kd.R_lower ho18 (below_size (by repeat (first | (with_reducible first | exact HB.out | apply below_alloc | apply pw_below_drewN | apply below_drew1) | exact HB.out))))
              have n4_ := Aside0.mk (below_step (by repeat (first | (with_reducible first | exact HB.out | apply below_alloc | apply pw_below_drewN | apply below_drew1) | exact HB.out)) hb)
              clear HO_6
              clear HO_7
              clear HO_8
              clear HB
              have HO_6 := n0_
              have HO_7 := n1_
              have HO_8 := n2_
              have HO138 := n3_
              have HB := n4_
              clear n0_ n1_ n2_ n3_ n4_
              clear hb ho18
              refine hK.out _ _ ⟨((HB.out.cell (World.block_lt_of_cell? w _ hw133_0)).trans hw133_0), ((HB.out.cell (World.block_lt_of_cell? w _ hw133_1)).trans hw133_1), ((HB.out.cell (World.block_lt_of_cell? w _ hw133_2)).trans hw133_2), ((HB.out.cell (World.block_lt_of_cell? w _ hw134_0)).trans hw134_0), ((HB.out.cell (World.block_lt_of_cell? w _ hw134_1)).trans hw134_1), ((HB.out.cell (World.block_lt_of_cell? w _ hw134_2)).trans hw134_2), ((HB.out.cell (World.block_lt_of_cell? w _ hw135_0)).trans hw135_0), ((HB.out.cell (World.block_lt_of_cell? w _ hw135_1)).trans hw135_1), ((HB.out.cell (World.block_lt_of_cell? w _ hw135_2)).trans hw135_2)⟩ (fun hHeld => ?_)
              clear hK K
              refine norm_ (a' := ?_) ?_ ?_
              rotate_left
              ·show Act.put _ (some 44) _ = _
               simp only [Act.put, L1_, L2_, L3_, i64_w, i32_w]
               rfl
              refine pure_ (i := 19) (N := some 10) (v := ?_) (a' := ?_) #[tt,tt,tt,tt,tt,tt,tt,tt,tt,tt,tt,tt,tt,tt,tt,tt,tt,tt,tt,tt] rfl rfl (any_of HT_.out (by kernel_rfl)) (fun _ _ _ h => h) (Or.inl ⟨by rfl, ?_⟩) ?_ ?_
              rotate_left
              ·intro w'
               go_simp
               with_reducible rfl
              rotate_left
              ·simp only [Act.put, L1_, L2_, L3_, i64_w, i32_w]
               rfl
              refine done_ (done_of HT_.out (by kernel_rfl)) ?_
              obtain ⟨Ao19, co19, eo19⟩ := Kd.R_slice HO138.out
              subst eo19
              try go_wp2_with (first | ((with_reducible refine gate_callee (f := 54) rfl ?_); refine goesL_ (some 46) rfl rfl Try.func54 (by kernel_rfl) rfl #[.slice Ao19 y136.length co19] rfl (by (try simp only [List.map_toArray, List.map_cons, List.map_nil]); first | done | rfl | (simp only [List.length_drop, List.length_take]; rfl)) ?_; (with_reducible refine (slices_Sort_int16_int16.calls kj3 (fun k_ => some k_ = (.slice Ao19 y136.length co19 : Value).ownBlock) (.slice Ao19 y136.length co19) y136 t139 w _ ?side1 ?side2 A9.out).mono ?_); (case side1 => repeat (first | (with_reducible first | exact HB.out | apply below_alloc | apply pw_below_drewN | apply below_drew1) | exact HB.out)); (case side2 => exact Kd.R_tight rfl HO138.out); rintro e w20 ⟨rfl, hy0, hb, hkp⟩; refine ⟨_, rfl, ?_⟩; have n0_ := Aside0.mk (Kd.R_mono (ok' := fun k_ => True) (Kd.R_keptB ((Kd.R_apart' HO_6.out (Kd.R_typed HO138.out) (by decide))) hkp (fun k_ hk_ hs_ => (hk_.2) hs_)) (fun k_ hk_ => trivial)); have n1_ := Aside0.mk (Kd.S_mono (ok' := fun k_ => True) (Kd.S_keptB ((Kd.S_apart' HO_7.out (Kd.R_typed HO138.out) (by decide))) hkp (fun k_ hk_ hs_ => (hk_.2) hs_)) (fun k_ hk_ => trivial)); have n2_ := Aside0.mk (Kd.R_mono (ok' := fun k_ => True) (Kd.R_keptB ((Kd.R_apart' HO_8.out (Kd.R_typed HO138.out) (by decide))) hkp (fun k_ hk_ hs_ => (hk_.2) hs_)) (fun k_ hk_ => trivial)); have n3_ := Aside0.mk (Kd.R_reok rfl hy0 (fun k_ e_ => HO138.out.1 k_ e_)); have n4_ := Aside0.mk (hb); clear HO_6; clear HO_7; clear HO_8; clear HO138; clear HB; have HO_6 := n0_; have HO_7 := n1_; have HO_8 := n2_; have HO138 := n3_; have HB := n4_; clear n0_ n1_ n2_ n3_ n4_; (try clear hb); (try clear hkp); (try clear hy0)))
              have n0_ := Aside0.mk (Kd.R_drew HO_6.out)
              have n1_ := Aside0.mk (Kd.S_drew HO_7.out)
              have n2_ := Aside0.mk (Kd.R_drew HO_8.out)
              have n3_ := Aside0.mk (Kd.R_drew HO138.out)
              have n4_ := Aside0.mk (below_drew1 HB.out)
              clear HO_6
              clear HO_7
              clear HO_8
              clear HO138
              clear HB
              have HO_6 := n0_
              have HO_7 := n1_
              have HO_8 := n2_
              have HO138 := n3_
              have HB := n4_
              clear n0_ n1_ n2_ n3_ n4_
              have p140 : 0 ≤ (0 : Int) := (by omega)
              have q140 : 0 < (t139.length : Int) := (by have h_ : (0 : Int) < ((y136.length : Int) : Int) := of_decide_eq_true (by first | (with_reducible assumption) | assumption); have e_ := (Kd.R_reads' HO138.out).1; omega)
              have ql140 : ((0 : Int) < ((y136.length : Int) : Int)) = True := eq_true (of_decide_eq_true (by first | (with_reducible assumption) | assumption))
              (try have qn140 : (0 < y136.length) = True := eq_true (by have h_ : (0 : Int) < ((y136.length : Int) : Int) := of_decide_eq_true (by first | (with_reducible assumption) | assumption); omega))
              obtain ⟨ad140, e140, hx140_0⟩ := Kd.at_int (Kd.R_reads' HO138.out).2.2 0 p140 q140
              cases e140
              have qi140 : (0 < t139.length) = True := eq_true (by omega)
              (try rw [show ((0 : Int)).toNat = 0 from rfl] at hx140_0)
              (try rw [Addr.add_zero'] at hx140_0)
              replace p140 := eq_true p140
              replace q140 := eq_true q140
              have p141 : 0 ≤ (1 : Int) := (by omega)
              have q141 : 1 < (t139.length : Int) := (by have h_ : (1 : Int) < ((y136.length : Int) : Int) := of_decide_eq_true (by first | (with_reducible assumption) | assumption); have e_ := (Kd.R_reads' HO138.out).1; omega)
              have ql141 : ((1 : Int) < ((y136.length : Int) : Int)) = True := eq_true (of_decide_eq_true (by first | (with_reducible assumption) | assumption))
              (try have qn141 : (1 < y136.length) = True := eq_true (by have h_ : (1 : Int) < ((y136.length : Int) : Int) := of_decide_eq_true (by first | (with_reducible assumption) | assumption); omega))
              obtain ⟨ad141, e141, hx141_0⟩ := Kd.at_int (Kd.R_reads' HO138.out).2.2 1 p141 q141
              obtain rfl : ad140 = ad141 := (by injection e141)
              (try simp only [show (1 : Int).toNat = 1 from rfl, Nat.reduceMul, Nat.reduceEqDiff, Go.Addr.add, ↓reduceIte] at hx141_0)
              have qi141 : (1 < t139.length) = True := eq_true (by omega)
              (try rw [show ((1 : Int)).toNat = 1 from rfl] at hx141_0)
              replace p141 := eq_true p141
              replace q141 := eq_true q141
              have p142 : 0 ≤ (2 : Int) := (by omega)
              have q142 : 2 < (t139.length : Int) := (by have h_ : (2 : Int) < ((y136.length : Int) : Int) := of_decide_eq_true (by first | (with_reducible assumption) | assumption); have e_ := (Kd.R_reads' HO138.out).1; omega)
              have ql142 : ((2 : Int) < ((y136.length : Int) : Int)) = True := eq_true (of_decide_eq_true (by first | (with_reducible assumption) | assumption))
              (try have qn142 : (2 < y136.length) = True := eq_true (by have h_ : (2 : Int) < ((y136.length : Int) : Int) := of_decide_eq_true (by first | (with_reducible assumption) | assumption); omega))
              obtain ⟨ad142, e142, hx142_0⟩ := Kd.at_int (Kd.R_reads' HO138.out).2.2 2 p142 q142
              obtain rfl : ad140 = ad142 := (by injection e142)
              (try simp only [show (2 : Int).toNat = 2 from rfl, Nat.reduceMul, Nat.reduceEqDiff, Go.Addr.add, ↓reduceIte] at hx142_0)
              have qi142 : (2 < t139.length) = True := eq_true (by omega)
              (try rw [show ((2 : Int)).toNat = 2 from rfl] at hx142_0)
              replace p142 := eq_true p142
              replace q142 := eq_true q142
              refine start_ (n := 17) (S := fun w' => w'.cell? ad140 = some (.int .i16 (rd t139 0)) ∧ w'.cell? ⟨ad140.block, ad140.off + 1, none⟩ = some (.int .i16 (rd t139 1)) ∧ w'.cell? ⟨ad140.block, ad140.off + 2, none⟩ = some (.int .i16 (rd t139 2))) (ds := [14, 15]) #[ff,ff,ff,ff,ff,ff,ff,ff,ff,ff,ff,ff,ff,ff,ff,ff,ff] (by kernel_rfl) rfl rfl ⟨hx140_0, hx141_0, hx142_0⟩ (fun hHeld => ?_); refine with_tabW spec_SomeAxes.tab6 spec_SomeAxes.bits6 (fun HT_ HW_ => ?_)
              generalize w20.drew = w21 at HO_6 HO_7 HO_8 HO138 HB hx140_0 hx141_0 hx142_0 hHeld ⊢
              refine pure_ (i := 0) (N := some 47) (v := ?_) (a' := ?_) #[tt,ff,ff,ff,ff,ff,ff,ff,ff,ff,ff,ff,ff,ff,ff,ff,ff] rfl rfl (any_of HT_.out (by kernel_rfl)) (fun _ _ _ h => h) (Or.inl ⟨by rfl, ?_⟩) ?_ ?_
              rotate_left
              ·intro w'
               go_simp
               with_reducible rfl
              rotate_left
              ·simp only [Act.put, L1_, L2_, L3_, i64_w, i32_w]
               rfl
              refine pure_ (i := 1) (N := some 48) (v := ?_) (a' := ?_) #[tt,tt,ff,ff,ff,ff,ff,ff,ff,ff,ff,ff,ff,ff,ff,ff,ff] rfl rfl (any_of HT_.out (by kernel_rfl)) (fun _ _ _ h => h) (Or.inl ⟨by rfl, ?_⟩) ?_ ?_
              rotate_left
              ·intro w'
               go_simp
               with_reducible rfl
              rotate_left
              ·simp only [Act.put, L1_, L2_, L3_, i64_w, i32_w]
               rfl
              refine pure_ (i := 2) (N := some 49) (v := ?_) (a' := ?_) #[tt,tt,tt,ff,ff,ff,ff,ff,ff,ff,ff,ff,ff,ff,ff,ff,ff] rfl rfl (any_of HT_.out (by kernel_rfl)) (fun _ _ _ h => h) (Or.inl ⟨by rfl, ?_⟩) ?_ ?_
              rotate_left
              ·intro w'
               go_simp
               with_reducible rfl
              rotate_left
              ·simp only [Act.put, L1_, L2_, L3_, i64_w, i32_w]
               rfl
              refine pure_ (i := 5) (N := some 52) (v := ?_) (a' := ?_) #[tt,tt,tt,ff,ff,tt,ff,ff,ff,ff,ff,ff,ff,ff,ff,ff,ff] rfl rfl (any_of HT_.out (by kernel_rfl)) (fun _ _ _ h => h) (Or.inl ⟨by rfl, ?_⟩) ?_ ?_
              rotate_left
              ·intro w'
               go_simp
               with_reducible rfl
              rotate_left
              ·simp only [Act.put, L1_, L2_, L3_, i64_w, i32_w]
               rfl
              refine pure_ (i := 6) (N := some 53) (v := ?_) (a' := ?_) #[tt,tt,tt,ff,ff,tt,tt,ff,ff,ff,ff,ff,ff,ff,ff,ff,ff] rfl rfl (any_of HT_.out (by kernel_rfl)) (fun _ _ _ h => h) (Or.inl ⟨by rfl, ?_⟩) ?_ ?_
              rotate_left
              ·intro w'
               go_simp
               with_reducible rfl
              rotate_left
              ·simp only [Act.put, L1_, L2_, L3_, i64_w, i32_w]
               rfl
              refine pure_ (i := 9) (N := some 56) (v := ?_) (a' := ?_) #[tt,tt,tt,ff,ff,tt,tt,ff,ff,tt,ff,ff,ff,ff,ff,ff,ff] rfl rfl (any_of HT_.out (by kernel_rfl)) (fun _ _ _ h => h) (Or.inl ⟨by rfl, ?_⟩) ?_ ?_
              rotate_left
              ·intro w'
               go_simp
               with_reducible rfl
              rotate_left
              ·simp only [Act.put, L1_, L2_, L3_, i64_w, i32_w]
               rfl
              refine pure_ (i := 10) (N := some 57) (v := ?_) (a' := ?_) #[tt,tt,tt,ff,ff,tt,tt,ff,ff,tt,tt,ff,ff,ff,ff,ff,ff] rfl rfl (any_of HT_.out (by kernel_rfl)) (fun _ _ _ h => h) (Or.inl ⟨by rfl, ?_⟩) ?_ ?_
              rotate_left
              ·intro w'
               go_simp
               with_reducible rfl
              rotate_left
              ·simp only [Act.put, L1_, L2_, L3_, i64_w, i32_w]
               rfl
              refine take_ (i := 3) (N := some 50) (v := ?_) (a' := ?_) #[tt,tt,tt,tt,ff,tt,tt,ff,ff,tt,tt,ff,ff,ff,ff,ff,ff] rfl rfl (take_ofW HT_.out HW_.out (by kernel_rfl)) (fun _ _ _ h => h) (Or.inl ⟨by rfl, ?_⟩) hHeld ?_ ?_
              rotate_left
              ·rintro w' ⟨s0, s1, s2⟩
               go_simp
               with_reducible rfl
              rotate_left
              ·simp only [Act.put, L1_, L2_, L3_, i64_w, i32_w]
               rfl
              refine pure_ (i := 4) (N := some 51) (v := ?_) (a' := ?_) #[tt,tt,tt,tt,tt,tt,tt,ff,ff,tt,tt,ff,ff,ff,ff,ff,ff] rfl rfl (any_of HT_.out (by kernel_rfl)) (fun _ _ _ h => h) (Or.inl ⟨by rfl, ?_⟩) ?_ ?_
              rotate_left
              ·intro w'
               go_simp
               with_reducible rfl
              rotate_left
              ·(try go_ints); (try simp (disch := omega) only [n3_]); simp only [Act.put, L1_, L2_, L3_, i64_w, i32_w]
               rfl
              refine take_ (i := 7) (N := some 54) (v := ?_) (a' := ?_) #[tt,tt,tt,tt,tt,tt,tt,tt,ff,tt,tt,ff,ff,ff,ff,ff,ff] rfl rfl (take_ofW HT_.out HW_.out (by kernel_rfl)) (fun _ _ _ h => h) (Or.inl ⟨by rfl, ?_⟩) hHeld ?_ ?_
              rotate_left
              ·rintro w' ⟨s0, s1, s2⟩
               go_simp
               with_reducible rfl
              rotate_left
              ·simp only [Act.put, L1_, L2_, L3_, i64_w, i32_w]
               rfl
              refine pure_ (i := 8) (N := some 55) (v := ?_) (a' := ?_) #[tt,tt,tt,tt,tt,tt,tt,tt,tt,tt,tt,ff,ff,ff,ff,ff,ff] rfl rfl (any_of HT_.out (by kernel_rfl)) (fun _ _ _ h => h) (Or.inl ⟨by rfl, ?_⟩) ?_ ?_
              rotate_left
              ·intro w'
               go_simp
               with_reducible rfl
              rotate_left
              ·(try go_ints); (try simp (disch := omega) only [n3_]); simp only [Act.put, L1_, L2_, L3_, i64_w, i32_w]
               rfl
              refine take_ (i := 11) (N := some 58) (v := ?_) (a' := ?_) #[tt,tt,tt,tt,tt,tt,tt,tt,tt,tt,tt,tt,ff,ff,ff,ff,ff] rfl rfl (take_ofW HT_.out HW_.out (by kernel_rfl)) (fun _ _ _ h => h) (Or.inl ⟨by rfl, ?_⟩) hHeld ?_ ?_
              rotate_left
              ·rintro w' ⟨s0, s1, s2⟩
               go_simp
               with_reducible rfl
              rotate_left
              ·simp only [Act.put, L1_, L2_, L3_, i64_w, i32_w]
               rfl
              refine pure_ (i := 12) (N := some 59) (v := ?_) (a' := ?_) #[tt,tt,tt,tt,tt,tt,tt,tt,tt,tt,tt,tt,tt,ff,ff,ff,ff] rfl rfl (any_of HT_.out (by kernel_rfl)) (fun _ _ _ h => h) (Or.inl ⟨by rfl, ?_⟩) ?_ ?_
              rotate_left
              ·intro w'
               go_simp
               with_reducible rfl
              rotate_left
              ·(try go_ints); (try simp (disch := omega) only [n3_]); simp only [Act.put, L1_, L2_, L3_, i64_w, i32_w]
               rfl
              refine pure_ (i := 13) (N := some 60) (v := ?_) (a' := ?_) #[tt,tt,tt,tt,tt,tt,tt,tt,tt,tt,tt,tt,tt,tt,ff,ff,ff] rfl rfl (any_of HT_.out (by kernel_rfl)) (fun _ _ _ h => h) (Or.inl ⟨by rfl, ?_⟩) ?_ ?_
              rotate_left
              ·intro w'
               go_simp
               with_reducible rfl
              rotate_left
              ·simp only [Act.put, L1_, L2_, L3_, i64_w, i32_w]
               rfl
              refine last_ (i := 14) (N := some 61) #[tt,tt,tt,tt,tt,tt,tt,tt,tt,tt,tt,tt,tt,tt,tt,ff,ff] rfl rfl (one_of HT_.out (by kernel_rfl)) (by decide) (fun K hK => ?_)
              refine value_ (w1 := ?_) (v := ?_) (by rfl) rfl ?_ ?_
              rotate_left 2
              ·go_simp
               constructor
               ·rfl
               ·rfl
              refine hK.out _ _ ?_
              clear hK K
              refine norm_ (a' := ?_) ?_ ?_
              rotate_left
              ·show Act.put _ (some 61) _ = _
               simp only [Act.put, L1_, L2_, L3_, i64_w, i32_w]
               rfl
              refine last_ (i := 15) (N := some 62) #[tt,tt,tt,tt,tt,tt,tt,tt,tt,tt,tt,tt,tt,tt,tt,tt,ff] rfl rfl (one_of HT_.out (by kernel_rfl)) (by decide) (fun K hK => ?_)
              refine Kd.R_append_step k92 (w0 := w) w.heap.size (by rfl) (.tmp 47) (.tmp 61) 83 92 (.agg #[(.float .f32 0), (.float .f32 0), (.float .f32 0)]) 12 rfl Try.underlying83 info92 rfl (by decide) (by omega) u6 x6_1 (⟨floatOfInt .f32 (rd t139 0), floatOfInt .f32 (rd t139 1), floatOfInt .f32 (rd t139 2)⟩ : S92) [.float .f32 (floatOfInt .f32 (rd t139 0)), .float .f32 (floatOfInt .f32 (rd t139 1)), .float .f32 (floatOfInt .f32 (rd t139 2))] (fun _ => True) (fun _ => False) rfl rfl ?aP (fun _ hk => hk.elim) ?aF ?aO ?aB ?aS ?aL ?_
              (case aP => exact k92_mkM _ _ _ (⟨floatOfInt .f32 (rd t139 0), floatOfInt .f32 (rd t139 1), floatOfInt .f32 (rd t139 2)⟩ : S92))
              (case aB => exact (by repeat (first | (with_reducible first | exact HB.out | apply below_alloc | apply pw_below_drewN | apply below_drew1) | exact HB.out)))
              (case aF => exact (fun _ _ => trivial))
              (case aO => exact (by (with_reducible repeat (first | apply Kd.R_alloc | apply Kd.R_drewN | apply Kd.R_drew)); exact HO_6.out))
              (case aS => exact (below_size (by repeat (first | (with_reducible first | exact HB.out | apply below_alloc | apply pw_below_drewN | apply below_drew1) | exact HB.out))))
              (case aL => have := LMc13.out; omega)
              intro v144 w22 ho hb hg hat
              rw [← Ny143.out] at ho
              have n0_ := Aside0.mk (Kd.S_over' (by (with_reducible repeat (first | apply Kd.S_alloc | apply Kd.S_drewN | apply Kd.S_drew)); exact HO_7.out) (Kd.R_typed (by (with_reducible repeat (first | apply Kd.R_alloc | apply Kd.R_drewN | apply Kd.R_drew)); exact HO_6.out)) (by decide) hg)
              have n1_ := Aside0.mk (Kd.R_over' (by (with_reducible repeat (first | apply Kd.R_alloc | apply Kd.R_drewN | apply Kd.R_drew)); exact HO_8.out) (Kd.R_typed (by (with_reducible repeat (first | apply Kd.R_alloc | apply Kd.R_drewN | apply Kd.R_drew)); exact HO_6.out)) (by decide) hg)
              have n2_ := Aside0.mk (Kd.R_over' (by (with_reducible repeat (first | apply Kd.R_alloc | apply Kd.R_drewN | apply Kd.R_drew)); exact HO138.out) (Kd.R_typed (by (with_reducible repeat (first | apply Kd.R_alloc | apply Kd.R_drewN | apply Kd.R_drew)); exact HO_6.out)) (by decide) hg)
              have n3_ := Aside0.mk (hb)
              have n4_ := Aside0.mk (ho)
              clear HO_7
              clear HO_8
              clear HO138
              clear HB
              clear HO_6
              have HO_7 := n0_
              have HO_8 := n1_
              have HO138 := n2_
              have HB := n3_
              have HO145 := n4_
              clear n0_ n1_ n2_ n3_ n4_
              clear ho hb hg hat
              refine hK.out _ _ ?_
              clear hK K
              refine norm_ (a' := ?_) ?_ ?_
              rotate_left
              ·show Act.put _ (some 62) _ = _
               simp only [Act.put, L1_, L2_, L3_, i64_w, i32_w]
               rfl
              refine pure_ (i := 16) (N := some 6) (v := ?_) (a' := ?_) #[tt,tt,tt,tt,tt,tt,tt,tt,tt,tt,tt,tt,tt,tt,tt,tt,tt] rfl rfl (any_of HT_.out (by kernel_rfl)) (fun _ _ _ h => h) (Or.inl ⟨by rfl, ?_⟩) ?_ ?_
              rotate_left
              ·intro w'
               go_simp
               with_reducible rfl
              rotate_left
              ·simp only [Act.put, L1_, L2_, L3_, i64_w, i32_w]
               rfl
              refine done_ (done_of HT_.out (by kernel_rfl)) ?_
              have p146 : 0 ≤ (x9_1 : Int) := of_decide_eq_true (by first | (with_reducible assumption) | assumption)
              have q146 : x9_1 < (l2.length : Int) := of_decide_eq_true (by first | (with_reducible assumption) | assumption)
              obtain ⟨ad146, e146, hx146_0⟩ := Kd.at_int HR2.out x9_1 p146 q146
              cases e146
              replace hx146_0 := (HB.out.cell (World.block_lt_of_cell? w _ hx146_0)).trans hx146_0
              replace p146 := eq_true p146
              replace q146 := eq_true q146
              try go_wp2_with (first | ((with_reducible refine gate_builtin (b := .append) (xs := #[.tmp 73, .tmp 75]) rfl ?_); at_builtin; refine Kd.R_append (kflt .f32) (w0 := w) w.heap.size rfl (.tmp 73) (.tmp 75) 85 34 (.float .f32 0) 4 rfl Try.underlying85 info34 rfl (by decide) (by omega) u8 x8_1 (floatOfInt .f32 (IntKind.i16.wrap (Int.tdiv (rd l2 x9_1) 2))) [.float .f32 (floatOfInt .f32 (IntKind.i16.wrap (Int.tdiv (rd l2 x9_1) 2)))] (fun _ => True) (fun _ => False) rfl rfl ?aP (fun _ hk => hk.elim) ?aF ?aO ?aB ?aS ?aL ?_; (case aP => exact rfl); (case aB => exact (by repeat (first | (with_reducible first | exact HB.out | apply below_alloc | apply pw_below_drewN | apply below_drew1) | exact HB.out))); (case aF => exact (fun _ _ => trivial)); (case aO => exact (by (with_reducible repeat (first | apply Kd.R_alloc | apply Kd.R_drewN | apply Kd.R_drew)); exact HO_8.out)); (case aS => exact (below_size (by repeat (first | (with_reducible first | exact HB.out | apply below_alloc | apply pw_below_drewN | apply below_drew1) | exact HB.out)))); (case aL => have := LMc15.out; omega); intro v148 w23 ho hb hg hat; rw [← Ny147.out] at ho; have n0_ := Aside0.mk (Kd.S_over' (by (with_reducible repeat (first | apply Kd.S_alloc | apply Kd.S_drewN | apply Kd.S_drew)); exact HO_7.out) (Kd.R_typed (by (with_reducible repeat (first | apply Kd.R_alloc | apply Kd.R_drewN | apply Kd.R_drew)); exact HO_8.out)) (by decide) hg); have n1_ := Aside0.mk (Kd.R_over' (by (with_reducible repeat (first | apply Kd.R_alloc | apply Kd.R_drewN | apply Kd.R_drew)); exact HO138.out) (Kd.R_typed (by (with_reducible repeat (first | apply Kd.R_alloc | apply Kd.R_drewN | apply Kd.R_drew)); exact HO_8.out)) (by decide) hg); have n2_ := Aside0.mk (Kd.R_over' (by (with_reducible repeat (first | apply Kd.R_alloc | apply Kd.R_drewN | apply Kd.R_drew)); exact HO145.out) (Kd.R_typed (by (with_reducible repeat (first | apply Kd.R_alloc | apply Kd.R_drewN | apply Kd.R_drew)); exact HO_8.out)) (by decide) hg); have n3_ := Aside0.mk (hb); have n4_ := Aside0.mk (ho); clear HO_7; clear HO138; clear HO145; clear HB; clear HO_8; have HO_7 := n0_; have HO138 := n1_; have HO145 := n2_; have HB := n3_; have HO149 := n4_; clear n0_ n1_ n2_ n3_ n4_; clear ho hb hg hat))
              go_roundg kj3
              case measure => have := HK1.out; have := HJ3.out; omega
              case rel => exact ⟨(y143), (y147), (wrap64 (x9_1 + 1)), (by first | rfl | (simp; done) | (simp [*]; done)), H', ⟨by have := HK1.out; have := HJ3.out; omega⟩, ⟨by (with_reducible repeat (first | apply Kd.R_alloc | apply Kd.R_drewN | apply Kd.R_drew)); exact HO145.out⟩, ⟨by (with_reducible repeat (first | apply Kd.R_alloc | apply Kd.R_drewN | apply Kd.R_drew)); exact HO149.out⟩, ⟨by repeat (first | (with_reducible first | exact HB.out | apply below_alloc | apply pw_below_drewN | apply below_drew1) | exact HB.out)⟩⟩
             ·rw [if_neg c15] at H
              exact absurd H (by simp)
            ·rw [if_neg c14] at H
             have c14b0 : decide (x9_1 < (l2.length : Int)) = false := decide_eq_false c14
             clear c14
             by_cases c24 : x8_1.length < 35184372088832
             ·rw [if_pos c24] at H
              have LMc24 := Aside0.mk c24
              clear c24
              obtain ⟨y150, hy150⟩ : ∃ y_ : List Nat, y_ = (x8_1 ++ [0]) := ⟨_, rfl⟩
              replace H : (spec_SomeAxes.l0 kj3 l0 l1 l2 y143 y150 (wrap64 (x9_1 + 1))) = some (r1, r2, r3) := by first | (rw [hy150]; with_reducible exact H) | (have H2_ := (Option.bind_some _ _).symm.trans H; rw [hy150]; with_reducible exact H2_) | (have H2_ := (Option.bind_some _ _).symm.trans H; with_reducible exact H2_) | with_reducible exact H | (rw [hy150]; exact H) | exact H
              have Ny150 := Aside0.mk hy150
              clear hy150
              have H' := Aside0.mk H
              clear H
              try go_wp2
              have n0_ := Aside0.mk (Kd.R_drew HO_6.out)
              have n1_ := Aside0.mk (Kd.S_drew HO_7.out)
              have n2_ := Aside0.mk (Kd.R_drew HO_8.out)
              have n3_ := Aside0.mk (below_drew1 HB.out)
              clear HO_6
              clear HO_7
              clear HO_8
              clear HB
              have HO_6 := n0_
              have HO_7 := n1_
              have HO_8 := n2_
              have HB := n3_
              clear n0_ n1_ n2_ n3_
              have p133 : 0 ≤ (x9_1 : Int) := of_decide_eq_true (by first | (with_reducible assumption) | assumption)
              have q133 : x9_1 < (l0.length : Int) := of_decide_eq_true (by first | (with_reducible assumption) | assumption)
              obtain ⟨ad133, e133, hx133_0, hx133_1, hx133_2⟩ := at_T161 HR0.out x9_1 p133 q133
              have hw133_2 := hx133_2
              have hw133_1 := hx133_1
              have hw133_0 := hx133_0
              cases e133
              replace hx133_0 := (HB.out.cell (World.block_lt_of_cell? w _ hx133_0)).trans hx133_0
              replace hx133_1 := (HB.out.cell (World.block_lt_of_cell? w _ hx133_1)).trans hx133_1
              replace hx133_2 := (HB.out.cell (World.block_lt_of_cell? w _ hx133_2)).trans hx133_2
              replace p133 := eq_true p133
              replace q133 := eq_true q133
              have p134 : 0 ≤ (x9_1 : Int) := of_decide_eq_true (by first | (with_reducible assumption) | assumption)
              have q134 : x9_1 < (l0.length : Int) := of_decide_eq_true (by first | (with_reducible assumption) | assumption)
              obtain ⟨ad134, e134, hx134_0, hx134_1, hx134_2⟩ := at_T161 HR0.out x9_1 p134 q134
              have hw134_2 := hx134_2
              have hw134_1 := hx134_1
              have hw134_0 := hx134_0
              obtain rfl : ad133 = ad134 := (by injection e134)
              replace hx134_0 := (HB.out.cell (World.block_lt_of_cell? w _ hx134_0)).trans hx134_0
              replace hx134_1 := (HB.out.cell (World.block_lt_of_cell? w _ hx134_1)).trans hx134_1
              replace hx134_2 := (HB.out.cell (World.block_lt_of_cell? w _ hx134_2)).trans hx134_2
              replace p134 := eq_true p134
              replace q134 := eq_true q134
              have p135 : 0 ≤ (x9_1 : Int) := of_decide_eq_true (by first | (with_reducible assumption) | assumption)
              have q135 : x9_1 < (l0.length : Int) := of_decide_eq_true (by first | (with_reducible assumption) | assumption)
              obtain ⟨ad135, e135, hx135_0, hx135_1, hx135_2⟩ := at_T161 HR0.out x9_1 p135 q135
              have hw135_2 := hx135_2
              have hw135_1 := hx135_1
              have hw135_0 := hx135_0
              obtain rfl : ad133 = ad135 := (by injection e135)
              replace hx135_0 := (HB.out.cell (World.block_lt_of_cell? w _ hx135_0)).trans hx135_0
              replace hx135_1 := (HB.out.cell (World.block_lt_of_cell? w _ hx135_1)).trans hx135_1
              replace hx135_2 := (HB.out.cell (World.block_lt_of_cell? w _ hx135_2)).trans hx135_2
              replace p135 := eq_true p135
              replace q135 := eq_true q135
              refine start_ (n := 20) (S := fun w' => w'.cell? (ad133.add ((x9_1).toNat * 3)) = some (.int .i16 ((rd_T161 l0 x9_1).f0)) ∧ w'.cell? ⟨(ad133.add ((x9_1).toNat * 3)).block, (ad133.add ((x9_1).toNat * 3)).off + 1, none⟩ = some (.int .i16 ((rd_T161 l0 x9_1).f1)) ∧ w'.cell? ⟨(ad133.add ((x9_1).toNat * 3)).block, (ad133.add ((x9_1).toNat * 3)).off + 2, none⟩ = some (.int .i16 ((rd_T161 l0 x9_1).f2)) ∧ w'.cell? (ad133.add ((x9_1).toNat * 3)) = some (.int .i16 ((rd_T161 l0 x9_1).f0)) ∧ w'.cell? ⟨(ad133.add ((x9_1).toNat * 3)).block, (ad133.add ((x9_1).toNat * 3)).off + 1, none⟩ = some (.int .i16 ((rd_T161 l0 x9_1).f1)) ∧ w'.cell? ⟨(ad133.add ((x9_1).toNat * 3)).block, (ad133.add ((x9_1).toNat * 3)).off + 2, none⟩ = some (.int .i16 ((rd_T161 l0 x9_1).f2)) ∧ w'.cell? (ad133.add ((x9_1).toNat * 3)) = some (.int .i16 ((rd_T161 l0 x9_1).f0)) ∧ w'.cell? ⟨(ad133.add ((x9_1).toNat * 3)).block, (ad133.add ((x9_1).toNat * 3)).off + 1, none⟩ = some (.int .i16 ((rd_T161 l0 x9_1).f1)) ∧ w'.cell? ⟨(ad133.add ((x9_1).toNat * 3)).block, (ad133.add ((x9_1).toNat * 3)).off + 2, none⟩ = some (.int .i16 ((rd_T161 l0 x9_1).f2))) (ds := []) #[ff,ff,ff,ff,ff,ff,ff,ff,ff,ff,ff,ff,ff,ff,ff,ff,ff,ff,ff,ff] (by kernel_rfl) rfl rfl ⟨((HB.out.cell (World.block_lt_of_cell? w _ hw133_0)).trans hw133_0), ((HB.out.cell (World.block_lt_of_cell? w _ hw133_1)).trans hw133_1), ((HB.out.cell (World.block_lt_of_cell? w _ hw133_2)).trans hw133_2), ((HB.out.cell (World.block_lt_of_cell? w _ hw134_0)).trans hw134_0), ((HB.out.cell (World.block_lt_of_cell? w _ hw134_1)).trans hw134_1), ((HB.out.cell (World.block_lt_of_cell? w _ hw134_2)).trans hw134_2), ((HB.out.cell (World.block_lt_of_cell? w _ hw135_0)).trans hw135_0), ((HB.out.cell (World.block_lt_of_cell? w _ hw135_1)).trans hw135_1), ((HB.out.cell (World.block_lt_of_cell? w _ hw135_2)).trans hw135_2)⟩ (fun hHeld => ?_); refine with_tabW spec_SomeAxes.tab4 spec_SomeAxes.bits4 (fun HT_ HW_ => ?_)
              generalize wc.drew = w25 at HO_6 HO_7 HO_8 HB hx133_0 hx133_1 hx133_2 hx134_0 hx134_1 hx134_2 hx135_0 hx135_1 hx135_2 hHeld ⊢
              refine pure_ (i := 0) (N := some 26) (v := ?_) (a' := ?_) #[tt,ff,ff,ff,ff,ff,ff,ff,ff,ff,ff,ff,ff,ff,ff,ff,ff,ff,ff,ff] rfl rfl (any_of HT_.out (by kernel_rfl)) (fun _ _ _ h => h) (Or.inl ⟨by rfl, ?_⟩) ?_ ?_
              rotate_left
              ·intro w'
               go_simp
               with_reducible rfl
              rotate_left
              ·simp only [Act.put, L1_, L2_, L3_, i64_w, i32_w]
               rfl
              refine pure_ (i := 1) (N := some 27) (v := ?_) (a' := ?_) #[tt,tt,ff,ff,ff,ff,ff,ff,ff,ff,ff,ff,ff,ff,ff,ff,ff,ff,ff,ff] rfl rfl (any_of HT_.out (by kernel_rfl)) (fun _ _ _ h => h) (Or.inl ⟨by rfl, ?_⟩) ?_ ?_
              rotate_left
              ·intro w'
               go_simp
               with_reducible rfl
              rotate_left
              ·simp only [Act.put, L1_, L2_, L3_, i64_w, i32_w]
               rfl
              refine pure_ (i := 2) (N := some 28) (v := ?_) (a' := ?_) #[tt,tt,tt,ff,ff,ff,ff,ff,ff,ff,ff,ff,ff,ff,ff,ff,ff,ff,ff,ff] rfl rfl (any_of HT_.out (by kernel_rfl)) (fun _ _ _ h => h) (Or.inl ⟨by rfl, ?_⟩) ?_ ?_
              rotate_left
              ·intro w'
               go_simp
               with_reducible rfl
              rotate_left
              ·simp only [Act.put, L1_, L2_, L3_, i64_w, i32_w]
               rfl
              refine pure_ (i := 3) (N := some 29) (v := ?_) (a' := ?_) #[tt,tt,tt,tt,ff,ff,ff,ff,ff,ff,ff,ff,ff,ff,ff,ff,ff,ff,ff,ff] rfl rfl (any_of HT_.out (by kernel_rfl)) (fun _ _ _ h => h) (Or.inl ⟨by rfl, ?_⟩) ?_ ?_
              rotate_left
              ·intro w'
               go_simp
               with_reducible rfl
              rotate_left
              ·simp only [Act.put, L1_, L2_, L3_, i64_w, i32_w]
               rfl
              refine pure_ (i := 6) (N := some 32) (v := ?_) (a' := ?_) #[tt,tt,tt,tt,ff,ff,tt,ff,ff,ff,ff,ff,ff,ff,ff,ff,ff,ff,ff,ff] rfl rfl (any_of HT_.out (by kernel_rfl)) (fun _ _ _ h => h) (Or.inl ⟨by rfl, ?_⟩) ?_ ?_
              rotate_left
              ·intro w'
               go_simp
               with_reducible rfl
              rotate_left
              ·simp only [Act.put, L1_, L2_, L3_, i64_w, i32_w]
               rfl
              refine pure_ (i := 7) (N := some 33) (v := ?_) (a' := ?_) #[tt,tt,tt,tt,ff,ff,tt,tt,ff,ff,ff,ff,ff,ff,ff,ff,ff,ff,ff,ff] rfl rfl (any_of HT_.out (by kernel_rfl)) (fun _ _ _ h => h) (Or.inl ⟨by rfl, ?_⟩) ?_ ?_
              rotate_left
              ·intro w'
               go_simp
               with_reducible rfl
              rotate_left
              ·simp only [Act.put, L1_, L2_, L3_, i64_w, i32_w]
               rfl
              refine pure_ (i := 8) (N := some 34) (v := ?_) (a' := ?_) #[tt,tt,tt,tt,ff,ff,tt,tt,tt,ff,ff,ff,ff,ff,ff,ff,ff,ff,ff,ff] rfl rfl (any_of HT_.out (by kernel_rfl)) (fun _ _ _ h => h) (Or.inl ⟨by rfl, ?_⟩) ?_ ?_
              rotate_left
              ·intro w'
               go_simp
               with_reducible rfl
              rotate_left
              ·simp only [Act.put, L1_, L2_, L3_, i64_w, i32_w]
               rfl
              refine pure_ (i := 9) (N := some 35) (v := ?_) (a' := ?_) #[tt,tt,tt,tt,ff,ff,tt,tt,tt,tt,ff,ff,ff,ff,ff,ff,ff,ff,ff,ff] rfl rfl (any_of HT_.out (by kernel_rfl)) (fun _ _ _ h => h) (Or.inl ⟨by rfl, ?_⟩) ?_ ?_
              rotate_left
              ·intro w'
               go_simp
               with_reducible rfl
              rotate_left
              ·simp only [Act.put, L1_, L2_, L3_, i64_w, i32_w]
               rfl
              refine pure_ (i := 12) (N := some 38) (v := ?_) (a' := ?_) #[tt,tt,tt,tt,ff,ff,tt,tt,tt,tt,ff,ff,tt,ff,ff,ff,ff,ff,ff,ff] rfl rfl (any_of HT_.out (by kernel_rfl)) (fun _ _ _ h => h) (Or.inl ⟨by rfl, ?_⟩) ?_ ?_
              rotate_left
              ·intro w'
               go_simp
               with_reducible rfl
              rotate_left
              ·simp only [Act.put, L1_, L2_, L3_, i64_w, i32_w]
               rfl
              refine pure_ (i := 13) (N := some 39) (v := ?_) (a' := ?_) #[tt,tt,tt,tt,ff,ff,tt,tt,tt,tt,ff,ff,tt,tt,ff,ff,ff,ff,ff,ff] rfl rfl (any_of HT_.out (by kernel_rfl)) (fun _ _ _ h => h) (Or.inl ⟨by rfl, ?_⟩) ?_ ?_
              rotate_left
              ·intro w'
               go_simp
               with_reducible rfl
              rotate_left
              ·simp only [Act.put, L1_, L2_, L3_, i64_w, i32_w]
               rfl
              refine pure_ (i := 14) (N := some 40) (v := ?_) (a' := ?_) #[tt,tt,tt,tt,ff,ff,tt,tt,tt,tt,ff,ff,tt,tt,tt,ff,ff,ff,ff,ff] rfl rfl (any_of HT_.out (by kernel_rfl)) (fun _ _ _ h => h) (Or.inl ⟨by rfl, ?_⟩) ?_ ?_
              rotate_left
              ·intro w'
               go_simp
               with_reducible rfl
              rotate_left
              ·simp only [Act.put, L1_, L2_, L3_, i64_w, i32_w]
               rfl
              refine pure_ (i := 15) (N := some 41) (v := ?_) (a' := ?_) #[tt,tt,tt,tt,ff,ff,tt,tt,tt,tt,ff,ff,tt,tt,tt,tt,ff,ff,ff,ff] rfl rfl (any_of HT_.out (by kernel_rfl)) (fun _ _ _ h => h) (Or.inl ⟨by rfl, ?_⟩) ?_ ?_
              rotate_left
              ·intro w'
               go_simp
               with_reducible rfl
              rotate_left
              ·simp only [Act.put, L1_, L2_, L3_, i64_w, i32_w]
               rfl
              refine take_ (i := 4) (N := some 30) (v := ?_) (a' := ?_) #[tt,tt,tt,tt,tt,ff,tt,tt,tt,tt,ff,ff,tt,tt,tt,tt,ff,ff,ff,ff] rfl rfl (take_ofW HT_.out HW_.out (by kernel_rfl)) (fun _ _ _ h => h) (Or.inl ⟨by rfl, ?_⟩) hHeld ?_ ?_
              rotate_left
              ·rintro w' ⟨s0, s1, s2, s3, s4, s5, s6, s7, s8⟩
               go_simp
               with_reducible rfl
              rotate_left
              ·simp only [Act.put, L1_, L2_, L3_, i64_w, i32_w]
               rfl
              refine pure_ (i := 5) (N := some 31) (v := ?_) (a' := ?_) #[tt,tt,tt,tt,tt,tt,tt,tt,tt,tt,ff,ff,tt,tt,tt,tt,ff,ff,ff,ff] rfl rfl (any_of HT_.out (by kernel_rfl)) (fun _ _ _ h => h) (Or.inl ⟨by rfl, ?_⟩) ?_ ?_
              rotate_left
              ·intro w'
               go_simp
               with_reducible rfl
              rotate_left
              ·(try go_ints); (try simp (disch := omega) only [n3_]); simp only [Act.put, L1_, L2_, L3_, i64_w, i32_w]
               rfl
              refine take_ (i := 10) (N := some 36) (v := ?_) (a' := ?_) #[tt,tt,tt,tt,tt,tt,tt,tt,tt,tt,tt,ff,tt,tt,tt,tt,ff,ff,ff,ff] rfl rfl (take_ofW HT_.out HW_.out (by kernel_rfl)) (fun _ _ _ h => h) (Or.inl ⟨by rfl, ?_⟩) hHeld ?_ ?_
              rotate_left
              ·rintro w' ⟨s0, s1, s2, s3, s4, s5, s6, s7, s8⟩
               go_simp
               with_reducible rfl
              rotate_left
              ·simp only [Act.put, L1_, L2_, L3_, i64_w, i32_w]
               rfl
              refine pure_ (i := 11) (N := some 37) (v := ?_) (a' := ?_) #[tt,tt,tt,tt,tt,tt,tt,tt,tt,tt,tt,tt,tt,tt,tt,tt,ff,ff,ff,ff] rfl rfl (any_of HT_.out (by kernel_rfl)) (fun _ _ _ h => h) (Or.inl ⟨by rfl, ?_⟩) ?_ ?_
              rotate_left
              ·intro w'
               go_simp
               with_reducible rfl
              rotate_left
              ·(try go_ints); (try simp (disch := omega) only [n3_]); simp only [Act.put, L1_, L2_, L3_, i64_w, i32_w]
               rfl
              refine take_ (i := 16) (N := some 42) (v := ?_) (a' := ?_) #[tt,tt,tt,tt,tt,tt,tt,tt,tt,tt,tt,tt,tt,tt,tt,tt,tt,ff,ff,ff] rfl rfl (take_ofW HT_.out HW_.out (by kernel_rfl)) (fun _ _ _ h => h) (Or.inl ⟨by rfl, ?_⟩) hHeld ?_ ?_
              rotate_left
              ·rintro w' ⟨s0, s1, s2, s3, s4, s5, s6, s7, s8⟩
               go_simp
               with_reducible rfl
              rotate_left
              ·simp only [Act.put, L1_, L2_, L3_, i64_w, i32_w]
               rfl
              refine pure_ (i := 17) (N := some 43) (v := ?_) (a' := ?_) #[tt,tt,tt,tt,tt,tt,tt,tt,tt,tt,tt,tt,tt,tt,tt,tt,tt,tt,ff,ff] rfl rfl (any_of HT_.out (by kernel_rfl)) (fun _ _ _ h => h) (Or.inl ⟨by rfl, ?_⟩) ?_ ?_
              rotate_left
              ·intro w'
               go_simp
               with_reducible rfl
              rotate_left
              ·(try go_ints); (try simp (disch := omega) only [n3_]); simp only [Act.put, L1_, L2_, L3_, i64_w, i32_w]
               rfl
              refine one_ (i := 18) (N := some 44) #[tt,tt,tt,tt,tt,tt,tt,tt,tt,tt,tt,tt,tt,tt,tt,tt,tt,tt,tt,ff] rfl rfl (one_of HT_.out (by kernel_rfl)) (by decide) (fun K hK => ?_)
              refine Kd.R_lit_step (Kd.int .i16) _ 98 ?hg (N := 44) ?hd (xs := ([IntKind.i16.wrap (Int.tdiv ((rd_T161 l0 x9_1).f0) 4), IntKind.i16.wrap (Int.tdiv ((rd_T161 l0 x9_1).f1) 4), IntKind.i16.wrap (Int.tdiv ((rd_T161 l0 x9_1).f2) 4)] : List Int)) (inner := [.int .i16 (IntKind.i16.wrap (Int.tdiv ((rd_T161 l0 x9_1).f0) 4)), .int .i16 (IntKind.i16.wrap (Int.tdiv ((rd_T161 l0 x9_1).f1) 4)), .int .i16 (IntKind.i16.wrap (Int.tdiv ((rd_T161 l0 x9_1).f2) 4))]) (ok := fun _ => True) (okp := fun _ => True) ?hr ?hp (fun _ hk => hk) trivial (Below.refl _ _) (Nat.le_refl _) (by simp) ?_; (case hd => rfl); (case hg => rfl); (case hr => first | (go_simp; done) | (go_simp; rfl)); (case hp => exact (Reps.one (show Kd.M (Kd.int .i16) _ _ _ (IntKind.i16.wrap (Int.tdiv ((rd_T161 l0 x9_1).f0) 4)) [.int .i16 (IntKind.i16.wrap (Int.tdiv ((rd_T161 l0 x9_1).f0) 4))] from rfl) (Reps.one (show Kd.M (Kd.int .i16) _ _ _ (IntKind.i16.wrap (Int.tdiv ((rd_T161 l0 x9_1).f1) 4)) [.int .i16 (IntKind.i16.wrap (Int.tdiv ((rd_T161 l0 x9_1).f1) 4))] from rfl) (Reps.one (show Kd.M (Kd.int .i16) _ _ _ (IntKind.i16.wrap (Int.tdiv ((rd_T161 l0 x9_1).f2) 4)) [.int .i16 (IntKind.i16.wrap (Int.tdiv ((rd_T161 l0 x9_1).f2) 4))] from rfl) (Reps.none _ _)))))
              intro v137 w26 ho27 hb hg_ hnew_
              clear hg_ hnew_
              (first | rw [← Ny136.out] at ho27 | (simp only [Int.reduceToNat] at ho27; rw [← Ny136.out] at ho27))
              have n0_ := Aside0.mk (Kd.R_below (by (with_reducible repeat (first | apply Kd.R_alloc | apply Kd.R_drewN | apply Kd.R_drew)); exact HO_6.out) hb)
              have n1_ := Aside0.mk (Kd.S_below (by (with_reducible repeat (first | apply Kd.S_alloc | apply Kd.S_drewN | apply Kd.S_drew)); exact HO_7.out) hb)
              have n2_ := Aside0.mk (Kd.R_below (by (with_reducible repeat (first | apply Kd.R_alloc | apply Kd.R_drewN | apply Kd.R_drew)); exact HO_8.out) hb)
              have n3_ := Aside0.mk (Kd.R_lower ho27 (below_size (by repeat (first | (with_reducible first | exact HB.out | apply below_alloc | apply pw_below_drewN | apply below_drew1) | exact HB.out))))
              have n4_ := Aside0.mk (below_step (by repeat (first | (with_reducible first | exact HB.out | apply below_alloc | apply pw_below_drewN | apply below_drew1) | exact HB.out)) hb)
              clear HO_6
              clear HO_7
              clear HO_8
              clear HB
              have HO_6 := n0_
              have HO_7 := n1_
              have HO_8 := n2_
              have HO138 := n3_
              have HB := n4_
              clear n0_ n1_ n2_ n3_ n4_
              clear hb ho27
              refine hK.out _ _ ⟨((HB.out.cell (World.block_lt_of_cell? w _ hw133_0)).trans hw133_0), ((HB.out.cell (World.block_lt_of_cell? w _ hw133_1)).trans hw133_1), ((HB.out.cell (World.block_lt_of_cell? w _ hw133_2)).trans hw133_2), ((HB.out.cell (World.block_lt_of_cell? w _ hw134_0)).trans hw134_0), ((HB.out.cell (World.block_lt_of_cell? w _ hw134_1)).trans hw134_1), ((HB.out.cell (World.block_lt_of_cell? w _ hw134_2)).trans hw134_2), ((HB.out.cell (World.block_lt_of_cell? w _ hw135_0)).trans hw135_0), ((HB.out.cell (World.block_lt_of_cell? w _ hw135_1)).trans hw135_1), ((HB.out.cell (World.block_lt_of_cell? w _ hw135_2)).trans hw135_2)⟩ (fun hHeld => ?_)
              clear hK K
              refine norm_ (a' := ?_) ?_ ?_
              rotate_left
              ·show Act.put _ (some 44) _ = _
               simp only [Act.put, L1_, L2_, L3_, i64_w, i32_w]
               rfl
              refine pure_ (i := 19) (N := some 10) (v := ?_) (a' := ?_) #[tt,tt,tt,tt,tt,tt,tt,tt,tt,tt,tt,tt,tt,tt,tt,tt,tt,tt,tt,tt] rfl rfl (any_of HT_.out (by kernel_rfl)) (fun _ _ _ h => h) (Or.inl ⟨by rfl, ?_⟩) ?_ ?_
              rotate_left
              ·intro w'
               go_simp
               with_reducible rfl
              rotate_left
              ·simp only [Act.put, L1_, L2_, L3_, i64_w, i32_w]
               rfl
              refine done_ (done_of HT_.out (by kernel_rfl)) ?_
              obtain ⟨Ao28, co28, eo28⟩ := Kd.R_slice HO138.out
              subst eo28
              try go_wp2_with (first | ((with_reducible refine gate_callee (f := 54) rfl ?_); refine goesL_ (some 46) rfl rfl Try.func54 (by kernel_rfl) rfl #[.slice Ao28 y136.length co28] rfl (by (try simp only [List.map_toArray, List.map_cons, List.map_nil]); first | done | rfl | (simp only [List.length_drop, List.length_take]; rfl)) ?_; (with_reducible refine (slices_Sort_int16_int16.calls kj3 (fun k_ => some k_ = (.slice Ao28 y136.length co28 : Value).ownBlock) (.slice Ao28 y136.length co28) y136 t139 w _ ?side1 ?side2 A9.out).mono ?_); (case side1 => repeat (first | (with_reducible first | exact HB.out | apply below_alloc | apply pw_below_drewN | apply below_drew1) | exact HB.out)); (case side2 => exact Kd.R_tight rfl HO138.out); rintro e w29 ⟨rfl, hy0, hb, hkp⟩; refine ⟨_, rfl, ?_⟩; have n0_ := Aside0.mk (Kd.R_mono (ok' := fun k_ => True) (Kd.R_keptB ((Kd.R_apart' HO_6.out (Kd.R_typed HO138.out) (by decide))) hkp (fun k_ hk_ hs_ => (hk_.2) hs_)) (fun k_ hk_ => trivial)); have n1_ := Aside0.mk (Kd.S_mono (ok' := fun k_ => True) (Kd.S_keptB ((Kd.S_apart' HO_7.out (Kd.R_typed HO138.out) (by decide))) hkp (fun k_ hk_ hs_ => (hk_.2) hs_)) (fun k_ hk_ => trivial)); have n2_ := Aside0.mk (Kd.R_mono (ok' := fun k_ => True) (Kd.R_keptB ((Kd.R_apart' HO_8.out (Kd.R_typed HO138.out) (by decide))) hkp (fun k_ hk_ hs_ => (hk_.2) hs_)) (fun k_ hk_ => trivial)); have n3_ := Aside0.mk (Kd.R_reok rfl hy0 (fun k_ e_ => HO138.out.1 k_ e_)); have n4_ := Aside0.mk (hb); clear HO_6; clear HO_7; clear HO_8; clear HO138; clear HB; have HO_6 := n0_; have HO_7 := n1_; have HO_8 := n2_; have HO138 := n3_; have HB := n4_; clear n0_ n1_ n2_ n3_ n4_; (try clear hb); (try clear hkp); (try clear hy0)))
              have n0_ := Aside0.mk (Kd.R_drew HO_6.out)
              have n1_ := Aside0.mk (Kd.S_drew HO_7.out)
              have n2_ := Aside0.mk (Kd.R_drew HO_8.out)
              have n3_ := Aside0.mk (Kd.R_drew HO138.out)
              have n4_ := Aside0.mk (below_drew1 HB.out)
              clear HO_6
              clear HO_7
              clear HO_8
              clear HO138
              clear HB
              have HO_6 := n0_
              have HO_7 := n1_
              have HO_8 := n2_
              have HO138 := n3_
              have HB := n4_
              clear n0_ n1_ n2_ n3_ n4_
              have p140 : 0 ≤ (0 : Int) := (by omega)
              have q140 : 0 < (t139.length : Int) := (by have h_ : (0 : Int) < ((y136.length : Int) : Int) := of_decide_eq_true (by first | (with_reducible assumption) | assumption); have e_ := (Kd.R_reads' HO138.out).1; omega)
              have ql140 : ((0 : Int) < ((y136.length : Int) : Int)) = True := eq_true (of_decide_eq_true (by first | (with_reducible assumption) | assumption))
              (try have qn140 : (0 < y136.length) = True := eq_true (by have h_ : (0 : Int) < ((y136.length : Int) : Int) := of_decide_eq_true (by first | (with_reducible assumption) | assumption); omega))
              obtain ⟨ad140, e140, hx140_0⟩ := Kd.at_int (Kd.R_reads' HO138.out).2.2 0 p140 q140
              cases e140
              have qi140 : (0 < t139.length) = True := eq_true (by omega)
              (try rw [show ((0 : Int)).toNat = 0 from rfl] at hx140_0)
              (try rw [Addr.add_zero'] at hx140_0)
              replace p140 := eq_true p140
              replace q140 := eq_true q140
              have p141 : 0 ≤ (1 : Int) := (by omega)
              have q141 : 1 < (t139.length : Int) := (by have h_ : (1 : Int) < ((y136.length : Int) : Int) := of_decide_eq_true (by first | (with_reducible assumption) | assumption); have e_ := (Kd.R_reads' HO138.out).1; omega)
              have ql141 : ((1 : Int) < ((y136.length : Int) : Int)) = True := eq_true (of_decide_eq_true (by first | (with_reducible assumption) | assumption))
              (try have qn141 : (1 < y136.length) = True := eq_true (by have h_ : (1 : Int) < ((y136.length : Int) : Int) := of_decide_eq_true (by first | (with_reducible assumption) | assumption); omega))
              obtain ⟨ad141, e141, hx141_0⟩ := Kd.at_int (Kd.R_reads' HO138.out).2.2 1 p141 q141
              obtain rfl : ad140 = ad141 := (by injection e141)
              (try simp only [show (1 : Int).toNat = 1 from rfl, Nat.reduceMul, Nat.reduceEqDiff, Go.Addr.add, ↓reduceIte] at hx141_0)
              have qi141 : (1 < t139.length) = True := eq_true (by omega)
              (try rw [show ((1 : Int)).toNat = 1 from rfl] at hx141_0)
              replace p141 := eq_true p141
              replace q141 := eq_true q141
              have p142 : 0 ≤ (2 : Int) := (by omega)
              have q142 : 2 < (t139.length : Int) := (by have h_ : (2 : Int) < ((y136.length : Int) : Int) := of_decide_eq_true (by first | (with_reducible assumption) | assumption); have e_ := (Kd.R_reads' HO138.out).1; omega)
              have ql142 : ((2 : Int) < ((y136.length : Int) : Int)) = True := eq_true (of_decide_eq_true (by first | (with_reducible assumption) | assumption))
              (try have qn142 : (2 < y136.length) = True := eq_true (by have h_ : (2 : Int) < ((y136.length : Int) : Int) := of_decide_eq_true (by first | (with_reducible assumption) | assumption); omega))
              obtain ⟨ad142, e142, hx142_0⟩ := Kd.at_int (Kd.R_reads' HO138.out).2.2 2 p142 q142
              obtain rfl : ad140 = ad142 := (by injection e142)
              (try simp only [show (2 : Int).toNat = 2 from rfl, Nat.reduceMul, Nat.reduceEqDiff, Go.Addr.add, ↓reduceIte] at hx142_0)
              have qi142 : (2 < t139.length) = True := eq_true (by omega)
              (try rw [show ((2 : Int)).toNat = 2 from rfl] at hx142_0)
              replace p142 := eq_true p142
              replace q142 := eq_true q142
              refine start_ (n := 17) (S := fun w' => w'.cell? ad140 = some (.int .i16 (rd t139 0)) ∧ w'.cell? ⟨ad140.block, ad140.off + 1, none⟩ = some (.int .i16 (rd t139 1)) ∧ w'.cell? ⟨ad140.block, ad140.off + 2, none⟩ = some (.int .i16 (rd t139 2))) (ds := [14, 15]) #[ff,ff,ff,ff,ff,ff,ff,ff,ff,ff,ff,ff,ff,ff,ff,ff,ff] (by kernel_rfl) rfl rfl ⟨hx140_0, hx141_0, hx142_0⟩ (fun hHeld => ?_); refine with_tabW spec_SomeAxes.tab6 spec_SomeAxes.bits6 (fun HT_ HW_ => ?_)
              generalize w29.drew = w30 at HO_6 HO_7 HO_8 HO138 HB hx140_0 hx141_0 hx142_0 hHeld ⊢
              refine pure_ (i := 0) (N := some 47) (v := ?_) (a' := ?_) #[tt,ff,ff,ff,ff,ff,ff,ff,ff,ff,ff,ff,ff,ff,ff,ff,ff] rfl rfl (any_of HT_.out (by kernel_rfl)) (fun _ _ _ h => h) (Or.inl ⟨by rfl, ?_⟩) ?_ ?_
              rotate_left
              ·intro w'
               go_simp
               with_reducible rfl
              rotate_left
              ·simp only [Act.put, L1_, L2_, L3_, i64_w, i32_w]
               rfl
              refine pure_ (i := 1) (N := some 48) (v := ?_) (a' := ?_) #[tt,tt,ff,ff,ff,ff,ff,ff,ff,ff,ff,ff,ff,ff,ff,ff,ff] rfl rfl (any_of HT_.out (by kernel_rfl)) (fun _ _ _ h => h) (Or.inl ⟨by rfl, ?_⟩) ?_ ?_
              rotate_left
              ·intro w'
               go_simp
               with_reducible rfl
              rotate_left
              ·simp only [Act.put, L1_, L2_, L3_, i64_w, i32_w]
               rfl
              refine pure_ (i := 2) (N := some 49) (v := ?_) (a' := ?_) #[tt,tt,tt,ff,ff,ff,ff,ff,ff,ff,ff,ff,ff,ff,ff,ff,ff] rfl rfl (any_of HT_.out (by kernel_rfl)) (fun _ _ _ h => h) (Or.inl ⟨by rfl, ?_⟩) ?_ ?_
              rotate_left
              ·intro w'
               go_simp
               with_reducible rfl
              rotate_left
              ·simp only [Act.put, L1_, L2_, L3_, i64_w, i32_w]
               rfl
              refine pure_ (i := 5) (N := some 52) (v := ?_) (a' := ?_) #[tt,tt,tt,ff,ff,tt,ff,ff,ff,ff,ff,ff,ff,ff,ff,ff,ff] rfl rfl (any_of HT_.out (by kernel_rfl)) (fun _ _ _ h => h) (Or.inl ⟨by rfl, ?_⟩) ?_ ?_
              rotate_left
              ·intro w'
               go_simp
               with_reducible rfl
              rotate_left
              ·simp only [Act.put, L1_, L2_, L3_, i64_w, i32_w]
               rfl
              refine pure_ (i := 6) (N := some 53) (v := ?_) (a' := ?_) #[tt,tt,tt,ff,ff,tt,tt,ff,ff,ff,ff,ff,ff,ff,ff,ff,ff] rfl rfl (any_of HT_.out (by kernel_rfl)) (fun _ _ _ h => h) (Or.inl ⟨by rfl, ?_⟩) ?_ ?_
              rotate_left
              ·intro w'
               go_simp
               with_reducible rfl
              rotate_left
              ·simp only [Act.put, L1_, L2_, L3_, i64_w, i32_w]
               rfl
              refine pure_ (i := 9) (N := some 56) (v := ?_) (a' := ?_) #[tt,tt,tt,ff,ff,tt,tt,ff,ff,tt,ff,ff,ff,ff,ff,ff,ff] rfl rfl (any_of HT_.out (by kernel_rfl)) (fun _ _ _ h => h) (Or.inl ⟨by rfl, ?_⟩) ?_ ?_
              rotate_left
              ·intro w'
               go_simp
               with_reducible rfl
              rotate_left
              ·simp only [Act.put, L1_, L2_, L3_, i64_w, i32_w]
               rfl
              refine pure_ (i := 10) (N := some 57) (v := ?_) (a' := ?_) #[tt,tt,tt,ff,ff,tt,tt,ff,ff,tt,tt,ff,ff,ff,ff,ff,ff] rfl rfl (any_of HT_.out (by kernel_rfl)) (fun _ _ _ h => h) (Or.inl ⟨by rfl, ?_⟩) ?_ ?_
              rotate_left
              ·intro w'
               go_simp
               with_reducible rfl
              rotate_left
              ·simp only [Act.put, L1_, L2_, L3_, i64_w, i32_w]
               rfl
              refine take_ (i := 3) (N := some 50) (v := ?_) (a' := ?_) #[tt,tt,tt,tt,ff,tt,tt,ff,ff,tt,tt,ff,ff,ff,ff,ff,ff] rfl rfl (take_ofW HT_.out HW_.out (by kernel_rfl)) (fun _ _ _ h => h) (Or.inl ⟨by rfl, ?_⟩) hHeld ?_ ?_
              rotate_left
              ·rintro w' ⟨s0, s1, s2⟩
               go_simp
               with_reducible rfl
              rotate_left
              ·simp only [Act.put, L1_, L2_, L3_, i64_w, i32_w]
               rfl
              refine pure_ (i := 4) (N := some 51) (v := ?_) (a' := ?_) #[tt,tt,tt,tt,tt,tt,tt,ff,ff,tt,tt,ff,ff,ff,ff,ff,ff] rfl rfl (any_of HT_.out (by kernel_rfl)) (fun _ _ _ h => h) (Or.inl ⟨by rfl, ?_⟩) ?_ ?_
              rotate_left
              ·intro w'
               go_simp
               with_reducible rfl
              rotate_left
              ·(try go_ints); (try simp (disch := omega) only [n3_]); simp only [Act.put, L1_, L2_, L3_, i64_w, i32_w]
               rfl
              refine take_ (i := 7) (N := some 54) (v := ?_) (a' := ?_) #[tt,tt,tt,tt,tt,tt,tt,tt,ff,tt,tt,ff,ff,ff,ff,ff,ff] rfl rfl (take_ofW HT_.out HW_.out (by kernel_rfl)) (fun _ _ _ h => h) (Or.inl ⟨by rfl, ?_⟩) hHeld ?_ ?_
              rotate_left
              ·rintro w' ⟨s0, s1, s2⟩
               go_simp
               with_reducible rfl
              rotate_left
              ·simp only [Act.put, L1_, L2_, L3_, i64_w, i32_w]
               rfl
              refine pure_ (i := 8) (N := some 55) (v := ?_) (a' := ?_) #[tt,tt,tt,tt,tt,tt,tt,tt,tt,tt,tt,ff,ff,ff,ff,ff,ff] rfl rfl (any_of HT_.out (by kernel_rfl)) (fun _ _ _ h => h) (Or.inl ⟨by rfl, ?_⟩) ?_ ?_
              rotate_left
              ·intro w'
               go_simp
               with_reducible rfl
              rotate_left
              ·(try go_ints); (try simp (disch := omega) only [n3_]); simp only [Act.put, L1_, L2_, L3_, i64_w, i32_w]
               rfl
              refine take_ (i := 11) (N := some 58) (v := ?_) (a' := ?_) #[tt,tt,tt,tt,tt,tt,tt,tt,tt,tt,tt,tt,ff,ff,ff,ff,ff] rfl rfl (take_ofW HT_.out HW_.out (by kernel_rfl)) (fun _ _ _ h => h) (Or.inl ⟨by rfl, ?_⟩) hHeld ?_ ?_
              rotate_left
              ·rintro w' ⟨s0, s1, s2⟩
               go_simp
               with_reducible rfl
              rotate_left
              ·simp only [Act.put, L1_, L2_, L3_, i64_w, i32_w]
               rfl
              refine pure_ (i := 12) (N := some 59) (v := ?_) (a' := ?_) #[tt,tt,tt,tt,tt,tt,tt,tt,tt,tt,tt,tt,tt,ff,ff,ff,ff] rfl rfl (any_of HT_.out (by kernel_rfl)) (fun _ _ _ h => h) (Or.inl ⟨by rfl, ?_⟩) ?_ ?_
              rotate_left
              ·intro w'
               go_simp
               with_reducible rfl
              rotate_left
              ·(try go_ints); (try simp (disch := omega) only [n3_]); simp only [Act.put, L1_, L2_, L3_, i64_w, i32_w]
               rfl
              refine pure_ (i := 13) (N := some 60) (v := ?_) (a' := ?_) #[tt,tt,tt,tt,tt,tt,tt,tt,tt,tt,tt,tt,tt,tt,ff,ff,ff] rfl rfl (any_of HT_.out (by kernel_rfl)) (fun _ _ _ h => h) (Or.inl ⟨by rfl, ?_⟩) ?_ ?_
              rotate_left
              ·intro w'
               go_simp
               with_reducible rfl
              rotate_left
              ·simp only [Act.put, L1_, L2_, L3_, i64_w, i32_w]
               rfl
              refine last_ (i := 14) (N := some 61) #[tt,tt,tt,tt,tt,tt,tt,tt,tt,tt,tt,tt,tt,tt,tt,ff,ff] rfl rfl (one_of HT_.out (by kernel_rfl)) (by decide) (fun K hK => ?_)
              refine value_ (w1 := ?_) (v := ?_) (by rfl) rfl ?_ ?_
              rotate_left 2
              ·go_simp
               constructor
               ·rfl
               ·rfl
              refine hK.out _ _ ?_
              clear hK K
              refine norm_ (a' := ?_) ?_ ?_
              rotate_left
              ·show Act.put _ (some 61) _ = _
               simp only [Act.put, L1_, L2_, L3_, i64_w, i32_w]
               rfl
              refine last_ (i := 15) (N := some 62) #[tt,tt,tt,tt,tt,tt,tt,tt,tt,tt,tt,tt,tt,tt,tt,tt,ff] rfl rfl (one_of HT_.out (by kernel_rfl)) (by decide) (fun K hK => ?_)
              refine Kd.R_append_step k92 (w0 := w) w.heap.size (by rfl) (.tmp 47) (.tmp 61) 83 92 (.agg #[(.float .f32 0), (.float .f32 0), (.float .f32 0)]) 12 rfl Try.underlying83 info92 rfl (by decide) (by omega) u6 x6_1 (⟨floatOfInt .f32 (rd t139 0), floatOfInt .f32 (rd t139 1), floatOfInt .f32 (rd t139 2)⟩ : S92) [.float .f32 (floatOfInt .f32 (rd t139 0)), .float .f32 (floatOfInt .f32 (rd t139 1)), .float .f32 (floatOfInt .f32 (rd t139 2))] (fun _ => True) (fun _ => False) rfl rfl ?aP (fun _ hk => hk.elim) ?aF ?aO ?aB ?aS ?aL ?_
              (case aP => exact k92_mkM _ _ _ (⟨floatOfInt .f32 (rd t139 0), floatOfInt .f32 (rd t139 1), floatOfInt .f32 (rd t139 2)⟩ : S92))
              (case aB => exact (by repeat (first | (with_reducible first | exact HB.out | apply below_alloc | apply pw_below_drewN | apply below_drew1) | exact HB.out)))
              (case aF => exact (fun _ _ => trivial))
              (case aO => exact (by (with_reducible repeat (first | apply Kd.R_alloc | apply Kd.R_drewN | apply Kd.R_drew)); exact HO_6.out))
              (case aS => exact (below_size (by repeat (first | (with_reducible first | exact HB.out | apply below_alloc | apply pw_below_drewN | apply below_drew1) | exact HB.out))))
              (case aL => have := LMc13.out; omega)
              intro v144 w31 ho hb hg hat
              rw [← Ny143.out] at ho
              have n0_ := Aside0.mk (Kd.S_over' (by (with_reducible repeat (first | apply Kd.S_alloc | apply Kd.S_drewN | apply Kd.S_drew)); exact HO_7.out) (Kd.R_typed (by (with_reducible repeat (first | apply Kd.R_alloc | apply Kd.R_drewN | apply Kd.R_drew)); exact HO_6.out)) (by decide) hg)
              have n1_ := Aside0.mk (Kd.R_over' (by (with_reducible repeat (first | apply Kd.R_alloc | apply Kd.R_drewN | apply Kd.R_drew)); exact HO_8.out) (Kd.R_typed (by (with_reducible repeat (first | apply Kd.R_alloc | apply Kd.R_drewN | apply Kd.R_drew)); exact HO_6.out)) (by decide) hg)
              have n2_ := Aside0.mk (Kd.R_over' (by (with_reducible repeat (first | apply Kd.R_alloc | apply Kd.R_drewN | apply Kd.R_drew)); exact HO138.out) (Kd.R_typed (by (with_reducible repeat (first | apply Kd.R_alloc | apply Kd.R_drewN | apply Kd.R_drew)); exact HO_6.out)) (by decide) hg)
              have n3_ := Aside0.mk (hb)
              have n4_ := Aside0.mk (ho)
              clear HO_7
              clear HO_8
              clear HO138
              clear HB
              clear HO_6
              have HO_7 := n0_
              have HO_8 := n1_
              have HO138 := n2_
              have HB := n3_
              have HO145 := n4_
              clear n0_ n1_ n2_ n3_ n4_
              clear ho hb hg hat
              refine hK.out _ _ ?_
              clear hK K
              refine norm_ (a' := ?_) ?_ ?_
              rotate_left
              ·show Act.put _ (some 62) _ = _
               simp only [Act.put, L1_, L2_, L3_, i64_w, i32_w]
               rfl
              refine pure_ (i := 16) (N := some 6) (v := ?_) (a' := ?_) #[tt,tt,tt,tt,tt,tt,tt,tt,tt,tt,tt,tt,tt,tt,tt,tt,tt] rfl rfl (any_of HT_.out (by kernel_rfl)) (fun _ _ _ h => h) (Or.inl ⟨by rfl, ?_⟩) ?_ ?_
              rotate_left
              ·intro w'
               go_simp
               with_reducible rfl
              rotate_left
              ·simp only [Act.put, L1_, L2_, L3_, i64_w, i32_w]
               rfl
              refine done_ (done_of HT_.out (by kernel_rfl)) ?_
              try go_wp2_with (first | ((with_reducible refine gate_builtin (b := .append) (xs := #[.tmp 73, .tmp 75]) rfl ?_); at_builtin; refine Kd.R_append (kflt .f32) (w0 := w) w.heap.size rfl (.tmp 73) (.tmp 75) 85 34 (.float .f32 0) 4 rfl Try.underlying85 info34 rfl (by decide) (by omega) u8 x8_1 0 [.float .f32 0] (fun _ => True) (fun _ => False) rfl rfl ?aP (fun _ hk => hk.elim) ?aF ?aO ?aB ?aS ?aL ?_; (case aP => exact rfl); (case aB => exact (by repeat (first | (with_reducible first | exact HB.out | apply below_alloc | apply pw_below_drewN | apply below_drew1) | exact HB.out))); (case aF => exact (fun _ _ => trivial)); (case aO => exact (by (with_reducible repeat (first | apply Kd.R_alloc | apply Kd.R_drewN | apply Kd.R_drew)); exact HO_8.out)); (case aS => exact (below_size (by repeat (first | (with_reducible first | exact HB.out | apply below_alloc | apply pw_below_drewN | apply below_drew1) | exact HB.out)))); (case aL => have := LMc24.out; omega); intro v151 w32 ho hb hg hat; rw [← Ny150.out] at ho; have n0_ := Aside0.mk (Kd.S_over' (by (with_reducible repeat (first | apply Kd.S_alloc | apply Kd.S_drewN | apply Kd.S_drew)); exact HO_7.out) (Kd.R_typed (by (with_reducible repeat (first | apply Kd.R_alloc | apply Kd.R_drewN | apply Kd.R_drew)); exact HO_8.out)) (by decide) hg); have n1_ := Aside0.mk (Kd.R_over' (by (with_reducible repeat (first | apply Kd.R_alloc | apply Kd.R_drewN | apply Kd.R_drew)); exact HO138.out) (Kd.R_typed (by (with_reducible repeat (first | apply Kd.R_alloc | apply Kd.R_drewN | apply Kd.R_drew)); exact HO_8.out)) (by decide) hg); have n2_ := Aside0.mk (Kd.R_over' (by (with_reducible repeat (first | apply Kd.R_alloc | apply Kd.R_drewN | apply Kd.R_drew)); exact HO145.out) (Kd.R_typed (by (with_reducible repeat (first | apply Kd.R_alloc | apply Kd.R_drewN | apply Kd.R_drew)); exact HO_8.out)) (by decide) hg); have n3_ := Aside0.mk (hb); have n4_ := Aside0.mk (ho); clear HO_7; clear HO138; clear HO145; clear HB; clear HO_8; have HO_7 := n0_; have HO138 := n1_; have HO145 := n2_; have HB := n3_; have HO152 := n4_; clear n0_ n1_ n2_ n3_ n4_; clear ho hb hg hat))
              go_roundg kj3
              case measure => have := HK1.out; have := HJ3.out; omega
              case rel => exact ⟨(y143), (y150), (wrap64 (x9_1 + 1)), (by first | rfl | (simp; done) | (simp [*]; done)), H', ⟨by have := HK1.out; have := HJ3.out; omega⟩, ⟨by (with_reducible repeat (first | apply Kd.R_alloc | apply Kd.R_drewN | apply Kd.R_drew)); exact HO145.out⟩, ⟨by (with_reducible repeat (first | apply Kd.R_alloc | apply Kd.R_drewN | apply Kd.R_drew)); exact HO152.out⟩, ⟨by repeat (first | (with_reducible first | exact HB.out | apply below_alloc | apply pw_below_drewN | apply below_drew1) | exact HB.out)⟩⟩
             ·rw [if_neg c24] at H
              exact absurd H (by simp)
           ·rw [if_neg c13] at H
            exact absurd H (by simp)
          ·rw [if_neg c12] at H
           exact absurd H (by simp)
         ·rw [if_neg c11] at H
          exact absurd H (by simp)
        ·rw [if_neg c10] at H
         exact absurd H (by simp)
       ·rw [if_neg c8] at H
        exact absurd H (by simp)
      ·rw [if_neg c7] at H
       exact absurd H (by simp)
     ·replace c6 := Bool.eq_false_iff.mpr c6
      subst c6
      have H1 : (if (l1.length : Int) = 0 then (some (x6_1, ([] : List (List (S48))), x8_1)) else (spec_SomeAxes.l1 kj3 l1 x6_1 ([] : List (List (S48))) x8_1 (x6_1.length : Int) 0)) = some (r1, r2, r3) := by rw [if_neg (show ¬ (false = true) by decide)] at H; exact H
      clear H
      have H := H1
      clear H1
      by_cases c33 : (l1.length : Int) = 0
      ·rw [if_pos c33] at H
       have c33b0 : ((l1.length : Int) == 0) = true := beq_iff_eq.mpr c33
       have c33b1 : ((l1.length : Int) != 0) = false := bne_eq_false_iff_eq.mpr c33
       clear c33
       simp only [Option.some.injEq, Prod.mk.injEq] at H
       obtain ⟨rfl, rfl, rfl⟩ := H
       go_wp2
       go_ret3
       exact ⟨_, _, _, by first | rfl | (simp [errW_none, errW_some] <;> rfl) | (simp [*, errW_none, errW_some] <;> rfl), by (with_reducible repeat (first | apply Kd.R_alloc | apply Kd.R_drewN | apply Kd.R_drew)); exact HO_6.out, by first | exact Kd.S_nil _ _ _ _ _ | exact Kd.N_nil _ _ _ _ _ | exact Kd.V_nil _ _ _ _ _ | exact Kd.Q_nil _ _ _ _ _ | exact Kd.R_nil _ _ _ _ _, by (with_reducible repeat (first | apply Kd.R_alloc | apply Kd.R_drewN | apply Kd.R_drew)); exact HO_8.out, by repeat (first | (with_reducible first | exact HB.out | apply below_alloc | apply pw_below_drewN | apply below_drew1) | exact HB.out), fun _ => rfl⟩
      ·rw [if_neg c33] at H
       have c33b0 : ((l1.length : Int) == 0) = false := beq_eq_false_iff_ne.mpr c33
       have c33b1 : ((l1.length : Int) != 0) = true := bne_iff_ne.mpr c33
       have c33b2 : ¬ (l1 = []) := fun h_ => c33 (by rw [h_]; rfl)
       have H' := Aside0.mk H
       clear H
       obtain ⟨Ao34, co34, eo34⟩ := Kd.R_slice HO_6.out
       subst eo34
       go_wp2
       go_loopg [7, 84] kj3 (fun kq v7 v84 w' => ∃ (x7_3 : List (List (S48))) (x84_3 : Int), v84 = .int .i64 x84_3 ∧ Aside0 (spec_SomeAxes.l1 kq l1 x6_1 x7_3 x8_1 (x6_1.length : Int) x84_3 = some (r1, r2, r3)) ∧ Aside0 (kq ≤ kj3) ∧ Aside0 (Kd.R k92 92 w' w.heap.size (fun _ => True) (.slice Ao34 x6_1.length co34) x6_1) ∧ Aside0 (Kd.S (Kd.slice 48 k48) 46 w' w.heap.size (fun _ => True) v7 x7_3) ∧ Aside0 (Kd.R (kflt .f32) 34 w' w.heap.size (fun _ => True) u8 x8_1) ∧ Aside0 (Below w.heap.size w w'))
       case atStart => exact ⟨(([] : List (List (S48)))), (0), (by first | rfl | (simp; done) | (simp [*]; done)), H', ⟨Nat.le_refl _⟩, ⟨by (with_reducible repeat (first | apply Kd.R_alloc | apply Kd.R_drewN | apply Kd.R_drew)); exact HO_6.out⟩, ⟨by (with_reducible repeat (first | apply Kd.S_alloc | apply Kd.S_drewN | apply Kd.S_drew)); exact HO_7.out⟩, ⟨by (with_reducible repeat (first | apply Kd.R_alloc | apply Kd.R_drewN | apply Kd.R_drew)); exact HO_8.out⟩, ⟨by repeat (first | (with_reducible first | exact HB.out | apply below_alloc | apply pw_below_drewN | apply below_drew1) | exact HB.out)⟩⟩
       case round =>
        clear H'
        try clear c1
        try clear p1
        try clear q1
        try clear hx1
        try clear qi1
        try clear c2
        try clear p2
        try clear c3
        try clear c5
        try clear c6
        try clear p6
        try clear c7
        try clear c8
        try clear c10
        try clear c11
        try clear c12
        try clear c13
        try clear p13
        try clear q13
        try clear hx13
        try clear c14
        try clear c14b0
        try clear p14
        try clear q14
        try clear hx14
        try clear qi14
        try clear c15
        try clear c24
        try clear c33
        try clear c33b1
        try clear c33b2
        try clear hx133_0
        try clear hx133_1
        try clear hx133_2
        try clear hx134_0
        try clear hx134_1
        try clear hx134_2
        try clear hx135_0
        try clear hx135_1
        try clear hx135_2
        try clear hx140_0
        try clear hx141_0
        try clear hx142_0
        try clear hx146_0
        try clear p133
        try clear p134
        try clear p135
        try clear p140
        try clear p141
        try clear p142
        try clear p146
        try clear q133
        try clear q134
        try clear q135
        try clear q140
        try clear q141
        try clear q142
        try clear q146
        obtain ⟨x7_3, x84_3, rfl, HA, HK3, HO_6, HO_7, HO_8, HB⟩ := hrel
        cases gk with
        | zero => exact absurd HA.out (by simp [spec_SomeAxes.l1])
        | succ k3 =>
         have H := HA.out
         clear HA
         simp only [spec_SomeAxes.l1] at H
         by_cases c35 : x84_3 < (x6_1.length : Int)
         ·rw [if_pos c35] at H
          have c35b0 : decide (x84_3 < (x6_1.length : Int)) = true := decide_eq_true c35
          clear c35
          have H' := Aside0.mk H
          clear H
          go_wp2
          go_loopg [13, 87] k3 (fun kq v13 v87 w' => ∃ (x13_4 : List (S48)) (x87_4 : Int), v87 = .int .i64 x87_4 ∧ Aside0 (spec_SomeAxes.l2 kq l1 x6_1 x7_3 x8_1 x84_3 x13_4 (x6_1.length : Int) x84_3 x87_4 = some (r1, r2, r3)) ∧ Aside0 (kq ≤ k3) ∧ Aside0 (Kd.R k92 92 w' w.heap.size (fun _ => True) (.slice Ao34 x6_1.length co34) x6_1) ∧ Aside0 (Kd.S (Kd.slice 48 k48) 46 w' w.heap.size (fun k_ => some k_ ≠ (v13 : Value).ownBlock) u7 x7_3) ∧ Aside0 (Kd.R (kflt .f32) 34 w' w.heap.size (fun _ => True) u8 x8_1) ∧ Aside0 (Kd.R k48 48 w' w.heap.size (fun _ => True) v13 x13_4) ∧ Aside0 (Below w.heap.size w w'))
          case atStart => exact ⟨(([] : List (S48))), (0), (by first | rfl | (simp; done) | (simp [*]; done)), H', ⟨Nat.le_refl _⟩, ⟨by (with_reducible repeat (first | apply Kd.R_alloc | apply Kd.R_drewN | apply Kd.R_drew)); exact HO_6.out⟩, ⟨by (with_reducible repeat (first | apply Kd.S_alloc | apply Kd.S_drewN | apply Kd.S_drew)); exact Kd.S_mono HO_7.out (fun _ hk => (by simp [Value.ownBlock]))⟩, ⟨by (with_reducible repeat (first | apply Kd.R_alloc | apply Kd.R_drewN | apply Kd.R_drew)); exact HO_8.out⟩, ⟨by first | exact Kd.R_nil _ _ _ _ _ | exact Kd.N_nil _ _ _ _ _ | exact Kd.V_nil _ _ _ _ _ | exact Kd.Q_nil _ _ _ _ _ | exact Kd.S_nil _ _ _ _ _⟩, ⟨by repeat (first | (with_reducible first | exact HB.out | apply below_alloc | apply pw_below_drewN | apply below_drew1) | exact HB.out)⟩⟩
          case round =>
           clear H'
           try clear c1
           try clear p1
           try clear q1
           try clear hx1
           try clear qi1
           try clear c2
           try clear p2
           try clear c3
           try clear c5
           try clear c6
           try clear p6
           try clear c7
           try clear c8
           try clear c10
           try clear c11
           try clear c12
           try clear c13
           try clear p13
           try clear q13
           try clear hx13
           try clear c14
           try clear c14b0
           try clear p14
           try clear q14
           try clear hx14
           try clear qi14
           try clear c15
           try clear c24
           try clear c33
           try clear c33b1
           try clear c33b2
           try clear c35
           try clear c35b0
           try clear hx133_0
           try clear hx133_1
           try clear hx133_2
           try clear hx134_0
           try clear hx134_1
           try clear hx134_2
           try clear hx135_0
           try clear hx135_1
           try clear hx135_2
           try clear hx140_0
           try clear hx141_0
           try clear hx142_0
           try clear hx146_0
           try clear p1
           try clear p13
           try clear p133
           try clear p134
           try clear p135
           try clear p14
           try clear p140
           try clear p141
           try clear p142
           try clear p146
           try clear p2
           try clear p6
           try clear q1
           try clear q13
           try clear q133
           try clear q134
           try clear q135
           try clear q14
           try clear q140
           try clear q141
           try clear q142
           try clear q146
           obtain ⟨x13_4, x87_4, rfl, HA, HK4, HO_6, HO_7, HO_8, HO_13, HB⟩ := hrel
           cases gk with
           | zero => exact absurd HA.out (by simp [spec_SomeAxes.l2])
           | succ k4 =>
            have H := HA.out
            clear HA
            simp only [spec_SomeAxes.l2] at H
            by_cases c36 : x87_4 < 3
            ·rw [if_pos c36] at H
             have c36b0 : decide (x87_4 < 3) = true := decide_eq_true c36
             clear c36
             by_cases c37 : x13_4.length < 8796093022208
             ·rw [if_pos c37] at H
              have LMc37 := Aside0.mk c37
              clear c37
              obtain ⟨y153, hy153⟩ : ∃ y_ : List (S48), y_ = (x13_4 ++ [(⟨wrap64 ((wrap64 (x87_4 - 1)) * 16384), wrap64 ((wrap64 (x87_4 - 1)) * 16384)⟩ : S48)]) := ⟨_, rfl⟩
              replace H : (spec_SomeAxes.l2 k4 l1 x6_1 x7_3 x8_1 x84_3 y153 (x6_1.length : Int) x84_3 (wrap64 (x87_4 + 1))) = some (r1, r2, r3) := by first | (rw [hy153]; with_reducible exact H) | (have H2_ := (Option.bind_some _ _).symm.trans H; rw [hy153]; with_reducible exact H2_) | (have H2_ := (Option.bind_some _ _).symm.trans H; with_reducible exact H2_) | with_reducible exact H | (rw [hy153]; exact H) | exact H
              have Ny153 := Aside0.mk hy153
              clear hy153
              have H' := Aside0.mk H
              clear H
              go_wp2_with (first | ((with_reducible refine gate_builtin (b := .append) (xs := #[.tmp 90, .tmp 98]) rfl ?_); at_builtin; refine Kd.R_append k48 (w0 := w) w.heap.size rfl (.tmp 90) (.tmp 98) 46 48 (.agg #[(.int .i64 0), (.int .i64 0)]) 16 rfl Try.underlying46 info48 rfl (by decide) (by omega) u13 x13_4 (⟨wrap64 ((wrap64 (x87_4 - 1)) * 16384), wrap64 ((wrap64 (x87_4 - 1)) * 16384)⟩ : S48) [.int .i64 (wrap64 ((wrap64 (x87_4 - 1)) * 16384)), .int .i64 (wrap64 ((wrap64 (x87_4 - 1)) * 16384))] (fun _ => True) (fun _ => False) rfl rfl ?aP (fun _ hk => hk.elim) ?aF ?aO ?aB ?aS ?aL ?_; (case aP => exact k48_mkM _ _ _ (⟨wrap64 ((wrap64 (x87_4 - 1)) * 16384), wrap64 ((wrap64 (x87_4 - 1)) * 16384)⟩ : S48)); (case aB => exact (by repeat (first | (with_reducible first | exact HB.out | apply below_alloc | apply pw_below_drewN | apply below_drew1) | exact HB.out))); (case aF => exact (fun _ _ => trivial)); (case aO => exact (by (with_reducible repeat (first | apply Kd.R_alloc | apply Kd.R_drewN | apply Kd.R_drew)); exact HO_13.out)); (case aS => exact (below_size (by repeat (first | (with_reducible first | exact HB.out | apply below_alloc | apply pw_below_drewN | apply below_drew1) | exact HB.out)))); (case aL => have := LMc37.out; omega); intro v154 w38 ho hb hg hat; rw [← Ny153.out] at ho; have n0_ := Aside0.mk (Kd.R_over' (by (with_reducible repeat (first | apply Kd.R_alloc | apply Kd.R_drewN | apply Kd.R_drew)); exact HO_6.out) (Kd.R_typed (by (with_reducible repeat (first | apply Kd.R_alloc | apply Kd.R_drewN | apply Kd.R_drew)); exact HO_13.out)) (by decide) hg); have n1_ := Aside0.mk (Kd.S_after (ok := (fun _ => True)) (by (with_reducible repeat (first | apply Kd.S_alloc | apply Kd.S_drewN | apply Kd.S_drew)); exact Kd.S_mono HO_7.out (fun _ hk => ⟨trivial, hk⟩)) hg hat); have n2_ := Aside0.mk (Kd.R_over' (by (with_reducible repeat (first | apply Kd.R_alloc | apply Kd.R_drewN | apply Kd.R_drew)); exact HO_8.out) (Kd.R_typed (by (with_reducible repeat (first | apply Kd.R_alloc | apply Kd.R_drewN | apply Kd.R_drew)); exact HO_13.out)) (by decide) hg); have n3_ := Aside0.mk (hb); have n4_ := Aside0.mk (ho); clear HO_6; clear HO_7; clear HO_8; clear HB; clear HO_13; have HO_6 := n0_; have HO_7 := n1_; have HO_8 := n2_; have HB := n3_; have HO155 := n4_; clear n0_ n1_ n2_ n3_ n4_; clear ho hb hg hat))
              go_roundg k4
              case measure => have := HK1.out; have := HJ3.out; have := HK3.out; have := HK4.out; omega
              case rel => exact ⟨(y153), (wrap64 (x87_4 + 1)), (by first | rfl | (simp; done) | (simp [*]; done)), H', ⟨by have := HK1.out; have := HJ3.out; have := HK3.out; have := HK4.out; omega⟩, ⟨by (with_reducible repeat (first | apply Kd.R_alloc | apply Kd.R_drewN | apply Kd.R_drew)); exact HO_6.out⟩, ⟨by (with_reducible repeat (first | apply Kd.S_alloc | apply Kd.S_drewN | apply Kd.S_drew)); exact Kd.S_mono HO_7.out (fun _ hk => hk.2)⟩, ⟨by (with_reducible repeat (first | apply Kd.R_alloc | apply Kd.R_drewN | apply Kd.R_drew)); exact HO_8.out⟩, ⟨by (with_reducible repeat (first | apply Kd.R_alloc | apply Kd.R_drewN | apply Kd.R_drew)); exact HO155.out⟩, ⟨by repeat (first | (with_reducible first | exact HB.out | apply below_alloc | apply pw_below_drewN | apply below_drew1) | exact HB.out)⟩⟩
             ·rw [if_neg c37] at H
              exact absurd H (by simp)
            ·rw [if_neg c36] at H
             have c36b0 : decide (x87_4 < 3) = false := decide_eq_false c36
             clear c36
             by_cases c39 : x84_3 < (l1.length : Int)
             ·rw [if_pos c39] at H
              have c39b0 : decide (x84_3 < (l1.length : Int)) = true := decide_eq_true c39
              clear c39
              have H' := Aside0.mk H
              clear H
              go_wp2
              go_loopg [13, 15] k4 (fun kq v13 v15 w' => ∃ (x13_5 : List (S48)) (x15_5 : Int), v15 = .int .i64 x15_5 ∧ Aside0 (spec_SomeAxes.l3 kq l1 x6_1 x7_3 x8_1 x84_3 x13_5 x15_5 (x6_1.length : Int) x84_3 = some (r1, r2, r3)) ∧ Aside0 (kq ≤ k4) ∧ Aside0 (Kd.R k92 92 w' w.heap.size (fun _ => True) (.slice Ao34 x6_1.length co34) x6_1) ∧ Aside0 (Kd.S (Kd.slice 48 k48) 46 w' w.heap.size (fun k_ => some k_ ≠ (v13 : Value).ownBlock) u7 x7_3) ∧ Aside0 (Kd.R (kflt .f32) 34 w' w.heap.size (fun _ => True) u8 x8_1) ∧ Aside0 (Kd.R k48 48 w' w.heap.size (fun _ => True) v13 x13_5) ∧ Aside0 (Below w.heap.size w w'))
              case atStart => exact ⟨(x13_4), (0), (by first | rfl | (simp; done) | (simp [*]; done)), H', ⟨Nat.le_refl _⟩, ⟨by (with_reducible repeat (first | apply Kd.R_alloc | apply Kd.R_drewN | apply Kd.R_drew)); exact HO_6.out⟩, ⟨by (with_reducible repeat (first | apply Kd.S_alloc | apply Kd.S_drewN | apply Kd.S_drew)); exact HO_7.out⟩, ⟨by (with_reducible repeat (first | apply Kd.R_alloc | apply Kd.R_drewN | apply Kd.R_drew)); exact HO_8.out⟩, ⟨by (with_reducible repeat (first | apply Kd.R_alloc | apply Kd.R_drewN | apply Kd.R_drew)); exact HO_13.out⟩, ⟨by repeat (first | (with_reducible first | exact HB.out | apply below_alloc | apply pw_below_drewN | apply below_drew1) | exact HB.out)⟩⟩
              case round =>
               clear H'
               try clear c1
               try clear p1
               try clear q1
               try clear hx1
               try clear qi1
               try clear c2
               try clear p2
               try clear c3
               try clear c5
               try clear c6
               try clear p6
               try clear c7
               try clear c8
               try clear c10
               try clear c11
               try clear c12
               try clear c13
               try clear p13
               try clear q13
               try clear hx13
               try clear c14
               try clear c14b0
               try clear p14
               try clear q14
               try clear hx14
               try clear qi14
               try clear c15
               try clear c24
               try clear c33
               try clear c33b1
               try clear c33b2
               try clear c35
               try clear c35b0
               try clear c36
               try clear c36b0
               try clear c37
               try clear c39
               try clear c39b0
               try clear hx133_0
               try clear hx133_1
               try clear hx133_2
               try clear hx134_0
               try clear hx134_1
               try clear hx134_2
               try clear hx135_0
               try clear hx135_1
               try clear hx135_2
               try clear hx140_0
               try clear hx141_0
               try clear hx142_0
               try clear hx146_0
               try clear p1
               try clear p13
               try clear p133
               try clear p134
               try clear p135
               try clear p14
               try clear p140
               try clear p141
               try clear p142
               try clear p146
               try clear p2
               try clear p6
               try clear q1
               try clear q13
               try clear q133
               try clear q134
               try clear q135
               try clear q14
               try clear q140
               try clear q141
               try clear q142
               try clear q146
               obtain ⟨x13_5, x15_5, rfl, HA, HK5, HO_6, HO_7, HO_8, HO_13, HB⟩ := hrel
               cases gk with
               | zero => exact absurd HA.out (by simp [spec_SomeAxes.l3])
               | succ k5 =>
                have H := HA.out
                clear HA
                simp only [spec_SomeAxes.l3] at H
                have HC40 := Aside0.mk H
                clear H
                go_upto_region 24 with (fail)
                go_cut [115] (fun v115 wc => ∃ (kq : Nat) (x115_39 : Bool), v115 = .bool x115_39 ∧ Aside0 (spec_SomeAxes.j5 kq l1 x6_1 x7_3 x8_1 x84_3 x13_5 x15_5 (x6_1.length : Int) x84_3 x115_39 = some (r1, r2, r3)) ∧ Aside0 (kq ≤ k5) ∧ Aside0 (Kd.R k92 92 wc w.heap.size (fun _ => True) (.slice Ao34 x6_1.length co34) x6_1) ∧ Aside0 (Kd.S (Kd.slice 48 k48) 46 wc w.heap.size (fun k_ => some k_ ≠ (u13 : Value).ownBlock) u7 x7_3) ∧ Aside0 (Kd.R (kflt .f32) 34 wc w.heap.size (fun _ => True) u8 x8_1) ∧ Aside0 (Kd.R k48 48 wc w.heap.size (fun _ => True) u13 x13_5) ∧ Aside0 (Below w.heap.size w wc))
                case first =>
                 have H := HC40.out
                 clear HC40
                 by_cases c41 : 0 ≤ x84_3
                 ·rw [if_pos c41] at H
                  have c41b0 : decide (0 ≤ x84_3) = true := decide_eq_true c41
                  clear c41
                  (first | rw [c41b0] | (simp only [i64_w, i32_w]; rw [c41b0]) | skip)
                  by_cases c42 : x84_3 < (l1.length : Int)
                  ·rw [if_pos c42] at H
                   have c42b0 : decide (x84_3 < (l1.length : Int)) = true := decide_eq_true c42
                   clear c42
                   by_cases c43 : x15_5 < ((rd_L2 l1 x84_3).length : Int)
                   ·rw [if_pos c43] at H
                    have c43b0 : decide (x15_5 < ((rd_L2 l1 x84_3).length : Int)) = true := decide_eq_true c43
                    clear c43
                    have H' := Aside0.mk H
                    clear H
                    have p156 : 0 ≤ (x84_3 : Int) := of_decide_eq_true (by first | (with_reducible assumption) | assumption)
                    have q156 : x84_3 < (l1.length : Int) := of_decide_eq_true (by first | (with_reducible assumption) | assumption)
                    obtain ⟨ad156, A156_0, c156_0, e156, hx156_0, hl156_0, hi156_0⟩ := at_L2 HR1.out x84_3 p156 q156
                    cases e156
                    replace hx156_0 := (HB.out.cell (World.block_lt_of_cell? w _ hx156_0)).trans hx156_0
                    have HR156_0 := Aside0.mk hi156_0
                    have HC156_0 := Aside0.mk hl156_0
                    clear hi156_0 hl156_0
                    replace p156 := eq_true p156
                    replace q156 := eq_true q156
                    go_wp2
                    go_meet
                    case rel => exact ⟨_, (decide (x15_5 < 5)), (by first | rfl | (simp; done) | (simp [*]; done)), H', ⟨by have := HK1.out; have := HJ3.out; have := HK3.out; have := HK4.out; have := HK5.out; first | omega | exact Nat.le_refl _⟩, ⟨by (with_reducible repeat (first | apply Kd.R_alloc | apply Kd.R_drewN | apply Kd.R_drew)); exact HO_6.out⟩, ⟨by (with_reducible repeat (first | apply Kd.S_alloc | apply Kd.S_drewN | apply Kd.S_drew)); exact HO_7.out⟩, ⟨by (with_reducible repeat (first | apply Kd.R_alloc | apply Kd.R_drewN | apply Kd.R_drew)); exact HO_8.out⟩, ⟨by (with_reducible repeat (first | apply Kd.R_alloc | apply Kd.R_drewN | apply Kd.R_drew)); exact HO_13.out⟩, ⟨by repeat (first | (with_reducible first | exact HB.out | apply below_alloc | apply pw_below_drewN | apply below_drew1) | exact HB.out)⟩⟩
                   ·rw [if_neg c43] at H
                    have c43b0 : decide (x15_5 < ((rd_L2 l1 x84_3).length : Int)) = false := decide_eq_false c43
                    clear c43
                    have H' := Aside0.mk H
                    clear H
                    have p156 : 0 ≤ (x84_3 : Int) := of_decide_eq_true (by first | (with_reducible assumption) | assumption)
                    have q156 : x84_3 < (l1.length : Int) := of_decide_eq_true (by first | (with_reducible assumption) | assumption)
                    obtain ⟨ad156, A156_0, c156_0, e156, hx156_0, hl156_0, hi156_0⟩ := at_L2 HR1.out x84_3 p156 q156
                    cases e156
                    replace hx156_0 := (HB.out.cell (World.block_lt_of_cell? w _ hx156_0)).trans hx156_0
                    have HR156_0 := Aside0.mk hi156_0
                    have HC156_0 := Aside0.mk hl156_0
                    clear hi156_0 hl156_0
                    replace p156 := eq_true p156
                    replace q156 := eq_true q156
                    go_wp2
                    go_meet
                    case rel => exact ⟨_, (false), (by first | rfl | (simp; done) | (simp [*]; done)), H', ⟨by have := HK1.out; have := HJ3.out; have := HK3.out; have := HK4.out; have := HK5.out; first | omega | exact Nat.le_refl _⟩, ⟨by (with_reducible repeat (first | apply Kd.R_alloc | apply Kd.R_drewN | apply Kd.R_drew)); exact HO_6.out⟩, ⟨by (with_reducible repeat (first | apply Kd.S_alloc | apply Kd.S_drewN | apply Kd.S_drew)); exact HO_7.out⟩, ⟨by (with_reducible repeat (first | apply Kd.R_alloc | apply Kd.R_drewN | apply Kd.R_drew)); exact HO_8.out⟩, ⟨by (with_reducible repeat (first | apply Kd.R_alloc | apply Kd.R_drewN | apply Kd.R_drew)); exact HO_13.out⟩, ⟨by repeat (first | (with_reducible first | exact HB.out | apply below_alloc | apply pw_below_drewN | apply below_drew1) | exact HB.out)⟩⟩
                  ·rw [if_neg c42] at H
                   exact absurd H (by simp)
                 ·rw [if_neg c41] at H
                  exact absurd H (by simp)
                case rest =>
                 clear HC40
                 try clear c1
                 try clear p1
                 try clear q1
                 try clear hx1
                 try clear qi1
                 try clear c2
                 try clear p2
                 try clear c3
                 try clear c4
                 try clear c5
                 try clear c6
                 try clear p6
                 try clear c7
                 try clear c8
                 try clear c10
                 try clear c11
                 try clear c12
                 try clear c13
                 try clear p13
                 try clear q13
                 try clear hx13
                 try clear c14
                 try clear c14b0
                 try clear p14
                 try clear q14
                 try clear hx14
                 try clear qi14
                 try clear c15
                 try clear p15
                 try clear q15
                 try clear hx15
                 try clear c24
                 try clear c33
                 try clear c33b1
                 try clear c33b2
                 try clear c35
                 try clear c35b0
                 try clear c36
                 try clear c36b0
                 try clear c37
                 try clear c39
                 try clear c39b0
                 try clear c41
                 try clear c41b0
                 try clear c42
                 try clear c42b0
                 try clear c43
                 try clear c43b0
                 try clear hx133_0
                 try clear hx133_1
                 try clear hx133_2
                 try clear hx134_0
                 try clear hx134_1
                 try clear hx134_2
                 try clear hx135_0
                 try clear hx135_1
                 try clear hx135_2
                 try clear hx140_0
                 try clear hx141_0
                 try clear hx142_0
                 try clear hx146_0
                 try clear hx156_0
                 try clear p1
                 try clear p13
                 try clear p133
                 try clear p134
                 try clear p135
                 try clear p14
                 try clear p140
                 try clear p141
                 try clear p142
                 try clear p146
                 try clear p156
                 try clear p2
                 try clear p6
                 try clear q1
                 try clear q13
                 try clear q133
                 try clear q134
                 try clear q135
                 try clear q14
                 try clear q140
                 try clear q141
                 try clear q142
                 try clear q146
                 try clear q156
                 obtain ⟨kq, x115_39, rfl, HA, HJ39, HO_6, HO_7, HO_8, HO_13, HB⟩ := hcut
                 cases kq with
                 | zero => exact absurd HA.out (by simp [spec_SomeAxes.j5])
                 | succ kj39 =>
                  have H := HA.out
                  clear HA
                  simp only [spec_SomeAxes.j5] at H
                  by_cases c44 : x115_39 = true
                  ·subst c44
                   have H1 : (if 0 ≤ x84_3 then (if x84_3 < (l1.length : Int) then (if 0 ≤ x15_5 then (if x15_5 < ((rd_L2 l1 x84_3).length : Int) then ((spec_Coord.f ((rd_T164 (rd_L2 l1 x84_3) x15_5).f0)).bind fun t162 => ((spec_Coord.f ((rd_T164 (rd_L2 l1 x84_3) x15_5).f1)).bind fun t165 => ((spec_risingMap.f kj39 x13_5 t162 t165).bind fun t166 => (spec_SomeAxes.l3 kj39 l1 x6_1 x7_3 x8_1 x84_3 t166 (wrap64 (x15_5 + 1)) (x6_1.length : Int) x84_3)))) else (none)) else (none)) else (none)) else (none)) = some (r1, r2, r3) := by rw [if_pos rfl] at H; exact H
                   clear H
                   have H := H1
                   clear H1
                   by_cases c45 : 0 ≤ x84_3
                   ·rw [if_pos c45] at H
                    have c45b0 : decide (0 ≤ x84_3) = true := decide_eq_true c45
                    clear c45
                    by_cases c46 : x84_3 < (l1.length : Int)
                    ·rw [if_pos c46] at H
                     have c46b0 : decide (x84_3 < (l1.length : Int)) = true := decide_eq_true c46
                     clear c46
                     by_cases c47 : 0 ≤ x15_5
                     ·rw [if_pos c47] at H
                      have c47b0 : decide (0 ≤ x15_5) = true := decide_eq_true c47
                      clear c47
                      by_cases c48 : x15_5 < ((rd_L2 l1 x84_3).length : Int)
                      ·rw [if_pos c48] at H
                       have c48b0 : decide (x15_5 < ((rd_L2 l1 x84_3).length : Int)) = true := decide_eq_true c48
                       clear c48
                       replace H := Option.bind_eq_some_iff.mp H
                       obtain ⟨t162, A490, H⟩ := H
                       replace H : ((spec_Coord.f ((rd_T164 (rd_L2 l1 x84_3) x15_5).f1)).bind fun t165 => ((spec_risingMap.f kj39 x13_5 t162 t165).bind fun t166 => (spec_SomeAxes.l3 kj39 l1 x6_1 x7_3 x8_1 x84_3 t166 (wrap64 (x15_5 + 1)) (x6_1.length : Int) x84_3))) = some (r1, r2, r3) := H
                       have A49 := Aside0.mk A490
                       clear A490
                       replace H := Option.bind_eq_some_iff.mp H
                       obtain ⟨t165, A500, H⟩ := H
                       replace H : ((spec_risingMap.f kj39 x13_5 t162 t165).bind fun t166 => (spec_SomeAxes.l3 kj39 l1 x6_1 x7_3 x8_1 x84_3 t166 (wrap64 (x15_5 + 1)) (x6_1.length : Int) x84_3)) = some (r1, r2, r3) := H
                       have A50 := Aside0.mk A500
                       clear A500
                       replace H := Option.bind_eq_some_iff.mp H
                       obtain ⟨t166, A510, H⟩ := H
                       replace H : (spec_SomeAxes.l3 kj39 l1 x6_1 x7_3 x8_1 x84_3 t166 (wrap64 (x15_5 + 1)) (x6_1.length : Int) x84_3) = some (r1, r2, r3) := H
                       have A51 := Aside0.mk A510
                       clear A510
                       have H' := Aside0.mk H
                       clear H
                       try go_wp2
                       have n0_ := Aside0.mk (Kd.R_drew HO_6.out)
                       have n1_ := Aside0.mk (Kd.S_drew HO_7.out)
                       have n2_ := Aside0.mk (Kd.R_drew HO_8.out)
                       have n3_ := Aside0.mk (Kd.R_drew HO_13.out)
                       have n4_ := Aside0.mk (below_drew1 HB.out)
                       clear HO_6
                       clear HO_7
                       clear HO_8
                       clear HO_13
                       clear HB
                       have HO_6 := n0_
                       have HO_7 := n1_
                       have HO_8 := n2_
                       have HO_13 := n3_
                       have HB := n4_
                       clear n0_ n1_ n2_ n3_ n4_
                       have p160 : 0 ≤ (x84_3 : Int) := of_decide_eq_true (by first | (with_reducible assumption) | assumption)
                       have q160 : x84_3 < (l1.length : Int) := of_decide_eq_true (by first | (with_reducible assumption) | assumption)
                       obtain ⟨ad160, A160_0, c160_0, e160, hx160_0, hl160_0, hi160_0⟩ := at_L2 HR1.out x84_3 p160 q160
                       have hw160_0 := hx160_0
                       cases e160
                       replace hx160_0 := (HB.out.cell (World.block_lt_of_cell? w _ hx160_0)).trans hx160_0
                       have HR160_0 := Aside0.mk hi160_0
                       have HC160_0 := Aside0.mk hl160_0
                       clear hi160_0 hl160_0
                       replace p160 := eq_true p160
                       replace q160 := eq_true q160
                       have p161 : 0 ≤ (x15_5 : Int) := of_decide_eq_true (by first | (with_reducible assumption) | assumption)
                       have q161 : x15_5 < ((rd_L2 l1 x84_3).length : Int) := of_decide_eq_true (by first | (with_reducible assumption) | assumption)
                       obtain ⟨ad161, e161, hx161_0, hx161_1⟩ := at_T164 HR160_0.out x15_5 p161 q161
                       have hw161_1 := hx161_1
                       have hw161_0 := hx161_0
                       cases e161
                       replace hx161_0 := (HB.out.cell (World.block_lt_of_cell? w _ hx161_0)).trans hx161_0
                       replace hx161_1 := (HB.out.cell (World.block_lt_of_cell? w _ hx161_1)).trans hx161_1
                       replace p161 := eq_true p161
                       replace q161 := eq_true q161
                       have p163 : 0 ≤ (x84_3 : Int) := of_decide_eq_true (by first | (with_reducible assumption) | assumption)
                       have q163 : x84_3 < (l1.length : Int) := of_decide_eq_true (by first | (with_reducible assumption) | assumption)
                       obtain ⟨ad163, A163_0, c163_0, e163, hx163_0, hl163_0, hi163_0⟩ := at_L2 HR1.out x84_3 p163 q163
                       have hw163_0 := hx163_0
                       obtain rfl : ad160 = ad163 := (by injection e163)
                       replace hx163_0 := (HB.out.cell (World.block_lt_of_cell? w _ hx163_0)).trans hx163_0
                       have HR163_0 := Aside0.mk hi163_0
                       have HC163_0 := Aside0.mk hl163_0
                       clear hi163_0 hl163_0
                       replace p163 := eq_true p163
                       replace q163 := eq_true q163
                       have ea_ := Option.some.inj (hx160_0.symm.trans hx163_0)
                       injection ea_ with ea_ en_ ec_
                       subst ea_
                       subst ec_
                       clear en_
                       have p164 : 0 ≤ (x15_5 : Int) := of_decide_eq_true (by first | (with_reducible assumption) | assumption)
                       have q164 : x15_5 < ((rd_L2 l1 x84_3).length : Int) := of_decide_eq_true (by first | (with_reducible assumption) | assumption)
                       obtain ⟨ad164, e164, hx164_0, hx164_1⟩ := at_T164 HR163_0.out x15_5 p164 q164
                       have hw164_1 := hx164_1
                       have hw164_0 := hx164_0
                       cases e164
                       replace hx164_0 := (HB.out.cell (World.block_lt_of_cell? w _ hx164_0)).trans hx164_0
                       replace hx164_1 := (HB.out.cell (World.block_lt_of_cell? w _ hx164_1)).trans hx164_1
                       replace p164 := eq_true p164
                       replace q164 := eq_true q164
                       refine start_ (n := 21) (S := fun w' => w'.cell? (ad160.add (x84_3).toNat) = some (.slice (some ad161) (rd_L2 l1 x84_3).length c160_0) ∧ w'.cell? (ad161.add ((x15_5).toNat * 2)) = some (.int .i16 ((rd_T164 (rd_L2 l1 x84_3) x15_5).f0)) ∧ w'.cell? ⟨(ad161.add ((x15_5).toNat * 2)).block, (ad161.add ((x15_5).toNat * 2)).off + 1, none⟩ = some (.int .i16 ((rd_T164 (rd_L2 l1 x84_3) x15_5).f1)) ∧ w'.cell? (ad160.add (x84_3).toNat) = some (.slice (some ad161) (rd_L2 l1 x84_3).length c160_0) ∧ w'.cell? (ad161.add ((x15_5).toNat * 2)) = some (.int .i16 ((rd_T164 (rd_L2 l1 x84_3) x15_5).f0)) ∧ w'.cell? ⟨(ad161.add ((x15_5).toNat * 2)).block, (ad161.add ((x15_5).toNat * 2)).off + 1, none⟩ = some (.int .i16 ((rd_T164 (rd_L2 l1 x84_3) x15_5).f1))) (ds := []) #[ff,ff,ff,ff,ff,ff,ff,ff,ff,ff,ff,ff,ff,ff,ff,ff,ff,ff,ff,ff,ff] (by kernel_rfl) rfl rfl ⟨((HB.out.cell (World.block_lt_of_cell? w _ hw160_0)).trans hw160_0), ((HB.out.cell (World.block_lt_of_cell? w _ hw161_0)).trans hw161_0), ((HB.out.cell (World.block_lt_of_cell? w _ hw161_1)).trans hw161_1), ((HB.out.cell (World.block_lt_of_cell? w _ hw163_0)).trans hw163_0), ((HB.out.cell (World.block_lt_of_cell? w _ hw164_0)).trans hw164_0), ((HB.out.cell (World.block_lt_of_cell? w _ hw164_1)).trans hw164_1)⟩ (fun hHeld => ?_); refine with_tabW spec_SomeAxes.tab26 spec_SomeAxes.bits26 (fun HT_ HW_ => ?_)
                       generalize wc.drew = w52 at HO_6 HO_7 HO_8 HO_13 HB HR160_0 HR163_0 hx160_0 hx161_0 hx161_1 hx163_0 hx164_0 hx164_1 hHeld ⊢
                       refine pure_ (i := 0) (N := some 118) (v := ?_) (a' := ?_) #[tt,ff,ff,ff,ff,ff,ff,ff,ff,ff,ff,ff,ff,ff,ff,ff,ff,ff,ff,ff,ff] rfl rfl (any_of HT_.out (by kernel_rfl)) (fun _ _ _ h => h) (Or.inl ⟨by rfl, ?_⟩) ?_ ?_
                       rotate_left
                       ·intro w'
                        go_simp
                        with_reducible rfl
                       rotate_left
                       ·simp only [Act.put, L1_, L2_, L3_, i64_w, i32_w]
                        rfl
                       refine pure_ (i := 1) (N := some 119) (v := ?_) (a' := ?_) #[tt,tt,ff,ff,ff,ff,ff,ff,ff,ff,ff,ff,ff,ff,ff,ff,ff,ff,ff,ff,ff] rfl rfl (any_of HT_.out (by kernel_rfl)) (fun _ _ _ h => h) (Or.inl ⟨by rfl, ?_⟩) ?_ ?_
                       rotate_left
                       ·intro w'
                        go_simp
                        with_reducible rfl
                       rotate_left
                       ·simp only [Act.put, L1_, L2_, L3_, i64_w, i32_w]
                        rfl
                       refine pure_ (i := 2) (N := some 120) (v := ?_) (a' := ?_) #[tt,tt,tt,ff,ff,ff,ff,ff,ff,ff,ff,ff,ff,ff,ff,ff,ff,ff,ff,ff,ff] rfl rfl (any_of HT_.out (by kernel_rfl)) (fun _ _ _ h => h) (Or.inl ⟨by rfl, ?_⟩) ?_ ?_
                       rotate_left
                       ·intro w'
                        go_simp
                        with_reducible rfl
                       rotate_left
                       ·simp only [Act.put, L1_, L2_, L3_, i64_w, i32_w]
                        rfl
                       refine pure_ (i := 3) (N := some 121) (v := ?_) (a' := ?_) #[tt,tt,tt,tt,ff,ff,ff,ff,ff,ff,ff,ff,ff,ff,ff,ff,ff,ff,ff,ff,ff] rfl rfl (any_of HT_.out (by kernel_rfl)) (fun _ _ _ h => h) (Or.inl ⟨by rfl, ?_⟩) ?_ ?_
                       rotate_left
                       ·intro w'
                        go_simp
                        with_reducible rfl
                       rotate_left
                       ·simp only [Act.put, L1_, L2_, L3_, i64_w, i32_w]
                        rfl
                       refine pure_ (i := 5) (N := some 123) (v := ?_) (a' := ?_) #[tt,tt,tt,tt,ff,tt,ff,ff,ff,ff,ff,ff,ff,ff,ff,ff,ff,ff,ff,ff,ff] rfl rfl (any_of HT_.out (by kernel_rfl)) (fun _ _ _ h => h) (Or.inl ⟨by rfl, ?_⟩) ?_ ?_
                       rotate_left
                       ·intro w'
                        go_simp
                        with_reducible rfl
                       rotate_left
                       ·simp only [Act.put, L1_, L2_, L3_, i64_w, i32_w]
                        rfl
                       refine pure_ (i := 10) (N := some 128) (v := ?_) (a' := ?_) #[tt,tt,tt,tt,ff,tt,ff,ff,ff,ff,tt,ff,ff,ff,ff,ff,ff,ff,ff,ff,ff] rfl rfl (any_of HT_.out (by kernel_rfl)) (fun _ _ _ h => h) (Or.inl ⟨by rfl, ?_⟩) ?_ ?_
                       rotate_left
                       ·intro w'
                        go_simp
                        with_reducible rfl
                       rotate_left
                       ·simp only [Act.put, L1_, L2_, L3_, i64_w, i32_w]
                        rfl
                       refine pure_ (i := 11) (N := some 129) (v := ?_) (a' := ?_) #[tt,tt,tt,tt,ff,tt,ff,ff,ff,ff,tt,tt,ff,ff,ff,ff,ff,ff,ff,ff,ff] rfl rfl (any_of HT_.out (by kernel_rfl)) (fun _ _ _ h => h) (Or.inl ⟨by rfl, ?_⟩) ?_ ?_
                       rotate_left
                       ·intro w'
                        go_simp
                        with_reducible rfl
                       rotate_left
                       ·simp only [Act.put, L1_, L2_, L3_, i64_w, i32_w]
                        rfl
                       refine pure_ (i := 12) (N := some 130) (v := ?_) (a' := ?_) #[tt,tt,tt,tt,ff,tt,ff,ff,ff,ff,tt,tt,tt,ff,ff,ff,ff,ff,ff,ff,ff] rfl rfl (any_of HT_.out (by kernel_rfl)) (fun _ _ _ h => h) (Or.inl ⟨by rfl, ?_⟩) ?_ ?_
                       rotate_left
                       ·intro w'
                        go_simp
                        with_reducible rfl
                       rotate_left
                       ·simp only [Act.put, L1_, L2_, L3_, i64_w, i32_w]
                        rfl
                       refine pure_ (i := 14) (N := some 132) (v := ?_) (a' := ?_) #[tt,tt,tt,tt,ff,tt,ff,ff,ff,ff,tt,tt,tt,ff,tt,ff,ff,ff,ff,ff,ff] rfl rfl (any_of HT_.out (by kernel_rfl)) (fun _ _ _ h => h) (Or.inl ⟨by rfl, ?_⟩) ?_ ?_
                       rotate_left
                       ·intro w'
                        go_simp
                        with_reducible rfl
                       rotate_left
                       ·simp only [Act.put, L1_, L2_, L3_, i64_w, i32_w]
                        rfl
                       refine take_ (i := 4) (N := some 122) (v := ?_) (a' := ?_) #[tt,tt,tt,tt,tt,tt,ff,ff,ff,ff,tt,tt,tt,ff,tt,ff,ff,ff,ff,ff,ff] rfl rfl (take_ofW HT_.out HW_.out (by kernel_rfl)) (fun _ _ _ h => h) (Or.inl ⟨by rfl, ?_⟩) hHeld ?_ ?_
                       rotate_left
                       ·rintro w' ⟨s0, s1, s2, s3, s4, s5⟩
                        go_simp
                        with_reducible rfl
                       rotate_left
                       ·simp only [Act.put, L1_, L2_, L3_, i64_w, i32_w]
                        rfl
                       refine pure_ (i := 6) (N := some 124) (v := ?_) (a' := ?_) #[tt,tt,tt,tt,tt,tt,tt,ff,ff,ff,tt,tt,tt,ff,tt,ff,ff,ff,ff,ff,ff] rfl rfl (any_of HT_.out (by kernel_rfl)) (fun _ _ _ h => h) (Or.inl ⟨by rfl, ?_⟩) ?_ ?_
                       rotate_left
                       ·intro w'
                        go_simp
                        with_reducible rfl
                       rotate_left
                       ·simp only [Act.put, L1_, L2_, L3_, i64_w, i32_w]
                        rfl
                       refine pure_ (i := 7) (N := some 125) (v := ?_) (a' := ?_) #[tt,tt,tt,tt,tt,tt,tt,tt,ff,ff,tt,tt,tt,ff,tt,ff,ff,ff,ff,ff,ff] rfl rfl (any_of HT_.out (by kernel_rfl)) (fun _ _ _ h => h) (Or.inl ⟨by rfl, ?_⟩) ?_ ?_
                       rotate_left
                       ·intro w'
                        go_simp
                        with_reducible rfl
                       rotate_left
                       ·simp only [Act.put, L1_, L2_, L3_, i64_w, i32_w]
                        rfl
                       refine take_ (i := 8) (N := some 126) (v := ?_) (a' := ?_) #[tt,tt,tt,tt,tt,tt,tt,tt,tt,ff,tt,tt,tt,ff,tt,ff,ff,ff,ff,ff,ff] rfl rfl (take_ofW HT_.out HW_.out (by kernel_rfl)) (fun _ _ _ h => h) (Or.inl ⟨by rfl, ?_⟩) hHeld ?_ ?_
                       rotate_left
                       ·rintro w' ⟨s0, s1, s2, s3, s4, s5⟩
                        go_simp
                        with_reducible rfl
                       rotate_left
                       ·simp only [Act.put, L1_, L2_, L3_, i64_w, i32_w]
                        rfl
                       refine take_ (i := 13) (N := some 131) (v := ?_) (a' := ?_) #[tt,tt,tt,tt,tt,tt,tt,tt,tt,ff,tt,tt,tt,tt,tt,ff,ff,ff,ff,ff,ff] rfl rfl (take_ofW HT_.out HW_.out (by kernel_rfl)) (fun _ _ _ h => h) (Or.inl ⟨by rfl, ?_⟩) hHeld ?_ ?_
                       rotate_left
                       ·rintro w' ⟨s0, s1, s2, s3, s4, s5⟩
                        go_simp
                        with_reducible rfl
                       rotate_left
                       ·simp only [Act.put, L1_, L2_, L3_, i64_w, i32_w]
                        rfl
                       refine pure_ (i := 15) (N := some 133) (v := ?_) (a' := ?_) #[tt,tt,tt,tt,tt,tt,tt,tt,tt,ff,tt,tt,tt,tt,tt,tt,ff,ff,ff,ff,ff] rfl rfl (any_of HT_.out (by kernel_rfl)) (fun _ _ _ h => h) (Or.inl ⟨by rfl, ?_⟩) ?_ ?_
                       rotate_left
                       ·intro w'
                        go_simp
                        with_reducible rfl
                       rotate_left
                       ·simp only [Act.put, L1_, L2_, L3_, i64_w, i32_w]
                        rfl
                       refine pure_ (i := 16) (N := some 134) (v := ?_) (a' := ?_) #[tt,tt,tt,tt,tt,tt,tt,tt,tt,ff,tt,tt,tt,tt,tt,tt,tt,ff,ff,ff,ff] rfl rfl (any_of HT_.out (by kernel_rfl)) (fun _ _ _ h => h) (Or.inl ⟨by rfl, ?_⟩) ?_ ?_
                       rotate_left
                       ·intro w'
                        go_simp
                        with_reducible rfl
                       rotate_left
                       ·simp only [Act.put, L1_, L2_, L3_, i64_w, i32_w]
                        rfl
                       refine take_ (i := 17) (N := some 135) (v := ?_) (a' := ?_) #[tt,tt,tt,tt,tt,tt,tt,tt,tt,ff,tt,tt,tt,tt,tt,tt,tt,tt,ff,ff,ff] rfl rfl (take_ofW HT_.out HW_.out (by kernel_rfl)) (fun _ _ _ h => h) (Or.inl ⟨by rfl, ?_⟩) hHeld ?_ ?_
                       rotate_left
                       ·rintro w' ⟨s0, s1, s2, s3, s4, s5⟩
                        go_simp
                        with_reducible rfl
                       rotate_left
                       ·simp only [Act.put, L1_, L2_, L3_, i64_w, i32_w]
                        rfl
                       refine one_ (i := 9) (N := some 127) #[tt,tt,tt,tt,tt,tt,tt,tt,tt,tt,tt,tt,tt,tt,tt,tt,tt,tt,ff,ff,ff] rfl rfl (one_of HT_.out (by kernel_rfl)) (by decide) (fun K hK => ?_)
                       refine goes_ Try.func32 (by kernel_rfl) rfl #[.int .i16 ((rd_T164 (rd_L2 l1 x84_3) x15_5).f0)] (by rfl) rfl rfl (by (try simp only [List.map_toArray, List.map_cons, List.map_nil]); first | done | rfl | (simp only [List.length_drop, List.length_take]; rfl)) ?_
                       with_reducible refine (spec_Coord.calls ((rd_T164 (rd_L2 l1 x84_3) x15_5).f0) t162 _ A49.out).mono ?_
                       rintro e w53 ⟨rfl, hb⟩
                       refine ⟨_, rfl, ?_⟩
                       have n0_ := Aside0.mk (Kd.R_below (by (with_reducible repeat (first | apply Kd.R_alloc | apply Kd.R_drewN | apply Kd.R_drew)); exact HO_6.out) hb)
                       have n1_ := Aside0.mk (Kd.S_below (by (with_reducible repeat (first | apply Kd.S_alloc | apply Kd.S_drewN | apply Kd.S_drew)); exact HO_7.out) hb)
                       have n2_ := Aside0.mk (Kd.R_below (by (with_reducible repeat (first | apply Kd.R_alloc | apply Kd.R_drewN | apply Kd.R_drew)); exact HO_8.out) hb)
                       have n3_ := Aside0.mk (Kd.R_below (by (with_reducible repeat (first | apply Kd.R_alloc | apply Kd.R_drewN | apply Kd.R_drew)); exact HO_13.out) hb)
                       have n4_ := Aside0.mk (below_step (by repeat (first | (with_reducible first | exact HB.out | apply below_alloc | apply pw_below_drewN | apply below_drew1) | exact HB.out)) hb)
                       clear HO_6
                       clear HO_7
                       clear HO_8
                       clear HO_13
                       clear HB
                       have HO_6 := n0_
                       have HO_7 := n1_
                       have HO_8 := n2_
                       have HO_13 := n3_
                       have HB := n4_
                       clear n0_ n1_ n2_ n3_ n4_
                       (try clear hb)
                       (try clear hb2)
                       (try clear hk)
                       (try clear hi)
                       refine hK.out _ _ ⟨((HB.out.cell (World.block_lt_of_cell? w _ hw160_0)).trans hw160_0), ((HB.out.cell (World.block_lt_of_cell? w _ hw161_0)).trans hw161_0), ((HB.out.cell (World.block_lt_of_cell? w _ hw161_1)).trans hw161_1), ((HB.out.cell (World.block_lt_of_cell? w _ hw163_0)).trans hw163_0), ((HB.out.cell (World.block_lt_of_cell? w _ hw164_0)).trans hw164_0), ((HB.out.cell (World.block_lt_of_cell? w _ hw164_1)).trans hw164_1)⟩ (fun hHeld => ?_)
                       clear hK K
                       refine norm_ (a' := ?_) ?_ ?_
                       rotate_left
                       ·show Act.put _ (some 127) _ = _
                        simp only [Act.put, L1_, L2_, L3_, i64_w, i32_w]
                        rfl
                       refine one_ (i := 18) (N := some 136) #[tt,tt,tt,tt,tt,tt,tt,tt,tt,tt,tt,tt,tt,tt,tt,tt,tt,tt,tt,ff,ff] rfl rfl (one_of HT_.out (by kernel_rfl)) (by decide) (fun K hK => ?_)
                       refine goes_ Try.func32 (by kernel_rfl) rfl #[.int .i16 ((rd_T164 (rd_L2 l1 x84_3) x15_5).f1)] (by rfl) rfl rfl (by (try simp only [List.map_toArray, List.map_cons, List.map_nil]); first | done | rfl | (simp only [List.length_drop, List.length_take]; rfl)) ?_
                       with_reducible refine (spec_Coord.calls ((rd_T164 (rd_L2 l1 x84_3) x15_5).f1) t165 _ A50.out).mono ?_
                       rintro e w54 ⟨rfl, hb⟩
                       refine ⟨_, rfl, ?_⟩
                       have n0_ := Aside0.mk (Kd.R_below (by (with_reducible repeat (first | apply Kd.R_alloc | apply Kd.R_drewN | apply Kd.R_drew)); exact HO_6.out) hb)
                       have n1_ := Aside0.mk (Kd.S_below (by (with_reducible repeat (first | apply Kd.S_alloc | apply Kd.S_drewN | apply Kd.S_drew)); exact HO_7.out) hb)
                       have n2_ := Aside0.mk (Kd.R_below (by (with_reducible repeat (first | apply Kd.R_alloc | apply Kd.R_drewN | apply Kd.R_drew)); exact HO_8.out) hb)
                       have n3_ := Aside0.mk (Kd.R_below (by (with_reducible repeat (first | apply Kd.R_alloc | apply Kd.R_drewN | apply Kd.R_drew)); exact HO_13.out) hb)
                       have n4_ := Aside0.mk (below_step (by repeat (first | (with_reducible first | exact HB.out | apply below_alloc | apply pw_below_drewN | apply below_drew1) | exact HB.out)) hb)
                       clear HO_6
                       clear HO_7
                       clear HO_8
                       clear HO_13
                       clear HB
                       have HO_6 := n0_
                       have HO_7 := n1_
                       have HO_8 := n2_
                       have HO_13 := n3_
                       have HB := n4_
                       clear n0_ n1_ n2_ n3_ n4_
                       (try clear hb)
                       (try clear hb2)
                       (try clear hk)
                       (try clear hi)
                       obtain ⟨Ao55, co55, eo55⟩ := Kd.R_slice HO_13.out
                       (first | subst eo55 | (injection eo55 with f1_ f2_ f3_; have f4_ := f1_.symm; have f5_ := f3_.symm; clear f1_ f2_ f3_; subst f4_; subst f5_))
                       refine hK.out _ _ ⟨((HB.out.cell (World.block_lt_of_cell? w _ hw160_0)).trans hw160_0), ((HB.out.cell (World.block_lt_of_cell? w _ hw161_0)).trans hw161_0), ((HB.out.cell (World.block_lt_of_cell? w _ hw161_1)).trans hw161_1), ((HB.out.cell (World.block_lt_of_cell? w _ hw163_0)).trans hw163_0), ((HB.out.cell (World.block_lt_of_cell? w _ hw164_0)).trans hw164_0), ((HB.out.cell (World.block_lt_of_cell? w _ hw164_1)).trans hw164_1)⟩ (fun hHeld => ?_)
                       clear hK K
                       refine norm_ (a' := ?_) ?_ ?_
                       rotate_left
                       ·show Act.put _ (some 136) _ = _
                        simp only [Act.put, L1_, L2_, L3_, i64_w, i32_w]
                        rfl
                       refine one_ (i := 19) (N := some 137) #[tt,tt,tt,tt,tt,tt,tt,tt,tt,tt,tt,tt,tt,tt,tt,tt,tt,tt,tt,tt,ff] rfl rfl (one_of HT_.out (by kernel_rfl)) (by decide) (fun K hK => ?_)
                       refine goes_ Try.func55 (by kernel_rfl) rfl #[.slice Ao55 x13_5.length co55, .int .i64 t162, .int .i64 t165] (by rfl) rfl rfl (by (try simp only [List.map_toArray, List.map_cons, List.map_nil]); first | done | rfl | (simp only [List.length_drop, List.length_take]; rfl)) ?_
                       with_reducible refine (spec_risingMap.calls kj39 (fun k_ => some k_ = (.slice Ao55 x13_5.length co55 : Value).ownBlock) (.slice Ao55 x13_5.length co55) x13_5 t162 t165 t166 w _ ?side1 ?side2 A51.out).mono ?_
                       (case side1 => repeat (first | (with_reducible first | exact HB.out | apply below_alloc | apply pw_below_drewN | apply below_drew1) | exact HB.out))
                       (case side2 => exact Kd.R_tight rfl HO_13.out)
                       rintro e w56 ⟨v167, rfl, ho0, hb, hkp⟩
                       refine ⟨_, rfl, ?_⟩
                       have n0_ := Aside0.mk (Kd.R_mono (ok' := fun k_ => True) (Kd.R_keptB ((Kd.R_apart' HO_6.out (Kd.R_typed HO_13.out) (by decide))) hkp (fun k_ hk_ hs_ => (hk_.2) hs_)) (fun k_ hk_ => trivial))
                       have n1_ := Aside0.mk (Kd.S_mono (ok' := fun k_ => some k_ ≠ (v167 : Value).ownBlock) (Kd.S_keptB (HO_7.out) hkp (fun k_ hk_ hs_ => (hk_) hs_)) (fun k_ hk_ => fun e_ => Or.elim (ho0.1 k_ e_.symm) (fun hs_ => hk_.2.1 hs_) (fun hn_ => Nat.not_le.2 hk_.2.2 hn_)))
                       have n2_ := Aside0.mk (Kd.R_mono (ok' := fun k_ => True) (Kd.R_keptB ((Kd.R_apart' HO_8.out (Kd.R_typed HO_13.out) (by decide))) hkp (fun k_ hk_ hs_ => (hk_.2) hs_)) (fun k_ hk_ => trivial))
                       have n3_ := Aside0.mk (Kd.R_mono (ok' := fun k_ => True) ho0 (fun k_ hk_ => trivial))
                       have n4_ := Aside0.mk (hb)
                       clear HO_6
                       clear HO_7
                       clear HO_8
                       clear HB
                       clear HO_13
                       have HO_6 := n0_
                       have HO_7 := n1_
                       have HO_8 := n2_
                       have HO168 := n3_
                       have HB := n4_
                       clear n0_ n1_ n2_ n3_ n4_
                       (try clear hb)
                       (try clear hkp)
                       (try clear ho0)
                       refine hK.out _ _ ⟨((HB.out.cell (World.block_lt_of_cell? w _ hw160_0)).trans hw160_0), ((HB.out.cell (World.block_lt_of_cell? w _ hw161_0)).trans hw161_0), ((HB.out.cell (World.block_lt_of_cell? w _ hw161_1)).trans hw161_1), ((HB.out.cell (World.block_lt_of_cell? w _ hw163_0)).trans hw163_0), ((HB.out.cell (World.block_lt_of_cell? w _ hw164_0)).trans hw164_0), ((HB.out.cell (World.block_lt_of_cell? w _ hw164_1)).trans hw164_1)⟩ (fun hHeld => ?_)
                       clear hK K
                       refine norm_ (a' := ?_) ?_ ?_
                       rotate_left
                       ·show Act.put _ (some 137) _ = _
                        simp only [Act.put, L1_, L2_, L3_, i64_w, i32_w]
                        rfl
                       refine pure_ (i := 20) (N := some 13) (v := ?_) (a' := ?_) #[tt,tt,tt,tt,tt,tt,tt,tt,tt,tt,tt,tt,tt,tt,tt,tt,tt,tt,tt,tt,tt] rfl rfl (any_of HT_.out (by kernel_rfl)) (fun _ _ _ h => h) (Or.inl ⟨by rfl, ?_⟩) ?_ ?_
                       rotate_left
                       ·intro w'
                        go_simp
                        with_reducible rfl
                       rotate_left
                       ·simp only [Act.put, L1_, L2_, L3_, i64_w, i32_w]
                        rfl
                       refine done_ (done_of HT_.out (by kernel_rfl)) ?_
                       try go_wp2
                       go_roundg kj39
                       case measure => have := HK1.out; have := HJ3.out; have := HK3.out; have := HK4.out; have := HK5.out; have := HJ39.out; omega
                       case rel => exact ⟨(t166), (wrap64 (x15_5 + 1)), (by first | rfl | (simp; done) | (simp [*]; done)), H', ⟨by have := HK1.out; have := HJ3.out; have := HK3.out; have := HK4.out; have := HK5.out; have := HJ39.out; omega⟩, ⟨by (with_reducible repeat (first | apply Kd.R_alloc | apply Kd.R_drewN | apply Kd.R_drew)); exact HO_6.out⟩, ⟨by (with_reducible repeat (first | apply Kd.S_alloc | apply Kd.S_drewN | apply Kd.S_drew)); exact HO_7.out⟩, ⟨by (with_reducible repeat (first | apply Kd.R_alloc | apply Kd.R_drewN | apply Kd.R_drew)); exact HO_8.out⟩, ⟨by (with_reducible repeat (first | apply Kd.R_alloc | apply Kd.R_drewN | apply Kd.R_drew)); exact HO168.out⟩, ⟨by repeat (first | (with_reducible first | exact HB.out | apply below_alloc | apply pw_below_drewN | apply below_drew1) | exact HB.out)⟩⟩
                      ·rw [if_neg c48] at H
                       exact absurd H (by simp)
                     ·rw [if_neg c47] at H
                      exact absurd H (by simp)
                    ·rw [if_neg c46] at H
                     exact absurd H (by simp)
                   ·rw [if_neg c45] at H
                    exact absurd H (by simp)
                  ·replace c44 := Bool.eq_false_iff.mpr c44
                   subst c44
                   have H1 : (if x7_3.length < 5864062014805 then (spec_SomeAxes.l1 kj39 l1 x6_1 (x7_3 ++ [x13_5]) x8_1 (x6_1.length : Int) (wrap64 (x84_3 + 1))) else (none)) = some (r1, r2, r3) := by rw [if_neg (show ¬ (false = true) by decide)] at H; exact H
                   clear H
                   have H := H1
                   clear H1
                   by_cases c57 : x7_3.length < 5864062014805
                   ·rw [if_pos c57] at H
                    have LMc57 := Aside0.mk c57
                    clear c57
                    obtain ⟨y157, hy157⟩ : ∃ y_ : List (List (S48)), y_ = (x7_3 ++ [x13_5]) := ⟨_, rfl⟩
                    replace H : (spec_SomeAxes.l1 kj39 l1 x6_1 y157 x8_1 (x6_1.length : Int) (wrap64 (x84_3 + 1))) = some (r1, r2, r3) := by first | (rw [hy157]; with_reducible exact H) | (have H2_ := (Option.bind_some _ _).symm.trans H; rw [hy157]; with_reducible exact H2_) | (have H2_ := (Option.bind_some _ _).symm.trans H; with_reducible exact H2_) | with_reducible exact H | (rw [hy157]; exact H) | exact H
                    have Ny157 := Aside0.mk hy157
                    clear hy157
                    have H' := Aside0.mk H
                    clear H
                    obtain ⟨Ao59, co59, eo59⟩ := Kd.R_slice HO_13.out
                    subst eo59
                    go_wp2_with (first | ((with_reducible refine gate_builtin (b := .append) (xs := #[.tmp 138, .tmp 140]) rfl ?_); at_builtin; refine Kd.S_append (Kd.slice 48 k48) (w0 := w) w.heap.size rfl (.tmp 138) (.tmp 140) 84 46 (.slice none 0 0) 24 rfl Try.underlying84 info46 rfl (by decide) (by omega) u7 x7_3 x13_5 [.slice Ao59 x13_5.length co59] (fun _ => True) (fun k_ => some k_ = (.slice Ao59 x13_5.length co59 : Value).ownBlock) rfl rfl ?aP (fun k_ hk_ => ((Kd.R_mono (ok' := fun k_ => ((fun _ => True)) k_ ∧ some k_ ≠ (u7 : Value).ownBlock) (Kd.R_apart' (HO_13.out) (Kd.S_typed HO_7.out) (by decide)) (fun k_ hk => ⟨trivial, hk.2⟩))).1 k_ hk_.symm) ?aF ?aO ?aB ?aS ?aL ?_; (case aP => exact Kd.M_row (Kd.R_mono (Kd.R_tight rfl (Kd.R_mono (ok' := fun k_ => ((fun _ => True)) k_ ∧ some k_ ≠ (u7 : Value).ownBlock) (Kd.R_apart' (HO_13.out) (Kd.S_typed HO_7.out) (by decide)) (fun k_ hk => ⟨trivial, hk.2⟩))) (fun _ h_ => h_))); (case aB => exact (by repeat (first | (with_reducible first | exact HB.out | apply below_alloc | apply pw_below_drewN | apply below_drew1) | exact HB.out))); (case aF => exact (fun _ _ => trivial)); (case aO => exact (by (with_reducible repeat (first | apply Kd.S_alloc | apply Kd.S_drewN | apply Kd.S_drew)); exact Kd.S_mono HO_7.out (fun k_ hk => ⟨trivial, fun e_ => hk e_⟩))); (case aS => exact (below_size (by repeat (first | (with_reducible first | exact HB.out | apply below_alloc | apply pw_below_drewN | apply below_drew1) | exact HB.out)))); (case aL => have := LMc57.out; omega); intro v158 w58 ho hb hg hat; rw [← Ny157.out] at ho; have n0_ := Aside0.mk (Kd.R_over' (by (with_reducible repeat (first | apply Kd.R_alloc | apply Kd.R_drewN | apply Kd.R_drew)); exact HO_6.out) (Kd.S_typed (by (with_reducible repeat (first | apply Kd.S_alloc | apply Kd.S_drewN | apply Kd.S_drew)); exact HO_7.out)) (by decide) hg); have n1_ := Aside0.mk (Kd.R_over' (by (with_reducible repeat (first | apply Kd.R_alloc | apply Kd.R_drewN | apply Kd.R_drew)); exact HO_8.out) (Kd.S_typed (by (with_reducible repeat (first | apply Kd.S_alloc | apply Kd.S_drewN | apply Kd.S_drew)); exact HO_7.out)) (by decide) hg); have n2_ := Aside0.mk (hb); have n3_ := Aside0.mk (ho); clear HO_6; clear HO_8; clear HB; clear HO_7; clear HO_13; have HO_6 := n0_; have HO_8 := n1_; have HB := n2_; have HO159 := n3_; clear n0_ n1_ n2_ n3_; clear ho hb hg hat))
                    go_roundg kj39
                    case measure => have := HK1.out; have := HJ3.out; have := HK3.out; have := HK4.out; have := HK5.out; have := HJ39.out; omega
                    case rel => exact ⟨(y157), (wrap64 (x84_3 + 1)), (by first | rfl | (simp; done) | (simp [*]; done)), H', ⟨by have := HK1.out; have := HJ3.out; have := HK3.out; have := HK4.out; have := HK5.out; have := HJ39.out; omega⟩, ⟨by (with_reducible repeat (first | apply Kd.R_alloc | apply Kd.R_drewN | apply Kd.R_drew)); exact HO_6.out⟩, ⟨by (with_reducible repeat (first | apply Kd.S_alloc | apply Kd.S_drewN | apply Kd.S_drew)); exact HO159.out⟩, ⟨by (with_reducible repeat (first | apply Kd.R_alloc | apply Kd.R_drewN | apply Kd.R_drew)); exact HO_8.out⟩, ⟨by repeat (first | (with_reducible first | exact HB.out | apply below_alloc | apply pw_below_drewN | apply below_drew1) | exact HB.out)⟩⟩
                   ·rw [if_neg c57] at H
                    exact absurd H (by simp)
             ·rw [if_neg c39] at H
              have c39b0 : decide (x84_3 < (l1.length : Int)) = false := decide_eq_false c39
              clear c39
              by_cases c60 : x7_3.length < 5864062014805
              ·rw [if_pos c60] at H
               have LMc60 := Aside0.mk c60
               clear c60
               obtain ⟨y169, hy169⟩ : ∃ y_ : List (List (S48)), y_ = (x7_3 ++ [x13_4]) := ⟨_, rfl⟩
               replace H : (spec_SomeAxes.l1 k4 l1 x6_1 y169 x8_1 (x6_1.length : Int) (wrap64 (x84_3 + 1))) = some (r1, r2, r3) := by first | (rw [hy169]; with_reducible exact H) | (have H2_ := (Option.bind_some _ _).symm.trans H; rw [hy169]; with_reducible exact H2_) | (have H2_ := (Option.bind_some _ _).symm.trans H; with_reducible exact H2_) | with_reducible exact H | (rw [hy169]; exact H) | exact H
               have Ny169 := Aside0.mk hy169
               clear hy169
               have H' := Aside0.mk H
               clear H
               obtain ⟨Ao62, co62, eo62⟩ := Kd.R_slice HO_13.out
               subst eo62
               go_wp2_with (first | ((with_reducible refine gate_builtin (b := .append) (xs := #[.tmp 138, .tmp 140]) rfl ?_); at_builtin; refine Kd.S_append (Kd.slice 48 k48) (w0 := w) w.heap.size rfl (.tmp 138) (.tmp 140) 84 46 (.slice none 0 0) 24 rfl Try.underlying84 info46 rfl (by decide) (by omega) u7 x7_3 x13_4 [.slice Ao62 x13_4.length co62] (fun _ => True) (fun k_ => some k_ = (.slice Ao62 x13_4.length co62 : Value).ownBlock) rfl rfl ?aP (fun k_ hk_ => ((Kd.R_mono (ok' := fun k_ => ((fun _ => True)) k_ ∧ some k_ ≠ (u7 : Value).ownBlock) (Kd.R_apart' (HO_13.out) (Kd.S_typed HO_7.out) (by decide)) (fun k_ hk => ⟨trivial, hk.2⟩))).1 k_ hk_.symm) ?aF ?aO ?aB ?aS ?aL ?_; (case aP => exact Kd.M_row (Kd.R_mono (Kd.R_tight rfl (Kd.R_mono (ok' := fun k_ => ((fun _ => True)) k_ ∧ some k_ ≠ (u7 : Value).ownBlock) (Kd.R_apart' (HO_13.out) (Kd.S_typed HO_7.out) (by decide)) (fun k_ hk => ⟨trivial, hk.2⟩))) (fun _ h_ => h_))); (case aB => exact (by repeat (first | (with_reducible first | exact HB.out | apply below_alloc | apply pw_below_drewN | apply below_drew1) | exact HB.out))); (case aF => exact (fun _ _ => trivial)); (case aO => exact (by (with_reducible repeat (first | apply Kd.S_alloc | apply Kd.S_drewN | apply Kd.S_drew)); exact Kd.S_mono HO_7.out (fun k_ hk => ⟨trivial, fun e_ => hk e_⟩))); (case aS => exact (below_size (by repeat (first | (with_reducible first | exact HB.out | apply below_alloc | apply pw_below_drewN | apply below_drew1) | exact HB.out)))); (case aL => have := LMc60.out; omega); intro v170 w61 ho hb hg hat; rw [← Ny169.out] at ho; have n0_ := Aside0.mk (Kd.R_over' (by (with_reducible repeat (first | apply Kd.R_alloc | apply Kd.R_drewN | apply Kd.R_drew)); exact HO_6.out) (Kd.S_typed (by (with_reducible repeat (first | apply Kd.S_alloc | apply Kd.S_drewN | apply Kd.S_drew)); exact HO_7.out)) (by decide) hg); have n1_ := Aside0.mk (Kd.R_over' (by (with_reducible repeat (first | apply Kd.R_alloc | apply Kd.R_drewN | apply Kd.R_drew)); exact HO_8.out) (Kd.S_typed (by (with_reducible repeat (first | apply Kd.S_alloc | apply Kd.S_drewN | apply Kd.S_drew)); exact HO_7.out)) (by decide) hg); have n2_ := Aside0.mk (hb); have n3_ := Aside0.mk (ho); clear HO_6; clear HO_8; clear HB; clear HO_7; clear HO_13; have HO_6 := n0_; have HO_8 := n1_; have HB := n2_; have HO171 := n3_; clear n0_ n1_ n2_ n3_; clear ho hb hg hat))
               go_roundg k4
               case measure => have := HK1.out; have := HJ3.out; have := HK3.out; have := HK4.out; omega
               case rel => exact ⟨(y169), (wrap64 (x84_3 + 1)), (by first | rfl | (simp; done) | (simp [*]; done)), H', ⟨by have := HK1.out; have := HJ3.out; have := HK3.out; have := HK4.out; omega⟩, ⟨by (with_reducible repeat (first | apply Kd.R_alloc | apply Kd.R_drewN | apply Kd.R_drew)); exact HO_6.out⟩, ⟨by (with_reducible repeat (first | apply Kd.S_alloc | apply Kd.S_drewN | apply Kd.S_drew)); exact HO171.out⟩, ⟨by (with_reducible repeat (first | apply Kd.R_alloc | apply Kd.R_drewN | apply Kd.R_drew)); exact HO_8.out⟩, ⟨by repeat (first | (with_reducible first | exact HB.out | apply below_alloc | apply pw_below_drewN | apply below_drew1) | exact HB.out)⟩⟩
              ·rw [if_neg c60] at H
               exact absurd H (by simp)
         ·rw [if_neg c35] at H
          have c35b0 : decide (x84_3 < (x6_1.length : Int)) = false := decide_eq_false c35
          clear c35
          simp only [Option.some.injEq, Prod.mk.injEq] at H
          obtain ⟨rfl, rfl, rfl⟩ := H
          go_wp2
          go_ret3
          exact ⟨_, _, _, by first | rfl | (simp [errW_none, errW_some] <;> rfl) | (simp [*, errW_none, errW_some] <;> rfl), by (with_reducible repeat (first | apply Kd.R_alloc | apply Kd.R_drewN | apply Kd.R_drew)); exact HO_6.out, by (with_reducible repeat (first | apply Kd.S_alloc | apply Kd.S_drewN | apply Kd.S_drew)); exact HO_7.out, by (with_reducible repeat (first | apply Kd.R_alloc | apply Kd.R_drewN | apply Kd.R_drew)); exact HO_8.out, by repeat (first | (with_reducible first | exact HB.out | apply below_alloc | apply pw_below_drewN | apply below_drew1) | exact HB.out), fun h_ => absurd (show (l1.length : Int) = 0 by first | exact h_ | (rw [h_]; rfl)) ((beq_eq_false_iff_ne (α := Int)).1 c33b0)⟩

end Go.Proofs.Ytlbmfnjhpojghaa.PFnNormalized
