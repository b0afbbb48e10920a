-- Written by a program of this session (xprint) out of the translation; Lean checks it.
import Derived.Test.YtlbmfnjhpojghaaPFnNormalizedx0
import Derived.Test.YtlbmfnjhpojghaaPFnNormalizedx6
import Derived.Test.YtlbmfnjhpojghaaPFnNormalizedx9
namespace Go.Proofs.Ytlbmfnjhpojghaa.PFnNormalized
open Go.RowKit Go.Proofs.YtlbmfnjhpojghaaW.PrintWords Go.Proofs.YtlbmfnjhpojghaaW.PrintLast Go.Proofs.YtlbmfnjhpojghaaW.PrintMore
attribute [local go_sem] max2_int min2_int max_two min_two max_three min_three max_four min_four   -- for this text's walks alone
set_option linter.unusedVariables false
set_option linter.unusedSimpArgs false

attribute [local go_sem] f_add f_sub f_mul f_quo f_conv f_same f_int f_max f_min f_neg f_store
/-! ### impl_Normalized: function 27 -/
mutual
def impl_Normalized.l0 : Nat → List (S92) → List (List (S48)) → List Nat → List (S170) → List (S92) → Int → Int → Int → Int → Bool → Option (List Int × Bool)
 | 0, _, _, _, _, _, _, _, _, _, _ => none
 | k + 1, x0, x1, x2, x9, x22, x23, x24, x234000, x234001, x234002 => if x24 < x23 then (if 0 ≤ x24 then (if x24 < (x22.length : Int) then (if (FloatKind.f32.format.order ((rd_T92 x22 x24).f0) 3338665984 == some .gt || FloatKind.f32.format.order ((rd_T92 x22 x24).f0) 3338665984 == some .eq) = true then (if (FloatKind.f32.format.order ((rd_T92 x22 x24).f0) ((rd_T92 x22 x24).f1) == some .lt || FloatKind.f32.format.order ((rd_T92 x22 x24).f0) ((rd_T92 x22 x24).f1) == some .eq) = true then (if (FloatKind.f32.format.order ((rd_T92 x22 x24).f1) ((rd_T92 x22 x24).f2) == some .lt || FloatKind.f32.format.order ((rd_T92 x22 x24).f1) ((rd_T92 x22 x24).f2) == some .eq) = true then ((impl_builder_must.f x234000 x234001 x234002 (FloatKind.f32.format.order ((rd_T92 x22 x24).f2) 1191181824 == some .lt || FloatKind.f32.format.order ((rd_T92 x22 x24).f2) 1191181824 == some .eq)).bind fun bt236 => (if x9.length < 7036874417766 then (impl_Normalized.l0 k x0 x1 x2 (x9 ++ [(⟨0, (rd_T92 x22 x24).f0, (rd_T92 x22 x24).f1, (rd_T92 x22 x24).f2, 0, 0⟩ : S170)]) x22 x23 (wrap64 (x24 + 1)) bt236.1 bt236.2.1 bt236.2.2) else (none))) else ((impl_builder_must.f x234000 x234001 x234002 false).bind fun bt242 => (if x9.length < 7036874417766 then (impl_Normalized.l0 k x0 x1 x2 (x9 ++ [(⟨0, (rd_T92 x22 x24).f0, (rd_T92 x22 x24).f1, (rd_T92 x22 x24).f2, 0, 0⟩ : S170)]) x22 x23 (wrap64 (x24 + 1)) bt242.1 bt242.2.1 bt242.2.2) else (none)))) else ((impl_builder_must.f x234000 x234001 x234002 false).bind fun bt248 => (if x9.length < 7036874417766 then (impl_Normalized.l0 k x0 x1 x2 (x9 ++ [(⟨0, (rd_T92 x22 x24).f0, (rd_T92 x22 x24).f1, (rd_T92 x22 x24).f2, 0, 0⟩ : S170)]) x22 x23 (wrap64 (x24 + 1)) bt248.1 bt248.2.1 bt248.2.2) else (none)))) else ((impl_builder_must.f x234000 x234001 x234002 false).bind fun bt254 => (if x9.length < 7036874417766 then (impl_Normalized.l0 k x0 x1 x2 (x9 ++ [(⟨0, (rd_T92 x22 x24).f0, (rd_T92 x22 x24).f1, (rd_T92 x22 x24).f2, 0, 0⟩ : S170)]) x22 x23 (wrap64 (x24 + 1)) bt254.1 bt254.2.1 bt254.2.2) else (none)))) else (none)) else (none)) else (impl_Normalized.l1 k x0 x1 x2 x9 ([] : List (S174)) x1 (x1.length : Int) 0 x234000 x234001 x234002)
def impl_Normalized.l1 : Nat → List (S92) → List (List (S48)) → List Nat → List (S170) → List (S174) → List (List (S48)) → Int → Int → Int → Int → Bool → Option (List Int × Bool)
 | 0, _, _, _, _, _, _, _, _, _, _, _ => none
 | k + 1, x0, x1, x2, x9, x12, x63, x64, x65, x234000, x234001, x234002 => if x65 < x64 then (if 0 ≤ x65 then (if x65 < (x63.length : Int) then (impl_Normalized.l2 k x0 x1 x2 x9 x12 x63 x64 x65 (rd_L8 x63 x65) ((rd_L8 x63 x65).length : Int) 0 x234000 x234001 x234002 ([] : List (S177))) else (none)) else (none)) else (if (x2.length : Int) = (x0.length : Int) then (if (x1.length : Int) = 0 then ((impl_builder_must.f x234000 x234001 x234002 true).bind fun bt278 => (impl_Normalized.j3 k x2 x9 x12 bt278.1 bt278.2.1 bt278.2.2)) else ((impl_builder_must.f x234000 x234001 x234002 ((x1.length : Int) == (x0.length : Int))).bind fun bt281 => (impl_Normalized.j3 k x2 x9 x12 bt281.1 bt281.2.1 bt281.2.2))) else ((impl_builder_must.f x234000 x234001 x234002 false).bind fun bt284 => (impl_Normalized.j3 k x2 x9 x12 bt284.1 bt284.2.1 bt284.2.2)))
def impl_Normalized.l2 : Nat → List (S92) → List (List (S48)) → List Nat → List (S170) → List (S174) → List (List (S48)) → Int → Int → List (S48) → Int → Int → Int → Int → Bool → List (S177) → Option (List Int × Bool)
 | 0, _, _, _, _, _, _, _, _, _, _, _, _, _, _, _ => none
 | k + 1, x0, x1, x2, x9, x12, x63, x64, x65, x69, x70, x71, x234000, x234001, x234002, x262000 => if x71 < x70 then (if 0 ≤ x71 then (if x71 < (x69.length : Int) then ((impl_builder_signed.f x234000 x234001 x234002 ((rd_T48 x69 x71).f0)).bind fun bt267 => ((impl_builder_signed.f bt267.2.1 bt267.2.2.1 bt267.2.2.2 ((rd_T48 x69 x71).f1)).bind fun bt271 => (if x262000.length < 35184372088832 then (impl_Normalized.l2 k x0 x1 x2 x9 x12 x63 x64 x65 x69 x70 (wrap64 (x71 + 1)) bt271.2.1 bt271.2.2.1 bt271.2.2.2 (x262000 ++ [(⟨bt267.1, bt271.1⟩ : S177)])) else (none)))) else (none)) else (none)) else (if x12.length < 5864062014805 then (impl_Normalized.l1 k x0 x1 x2 x9 (x12 ++ [(⟨x262000⟩ : S174)]) x63 x64 (wrap64 (x65 + 1)) x234000 x234001 x234002) else (none))
def impl_Normalized.j3 : Nat → List Nat → List (S170) → List (S174) → Int → Int → Bool → Option (List Int × Bool)
 | 0, _, _, _, _, _, _ => none
 | k + 1, x2, x9, x12, x234000, x234001, x234002 => impl_Normalized.l3 k x2 x9 x12 x2 (x2.length : Int) 0 x234000 x234001 x234002
def impl_Normalized.l3 : Nat → List Nat → List (S170) → List (S174) → List Nat → Int → Int → Int → Int → Bool → Option (List Int × Bool)
 | 0, _, _, _, _, _, _, _, _, _ => none
 | k + 1, x2, x9, x12, x114, x115, x116, x234000, x234001, x234002 => if x116 < x115 then (if 0 ≤ x116 then (if x116 < (x114.length : Int) then ((impl_builder_must.f x234000 x234001 x234002 (FloatKind.f32.format.order (rdOf (0 : Nat) x114 x116) (rdOf (0 : Nat) x114 x116) == some .eq)).bind fun bt288 => (impl_Normalized.l3 k x2 x9 x12 x114 x115 (wrap64 (x116 + 1)) bt288.1 bt288.2.1 bt288.2.2)) else (none)) else (none)) else (if x234002 = true then (some (([] : List Int), false)) else ((font_ZzNormalize.f k x9 x12 x2).bind fun t291 => ((tables_Coord.f k t291).bind fun t294 => (some (t294, true)))))
end
def impl_Normalized.f (k : Nat) (l0 : List (S92)) (l1 : List (List (S48))) (l2 : List Nat) : Option (List Int × Bool) := impl_Normalized.l0 k l0 l1 l2 ([] : List (S170)) l0 (l0.length : Int) 0 0 0 false
theorem impl_Normalized.mono_l : ∀ k, (∀ y0 y1 y2 y3 y4 y5 y6 y7 y8 y9, LeO (impl_Normalized.l0 k y0 y1 y2 y3 y4 y5 y6 y7 y8 y9) (impl_Normalized.l0 (k + 1) y0 y1 y2 y3 y4 y5 y6 y7 y8 y9)) ∧ (∀ y0 y1 y2 y3 y4 y5 y6 y7 y8 y9 y10, LeO (impl_Normalized.l1 k y0 y1 y2 y3 y4 y5 y6 y7 y8 y9 y10) (impl_Normalized.l1 (k + 1) y0 y1 y2 y3 y4 y5 y6 y7 y8 y9 y10)) ∧ (∀ y0 y1 y2 y3 y4 y5 y6 y7 y8 y9 y10 y11 y12 y13 y14, LeO (impl_Normalized.l2 k y0 y1 y2 y3 y4 y5 y6 y7 y8 y9 y10 y11 y12 y13 y14) (impl_Normalized.l2 (k + 1) y0 y1 y2 y3 y4 y5 y6 y7 y8 y9 y10 y11 y12 y13 y14)) ∧ (∀ y0 y1 y2 y3 y4 y5, LeO (impl_Normalized.j3 k y0 y1 y2 y3 y4 y5) (impl_Normalized.j3 (k + 1) y0 y1 y2 y3 y4 y5)) ∧ (∀ y0 y1 y2 y3 y4 y5 y6 y7 y8, LeO (impl_Normalized.l3 k y0 y1 y2 y3 y4 y5 y6 y7 y8) (impl_Normalized.l3 (k + 1) y0 y1 y2 y3 y4 y5 y6 y7 y8))
 | 0 => ⟨fun _ _ _ _ _ _ _ _ _ _ r h => by simp [impl_Normalized.l0] at h, fun _ _ _ _ _ _ _ _ _ _ _ r h => by simp [impl_Normalized.l1] at h, fun _ _ _ _ _ _ _ _ _ _ _ _ _ _ _ r h => by simp [impl_Normalized.l2] at h, fun _ _ _ _ _ _ r h => by simp [impl_Normalized.j3] at h, fun _ _ _ _ _ _ _ _ _ r h => by simp [impl_Normalized.l3] at h⟩
 | k + 1 => by
  obtain ⟨ih0, ih1, ih2, ih3, ih4⟩ := impl_Normalized.mono_l k
  refine ⟨?_, ?_, ?_, ?_, ?_⟩
  ·intro y0 y1 y2 y3 y4 y5 y6 y7 y8 y9
   unfold impl_Normalized.l0
   repeat' first
   | (with_reducible exact ih0 _ _ _ _ _ _ _ _ _ _)
   | (with_reducible exact ih1 _ _ _ _ _ _ _ _ _ _ _)
   | (with_reducible exact ih2 _ _ _ _ _ _ _ _ _ _ _ _ _ _ _)
   | (with_reducible exact ih3 _ _ _ _ _ _)
   | (with_reducible exact ih4 _ _ _ _ _ _ _ _ _)
   | (with_reducible exact font_ZzNormalize.mono _ _ _ _)
   | (with_reducible exact tables_Coord.mono _ _)
   | (with_reducible exact LeO.refl _)
   | (with_reducible exact LeO.none _)
   | (with_reducible refine LeO.ite ?_ ?_)
   | (with_reducible refine LeO.bind ?_ (fun _ => ?_))
   | exact ih0 _ _ _ _ _ _ _ _ _ _
   | exact ih1 _ _ _ _ _ _ _ _ _ _ _
   | exact ih2 _ _ _ _ _ _ _ _ _ _ _ _ _ _ _
   | exact ih3 _ _ _ _ _ _
   | exact ih4 _ _ _ _ _ _ _ _ _
   | exact font_ZzNormalize.mono _ _ _ _
   | exact tables_Coord.mono _ _
   | exact LeO.none _
   | refine LeO.ite ?_ ?_
   | refine LeO.bind ?_ (fun _ => ?_)
  ·intro y0 y1 y2 y3 y4 y5 y6 y7 y8 y9 y10
   unfold impl_Normalized.l1
   repeat' first
   | (with_reducible exact ih0 _ _ _ _ _ _ _ _ _ _)
   | (with_reducible exact ih1 _ _ _ _ _ _ _ _ _ _ _)
   | (with_reducible exact ih2 _ _ _ _ _ _ _ _ _ _ _ _ _ _ _)
   | (with_reducible exact ih3 _ _ _ _ _ _)
   | (with_reducible exact ih4 _ _ _ _ _ _ _ _ _)
   | (with_reducible exact font_ZzNormalize.mono _ _ _ _)
   | (with_reducible exact tables_Coord.mono _ _)
   | (with_reducible exact LeO.refl _)
   | (with_reducible exact LeO.none _)
   | (with_reducible refine LeO.ite ?_ ?_)
   | (with_reducible refine LeO.bind ?_ (fun _ => ?_))
   | exact ih0 _ _ _ _ _ _ _ _ _ _
   | exact ih1 _ _ _ _ _ _ _ _ _ _ _
   | exact ih2 _ _ _ _ _ _ _ _ _ _ _ _ _ _ _
   | exact ih3 _ _ _ _ _ _
   | exact ih4 _ _ _ _ _ _ _ _ _
   | exact font_ZzNormalize.mono _ _ _ _
   | exact tables_Coord.mono _ _
   | exact LeO.none _
   | refine LeO.ite ?_ ?_
   | refine LeO.bind ?_ (fun _ => ?_)
  ·intro y0 y1 y2 y3 y4 y5 y6 y7 y8 y9 y10 y11 y12 y13 y14
   unfold impl_Normalized.l2
   repeat' first
   | (with_reducible exact ih0 _ _ _ _ _ _ _ _ _ _)
   | (with_reducible exact ih1 _ _ _ _ _ _ _ _ _ _ _)
   | (with_reducible exact ih2 _ _ _ _ _ _ _ _ _ _ _ _ _ _ _)
   | (with_reducible exact ih3 _ _ _ _ _ _)
   | (with_reducible exact ih4 _ _ _ _ _ _ _ _ _)
   | (with_reducible exact font_ZzNormalize.mono _ _ _ _)
   | (with_reducible exact tables_Coord.mono _ _)
   | (with_reducible exact LeO.refl _)
   | (with_reducible exact LeO.none _)
   | (with_reducible refine LeO.ite ?_ ?_)
   | (with_reducible refine LeO.bind ?_ (fun _ => ?_))
   | exact ih0 _ _ _ _ _ _ _ _ _ _
   | exact ih1 _ _ _ _ _ _ _ _ _ _ _
   | exact ih2 _ _ _ _ _ _ _ _ _ _ _ _ _ _ _
   | exact ih3 _ _ _ _ _ _
   | exact ih4 _ _ _ _ _ _ _ _ _
   | exact font_ZzNormalize.mono _ _ _ _
   | exact tables_Coord.mono _ _
   | exact LeO.none _
   | refine LeO.ite ?_ ?_
   | refine LeO.bind ?_ (fun _ => ?_)
  ·intro y0 y1 y2 y3 y4 y5
   unfold impl_Normalized.j3
   repeat' first
   | (with_reducible exact ih0 _ _ _ _ _ _ _ _ _ _)
   | (with_reducible exact ih1 _ _ _ _ _ _ _ _ _ _ _)
   | (with_reducible exact ih2 _ _ _ _ _ _ _ _ _ _ _ _ _ _ _)
   | (with_reducible exact ih3 _ _ _ _ _ _)
   | (with_reducible exact ih4 _ _ _ _ _ _ _ _ _)
   | (with_reducible exact font_ZzNormalize.mono _ _ _ _)
   | (with_reducible exact tables_Coord.mono _ _)
   | (with_reducible exact LeO.refl _)
   | (with_reducible exact LeO.none _)
   | (with_reducible refine LeO.ite ?_ ?_)
   | (with_reducible refine LeO.bind ?_ (fun _ => ?_))
   | exact ih0 _ _ _ _ _ _ _ _ _ _
   | exact ih1 _ _ _ _ _ _ _ _ _ _ _
   | exact ih2 _ _ _ _ _ _ _ _ _ _ _ _ _ _ _
   | exact ih3 _ _ _ _ _ _
   | exact ih4 _ _ _ _ _ _ _ _ _
   | exact font_ZzNormalize.mono _ _ _ _
   | exact tables_Coord.mono _ _
   | exact LeO.none _
   | refine LeO.ite ?_ ?_
   | refine LeO.bind ?_ (fun _ => ?_)
  ·intro y0 y1 y2 y3 y4 y5 y6 y7 y8
   unfold impl_Normalized.l3
   repeat' first
   | (with_reducible exact ih0 _ _ _ _ _ _ _ _ _ _)
   | (with_reducible exact ih1 _ _ _ _ _ _ _ _ _ _ _)
   | (with_reducible exact ih2 _ _ _ _ _ _ _ _ _ _ _ _ _ _ _)
   | (with_reducible exact ih3 _ _ _ _ _ _)
   | (with_reducible exact ih4 _ _ _ _ _ _ _ _ _)
   | (with_reducible exact font_ZzNormalize.mono _ _ _ _)
   | (with_reducible exact tables_Coord.mono _ _)
   | (with_reducible exact LeO.refl _)
   | (with_reducible exact LeO.none _)
   | (with_reducible refine LeO.ite ?_ ?_)
   | (with_reducible refine LeO.bind ?_ (fun _ => ?_))
   | exact ih0 _ _ _ _ _ _ _ _ _ _
   | exact ih1 _ _ _ _ _ _ _ _ _ _ _
   | exact ih2 _ _ _ _ _ _ _ _ _ _ _ _ _ _ _
   | exact ih3 _ _ _ _ _ _
   | exact ih4 _ _ _ _ _ _ _ _ _
   | exact font_ZzNormalize.mono _ _ _ _
   | exact tables_Coord.mono _ _
   | exact LeO.none _
   | refine LeO.ite ?_ ?_
   | refine LeO.bind ?_ (fun _ => ?_)
theorem impl_Normalized.mono : ∀ a0 a1 a2 k, LeO (impl_Normalized.f k a0 a1 a2) (impl_Normalized.f (k + 1) a0 a1 a2) := by
 intro a0 a1 a2 k
 obtain ⟨ih0, ih1, ih2, ih3, ih4⟩ := impl_Normalized.mono_l k
 unfold impl_Normalized.f
 repeat' first
   | (with_reducible exact ih0 _ _ _ _ _ _ _ _ _ _)
   | (with_reducible exact ih1 _ _ _ _ _ _ _ _ _ _ _)
   | (with_reducible exact ih2 _ _ _ _ _ _ _ _ _ _ _ _ _ _ _)
   | (with_reducible exact ih3 _ _ _ _ _ _)
   | (with_reducible exact ih4 _ _ _ _ _ _ _ _ _)
   | (with_reducible exact font_ZzNormalize.mono _ _ _ _)
   | (with_reducible exact tables_Coord.mono _ _)
   | (with_reducible exact LeO.refl _)
   | (with_reducible exact LeO.none _)
   | (with_reducible refine LeO.ite ?_ ?_)
   | (with_reducible refine LeO.bind ?_ (fun _ => ?_))
   | exact ih0 _ _ _ _ _ _ _ _ _ _
   | exact ih1 _ _ _ _ _ _ _ _ _ _ _
   | exact ih2 _ _ _ _ _ _ _ _ _ _ _ _ _ _ _
   | exact ih3 _ _ _ _ _ _
   | exact ih4 _ _ _ _ _ _ _ _ _
   | exact font_ZzNormalize.mono _ _ _ _
   | exact tables_Coord.mono _ _
   | exact LeO.none _
   | refine LeO.ite ?_ ?_
   | refine LeO.bind ?_ (fun _ => ?_)
def impl_Normalized.T17 : Bool × List (List Nat × List Nat) := (true, [([], []), ([0], [0]), ([], []), ([], []), ([3], [3]), ([2, 4], [2, 4]), ([], []), ([], []), ([7], [7]), ([6, 8, 5], [6, 8]), ([5, 9], [5, 9]), ([10], [10]), ([1, 11, 9], [1, 11]), ([0, 1, 2, 3, 4, 5, 6, 7, 8, 9, 10, 11, 12], []), ([13, 12, 12, 0, 1, 2, 3, 4, 5, 6, 7, 8, 9, 10, 11, 12], [12, 13])])
def impl_Normalized.B17 : List Nat := [0, 1, 0, 0, 8, 28, 0, 0, 128, 508, 1020, 2044, 4095, 8191, 16383]
theorem impl_Normalized.tab17 : rtab .any (opsOf Try.f27 17) = impl_Normalized.T17 := by kernel_rfl
theorem impl_Normalized.bits17 : waitsOk impl_Normalized.T17.2 impl_Normalized.B17 = true := by kernel_rfl
set_option maxHeartbeats 8000000 in
set_option maxRecDepth 100000 in
theorem impl_Normalized.calls (k : Nat) (A0 : Option Addr) (c0 : Nat) (l0 : List (S92)) (A1 : Option Addr) (c1 : Nat) (l1 : List (List (S48))) (A2 : Option Addr) (c2 : Nat) (l2 : List Nat) (r1 : List Int) (r2 : Bool) (w : World) (hr0 : Kd.C k92 w A0 l0.length l0) (hc0 : l0.length ≤ c0) (hr1 : Kd.C (Kd.slice 48 k48) w A1 l1.length l1) (hc1 : l1.length ≤ c1) (hr2 : Kd.C (kflt .f32) w A2 l2.length l2) (hc2 : l2.length ≤ c2) (h : impl_Normalized.f k l0 l1 l2 = some (r1, r2)) :
  Calls Try.prog 27 #[.slice A0 l0.length c0, .slice A1 l1.length c1, .slice A2 l2.length c2] w fun e w' => ∃ v0_ : Value, e = .returned (.tuple #[v0_, .bool r2]) ∧ Kd.R (Kd.int .i64) 3 w' w.heap.size (fun _ => True) v0_ r1 ∧ Below w.heap.size w w' := by
 have hu102 := Try.underlying102
 have hu92 := Try.underlying92
 have hu170 := Try.underlying170
 have hu174 := Try.underlying174
 have hu48 := Try.underlying48
 have hu177 := Try.underlying177
 have HR0 := Aside0.mk hr0
 have HC0 := Aside0.mk hc0
 clear hr0 hc0
 have HR1 := Aside0.mk hr1
 have HC1 := Aside0.mk hc1
 clear hr1 hc1
 have HR2 := Aside0.mk hr2
 have HC2 := Aside0.mk hc2
 clear hr2 hc2
 have HB := Aside0.mk (Below.refl w.heap.size w)
 have H : (impl_Normalized.l0 k l0 l1 l2 ([] : List (S170)) l0 (l0.length : Int) 0 0 0 false) = some (r1, r2) := h
 clear h
 have H' := Aside0.mk H
 clear H
 go_enter Try.func27, Try.ntmps27
 go_wp2_with (first | ((with_reducible refine gate_dst (N := 21) rfl ?_); (try (refine gate_guard (by rfl) ?_; dsimp only)); refine box_event ?hg (N := 21) ?hd (cs := #[.int .i64 0, .int .i64 0, .bool false]) (t := 102) ?hr ?_; (case hd => rfl); (case hg => rfl); (case hr => first | (go_simp; done) | (go_simp; rfl)); intro gb233 hg w4 hbox hb; have n0_ := Aside0.mk (below_step (by repeat (first | (with_reducible first | exact HB.out | apply below_alloc | apply pw_below_drewN | apply below_drew1) | exact HB.out)) hb); have n1_ := Aside0.mk (hbox); have n2_ := Aside0.mk ((by rw [hg]; exact (below_size (by repeat (first | (with_reducible first | exact HB.out | apply below_alloc | apply pw_below_drewN | apply below_drew1) | exact HB.out))) : w.heap.size ≤ gb233)); have n3_ := Aside0.mk ((by rw [hg]; exact (below_size (by repeat (first | (with_reducible first | exact HB.out | apply below_alloc | apply pw_below_drewN | apply below_drew1) | exact HB.out))) : w.heap.size ≤ gb233)); clear HB; have HB := n0_; have BK233 := n1_; have GW233 := n2_; have GE233 := n3_; clear n0_ n1_ n2_ n3_; clear hb hbox hg))
 go_loopg [9, 24] k (fun kq v9 v24 w' => ∃ (x9_1 : List (S170)) (x24_1 : Int) (x234000_1 : Int) (x234001_1 : Int) (x234002_1 : Bool), v24 = .int .i64 x24_1 ∧ Aside0 (impl_Normalized.l0 kq l0 l1 l2 x9_1 l0 (l0.length : Int) x24_1 x234000_1 x234001_1 x234002_1 = some (r1, r2)) ∧ Aside0 (kq ≤ k) ∧ Aside0 (Kd.R k170 170 w' w.heap.size (fun _ => True) v9 x9_1) ∧ Aside0 (w'.heap[gb233]? = some (.cells #[.int .i64 x234000_1, .int .i64 x234001_1, .bool x234002_1] 102 (0, 0))) ∧ Aside0 (Below w.heap.size w w'))
 case atStart => exact ⟨(([] : List (S170))), (0), (0), (0), (false), (by first | rfl | (simp; done) | (simp [*]; done)), H', ⟨Nat.le_refl _⟩, ⟨by first | exact Kd.R_nil _ _ _ _ _ | exact Kd.N_nil _ _ _ _ _ | exact Kd.V_nil _ _ _ _ _ | exact Kd.Q_nil _ _ _ _ _ | exact Kd.S_nil _ _ _ _ _⟩, ⟨by (with_reducible repeat (first | refine b1_ ?_ _ | refine b2_ ?_ | refine b3_ ?_ _)); exact BK233.out⟩, ⟨by repeat (first | (with_reducible first | exact HB.out | apply below_alloc | apply pw_below_drewN | apply below_drew1 | refine below_set ?_ GE233.out) | exact HB.out)⟩⟩
 case round =>
  clear H'
  try clear c1
  try clear c2
  try clear p2
  obtain ⟨x9_1, x24_1, x234000_1, x234001_1, x234002_1, rfl, HA, HK1, HO_9, BK233, HB⟩ := hrel
  cases gk with
  | zero => exact absurd HA.out (by simp [impl_Normalized.l0])
  | succ k1 =>
   have H := HA.out
   clear HA
   simp only [impl_Normalized.l0] at H
   by_cases c5 : x24_1 < (l0.length : Int)
   ·rw [if_pos c5] at H
    have c5b0 : decide (x24_1 < (l0.length : Int)) = true := decide_eq_true c5
    clear c5
    by_cases c6 : 0 ≤ x24_1
    ·rw [if_pos c6] at H
     have c6b0 : decide (0 ≤ x24_1) = true := decide_eq_true c6
     clear c6
     by_cases c7 : x24_1 < (l0.length : Int)
     ·rw [if_pos c7] at H
      have c7b0 : decide (x24_1 < (l0.length : Int)) = true := decide_eq_true c7
      clear c7
      by_cases c8 : (FloatKind.f32.format.order ((rd_T92 l0 x24_1).f0) 3338665984 == some .gt || FloatKind.f32.format.order ((rd_T92 l0 x24_1).f0) 3338665984 == some .eq) = true
      ·rw [if_pos c8] at H
       have c8b0 : (FloatKind.f32.format.order ((rd_T92 l0 x24_1).f0) 3338665984 == some .gt || FloatKind.f32.format.order ((rd_T92 l0 x24_1).f0) 3338665984 == some .eq) = true := c8
       (try (have c8b1 : decide (FloatKind.f32.format.order ((rd_T92 l0 x24_1).f0) 3338665984 = some .gt || FloatKind.f32.format.order ((rd_T92 l0 x24_1).f0) 3338665984 == some .eq) = true := by simpa using c8))
       (try (have c8b2 : (FloatKind.f32.format.order ((rd_T92 l0 x24_1).f0) 3338665984 == some .gt || FloatKind.f32.format.order ((rd_T92 l0 x24_1).f0) 3338665984 == some .eq) = true := by simpa using c8))
       clear c8
       by_cases c9 : (FloatKind.f32.format.order ((rd_T92 l0 x24_1).f0) ((rd_T92 l0 x24_1).f1) == some .lt || FloatKind.f32.format.order ((rd_T92 l0 x24_1).f0) ((rd_T92 l0 x24_1).f1) == some .eq) = true
       ·rw [if_pos c9] at H
        have c9b0 : (FloatKind.f32.format.order ((rd_T92 l0 x24_1).f0) ((rd_T92 l0 x24_1).f1) == some .lt || FloatKind.f32.format.order ((rd_T92 l0 x24_1).f0) ((rd_T92 l0 x24_1).f1) == some .eq) = true := c9
        (try (have c9b1 : decide (FloatKind.f32.format.order ((rd_T92 l0 x24_1).f0) ((rd_T92 l0 x24_1).f1) = some .lt || FloatKind.f32.format.order ((rd_T92 l0 x24_1).f0) ((rd_T92 l0 x24_1).f1) == some .eq) = true := by simpa using c9))
        (try (have c9b2 : (FloatKind.f32.format.order ((rd_T92 l0 x24_1).f0) ((rd_T92 l0 x24_1).f1) == some .lt || FloatKind.f32.format.order ((rd_T92 l0 x24_1).f0) ((rd_T92 l0 x24_1).f1) == some .eq) = true := by simpa using c9))
        clear c9
        by_cases c10 : (FloatKind.f32.format.order ((rd_T92 l0 x24_1).f1) ((rd_T92 l0 x24_1).f2) == some .lt || FloatKind.f32.format.order ((rd_T92 l0 x24_1).f1) ((rd_T92 l0 x24_1).f2) == some .eq) = true
        ·rw [if_pos c10] at H
         have c10b0 : (FloatKind.f32.format.order ((rd_T92 l0 x24_1).f1) ((rd_T92 l0 x24_1).f2) == some .lt || FloatKind.f32.format.order ((rd_T92 l0 x24_1).f1) ((rd_T92 l0 x24_1).f2) == some .eq) = true := c10
         (try (have c10b1 : decide (FloatKind.f32.format.order ((rd_T92 l0 x24_1).f1) ((rd_T92 l0 x24_1).f2) = some .lt || FloatKind.f32.format.order ((rd_T92 l0 x24_1).f1) ((rd_T92 l0 x24_1).f2) == some .eq) = true := by simpa using c10))
         (try (have c10b2 : (FloatKind.f32.format.order ((rd_T92 l0 x24_1).f1) ((rd_T92 l0 x24_1).f2) == some .lt || FloatKind.f32.format.order ((rd_T92 l0 x24_1).f1) ((rd_T92 l0 x24_1).f2) == some .eq) = true := by simpa using c10))
         clear c10
         replace H := Option.bind_eq_some_iff.mp H
         obtain ⟨⟨t236, t237, t238⟩, A110, H⟩ := H
         replace H : (if x9_1.length < 7036874417766 then (impl_Normalized.l0 k1 l0 l1 l2 (x9_1 ++ [(⟨0, (rd_T92 l0 x24_1).f0, (rd_T92 l0 x24_1).f1, (rd_T92 l0 x24_1).f2, 0, 0⟩ : S170)]) l0 (l0.length : Int) (wrap64 (x24_1 + 1)) t236 t237 t238) else (none)) = some (r1, r2) := H
         have A11 := Aside0.mk A110
         clear A110
         by_cases c12 : x9_1.length < 7036874417766
         ·rw [if_pos c12] at H
          have LMc12 := Aside0.mk c12
          clear c12
          obtain ⟨y239, hy239⟩ : ∃ y_ : List (S170), y_ = (x9_1 ++ [(⟨0, (rd_T92 l0 x24_1).f0, (rd_T92 l0 x24_1).f1, (rd_T92 l0 x24_1).f2, 0, 0⟩ : S170)]) := ⟨_, rfl⟩
          replace H : (impl_Normalized.l0 k1 l0 l1 l2 y239 l0 (l0.length : Int) (wrap64 (x24_1 + 1)) t236 t237 t238) = some (r1, r2) := by first | (rw [hy239]; with_reducible exact H) | (have H2_ := (Option.bind_some _ _).symm.trans H; rw [hy239]; with_reducible exact H2_) | (have H2_ := (Option.bind_some _ _).symm.trans H; with_reducible exact H2_) | with_reducible exact H | (rw [hy239]; exact H) | exact H
          have Ny239 := Aside0.mk hy239
          clear hy239
          have H' := Aside0.mk H
          clear H
          have p234 : 0 ≤ (x24_1 : Int) := of_decide_eq_true (by first | (with_reducible assumption) | assumption)
          have q234 : x24_1 < (l0.length : Int) := of_decide_eq_true (by first | (with_reducible assumption) | assumption)
          obtain ⟨ad234, e234, hx234_0, hx234_1, hx234_2⟩ := at_T92 HR0.out x24_1 p234 q234
          cases e234
          replace hx234_0 := (HB.out.cell (World.block_lt_of_cell? w _ hx234_0)).trans hx234_0
          replace hx234_1 := (HB.out.cell (World.block_lt_of_cell? w _ hx234_1)).trans hx234_1
          replace hx234_2 := (HB.out.cell (World.block_lt_of_cell? w _ hx234_2)).trans hx234_2
          replace p234 := eq_true p234
          replace q234 := eq_true q234
          go_wp2_with (first | ((with_reducible refine gate_dst (N := 11) rfl ?_); (try (refine gate_guard (by rfl) ?_; dsimp only)); refine box_event ?hg (N := 11) ?hd (cs := #[.float .f32 0, .float .f32 0, .float .f32 0]) (t := 92) ?hr ?_; (case hd => rfl); (case hg => rfl); (case hr => first | (go_simp; done) | (go_simp; rfl)); intro gb235 hg w13 hbox hb; have n0_ := Aside0.mk (Kd.R_below (by (with_reducible repeat (first | apply Kd.R_alloc | apply Kd.R_drewN | apply Kd.R_drew)); exact HO_9.out) hb); have n1_ := Aside0.mk (blk_below (g := gb233) (o := .cells #[.int .i64 x234000_1, .int .i64 x234001_1, .bool x234002_1] 102 (0, 0)) (by (with_reducible repeat (first | refine b1_ ?_ _ | refine b2_ ?_ | refine b3_ ?_ _)); exact BK233.out) hb); have n2_ := Aside0.mk (below_step (by repeat (first | (with_reducible first | exact HB.out | apply below_alloc | apply pw_below_drewN | apply below_drew1 | refine below_set ?_ GE233.out) | exact HB.out)) hb); have n3_ := Aside0.mk (hbox); have n4_ := Aside0.mk ((by rw [hg]; exact (below_size (by repeat (first | (with_reducible first | exact HB.out | apply below_alloc | apply pw_below_drewN | apply below_drew1 | refine below_set ?_ GE233.out) | exact HB.out))) : w.heap.size ≤ gb235)); have n5_ := Aside0.mk ((by rw [hg]; exact (below_size (by repeat (first | (with_reducible first | exact HB.out | apply below_alloc | apply pw_below_drewN | apply below_drew1 | refine below_set ?_ GE233.out) | exact HB.out))) : w.heap.size ≤ gb235)); have n6_ := Aside0.mk ((by rw [hg]; exact Nat.ne_of_lt (blk_lt (g := gb233) (o := .cells #[.int .i64 x234000_1, .int .i64 x234001_1, .bool x234002_1] 102 (0, 0)) (by (with_reducible repeat (first | refine b1_ ?_ _ | refine b2_ ?_ | refine b3_ ?_ _)); exact BK233.out)) : gb233 ≠ gb235)); have n7_ := Aside0.mk ((by rw [hg]; exact Nat.ne_of_gt (blk_lt (g := gb233) (o := .cells #[.int .i64 x234000_1, .int .i64 x234001_1, .bool x234002_1] 102 (0, 0)) (by (with_reducible repeat (first | refine b1_ ?_ _ | refine b2_ ?_ | refine b3_ ?_ _)); exact BK233.out)) : gb235 ≠ gb233)); clear HO_9; clear BK233; clear HB; have HO_9 := n0_; have BK233 := n1_; have HB := n2_; have BK235 := n3_; have GW235 := n4_; have GE235 := n5_; have NB233_235 := n6_; have NB235_233 := n7_; clear n0_ n1_ n2_ n3_ n4_ n5_ n6_ n7_; clear hb hbox hg; have hnb14 := NB235_233.out; have hnc14 := NB233_235.out; have hcz15_0 : w13.cell? ⟨gb235, 0, none⟩ = some (.float .f32 0) := (blk_cell BK235.out 0).trans rfl; have hcz15_1 : w13.cell? ⟨gb235, 1, none⟩ = some (.float .f32 0) := (blk_cell BK235.out 1).trans rfl; have hcz15_2 : w13.cell? ⟨gb235, 2, none⟩ = some (.float .f32 0) := (blk_cell BK235.out 2).trans rfl; have hfz15_0 := blk_frozen BK235.out 0; have hfz15_1 := blk_frozen BK235.out 1; have hfz15_2 := blk_frozen BK235.out 2) | ((with_reducible refine gate_callee (f := 50) rfl ?_); refine goesL_ (some 51) rfl rfl Try.func50 (by kernel_rfl) rfl #[.pointer (some ⟨gb233, 0, none⟩), .bool (FloatKind.f32.format.order ((rd_T92 l0 x24_1).f2) 1191181824 == some .lt || FloatKind.f32.format.order ((rd_T92 l0 x24_1).f2) 1191181824 == some .eq)] rfl (by (try simp only [List.map_toArray, List.map_cons, List.map_nil]); first | done | rfl | (simp only [List.length_drop, List.length_take]; rfl)) ?_; (with_reducible refine (impl_builder_must.calls gb233 x234000_1 x234001_1 x234002_1 (FloatKind.f32.format.order ((rd_T92 l0 x24_1).f2) 1191181824 == some .lt || FloatKind.f32.format.order ((rd_T92 l0 x24_1).f2) 1191181824 == some .eq) t236 t237 t238 w _ ?side1 ?side2 A11.out).mono ?_); (case side1 => repeat (first | (with_reducible first | exact (Aside0.mk (IsS102.of BK233.out GE233.out)).out | apply IsS102.alloc | apply IsS102.drewN | apply IsS102.drew | apply IsS102.set_0 | apply IsS102.set_1 | apply IsS102.set_2 | refine IsS102.far ?_ NB233_235.out _) | exact (Aside0.mk (IsS102.of BK233.out GE233.out)).out)); (case side2 => repeat (first | (with_reducible first | exact HB.out | apply below_alloc | apply pw_below_drewN | apply below_drew1 | refine below_set ?_ (IsS102.ge (Aside0.mk (IsS102.of BK233.out GE233.out)).out) | refine below_set ?_ GE235.out) | exact HB.out)); rintro e w16 ⟨rfl, hi, hb, hk⟩; refine ⟨_, rfl, ?_⟩; have n0_ := Aside0.mk (Kd.R_mono (Kd.R_keep (IsS102.apart (show IsS102 w _ gb233 x234000_1 x234001_1 x234002_1 from by repeat (first | (with_reducible first | exact (Aside0.mk (IsS102.of BK233.out GE233.out)).out | apply IsS102.alloc | apply IsS102.drewN | apply IsS102.drew | apply IsS102.set_0 | apply IsS102.set_1 | apply IsS102.set_2 | refine IsS102.far ?_ NB233_235.out _) | exact (Aside0.mk (IsS102.of BK233.out GE233.out)).out)) (by (with_reducible repeat (first | apply Kd.R_alloc | apply Kd.R_drewN | apply Kd.R_drew)); exact (Kd.R_mono (Kd.R_far (p := ⟨gb235, 2, none⟩) (Kd.R_far (p := ⟨gb235, 1, none⟩) (Kd.R_far (p := ⟨gb235, 0, none⟩) (Kd.R_types HO_9.out BK235.out (by decide)) (fun _ hk => hk.2) (.float .f32 ((rd_T92 l0 x24_1).f0))) (fun _ hk => hk.2) (.float .f32 ((rd_T92 l0 x24_1).f1))) (fun _ hk => hk.2) (.float .f32 ((rd_T92 l0 x24_1).f2))) (fun _ h_ => h_.1))) (by decide)) hk (fun _ h => h.2)) (fun _ h => h.1)); have n1_ := Aside0.mk (KeepBut.blk hk (g' := gb235) (o := .cells #[.float .f32 ((rd_T92 l0 x24_1).f0), .float .f32 ((rd_T92 l0 x24_1).f1), .float .f32 ((rd_T92 l0 x24_1).f2)] 92 (0, 0)) (by (with_reducible repeat (first | refine b1_ ?_ _ | refine b2_ ?_ | refine b3_ ?_ _)); refine blk_put (cs := #[.float .f32 ((rd_T92 l0 x24_1).f0), .float .f32 ((rd_T92 l0 x24_1).f1), .float .f32 0]) ?_ 2 _ rfl; (with_reducible repeat (first | refine b1_ ?_ _ | refine b2_ ?_ | refine b3_ ?_ _)); refine blk_put (cs := #[.float .f32 ((rd_T92 l0 x24_1).f0), .float .f32 0, .float .f32 0]) ?_ 1 _ rfl; (with_reducible repeat (first | refine b1_ ?_ _ | refine b2_ ?_ | refine b3_ ?_ _)); refine blk_put (cs := #[.float .f32 0, .float .f32 0, .float .f32 0]) ?_ 0 _ rfl; (with_reducible repeat (first | refine b1_ ?_ _ | refine b2_ ?_ | refine b3_ ?_ _)); exact BK235.out) NB235_233.out (by simp)); have n2_ := Aside0.mk (hb); have n3_ := Aside0.mk (IsS102.cells hi); clear HO_9; clear BK235; clear HB; clear BK233; have HO_9 := n0_; have BK235 := n1_; have HB := n2_; have BK233 := n3_; clear n0_ n1_ n2_ n3_; (try clear hb); (try clear hb2); (try clear hk); (try clear hi); have hcz17_0 : w16.cell? ⟨gb235, 0, none⟩ = some (.float .f32 ((rd_T92 l0 x24_1).f0)) := (blk_cell BK235.out 0).trans rfl; have hcz17_1 : w16.cell? ⟨gb235, 1, none⟩ = some (.float .f32 ((rd_T92 l0 x24_1).f1)) := (blk_cell BK235.out 1).trans rfl; have hcz17_2 : w16.cell? ⟨gb235, 2, none⟩ = some (.float .f32 ((rd_T92 l0 x24_1).f2)) := (blk_cell BK235.out 2).trans rfl; have hfz17_0 := blk_frozen BK235.out 0; have hfz17_1 := blk_frozen BK235.out 1; have hfz17_2 := blk_frozen BK235.out 2) | ((with_reducible refine gate_builtin (b := .append) (xs := #[.tmp 52, .tmp 60]) rfl ?_); (try (refine gate_guard (by rfl) ?_; dsimp only)); at_builtin; refine Kd.R_append k170 (w0 := w) w.heap.size rfl (.tmp 52) (.tmp 60) 165 170 (.agg #[(.int .u32 0), (.float .f32 0), (.float .f32 0), (.float .f32 0), (.int .u16 0), (.int .u16 0)]) 20 rfl Try.underlying165 info170 rfl (by decide) (by omega) u9 x9_1 (⟨0, (rd_T92 l0 x24_1).f0, (rd_T92 l0 x24_1).f1, (rd_T92 l0 x24_1).f2, 0, 0⟩ : S170) [.int .u32 0, .float .f32 ((rd_T92 l0 x24_1).f0), .float .f32 ((rd_T92 l0 x24_1).f1), .float .f32 ((rd_T92 l0 x24_1).f2), .int .u16 0, .int .u16 0] (fun _ => True) (fun _ => False) rfl rfl ?aP (fun _ hk => hk.elim) ?aF ?aO ?aB ?aS ?aL ?_; (case aP => exact k170_mkM _ _ _ (⟨0, (rd_T92 l0 x24_1).f0, (rd_T92 l0 x24_1).f1, (rd_T92 l0 x24_1).f2, 0, 0⟩ : S170)); (case aB => exact (by repeat (first | (with_reducible first | exact HB.out | apply below_alloc | apply pw_below_drewN | apply below_drew1 | refine below_set ?_ GE233.out | refine below_set ?_ GE235.out) | exact HB.out))); (case aF => exact (fun _ _ => trivial)); (case aO => exact (by (with_reducible repeat (first | apply Kd.R_alloc | apply Kd.R_drewN | apply Kd.R_drew)); exact HO_9.out)); (case aS => exact (below_size (by repeat (first | (with_reducible first | exact HB.out | apply below_alloc | apply pw_below_drewN | apply below_drew1 | refine below_set ?_ GE233.out | refine below_set ?_ GE235.out) | exact HB.out)))); (case aL => have := LMc12.out; omega); intro v240 w18 ho hb hg hat; rw [← Ny239.out] at ho; have n0_ := Aside0.mk (blk_grown (g := gb233) (o := .cells #[.int .i64 t236, .int .i64 t237, .bool t238] 102 (0, 0)) (by (with_reducible repeat (first | refine b1_ ?_ _ | refine b2_ ?_ | refine b3_ ?_ _)); exact BK233.out) hg (Kd.R_ne HO_9.out BK233.out (by decide))); have n1_ := Aside0.mk (blk_grown (g := gb235) (o := .cells #[.float .f32 ((rd_T92 l0 x24_1).f0), .float .f32 ((rd_T92 l0 x24_1).f1), .float .f32 ((rd_T92 l0 x24_1).f2)] 92 (0, 0)) (by (with_reducible repeat (first | refine b1_ ?_ _ | refine b2_ ?_ | refine b3_ ?_ _)); exact BK235.out) hg (Kd.R_ne HO_9.out BK235.out (by decide))); have n2_ := Aside0.mk (hb); have n3_ := Aside0.mk (ho); clear BK233; clear BK235; clear HB; clear HO_9; have BK233 := n0_; have BK235 := n1_; have HB := n2_; have HO241 := n3_; clear n0_ n1_ n2_ n3_; clear ho hb hg hat))
          go_roundg k1
          case measure => have := HK1.out; omega
          case rel => exact ⟨(y239), (wrap64 (x24_1 + 1)), (t236), (t237), (t238), (by first | rfl | (simp; done) | (simp [*]; done)), H', ⟨by have := HK1.out; omega⟩, ⟨by (with_reducible repeat (first | apply Kd.R_alloc | apply Kd.R_drewN | apply Kd.R_drew)); exact HO241.out⟩, ⟨by (with_reducible repeat (first | refine b1_ ?_ _ | refine b2_ ?_ | refine b3_ ?_ _)); exact BK233.out⟩, ⟨by repeat (first | (with_reducible first | exact HB.out | apply below_alloc | apply pw_below_drewN | apply below_drew1 | refine below_set ?_ GE233.out | refine below_set ?_ GE235.out) | exact HB.out)⟩⟩
         ·rw [if_neg c12] at H
          exact absurd H (by simp)
        ·rw [if_neg c10] at H
         have c10b0 : (FloatKind.f32.format.order ((rd_T92 l0 x24_1).f1) ((rd_T92 l0 x24_1).f2) == some .lt || FloatKind.f32.format.order ((rd_T92 l0 x24_1).f1) ((rd_T92 l0 x24_1).f2) == some .eq) = false := by simpa using c10
         (try (have c10b1 : decide (FloatKind.f32.format.order ((rd_T92 l0 x24_1).f1) ((rd_T92 l0 x24_1).f2) = some .lt || FloatKind.f32.format.order ((rd_T92 l0 x24_1).f1) ((rd_T92 l0 x24_1).f2) == some .eq) = false := by simpa using c10))
         (try (have c10b2 : (FloatKind.f32.format.order ((rd_T92 l0 x24_1).f1) ((rd_T92 l0 x24_1).f2) == some .lt || FloatKind.f32.format.order ((rd_T92 l0 x24_1).f1) ((rd_T92 l0 x24_1).f2) == some .eq) = false := by simpa using c10))
         (try (have c10b3 : ¬ (FloatKind.f32.format.order ((rd_T92 l0 x24_1).f1) ((rd_T92 l0 x24_1).f2) = some .lt || FloatKind.f32.format.order ((rd_T92 l0 x24_1).f1) ((rd_T92 l0 x24_1).f2) == some .eq) := by simpa using c10))
         clear c10
         replace H := Option.bind_eq_some_iff.mp H
         obtain ⟨⟨t242, t243, t244⟩, A190, H⟩ := H
         replace H : (if x9_1.length < 7036874417766 then (impl_Normalized.l0 k1 l0 l1 l2 (x9_1 ++ [(⟨0, (rd_T92 l0 x24_1).f0, (rd_T92 l0 x24_1).f1, (rd_T92 l0 x24_1).f2, 0, 0⟩ : S170)]) l0 (l0.length : Int) (wrap64 (x24_1 + 1)) t242 t243 t244) else (none)) = some (r1, r2) := H
         have A19 := Aside0.mk A190
         clear A190
         by_cases c20 : x9_1.length < 7036874417766
         ·rw [if_pos c20] at H
          have LMc20 := Aside0.mk c20
          clear c20
          obtain ⟨y245, hy245⟩ : ∃ y_ : List (S170), y_ = (x9_1 ++ [(⟨0, (rd_T92 l0 x24_1).f0, (rd_T92 l0 x24_1).f1, (rd_T92 l0 x24_1).f2, 0, 0⟩ : S170)]) := ⟨_, rfl⟩
          replace H : (impl_Normalized.l0 k1 l0 l1 l2 y245 l0 (l0.length : Int) (wrap64 (x24_1 + 1)) t242 t243 t244) = some (r1, r2) := by first | (rw [hy245]; with_reducible exact H) | (have H2_ := (Option.bind_some _ _).symm.trans H; rw [hy245]; with_reducible exact H2_) | (have H2_ := (Option.bind_some _ _).symm.trans H; with_reducible exact H2_) | with_reducible exact H | (rw [hy245]; exact H) | exact H
          have Ny245 := Aside0.mk hy245
          clear hy245
          have H' := Aside0.mk H
          clear H
          have p234 : 0 ≤ (x24_1 : Int) := of_decide_eq_true (by first | (with_reducible assumption) | assumption)
          have q234 : x24_1 < (l0.length : Int) := of_decide_eq_true (by first | (with_reducible assumption) | assumption)
          obtain ⟨ad234, e234, hx234_0, hx234_1, hx234_2⟩ := at_T92 HR0.out x24_1 p234 q234
          cases e234
          replace hx234_0 := (HB.out.cell (World.block_lt_of_cell? w _ hx234_0)).trans hx234_0
          replace hx234_1 := (HB.out.cell (World.block_lt_of_cell? w _ hx234_1)).trans hx234_1
          replace hx234_2 := (HB.out.cell (World.block_lt_of_cell? w _ hx234_2)).trans hx234_2
          replace p234 := eq_true p234
          replace q234 := eq_true q234
          go_wp2_with (first | ((with_reducible refine gate_dst (N := 11) rfl ?_); (try (refine gate_guard (by rfl) ?_; dsimp only)); refine box_event ?hg (N := 11) ?hd (cs := #[.float .f32 0, .float .f32 0, .float .f32 0]) (t := 92) ?hr ?_; (case hd => rfl); (case hg => rfl); (case hr => first | (go_simp; done) | (go_simp; rfl)); intro gb235 hg w21 hbox hb; have n0_ := Aside0.mk (Kd.R_below (by (with_reducible repeat (first | apply Kd.R_alloc | apply Kd.R_drewN | apply Kd.R_drew)); exact HO_9.out) hb); have n1_ := Aside0.mk (blk_below (g := gb233) (o := .cells #[.int .i64 x234000_1, .int .i64 x234001_1, .bool x234002_1] 102 (0, 0)) (by (with_reducible repeat (first | refine b1_ ?_ _ | refine b2_ ?_ | refine b3_ ?_ _)); exact BK233.out) hb); have n2_ := Aside0.mk (below_step (by repeat (first | (with_reducible first | exact HB.out | apply below_alloc | apply pw_below_drewN | apply below_drew1 | refine below_set ?_ GE233.out) | exact HB.out)) hb); have n3_ := Aside0.mk (hbox); have n4_ := Aside0.mk ((by rw [hg]; exact (below_size (by repeat (first | (with_reducible first | exact HB.out | apply below_alloc | apply pw_below_drewN | apply below_drew1 | refine below_set ?_ GE233.out) | exact HB.out))) : w.heap.size ≤ gb235)); have n5_ := Aside0.mk ((by rw [hg]; exact (below_size (by repeat (first | (with_reducible first | exact HB.out | apply below_alloc | apply pw_below_drewN | apply below_drew1 | refine below_set ?_ GE233.out) | exact HB.out))) : w.heap.size ≤ gb235)); have n6_ := Aside0.mk ((by rw [hg]; exact Nat.ne_of_lt (blk_lt (g := gb233) (o := .cells #[.int .i64 x234000_1, .int .i64 x234001_1, .bool x234002_1] 102 (0, 0)) (by (with_reducible repeat (first | refine b1_ ?_ _ | refine b2_ ?_ | refine b3_ ?_ _)); exact BK233.out)) : gb233 ≠ gb235)); have n7_ := Aside0.mk ((by rw [hg]; exact Nat.ne_of_gt (blk_lt (g := gb233) (o := .cells #[.int .i64 x234000_1, .int .i64 x234001_1, .bool x234002_1] 102 (0, 0)) (by (with_reducible repeat (first | refine b1_ ?_ _ | refine b2_ ?_ | refine b3_ ?_ _)); exact BK233.out)) : gb235 ≠ gb233)); clear HO_9; clear BK233; clear HB; have HO_9 := n0_; have BK233 := n1_; have HB := n2_; have BK235 := n3_; have GW235 := n4_; have GE235 := n5_; have NB233_235 := n6_; have NB235_233 := n7_; clear n0_ n1_ n2_ n3_ n4_ n5_ n6_ n7_; clear hb hbox hg; have hnb22 := NB235_233.out; have hnc22 := NB233_235.out; have hcz23_0 : w21.cell? ⟨gb235, 0, none⟩ = some (.float .f32 0) := (blk_cell BK235.out 0).trans rfl; have hcz23_1 : w21.cell? ⟨gb235, 1, none⟩ = some (.float .f32 0) := (blk_cell BK235.out 1).trans rfl; have hcz23_2 : w21.cell? ⟨gb235, 2, none⟩ = some (.float .f32 0) := (blk_cell BK235.out 2).trans rfl; have hfz23_0 := blk_frozen BK235.out 0; have hfz23_1 := blk_frozen BK235.out 1; have hfz23_2 := blk_frozen BK235.out 2) | ((with_reducible refine gate_callee (f := 50) rfl ?_); refine goesL_ (some 51) rfl rfl Try.func50 (by kernel_rfl) rfl #[.pointer (some ⟨gb233, 0, none⟩), .bool false] rfl (by (try simp only [List.map_toArray, List.map_cons, List.map_nil]); first | done | rfl | (simp only [List.length_drop, List.length_take]; rfl)) ?_; (with_reducible refine (impl_builder_must.calls gb233 x234000_1 x234001_1 x234002_1 false t242 t243 t244 w _ ?side1 ?side2 A19.out).mono ?_); (case side1 => repeat (first | (with_reducible first | exact (Aside0.mk (IsS102.of BK233.out GE233.out)).out | apply IsS102.alloc | apply IsS102.drewN | apply IsS102.drew | apply IsS102.set_0 | apply IsS102.set_1 | apply IsS102.set_2 | refine IsS102.far ?_ NB233_235.out _) | exact (Aside0.mk (IsS102.of BK233.out GE233.out)).out)); (case side2 => repeat (first | (with_reducible first | exact HB.out | apply below_alloc | apply pw_below_drewN | apply below_drew1 | refine below_set ?_ (IsS102.ge (Aside0.mk (IsS102.of BK233.out GE233.out)).out) | refine below_set ?_ GE235.out) | exact HB.out)); rintro e w24 ⟨rfl, hi, hb, hk⟩; refine ⟨_, rfl, ?_⟩; have n0_ := Aside0.mk (Kd.R_mono (Kd.R_keep (IsS102.apart (show IsS102 w _ gb233 x234000_1 x234001_1 x234002_1 from by repeat (first | (with_reducible first | exact (Aside0.mk (IsS102.of BK233.out GE233.out)).out | apply IsS102.alloc | apply IsS102.drewN | apply IsS102.drew | apply IsS102.set_0 | apply IsS102.set_1 | apply IsS102.set_2 | refine IsS102.far ?_ NB233_235.out _) | exact (Aside0.mk (IsS102.of BK233.out GE233.out)).out)) (by (with_reducible repeat (first | apply Kd.R_alloc | apply Kd.R_drewN | apply Kd.R_drew)); exact (Kd.R_mono (Kd.R_far (p := ⟨gb235, 2, none⟩) (Kd.R_far (p := ⟨gb235, 1, none⟩) (Kd.R_far (p := ⟨gb235, 0, none⟩) (Kd.R_types HO_9.out BK235.out (by decide)) (fun _ hk => hk.2) (.float .f32 ((rd_T92 l0 x24_1).f0))) (fun _ hk => hk.2) (.float .f32 ((rd_T92 l0 x24_1).f1))) (fun _ hk => hk.2) (.float .f32 ((rd_T92 l0 x24_1).f2))) (fun _ h_ => h_.1))) (by decide)) hk (fun _ h => h.2)) (fun _ h => h.1)); have n1_ := Aside0.mk (KeepBut.blk hk (g' := gb235) (o := .cells #[.float .f32 ((rd_T92 l0 x24_1).f0), .float .f32 ((rd_T92 l0 x24_1).f1), .float .f32 ((rd_T92 l0 x24_1).f2)] 92 (0, 0)) (by (with_reducible repeat (first | refine b1_ ?_ _ | refine b2_ ?_ | refine b3_ ?_ _)); refine blk_put (cs := #[.float .f32 ((rd_T92 l0 x24_1).f0), .float .f32 ((rd_T92 l0 x24_1).f1), .float .f32 0]) ?_ 2 _ rfl; (with_reducible repeat (first | refine b1_ ?_ _ | refine b2_ ?_ | refine b3_ ?_ _)); refine blk_put (cs := #[.float .f32 ((rd_T92 l0 x24_1).f0), .float .f32 0, .float .f32 0]) ?_ 1 _ rfl; (with_reducible repeat (first | refine b1_ ?_ _ | refine b2_ ?_ | refine b3_ ?_ _)); refine blk_put (cs := #[.float .f32 0, .float .f32 0, .float .f32 0]) ?_ 0 _ rfl; (with_reducible repeat (first | refine b1_ ?_ _ | refine b2_ ?_ | refine b3_ ?_ _)); exact BK235.out) NB235_233.out (by simp)); have n2_ := Aside0.mk (hb); have n3_ := Aside0.mk (IsS102.cells hi); clear HO_9; clear BK235; clear HB; clear BK233; have HO_9 := n0_; have BK235 := n1_; have HB := n2_; have BK233 := n3_; clear n0_ n1_ n2_ n3_; (try clear hb); (try clear hb2); (try clear hk); (try clear hi); have hcz25_0 : w24.cell? ⟨gb235, 0, none⟩ = some (.float .f32 ((rd_T92 l0 x24_1).f0)) := (blk_cell BK235.out 0).trans rfl; have hcz25_1 : w24.cell? ⟨gb235, 1, none⟩ = some (.float .f32 ((rd_T92 l0 x24_1).f1)) := (blk_cell BK235.out 1).trans rfl; have hcz25_2 : w24.cell? ⟨gb235, 2, none⟩ = some (.float .f32 ((rd_T92 l0 x24_1).f2)) := (blk_cell BK235.out 2).trans rfl; have hfz25_0 := blk_frozen BK235.out 0; have hfz25_1 := blk_frozen BK235.out 1; have hfz25_2 := blk_frozen BK235.out 2) | ((with_reducible refine gate_builtin (b := .append) (xs := #[.tmp 52, .tmp 60]) rfl ?_); (try (refine gate_guard (by rfl) ?_; dsimp only)); at_builtin; refine Kd.R_append k170 (w0 := w) w.heap.size rfl (.tmp 52) (.tmp 60) 165 170 (.agg #[(.int .u32 0), (.float .f32 0), (.float .f32 0), (.float .f32 0), (.int .u16 0), (.int .u16 0)]) 20 rfl Try.underlying165 info170 rfl (by decide) (by omega) u9 x9_1 (⟨0, (rd_T92 l0 x24_1).f0, (rd_T92 l0 x24_1).f1, (rd_T92 l0 x24_1).f2, 0, 0⟩ : S170) [.int .u32 0, .float .f32 ((rd_T92 l0 x24_1).f0), .float .f32 ((rd_T92 l0 x24_1).f1), .float .f32 ((rd_T92 l0 x24_1).f2), .int .u16 0, .int .u16 0] (fun _ => True) (fun _ => False) rfl rfl ?aP (fun _ hk => hk.elim) ?aF ?aO ?aB ?aS ?aL ?_; (case aP => exact k170_mkM _ _ _ (⟨0, (rd_T92 l0 x24_1).f0, (rd_T92 l0 x24_1).f1, (rd_T92 l0 x24_1).f2, 0, 0⟩ : S170)); (case aB => exact (by repeat (first | (with_reducible first | exact HB.out | apply below_alloc | apply pw_below_drewN | apply below_drew1 | refine below_set ?_ GE233.out | refine below_set ?_ GE235.out) | exact HB.out))); (case aF => exact (fun _ _ => trivial)); (case aO => exact (by (with_reducible repeat (first | apply Kd.R_alloc | apply Kd.R_drewN | apply Kd.R_drew)); exact HO_9.out)); (case aS => exact (below_size (by repeat (first | (with_reducible first | exact HB.out | apply below_alloc | apply pw_below_drewN | apply below_drew1 | refine below_set ?_ GE233.out | refine below_set ?_ GE235.out) | exact HB.out)))); (case aL => have := LMc20.out; omega); intro v246 w26 ho hb hg hat; rw [← Ny245.out] at ho; have n0_ := Aside0.mk (blk_grown (g := gb233) (o := .cells #[.int .i64 t242, .int .i64 t243, .bool t244] 102 (0, 0)) (by (with_reducible repeat (first | refine b1_ ?_ _ | refine b2_ ?_ | refine b3_ ?_ _)); exact BK233.out) hg (Kd.R_ne HO_9.out BK233.out (by decide))); have n1_ := Aside0.mk (blk_grown (g := gb235) (o := .cells #[.float .f32 ((rd_T92 l0 x24_1).f0), .float .f32 ((rd_T92 l0 x24_1).f1), .float .f32 ((rd_T92 l0 x24_1).f2)] 92 (0, 0)) (by (with_reducible repeat (first | refine b1_ ?_ _ | refine b2_ ?_ | refine b3_ ?_ _)); exact BK235.out) hg (Kd.R_ne HO_9.out BK235.out (by decide))); have n2_ := Aside0.mk (hb); have n3_ := Aside0.mk (ho); clear BK233; clear BK235; clear HB; clear HO_9; have BK233 := n0_; have BK235 := n1_; have HB := n2_; have HO247 := n3_; clear n0_ n1_ n2_ n3_; clear ho hb hg hat))
          go_roundg k1
          case measure => have := HK1.out; omega
          case rel => exact ⟨(y245), (wrap64 (x24_1 + 1)), (t242), (t243), (t244), (by first | rfl | (simp; done) | (simp [*]; done)), H', ⟨by have := HK1.out; omega⟩, ⟨by (with_reducible repeat (first | apply Kd.R_alloc | apply Kd.R_drewN | apply Kd.R_drew)); exact HO247.out⟩, ⟨by (with_reducible repeat (first | refine b1_ ?_ _ | refine b2_ ?_ | refine b3_ ?_ _)); exact BK233.out⟩, ⟨by repeat (first | (with_reducible first | exact HB.out | apply below_alloc | apply pw_below_drewN | apply below_drew1 | refine below_set ?_ GE233.out | refine below_set ?_ GE235.out) | exact HB.out)⟩⟩
         ·rw [if_neg c20] at H
          exact absurd H (by simp)
       ·rw [if_neg c9] at H
        have c9b0 : (FloatKind.f32.format.order ((rd_T92 l0 x24_1).f0) ((rd_T92 l0 x24_1).f1) == some .lt || FloatKind.f32.format.order ((rd_T92 l0 x24_1).f0) ((rd_T92 l0 x24_1).f1) == some .eq) = false := by simpa using c9
        (try (have c9b1 : decide (FloatKind.f32.format.order ((rd_T92 l0 x24_1).f0) ((rd_T92 l0 x24_1).f1) = some .lt || FloatKind.f32.format.order ((rd_T92 l0 x24_1).f0) ((rd_T92 l0 x24_1).f1) == some .eq) = false := by simpa using c9))
        (try (have c9b2 : (FloatKind.f32.format.order ((rd_T92 l0 x24_1).f0) ((rd_T92 l0 x24_1).f1) == some .lt || FloatKind.f32.format.order ((rd_T92 l0 x24_1).f0) ((rd_T92 l0 x24_1).f1) == some .eq) = false := by simpa using c9))
        (try (have c9b3 : ¬ (FloatKind.f32.format.order ((rd_T92 l0 x24_1).f0) ((rd_T92 l0 x24_1).f1) = some .lt || FloatKind.f32.format.order ((rd_T92 l0 x24_1).f0) ((rd_T92 l0 x24_1).f1) == some .eq) := by simpa using c9))
        clear c9
        replace H := Option.bind_eq_some_iff.mp H
        obtain ⟨⟨t248, t249, t250⟩, A270, H⟩ := H
        replace H : (if x9_1.length < 7036874417766 then (impl_Normalized.l0 k1 l0 l1 l2 (x9_1 ++ [(⟨0, (rd_T92 l0 x24_1).f0, (rd_T92 l0 x24_1).f1, (rd_T92 l0 x24_1).f2, 0, 0⟩ : S170)]) l0 (l0.length : Int) (wrap64 (x24_1 + 1)) t248 t249 t250) else (none)) = some (r1, r2) := H
        have A27 := Aside0.mk A270
        clear A270
        by_cases c28 : x9_1.length < 7036874417766
        ·rw [if_pos c28] at H
         have LMc28 := Aside0.mk c28
         clear c28
         obtain ⟨y251, hy251⟩ : ∃ y_ : List (S170), y_ = (x9_1 ++ [(⟨0, (rd_T92 l0 x24_1).f0, (rd_T92 l0 x24_1).f1, (rd_T92 l0 x24_1).f2, 0, 0⟩ : S170)]) := ⟨_, rfl⟩
         replace H : (impl_Normalized.l0 k1 l0 l1 l2 y251 l0 (l0.length : Int) (wrap64 (x24_1 + 1)) t248 t249 t250) = some (r1, r2) := by first | (rw [hy251]; with_reducible exact H) | (have H2_ := (Option.bind_some _ _).symm.trans H; rw [hy251]; with_reducible exact H2_) | (have H2_ := (Option.bind_some _ _).symm.trans H; with_reducible exact H2_) | with_reducible exact H | (rw [hy251]; exact H) | exact H
         have Ny251 := Aside0.mk hy251
         clear hy251
         have H' := Aside0.mk H
         clear H
         have p234 : 0 ≤ (x24_1 : Int) := of_decide_eq_true (by first | (with_reducible assumption) | assumption)
         have q234 : x24_1 < (l0.length : Int) := of_decide_eq_true (by first | (with_reducible assumption) | assumption)
         obtain ⟨ad234, e234, hx234_0, hx234_1, hx234_2⟩ := at_T92 HR0.out x24_1 p234 q234
         cases e234
         replace hx234_0 := (HB.out.cell (World.block_lt_of_cell? w _ hx234_0)).trans hx234_0
         replace hx234_1 := (HB.out.cell (World.block_lt_of_cell? w _ hx234_1)).trans hx234_1
         replace hx234_2 := (HB.out.cell (World.block_lt_of_cell? w _ hx234_2)).trans hx234_2
         replace p234 := eq_true p234
         replace q234 := eq_true q234
         go_wp2_with (first | ((with_reducible refine gate_dst (N := 11) rfl ?_); (try (refine gate_guard (by rfl) ?_; dsimp only)); refine box_event ?hg (N := 11) ?hd (cs := #[.float .f32 0, .float .f32 0, .float .f32 0]) (t := 92) ?hr ?_; (case hd => rfl); (case hg => rfl); (case hr => first | (go_simp; done) | (go_simp; rfl)); intro gb235 hg w29 hbox hb; have n0_ := Aside0.mk (Kd.R_below (by (with_reducible repeat (first | apply Kd.R_alloc | apply Kd.R_drewN | apply Kd.R_drew)); exact HO_9.out) hb); have n1_ := Aside0.mk (blk_below (g := gb233) (o := .cells #[.int .i64 x234000_1, .int .i64 x234001_1, .bool x234002_1] 102 (0, 0)) (by (with_reducible repeat (first | refine b1_ ?_ _ | refine b2_ ?_ | refine b3_ ?_ _)); exact BK233.out) hb); have n2_ := Aside0.mk (below_step (by repeat (first | (with_reducible first | exact HB.out | apply below_alloc | apply pw_below_drewN | apply below_drew1 | refine below_set ?_ GE233.out) | exact HB.out)) hb); have n3_ := Aside0.mk (hbox); have n4_ := Aside0.mk ((by rw [hg]; exact (below_size (by repeat (first | (with_reducible first | exact HB.out | apply below_alloc | apply pw_below_drewN | apply below_drew1 | refine below_set ?_ GE233.out) | exact HB.out))) : w.heap.size ≤ gb235)); have n5_ := Aside0.mk ((by rw [hg]; exact (below_size (by repeat (first | (with_reducible first | exact HB.out | apply below_alloc | apply pw_below_drewN | apply below_drew1 | refine below_set ?_ GE233.out) | exact HB.out))) : w.heap.size ≤ gb235)); have n6_ := Aside0.mk ((by rw [hg]; exact Nat.ne_of_lt (blk_lt (g := gb233) (o := .cells #[.int .i64 x234000_1, .int .i64 x234001_1, .bool x234002_1] 102 (0, 0)) (by (with_reducible repeat (first | refine b1_ ?_ _ | refine b2_ ?_ | refine b3_ ?_ _)); exact BK233.out)) : gb233 ≠ gb235)); have n7_ := Aside0.mk ((by rw [hg]; exact Nat.ne_of_gt (blk_lt (g := gb233) (o := .cells #[.int .i64 x234000_1, .int .i64 x234001_1, .bool x234002_1] 102 (0, 0)) (by (with_reducible repeat (first | refine b1_ ?_ _ | refine b2_ ?_ | refine b3_ ?_ _)); exact BK233.out)) : gb235 ≠ gb233)); clear HO_9; clear BK233; clear HB; have HO_9 := n0_; have BK233 := n1_; have HB := n2_; have BK235 := n3_; have GW235 := n4_; have GE235 := n5_; have NB233_235 := n6_; have NB235_233 := n7_; clear n0_ n1_ n2_ n3_ n4_ n5_ n6_ n7_; clear hb hbox hg; have hnb30 := NB235_233.out; have hnc30 := NB233_235.out; have hcz31_0 : w29.cell? ⟨gb235, 0, none⟩ = some (.float .f32 0) := (blk_cell BK235.out 0).trans rfl; have hcz31_1 : w29.cell? ⟨gb235, 1, none⟩ = some (.float .f32 0) := (blk_cell BK235.out 1).trans rfl; have hcz31_2 : w29.cell? ⟨gb235, 2, none⟩ = some (.float .f32 0) := (blk_cell BK235.out 2).trans rfl; have hfz31_0 := blk_frozen BK235.out 0; have hfz31_1 := blk_frozen BK235.out 1; have hfz31_2 := blk_frozen BK235.out 2) | ((with_reducible refine gate_callee (f := 50) rfl ?_); refine goesL_ (some 51) rfl rfl Try.func50 (by kernel_rfl) rfl #[.pointer (some ⟨gb233, 0, none⟩), .bool false] rfl (by (try simp only [List.map_toArray, List.map_cons, List.map_nil]); first | done | rfl | (simp only [List.length_drop, List.length_take]; rfl)) ?_; (with_reducible refine (impl_builder_must.calls gb233 x234000_1 x234001_1 x234002_1 false t248 t249 t250 w _ ?side1 ?side2 A27.out).mono ?_); (case side1 => repeat (first | (with_reducible first | exact (Aside0.mk (IsS102.of BK233.out GE233.out)).out | apply IsS102.alloc | apply IsS102.drewN | apply IsS102.drew | apply IsS102.set_0 | apply IsS102.set_1 | apply IsS102.set_2 | refine IsS102.far ?_ NB233_235.out _) | exact (Aside0.mk (IsS102.of BK233.out GE233.out)).out)); (case side2 => repeat (first | (with_reducible first | exact HB.out | apply below_alloc | apply pw_below_drewN | apply below_drew1 | refine below_set ?_ (IsS102.ge (Aside0.mk (IsS102.of BK233.out GE233.out)).out) | refine below_set ?_ GE235.out) | exact HB.out)); rintro e w32 ⟨rfl, hi, hb, hk⟩; refine ⟨_, rfl, ?_⟩; have n0_ := Aside0.mk (Kd.R_mono (Kd.R_keep (IsS102.apart (show IsS102 w _ gb233 x234000_1 x234001_1 x234002_1 from by repeat (first | (with_reducible first | exact (Aside0.mk (IsS102.of BK233.out GE233.out)).out | apply IsS102.alloc | apply IsS102.drewN | apply IsS102.drew | apply IsS102.set_0 | apply IsS102.set_1 | apply IsS102.set_2 | refine IsS102.far ?_ NB233_235.out _) | exact (Aside0.mk (IsS102.of BK233.out GE233.out)).out)) (by (with_reducible repeat (first | apply Kd.R_alloc | apply Kd.R_drewN | apply Kd.R_drew)); exact (Kd.R_mono (Kd.R_far (p := ⟨gb235, 2, none⟩) (Kd.R_far (p := ⟨gb235, 1, none⟩) (Kd.R_far (p := ⟨gb235, 0, none⟩) (Kd.R_types HO_9.out BK235.out (by decide)) (fun _ hk => hk.2) (.float .f32 ((rd_T92 l0 x24_1).f0))) (fun _ hk => hk.2) (.float .f32 ((rd_T92 l0 x24_1).f1))) (fun _ hk => hk.2) (.float .f32 ((rd_T92 l0 x24_1).f2))) (fun _ h_ => h_.1))) (by decide)) hk (fun _ h => h.2)) (fun _ h => h.1)); have n1_ := Aside0.mk (KeepBut.blk hk (g' := gb235) (o := .cells #[.float .f32 ((rd_T92 l0 x24_1).f0), .float .f32 ((rd_T92 l0 x24_1).f1), .float .f32 ((rd_T92 l0 x24_1).f2)] 92 (0, 0)) (by (with_reducible repeat (first | refine b1_ ?_ _ | refine b2_ ?_ | refine b3_ ?_ _)); refine blk_put (cs := #[.float .f32 ((rd_T92 l0 x24_1).f0), .float .f32 ((rd_T92 l0 x24_1).f1), .float .f32 0]) ?_ 2 _ rfl; (with_reducible repeat (first | refine b1_ ?_ _ | refine b2_ ?_ | refine b3_ ?_ _)); refine blk_put (cs := #[.float .f32 ((rd_T92 l0 x24_1).f0), .float .f32 0, .float .f32 0]) ?_ 1 _ rfl; (with_reducible repeat (first | refine b1_ ?_ _ | refine b2_ ?_ | refine b3_ ?_ _)); refine blk_put (cs := #[.float .f32 0, .float .f32 0, .float .f32 0]) ?_ 0 _ rfl; (with_reducible repeat (first | refine b1_ ?_ _ | refine b2_ ?_ | refine b3_ ?_ _)); exact BK235.out) NB235_233.out (by simp)); have n2_ := Aside0.mk (hb); have n3_ := Aside0.mk (IsS102.cells hi); clear HO_9; clear BK235; clear HB; clear BK233; have HO_9 := n0_; have BK235 := n1_; have HB := n2_; have BK233 := n3_; clear n0_ n1_ n2_ n3_; (try clear hb); (try clear hb2); (try clear hk); (try clear hi); have hcz33_0 : w32.cell? ⟨gb235, 0, none⟩ = some (.float .f32 ((rd_T92 l0 x24_1).f0)) := (blk_cell BK235.out 0).trans rfl; have hcz33_1 : w32.cell? ⟨gb235, 1, none⟩ = some (.float .f32 ((rd_T92 l0 x24_1).f1)) := (blk_cell BK235.out 1).trans rfl; have hcz33_2 : w32.cell? ⟨gb235, 2, none⟩ = some (.float .f32 ((rd_T92 l0 x24_1).f2)) := (blk_cell BK235.out 2).trans rfl; have hfz33_0 := blk_frozen BK235.out 0; have hfz33_1 := blk_frozen BK235.out 1; have hfz33_2 := blk_frozen BK235.out 2) | ((with_reducible refine gate_builtin (b := .append) (xs := #[.tmp 52, .tmp 60]) rfl ?_); (try (refine gate_guard (by rfl) ?_; dsimp only)); at_builtin; refine Kd.R_append k170 (w0 := w) w.heap.size rfl (.tmp 52) (.tmp 60) 165 170 (.agg #[(.int .u32 0), (.float .f32 0), (.float .f32 0), (.float .f32 0), (.int .u16 0), (.int .u16 0)]) 20 rfl Try.underlying165 info170 rfl (by decide) (by omega) u9 x9_1 (⟨0, (rd_T92 l0 x24_1).f0, (rd_T92 l0 x24_1).f1, (rd_T92 l0 x24_1).f2, 0, 0⟩ : S170) [.int .u32 0, .float .f32 ((rd_T92 l0 x24_1).f0), .float .f32 ((rd_T92 l0 x24_1).f1), .float .f32 ((rd_T92 l0 x24_1).f2), .int .u16 0, .int .u16 0] (fun _ => True) (fun _ => False) rfl rfl ?aP (fun _ hk => hk.elim) ?aF ?aO ?aB ?aS ?aL ?_; (case aP => exact k170_mkM _ _ _ (⟨0, (rd_T92 l0 x24_1).f0, (rd_T92 l0 x24_1).f1, (rd_T92 l0 x24_1).f2, 0, 0⟩ : S170)); (case aB => exact (by repeat (first | (with_reducible first | exact HB.out | apply below_alloc | apply pw_below_drewN | apply below_drew1 | refine below_set ?_ GE233.out | refine below_set ?_ GE235.out) | exact HB.out))); (case aF => exact (fun _ _ => trivial)); (case aO => exact (by (with_reducible repeat (first | apply Kd.R_alloc | apply Kd.R_drewN | apply Kd.R_drew)); exact HO_9.out)); (case aS => exact (below_size (by repeat (first | (with_reducible first | exact HB.out | apply below_alloc | apply pw_below_drewN | apply below_drew1 | refine below_set ?_ GE233.out | refine below_set ?_ GE235.out) | exact HB.out)))); (case aL => have := LMc28.out; omega); intro v252 w34 ho hb hg hat; rw [← Ny251.out] at ho; have n0_ := Aside0.mk (blk_grown (g := gb233) (o := .cells #[.int .i64 t248, .int .i64 t249, .bool t250] 102 (0, 0)) (by (with_reducible repeat (first | refine b1_ ?_ _ | refine b2_ ?_ | refine b3_ ?_ _)); exact BK233.out) hg (Kd.R_ne HO_9.out BK233.out (by decide))); have n1_ := Aside0.mk (blk_grown (g := gb235) (o := .cells #[.float .f32 ((rd_T92 l0 x24_1).f0), .float .f32 ((rd_T92 l0 x24_1).f1), .float .f32 ((rd_T92 l0 x24_1).f2)] 92 (0, 0)) (by (with_reducible repeat (first | refine b1_ ?_ _ | refine b2_ ?_ | refine b3_ ?_ _)); exact BK235.out) hg (Kd.R_ne HO_9.out BK235.out (by decide))); have n2_ := Aside0.mk (hb); have n3_ := Aside0.mk (ho); clear BK233; clear BK235; clear HB; clear HO_9; have BK233 := n0_; have BK235 := n1_; have HB := n2_; have HO253 := n3_; clear n0_ n1_ n2_ n3_; clear ho hb hg hat))
         go_roundg k1
         case measure => have := HK1.out; omega
         case rel => exact ⟨(y251), (wrap64 (x24_1 + 1)), (t248), (t249), (t250), (by first | rfl | (simp; done) | (simp [*]; done)), H', ⟨by have := HK1.out; omega⟩, ⟨by (with_reducible repeat (first | apply Kd.R_alloc | apply Kd.R_drewN | apply Kd.R_drew)); exact HO253.out⟩, ⟨by (with_reducible repeat (first | refine b1_ ?_ _ | refine b2_ ?_ | refine b3_ ?_ _)); exact BK233.out⟩, ⟨by repeat (first | (with_reducible first | exact HB.out | apply below_alloc | apply pw_below_drewN | apply below_drew1 | refine below_set ?_ GE233.out | refine below_set ?_ GE235.out) | exact HB.out)⟩⟩
        ·rw [if_neg c28] at H
         exact absurd H (by simp)
      ·rw [if_neg c8] at H
       have c8b0 : (FloatKind.f32.format.order ((rd_T92 l0 x24_1).f0) 3338665984 == some .gt || FloatKind.f32.format.order ((rd_T92 l0 x24_1).f0) 3338665984 == some .eq) = false := by simpa using c8
       (try (have c8b1 : decide (FloatKind.f32.format.order ((rd_T92 l0 x24_1).f0) 3338665984 = some .gt || FloatKind.f32.format.order ((rd_T92 l0 x24_1).f0) 3338665984 == some .eq) = false := by simpa using c8))
       (try (have c8b2 : (FloatKind.f32.format.order ((rd_T92 l0 x24_1).f0) 3338665984 == some .gt || FloatKind.f32.format.order ((rd_T92 l0 x24_1).f0) 3338665984 == some .eq) = false := by simpa using c8))
       (try (have c8b3 : ¬ (FloatKind.f32.format.order ((rd_T92 l0 x24_1).f0) 3338665984 = some .gt || FloatKind.f32.format.order ((rd_T92 l0 x24_1).f0) 3338665984 == some .eq) := by simpa using c8))
       clear c8
       replace H := Option.bind_eq_some_iff.mp H
       obtain ⟨⟨t254, t255, t256⟩, A350, H⟩ := H
       replace H : (if x9_1.length < 7036874417766 then (impl_Normalized.l0 k1 l0 l1 l2 (x9_1 ++ [(⟨0, (rd_T92 l0 x24_1).f0, (rd_T92 l0 x24_1).f1, (rd_T92 l0 x24_1).f2, 0, 0⟩ : S170)]) l0 (l0.length : Int) (wrap64 (x24_1 + 1)) t254 t255 t256) else (none)) = some (r1, r2) := H
       have A35 := Aside0.mk A350
       clear A350
       by_cases c36 : x9_1.length < 7036874417766
       ·rw [if_pos c36] at H
        have LMc36 := Aside0.mk c36
        clear c36
        obtain ⟨y257, hy257⟩ : ∃ y_ : List (S170), y_ = (x9_1 ++ [(⟨0, (rd_T92 l0 x24_1).f0, (rd_T92 l0 x24_1).f1, (rd_T92 l0 x24_1).f2, 0, 0⟩ : S170)]) := ⟨_, rfl⟩
        replace H : (impl_Normalized.l0 k1 l0 l1 l2 y257 l0 (l0.length : Int) (wrap64 (x24_1 + 1)) t254 t255 t256) = some (r1, r2) := by first | (rw [hy257]; with_reducible exact H) | (have H2_ := (Option.bind_some _ _).symm.trans H; rw [hy257]; with_reducible exact H2_) | (have H2_ := (Option.bind_some _ _).symm.trans H; with_reducible exact H2_) | with_reducible exact H | (rw [hy257]; exact H) | exact H
        have Ny257 := Aside0.mk hy257
        clear hy257
        have H' := Aside0.mk H
        clear H
        have p234 : 0 ≤ (x24_1 : Int) := of_decide_eq_true (by first | (with_reducible assumption) | assumption)
        have q234 : x24_1 < (l0.length : Int) := of_decide_eq_true (by first | (with_reducible assumption) | assumption)
        obtain ⟨ad234, e234, hx234_0, hx234_1, hx234_2⟩ := at_T92 HR0.out x24_1 p234 q234
        cases e234
        replace hx234_0 := (HB.out.cell (World.block_lt_of_cell? w _ hx234_0)).trans hx234_0
        replace hx234_1 := (HB.out.cell (World.block_lt_of_cell? w _ hx234_1)).trans hx234_1
        replace hx234_2 := (HB.out.cell (World.block_lt_of_cell? w _ hx234_2)).trans hx234_2
        replace p234 := eq_true p234
        replace q234 := eq_true q234
        go_wp2_with (first | ((with_reducible refine gate_dst (N := 11) rfl ?_); (try (refine gate_guard (by rfl) ?_; dsimp only)); refine box_event ?hg (N := 11) ?hd (cs := #[.float .f32 0, .float .f32 0, .float .f32 0]) (t := 92) ?hr ?_; (case hd => rfl); (case hg => rfl); (case hr => first | (go_simp; done) | (go_simp; rfl)); intro gb235 hg w37 hbox hb; have n0_ := Aside0.mk (Kd.R_below (by (with_reducible repeat (first | apply Kd.R_alloc | apply Kd.R_drewN | apply Kd.R_drew)); exact HO_9.out) hb); have n1_ := Aside0.mk (blk_below (g := gb233) (o := .cells #[.int .i64 x234000_1, .int .i64 x234001_1, .bool x234002_1] 102 (0, 0)) (by (with_reducible repeat (first | refine b1_ ?_ _ | refine b2_ ?_ | refine b3_ ?_ _)); exact BK233.out) hb); have n2_ := Aside0.mk (below_step (by repeat (first | (with_reducible first | exact HB.out | apply below_alloc | apply pw_below_drewN | apply below_drew1 | refine below_set ?_ GE233.out) | exact HB.out)) hb); have n3_ := Aside0.mk (hbox); have n4_ := Aside0.mk ((by rw [hg]; exact (below_size (by repeat (first | (with_reducible first | exact HB.out | apply below_alloc | apply pw_below_drewN | apply below_drew1 | refine below_set ?_ GE233.out) | exact HB.out))) : w.heap.size ≤ gb235)); have n5_ := Aside0.mk ((by rw [hg]; exact (below_size (by repeat (first | (with_reducible first | exact HB.out | apply below_alloc | apply pw_below_drewN | apply below_drew1 | refine below_set ?_ GE233.out) | exact HB.out))) : w.heap.size ≤ gb235)); have n6_ := Aside0.mk ((by rw [hg]; exact Nat.ne_of_lt (blk_lt (g := gb233) (o := .cells #[.int .i64 x234000_1, .int .i64 x234001_1, .bool x234002_1] 102 (0, 0)) (by (with_reducible repeat (first | refine b1_ ?_ _ | refine b2_ ?_ | refine b3_ ?_ _)); exact BK233.out)) : gb233 ≠ gb235)); have n7_ := Aside0.mk ((by rw [hg]; exact Nat.ne_of_gt (blk_lt (g := gb233) (o := .cells #[.int .i64 x234000_1, .int .i64 x234001_1, .bool x234002_1] 102 (0, 0)) (by (with_reducible repeat (first | refine b1_ ?_ _ | refine b2_ ?_ | refine b3_ ?_ _)); exact BK233.out)) : gb235 ≠ gb233)); clear HO_9; clear BK233; clear HB; have HO_9 := n0_; have BK233 := n1_; have HB := n2_; have BK235 := n3_; have GW235 := n4_; have GE235 := n5_; have NB233_235 := n6_; have NB235_233 := n7_; clear n0_ n1_ n2_ n3_ n4_ n5_ n6_ n7_; clear hb hbox hg; have hnb38 := NB235_233.out; have hnc38 := NB233_235.out; have hcz39_0 : w37.cell? ⟨gb235, 0, none⟩ = some (.float .f32 0) := (blk_cell BK235.out 0).trans rfl; have hcz39_1 : w37.cell? ⟨gb235, 1, none⟩ = some (.float .f32 0) := (blk_cell BK235.out 1).trans rfl; have hcz39_2 : w37.cell? ⟨gb235, 2, none⟩ = some (.float .f32 0) := (blk_cell BK235.out 2).trans rfl; have hfz39_0 := blk_frozen BK235.out 0; have hfz39_1 := blk_frozen BK235.out 1; have hfz39_2 := blk_frozen BK235.out 2) | ((with_reducible refine gate_callee (f := 50) rfl ?_); refine goesL_ (some 51) rfl rfl Try.func50 (by kernel_rfl) rfl #[.pointer (some ⟨gb233, 0, none⟩), .bool false] rfl (by (try simp only [List.map_toArray, List.map_cons, List.map_nil]); first | done | rfl | (simp only [List.length_drop, List.length_take]; rfl)) ?_; (with_reducible refine (impl_builder_must.calls gb233 x234000_1 x234001_1 x234002_1 false t254 t255 t256 w _ ?side1 ?side2 A35.out).mono ?_); (case side1 => repeat (first | (with_reducible first | exact (Aside0.mk (IsS102.of BK233.out GE233.out)).out | apply IsS102.alloc | apply IsS102.drewN | apply IsS102.drew | apply IsS102.set_0 | apply IsS102.set_1 | apply IsS102.set_2 | refine IsS102.far ?_ NB233_235.out _) | exact (Aside0.mk (IsS102.of BK233.out GE233.out)).out)); (case side2 => repeat (first | (with_reducible first | exact HB.out | apply below_alloc | apply pw_below_drewN | apply below_drew1 | refine below_set ?_ (IsS102.ge (Aside0.mk (IsS102.of BK233.out GE233.out)).out) | refine below_set ?_ GE235.out) | exact HB.out)); rintro e w40 ⟨rfl, hi, hb, hk⟩; refine ⟨_, rfl, ?_⟩; have n0_ := Aside0.mk (Kd.R_mono (Kd.R_keep (IsS102.apart (show IsS102 w _ gb233 x234000_1 x234001_1 x234002_1 from by repeat (first | (with_reducible first | exact (Aside0.mk (IsS102.of BK233.out GE233.out)).out | apply IsS102.alloc | apply IsS102.drewN | apply IsS102.drew | apply IsS102.set_0 | apply IsS102.set_1 | apply IsS102.set_2 | refine IsS102.far ?_ NB233_235.out _) | exact (Aside0.mk (IsS102.of BK233.out GE233.out)).out)) (by (with_reducible repeat (first | apply Kd.R_alloc | apply Kd.R_drewN | apply Kd.R_drew)); exact (Kd.R_mono (Kd.R_far (p := ⟨gb235, 2, none⟩) (Kd.R_far (p := ⟨gb235, 1, none⟩) (Kd.R_far (p := ⟨gb235, 0, none⟩) (Kd.R_types HO_9.out BK235.out (by decide)) (fun _ hk => hk.2) (.float .f32 ((rd_T92 l0 x24_1).f0))) (fun _ hk => hk.2) (.float .f32 ((rd_T92 l0 x24_1).f1))) (fun _ hk => hk.2) (.float .f32 ((rd_T92 l0 x24_1).f2))) (fun _ h_ => h_.1))) (by decide)) hk (fun _ h => h.2)) (fun _ h => h.1)); have n1_ := Aside0.mk (KeepBut.blk hk (g' := gb235) (o := .cells #[.float .f32 ((rd_T92 l0 x24_1).f0), .float .f32 ((rd_T92 l0 x24_1).f1), .float .f32 ((rd_T92 l0 x24_1).f2)] 92 (0, 0)) (by (with_reducible repeat (first | refine b1_ ?_ _ | refine b2_ ?_ | refine b3_ ?_ _)); refine blk_put (cs := #[.float .f32 ((rd_T92 l0 x24_1).f0), .float .f32 ((rd_T92 l0 x24_1).f1), .float .f32 0]) ?_ 2 _ rfl; (with_reducible repeat (first | refine b1_ ?_ _ | refine b2_ ?_ | refine b3_ ?_ _)); refine blk_put (cs := #[.float .f32 ((rd_T92 l0 x24_1).f0), .float .f32 0, .float .f32 0]) ?_ 1 _ rfl; (with_reducible repeat (first | refine b1_ ?_ _ | refine b2_ ?_ | refine b3_ ?_ _)); refine blk_put (cs := #[.float .f32 0, .float .f32 0, .float .f32 0]) ?_ 0 _ rfl; (with_reducible repeat (first | refine b1_ ?_ _ | refine b2_ ?_ | refine b3_ ?_ _)); exact BK235.out) NB235_233.out (by simp)); have n2_ := Aside0.mk (hb); have n3_ := Aside0.mk (IsS102.cells hi); clear HO_9; clear BK235; clear HB; clear BK233; have HO_9 := n0_; have BK235 := n1_; have HB := n2_; have BK233 := n3_; clear n0_ n1_ n2_ n3_; (try clear hb); (try clear hb2); (try clear hk); (try clear hi); have hcz41_0 : w40.cell? ⟨gb235, 0, none⟩ = some (.float .f32 ((rd_T92 l0 x24_1).f0)) := (blk_cell BK235.out 0).trans rfl; have hcz41_1 : w40.cell? ⟨gb235, 1, none⟩ = some (.float .f32 ((rd_T92 l0 x24_1).f1)) := (blk_cell BK235.out 1).trans rfl; have hcz41_2 : w40.cell? ⟨gb235, 2, none⟩ = some (.float .f32 ((rd_T92 l0 x24_1).f2)) := (blk_cell BK235.out 2).trans rfl; have hfz41_0 := blk_frozen BK235.out 0; have hfz41_1 := blk_frozen BK235.out 1; have hfz41_2 := blk_frozen BK235.out 2) | ((with_reducible refine gate_builtin (b := .append) (xs := #[.tmp 52, .tmp 60]) rfl ?_); (try (refine gate_guard (by rfl) ?_; dsimp only)); at_builtin; refine Kd.R_append k170 (w0 := w) w.heap.size rfl (.tmp 52) (.tmp 60) 165 170 (.agg #[(.int .u32 0), (.float .f32 0), (.float .f32 0), (.float .f32 0), (.int .u16 0), (.int .u16 0)]) 20 rfl Try.underlying165 info170 rfl (by decide) (by omega) u9 x9_1 (⟨0, (rd_T92 l0 x24_1).f0, (rd_T92 l0 x24_1).f1, (rd_T92 l0 x24_1).f2, 0, 0⟩ : S170) [.int .u32 0, .float .f32 ((rd_T92 l0 x24_1).f0), .float .f32 ((rd_T92 l0 x24_1).f1), .float .f32 ((rd_T92 l0 x24_1).f2), .int .u16 0, .int .u16 0] (fun _ => True) (fun _ => False) rfl rfl ?aP (fun _ hk => hk.elim) ?aF ?aO ?aB ?aS ?aL ?_; (case aP => exact k170_mkM _ _ _ (⟨0, (rd_T92 l0 x24_1).f0, (rd_T92 l0 x24_1).f1, (rd_T92 l0 x24_1).f2, 0, 0⟩ : S170)); (case aB => exact (by repeat (first | (with_reducible first | exact HB.out | apply below_alloc | apply pw_below_drewN | apply below_drew1 | refine below_set ?_ GE233.out | refine below_set ?_ GE235.out) | exact HB.out))); (case aF => exact (fun _ _ => trivial)); (case aO => exact (by (with_reducible repeat (first | apply Kd.R_alloc | apply Kd.R_drewN | apply Kd.R_drew)); exact HO_9.out)); (case aS => exact (below_size (by repeat (first | (with_reducible first | exact HB.out | apply below_alloc | apply pw_below_drewN | apply below_drew1 | refine below_set ?_ GE233.out | refine below_set ?_ GE235.out) | exact HB.out)))); (case aL => have := LMc36.out; omega); intro v258 w42 ho hb hg hat; rw [← Ny257.out] at ho; have n0_ := Aside0.mk (blk_grown (g := gb233) (o := .cells #[.int .i64 t254, .int .i64 t255, .bool t256] 102 (0, 0)) (by (with_reducible repeat (first | refine b1_ ?_ _ | refine b2_ ?_ | refine b3_ ?_ _)); exact BK233.out) hg (Kd.R_ne HO_9.out BK233.out (by decide))); have n1_ := Aside0.mk (blk_grown (g := gb235) (o := .cells #[.float .f32 ((rd_T92 l0 x24_1).f0), .float .f32 ((rd_T92 l0 x24_1).f1), .float .f32 ((rd_T92 l0 x24_1).f2)] 92 (0, 0)) (by (with_reducible repeat (first | refine b1_ ?_ _ | refine b2_ ?_ | refine b3_ ?_ _)); exact BK235.out) hg (Kd.R_ne HO_9.out BK235.out (by decide))); have n2_ := Aside0.mk (hb); have n3_ := Aside0.mk (ho); clear BK233; clear BK235; clear HB; clear HO_9; have BK233 := n0_; have BK235 := n1_; have HB := n2_; have HO259 := n3_; clear n0_ n1_ n2_ n3_; clear ho hb hg hat))
        go_roundg k1
        case measure => have := HK1.out; omega
        case rel => exact ⟨(y257), (wrap64 (x24_1 + 1)), (t254), (t255), (t256), (by first | rfl | (simp; done) | (simp [*]; done)), H', ⟨by have := HK1.out; omega⟩, ⟨by (with_reducible repeat (first | apply Kd.R_alloc | apply Kd.R_drewN | apply Kd.R_drew)); exact HO259.out⟩, ⟨by (with_reducible repeat (first | refine b1_ ?_ _ | refine b2_ ?_ | refine b3_ ?_ _)); exact BK233.out⟩, ⟨by repeat (first | (with_reducible first | exact HB.out | apply below_alloc | apply pw_below_drewN | apply below_drew1 | refine below_set ?_ GE233.out | refine below_set ?_ GE235.out) | exact HB.out)⟩⟩
       ·rw [if_neg c36] at H
        exact absurd H (by simp)
     ·rw [if_neg c7] at H
      exact absurd H (by simp)
    ·rw [if_neg c6] at H
     exact absurd H (by simp)
   ·rw [if_neg c5] at H
    have c5b0 : decide (x24_1 < (l0.length : Int)) = false := decide_eq_false c5
    clear c5
    have H' := Aside0.mk H
    clear H
    go_wp2
    go_loopg [12, 65] k1 (fun kq v12 v65 w' => ∃ (x12_2 : List (S174)) (x65_2 : Int) (x234000_2 : Int) (x234001_2 : Int) (x234002_2 : Bool), v65 = .int .i64 x65_2 ∧ Aside0 (impl_Normalized.l1 kq l0 l1 l2 x9_1 x12_2 l1 (l1.length : Int) x65_2 x234000_2 x234001_2 x234002_2 = some (r1, r2)) ∧ Aside0 (kq ≤ k1) ∧ Aside0 (Kd.R k170 170 w' w.heap.size (fun _ => True) u9 x9_1) ∧ Aside0 (Kd.S k174 174 w' w.heap.size (fun _ => True) v12 x12_2) ∧ Aside0 (w'.heap[gb233]? = some (.cells #[.int .i64 x234000_2, .int .i64 x234001_2, .bool x234002_2] 102 (0, 0))) ∧ Aside0 (Below w.heap.size w w'))
    case atStart => exact ⟨(([] : List (S174))), (0), (x234000_1), (x234001_1), (x234002_1), (by first | rfl | (simp; done) | (simp [*]; done)), H', ⟨Nat.le_refl _⟩, ⟨by (with_reducible repeat (first | apply Kd.R_alloc | apply Kd.R_drewN | apply Kd.R_drew)); exact HO_9.out⟩, ⟨by first | exact Kd.S_nil _ _ _ _ _ | exact Kd.N_nil _ _ _ _ _ | exact Kd.V_nil _ _ _ _ _ | exact Kd.Q_nil _ _ _ _ _ | exact Kd.R_nil _ _ _ _ _⟩, ⟨by (with_reducible repeat (first | refine b1_ ?_ _ | refine b2_ ?_ | refine b3_ ?_ _)); exact BK233.out⟩, ⟨by repeat (first | (with_reducible first | exact HB.out | apply below_alloc | apply pw_below_drewN | apply below_drew1 | refine below_set ?_ GE233.out) | exact HB.out)⟩⟩
    case round =>
     clear H'
     try clear c1
     try clear c2
     try clear p2
     try clear q2
     try clear hx2
     try clear c3
     try clear c5
     try clear c5b0
     try clear c6
     try clear c6b0
     try clear p6
     try clear c7
     try clear c7b0
     try clear c8
     try clear c8b0
     try clear c8b1
     try clear c8b2
     try clear c9
     try clear c9b0
     try clear c9b1
     try clear c9b2
     try clear c10
     try clear c10b0
     try clear c10b1
     try clear c10b2
     try clear c12
     try clear c14
     try clear c20
     try clear c22
     try clear p23
     try clear q23
     try clear hx23
     try clear c27
     try clear c28
     try clear c30
     try clear c36
     try clear c38
     try clear hcz15_0
     try clear hcz15_1
     try clear hcz15_2
     try clear hcz17_0
     try clear hcz17_1
     try clear hcz17_2
     try clear hcz23_0
     try clear hcz23_1
     try clear hcz23_2
     try clear hcz25_0
     try clear hcz25_1
     try clear hcz25_2
     try clear hcz31_0
     try clear hcz31_1
     try clear hcz31_2
     try clear hcz33_0
     try clear hcz33_1
     try clear hcz33_2
     try clear hcz39_0
     try clear hcz39_1
     try clear hcz39_2
     try clear hcz41_0
     try clear hcz41_1
     try clear hcz41_2
     try clear hfz15_0
     try clear hfz15_1
     try clear hfz15_2
     try clear hfz17_0
     try clear hfz17_1
     try clear hfz17_2
     try clear hfz23_0
     try clear hfz23_1
     try clear hfz23_2
     try clear hfz25_0
     try clear hfz25_1
     try clear hfz25_2
     try clear hfz31_0
     try clear hfz31_1
     try clear hfz31_2
     try clear hfz33_0
     try clear hfz33_1
     try clear hfz33_2
     try clear hfz39_0
     try clear hfz39_1
     try clear hfz39_2
     try clear hfz41_0
     try clear hfz41_1
     try clear hfz41_2
     try clear hx234_0
     try clear hx234_1
     try clear hx234_2
     try clear p2
     try clear p234
     try clear q234
     obtain ⟨x12_2, x65_2, x234000_2, x234001_2, x234002_2, rfl, HA, HK2, HO_9, HO_12, BK233, HB⟩ := hrel
     cases gk with
     | zero => exact absurd HA.out (by simp [impl_Normalized.l1])
     | succ k2 =>
      have H := HA.out
      clear HA
      simp only [impl_Normalized.l1] at H
      by_cases c43 : x65_2 < (l1.length : Int)
      ·rw [if_pos c43] at H
       have c43b0 : decide (x65_2 < (l1.length : Int)) = true := decide_eq_true c43
       clear c43
       by_cases c44 : 0 ≤ x65_2
       ·rw [if_pos c44] at H
        have c44b0 : decide (0 ≤ x65_2) = true := decide_eq_true c44
        clear c44
        by_cases c45 : x65_2 < (l1.length : Int)
        ·rw [if_pos c45] at H
         have c45b0 : decide (x65_2 < (l1.length : Int)) = true := decide_eq_true c45
         clear c45
         have H' := Aside0.mk H
         clear H
         have p260 : 0 ≤ (x65_2 : Int) := of_decide_eq_true (by first | (with_reducible assumption) | assumption)
         have q260 : x65_2 < (l1.length : Int) := of_decide_eq_true (by first | (with_reducible assumption) | assumption)
         obtain ⟨ad260, A260_0, c260_0, e260, hx260_0, hl260_0, hi260_0⟩ := at_L8 HR1.out x65_2 p260 q260
         cases e260
         replace hx260_0 := (HB.out.cell (World.block_lt_of_cell? w _ hx260_0)).trans hx260_0
         have HR260_0 := Aside0.mk hi260_0
         have HC260_0 := Aside0.mk hl260_0
         clear hi260_0 hl260_0
         replace p260 := eq_true p260
         replace q260 := eq_true q260
         go_wp2_with (first | ((with_reducible refine gate_dst (N := 15) rfl ?_); (try (refine gate_guard (by rfl) ?_; dsimp only)); refine box_event ?hg (N := 15) ?hd (cs := #[.slice none 0 0]) (t := 174) ?hr ?_; (case hd => rfl); (case hg => rfl); (case hr => first | (go_simp; done) | (go_simp; rfl)); intro gb261 hg w46 hbox hb; have n0_ := Aside0.mk (Kd.R_below (by (with_reducible repeat (first | apply Kd.R_alloc | apply Kd.R_drewN | apply Kd.R_drew)); exact HO_9.out) hb); have n1_ := Aside0.mk (Kd.S_below (Kd.S_elderB (by (with_reducible repeat (first | apply Kd.S_alloc | apply Kd.S_drewN | apply Kd.S_drew)); exact HO_12.out) gb261 (Nat.le_of_eq hg.symm)) hb); have n2_ := Aside0.mk (blk_below (g := gb233) (o := .cells #[.int .i64 x234000_2, .int .i64 x234001_2, .bool x234002_2] 102 (0, 0)) (by (with_reducible repeat (first | refine b1_ ?_ _ | refine b2_ ?_ | refine b3_ ?_ _)); exact BK233.out) hb); have n3_ := Aside0.mk (below_step (by repeat (first | (with_reducible first | exact HB.out | apply below_alloc | apply pw_below_drewN | apply below_drew1 | refine below_set ?_ GE233.out) | exact HB.out)) hb); have n4_ := Aside0.mk (hbox); have n5_ := Aside0.mk ((by rw [hg]; exact (below_size (by repeat (first | (with_reducible first | exact HB.out | apply below_alloc | apply pw_below_drewN | apply below_drew1 | refine below_set ?_ GE233.out) | exact HB.out))) : w.heap.size ≤ gb261)); have n6_ := Aside0.mk ((by rw [hg]; exact (below_size (by repeat (first | (with_reducible first | exact HB.out | apply below_alloc | apply pw_below_drewN | apply below_drew1 | refine below_set ?_ GE233.out) | exact HB.out))) : w.heap.size ≤ gb261)); have n7_ := Aside0.mk ((by rw [hg]; exact Nat.ne_of_lt (blk_lt (g := gb233) (o := .cells #[.int .i64 x234000_2, .int .i64 x234001_2, .bool x234002_2] 102 (0, 0)) (by (with_reducible repeat (first | refine b1_ ?_ _ | refine b2_ ?_ | refine b3_ ?_ _)); exact BK233.out)) : gb233 ≠ gb261)); have n8_ := Aside0.mk ((by rw [hg]; exact Nat.ne_of_gt (blk_lt (g := gb233) (o := .cells #[.int .i64 x234000_2, .int .i64 x234001_2, .bool x234002_2] 102 (0, 0)) (by (with_reducible repeat (first | refine b1_ ?_ _ | refine b2_ ?_ | refine b3_ ?_ _)); exact BK233.out)) : gb261 ≠ gb233)); clear HO_9; clear HO_12; clear BK233; clear HB; have HO_9 := n0_; have HO_12 := n1_; have BK233 := n2_; have HB := n3_; have BK261 := n4_; have GW261 := n5_; have GE261 := n6_; have NB233_261 := n7_; have NB261_233 := n8_; clear n0_ n1_ n2_ n3_ n4_ n5_ n6_ n7_ n8_; clear hb hbox hg))
         go_loopg [71] k2 (fun kq v71 w' => ∃ (x71_3 : Int) (x234000_3 : Int) (x234001_3 : Int) (x234002_3 : Bool) (x262000_3 : List (S177)) (u262000 : Value), v71 = .int .i64 x71_3 ∧ Aside0 (impl_Normalized.l2 kq l0 l1 l2 x9_1 x12_2 l1 (l1.length : Int) x65_2 (rd_L8 l1 x65_2) ((rd_L8 l1 x65_2).length : Int) x71_3 x234000_3 x234001_3 x234002_3 x262000_3 = some (r1, r2)) ∧ Aside0 (kq ≤ k2) ∧ Aside0 (Kd.R k170 170 w' w.heap.size (fun _ => True) u9 x9_1) ∧ Aside0 (Kd.S k174 174 w' w.heap.size (fun k_ => some k_ ≠ (u262000 : Value).ownBlock ∧ k_ ≠ gb261) u12 x12_2) ∧ Aside0 (Kd.R k177 177 w' w.heap.size (fun _ => True) u262000 x262000_3) ∧ Aside0 (w'.heap[gb233]? = some (.cells #[.int .i64 x234000_3, .int .i64 x234001_3, .bool x234002_3] 102 (0, 0))) ∧ Aside0 (w'.heap[gb261]? = some (.cells #[u262000] 174 (0, 0))) ∧ Aside0 (Below w.heap.size w w'))
         case atStart => exact ⟨(0), (x234000_2), (x234001_2), (x234002_2), (([] : List (S177))), (.slice none 0 0), (by first | rfl | (simp; done) | (simp [*]; done)), H', ⟨Nat.le_refl _⟩, ⟨by (with_reducible repeat (first | apply Kd.R_alloc | apply Kd.R_drewN | apply Kd.R_drew)); exact HO_9.out⟩, ⟨by (with_reducible repeat (first | apply Kd.S_alloc | apply Kd.S_drewN | apply Kd.S_drew)); exact Kd.S_mono HO_12.out (fun _ hk => ⟨(by simp [Value.ownBlock]), hk.2⟩)⟩, ⟨by first | exact Kd.R_nil _ _ _ _ _ | exact Kd.N_nil _ _ _ _ _ | exact Kd.V_nil _ _ _ _ _ | exact Kd.Q_nil _ _ _ _ _ | exact Kd.S_nil _ _ _ _ _⟩, ⟨by (with_reducible repeat (first | refine b1_ ?_ _ | refine b2_ ?_ | refine b3_ ?_ _)); exact BK233.out⟩, ⟨by (with_reducible repeat (first | refine b1_ ?_ _ | refine b2_ ?_ | refine b3_ ?_ _)); exact BK261.out⟩, ⟨by repeat (first | (with_reducible first | exact HB.out | apply below_alloc | apply pw_below_drewN | apply below_drew1 | refine below_set ?_ GE233.out | refine below_set ?_ GE261.out) | exact HB.out)⟩⟩
         case round =>
          clear H'
          try clear c1
          try clear c2
          try clear p2
          try clear q2
          try clear hx2
          try clear c3
          try clear c4
          try clear c5
          try clear c5b0
          try clear c6
          try clear c6b0
          try clear p6
          try clear c7
          try clear c7b0
          try clear c8
          try clear c8b0
          try clear c8b1
          try clear c8b2
          try clear c9
          try clear c9b0
          try clear c9b1
          try clear c9b2
          try clear c10
          try clear c10b0
          try clear c10b1
          try clear c10b2
          try clear c12
          try clear c14
          try clear c20
          try clear c22
          try clear p23
          try clear q23
          try clear hx23
          try clear c26
          try clear p26
          try clear q26
          try clear hx26
          try clear c27
          try clear c28
          try clear c30
          try clear c36
          try clear c38
          try clear c43
          try clear c43b0
          try clear c44
          try clear c44b0
          try clear c45
          try clear c45b0
          try clear hcz15_0
          try clear hcz15_1
          try clear hcz15_2
          try clear hcz17_0
          try clear hcz17_1
          try clear hcz17_2
          try clear hcz23_0
          try clear hcz23_1
          try clear hcz23_2
          try clear hcz25_0
          try clear hcz25_1
          try clear hcz25_2
          try clear hcz31_0
          try clear hcz31_1
          try clear hcz31_2
          try clear hcz33_0
          try clear hcz33_1
          try clear hcz33_2
          try clear hcz39_0
          try clear hcz39_1
          try clear hcz39_2
          try clear hcz41_0
          try clear hcz41_1
          try clear hcz41_2
          try clear hfz15_0
          try clear hfz15_1
          try clear hfz15_2
          try clear hfz17_0
          try clear hfz17_1
          try clear hfz17_2
          try clear hfz23_0
          try clear hfz23_1
          try clear hfz23_2
          try clear hfz25_0
          try clear hfz25_1
          try clear hfz25_2
          try clear hfz31_0
          try clear hfz31_1
          try clear hfz31_2
          try clear hfz33_0
          try clear hfz33_1
          try clear hfz33_2
          try clear hfz39_0
          try clear hfz39_1
          try clear hfz39_2
          try clear hfz41_0
          try clear hfz41_1
          try clear hfz41_2
          try clear hx234_0
          try clear hx234_1
          try clear hx234_2
          try clear hx260_0
          try clear p2
          try clear p23
          try clear p234
          try clear p260
          try clear p6
          try clear q2
          try clear q23
          try clear q234
          try clear q260
          obtain ⟨x71_3, x234000_3, x234001_3, x234002_3, x262000_3, u262000, rfl, HA, HK3, HO_9, HO_12, HO_262000, BK233, BK261, HB⟩ := hrel
          cases gk with
          | zero => exact absurd HA.out (by simp [impl_Normalized.l2])
          | succ k3 =>
           have H := HA.out
           clear HA
           simp only [impl_Normalized.l2] at H
           by_cases c47 : x71_3 < ((rd_L8 l1 x65_2).length : Int)
           ·rw [if_pos c47] at H
            have c47b0 : decide (x71_3 < ((rd_L8 l1 x65_2).length : Int)) = true := decide_eq_true c47
            clear c47
            by_cases c48 : 0 ≤ x71_3
            ·rw [if_pos c48] at H
             have c48b0 : decide (0 ≤ x71_3) = true := decide_eq_true c48
             clear c48
             by_cases c49 : x71_3 < ((rd_L8 l1 x65_2).length : Int)
             ·rw [if_pos c49] at H
              have c49b0 : decide (x71_3 < ((rd_L8 l1 x65_2).length : Int)) = true := decide_eq_true c49
              clear c49
              replace H := Option.bind_eq_some_iff.mp H
              obtain ⟨⟨t267, t268, t269, t270⟩, A500, H⟩ := H
              replace H : ((impl_builder_signed.f t268 t269 t270 ((rd_T48 (rd_L8 l1 x65_2) x71_3).f1)).bind fun bt271 => (if x262000_3.length < 35184372088832 then (impl_Normalized.l2 k3 l0 l1 l2 x9_1 x12_2 l1 (l1.length : Int) x65_2 (rd_L8 l1 x65_2) ((rd_L8 l1 x65_2).length : Int) (wrap64 (x71_3 + 1)) bt271.2.1 bt271.2.2.1 bt271.2.2.2 (x262000_3 ++ [(⟨t267, bt271.1⟩ : S177)])) else (none))) = some (r1, r2) := H
              have A50 := Aside0.mk A500
              clear A500
              replace H := Option.bind_eq_some_iff.mp H
              obtain ⟨⟨t271, t272, t273, t274⟩, A510, H⟩ := H
              replace H : (if x262000_3.length < 35184372088832 then (impl_Normalized.l2 k3 l0 l1 l2 x9_1 x12_2 l1 (l1.length : Int) x65_2 (rd_L8 l1 x65_2) ((rd_L8 l1 x65_2).length : Int) (wrap64 (x71_3 + 1)) t272 t273 t274 (x262000_3 ++ [(⟨t267, t271⟩ : S177)])) else (none)) = some (r1, r2) := H
              have A51 := Aside0.mk A510
              clear A510
              by_cases c52 : x262000_3.length < 35184372088832
              ·rw [if_pos c52] at H
               have LMc52 := Aside0.mk c52
               clear c52
               obtain ⟨y275, hy275⟩ : ∃ y_ : List (S177), y_ = (x262000_3 ++ [(⟨t267, t271⟩ : S177)]) := ⟨_, rfl⟩
               replace H : (impl_Normalized.l2 k3 l0 l1 l2 x9_1 x12_2 l1 (l1.length : Int) x65_2 (rd_L8 l1 x65_2) ((rd_L8 l1 x65_2).length : Int) (wrap64 (x71_3 + 1)) t272 t273 t274 y275) = some (r1, r2) := by first | (rw [hy275]; with_reducible exact H) | (have H2_ := (Option.bind_some _ _).symm.trans H; rw [hy275]; with_reducible exact H2_) | (have H2_ := (Option.bind_some _ _).symm.trans H; with_reducible exact H2_) | with_reducible exact H | (rw [hy275]; exact H) | exact H
               have Ny275 := Aside0.mk hy275
               clear hy275
               have H' := Aside0.mk H
               clear H
               have p265 : 0 ≤ (x71_3 : Int) := of_decide_eq_true (by first | (with_reducible assumption) | assumption)
               have q265 : x71_3 < ((rd_L8 l1 x65_2).length : Int) := of_decide_eq_true (by first | (with_reducible assumption) | assumption)
               obtain ⟨ad265, e265, hx265_0, hx265_1⟩ := at_T48 HR260_0.out x71_3 p265 q265
               cases e265
               replace hx265_0 := (HB.out.cell (World.block_lt_of_cell? w _ hx265_0)).trans hx265_0
               replace hx265_1 := (HB.out.cell (World.block_lt_of_cell? w _ hx265_1)).trans hx265_1
               replace p265 := eq_true p265
               replace q265 := eq_true q265
               try go_wp2_with (first | ((with_reducible refine gate_dst (N := 17) rfl ?_); (try (refine gate_guard (by rfl) ?_; dsimp only)); refine box_event ?hg (N := 17) ?hd (cs := #[.int .i64 0, .int .i64 0]) (t := 48) ?hr ?_; (case hd => rfl); (case hg => rfl); (case hr => first | (go_simp; done) | (go_simp; rfl)); intro gb266 hg w53 hbox hb; have n0_ := Aside0.mk (Kd.R_below (by (with_reducible repeat (first | apply Kd.R_alloc | apply Kd.R_drewN | apply Kd.R_drew)); exact HO_9.out) hb); have n1_ := Aside0.mk (Kd.S_below (by (with_reducible repeat (first | apply Kd.S_alloc | apply Kd.S_drewN | apply Kd.S_drew)); exact HO_12.out) hb); have n2_ := Aside0.mk (Kd.R_below (by (with_reducible repeat (first | apply Kd.R_alloc | apply Kd.R_drewN | apply Kd.R_drew)); exact HO_262000.out) hb); have n3_ := Aside0.mk (blk_below (g := gb233) (o := .cells #[.int .i64 x234000_3, .int .i64 x234001_3, .bool x234002_3] 102 (0, 0)) (by (with_reducible repeat (first | refine b1_ ?_ _ | refine b2_ ?_ | refine b3_ ?_ _)); exact BK233.out) hb); have n4_ := Aside0.mk (blk_below (g := gb261) (o := .cells #[u262000] 174 (0, 0)) (by (with_reducible repeat (first | refine b1_ ?_ _ | refine b2_ ?_ | refine b3_ ?_ _)); exact BK261.out) hb); have n5_ := Aside0.mk (below_step (by repeat (first | (with_reducible first | exact HB.out | apply below_alloc | apply pw_below_drewN | apply below_drew1 | refine below_set ?_ GE233.out | refine below_set ?_ GE261.out) | exact HB.out)) hb); have n6_ := Aside0.mk (hbox); have n7_ := Aside0.mk ((by rw [hg]; exact (below_size (by repeat (first | (with_reducible first | exact HB.out | apply below_alloc | apply pw_below_drewN | apply below_drew1 | refine below_set ?_ GE233.out | refine below_set ?_ GE261.out) | exact HB.out))) : w.heap.size ≤ gb266)); have n8_ := Aside0.mk ((by rw [hg]; exact (below_size (by repeat (first | (with_reducible first | exact HB.out | apply below_alloc | apply pw_below_drewN | apply below_drew1 | refine below_set ?_ GE233.out | refine below_set ?_ GE261.out) | exact HB.out))) : w.heap.size ≤ gb266)); have n9_ := Aside0.mk ((by rw [hg]; exact Nat.ne_of_lt (blk_lt (g := gb233) (o := .cells #[.int .i64 x234000_3, .int .i64 x234001_3, .bool x234002_3] 102 (0, 0)) (by (with_reducible repeat (first | refine b1_ ?_ _ | refine b2_ ?_ | refine b3_ ?_ _)); exact BK233.out)) : gb233 ≠ gb266)); have n10_ := Aside0.mk ((by rw [hg]; exact Nat.ne_of_gt (blk_lt (g := gb233) (o := .cells #[.int .i64 x234000_3, .int .i64 x234001_3, .bool x234002_3] 102 (0, 0)) (by (with_reducible repeat (first | refine b1_ ?_ _ | refine b2_ ?_ | refine b3_ ?_ _)); exact BK233.out)) : gb266 ≠ gb233)); have n11_ := Aside0.mk ((by rw [hg]; exact Nat.ne_of_lt (blk_lt (g := gb261) (o := .cells #[u262000] 174 (0, 0)) (by (with_reducible repeat (first | refine b1_ ?_ _ | refine b2_ ?_ | refine b3_ ?_ _)); exact BK261.out)) : gb261 ≠ gb266)); have n12_ := Aside0.mk ((by rw [hg]; exact Nat.ne_of_gt (blk_lt (g := gb261) (o := .cells #[u262000] 174 (0, 0)) (by (with_reducible repeat (first | refine b1_ ?_ _ | refine b2_ ?_ | refine b3_ ?_ _)); exact BK261.out)) : gb266 ≠ gb261)); clear HO_9; clear HO_12; clear HO_262000; clear BK233; clear BK261; clear HB; have HO_9 := n0_; have HO_12 := n1_; have HO_262000 := n2_; have BK233 := n3_; have BK261 := n4_; have HB := n5_; have BK266 := n6_; have GW266 := n7_; have GE266 := n8_; have NB233_266 := n9_; have NB266_233 := n10_; have NB261_266 := n11_; have NB266_261 := n12_; clear n0_ n1_ n2_ n3_ n4_ n5_ n6_ n7_ n8_ n9_ n10_ n11_ n12_; clear hb hbox hg; have hnb54 := NB266_233.out; have hnc54 := NB233_266.out; have hnb55 := NB266_261.out; have hnc55 := NB261_266.out; have hcz56_0 : w53.cell? ⟨gb266, 0, none⟩ = some (.int .i64 0) := (blk_cell BK266.out 0).trans rfl; have hcz56_1 : w53.cell? ⟨gb266, 1, none⟩ = some (.int .i64 0) := (blk_cell BK266.out 1).trans rfl; have hfz56_0 := blk_frozen BK266.out 0; have hfz56_1 := blk_frozen BK266.out 1))
               have n0_ : Aside0 (Kd.R k170 170 ((w53.setCell ⟨gb266, 0, none⟩ (.int .i64 ((rd_T48 (rd_L8 l1 x65_2) x71_3).f0))).setCell ⟨gb266, 1, none⟩ (.int .i64 ((rd_T48 (rd_L8 l1 x65_2) x71_3).f1))) w.heap.size (fun _ => True) u9 x9_1) := ⟨by (with_reducible repeat (first | apply Kd.R_alloc | apply Kd.R_drewN | apply Kd.R_drew)); exact Kd.R_mono (Kd.R_far (p := ⟨gb266, 1, none⟩) (Kd.R_far (p := ⟨gb266, 0, none⟩) (Kd.R_types HO_9.out BK266.out (by decide)) (fun _ hk => hk.2) (.int .i64 ((rd_T48 (rd_L8 l1 x65_2) x71_3).f0))) (fun _ hk => hk.2) (.int .i64 ((rd_T48 (rd_L8 l1 x65_2) x71_3).f1))) (fun _ hk => trivial)⟩
               have n1_ : Aside0 (Kd.S k174 174 ((w53.setCell ⟨gb266, 0, none⟩ (.int .i64 ((rd_T48 (rd_L8 l1 x65_2) x71_3).f0))).setCell ⟨gb266, 1, none⟩ (.int .i64 ((rd_T48 (rd_L8 l1 x65_2) x71_3).f1))) w.heap.size (fun k_ => some k_ ≠ (u262000 : Value).ownBlock ∧ k_ ≠ gb261) u12 x12_2) := ⟨by (with_reducible repeat (first | apply Kd.S_alloc | apply Kd.S_drewN | apply Kd.S_drew)); exact Kd.S_mono (Kd.S_far (p := ⟨gb266, 1, none⟩) (Kd.S_far (p := ⟨gb266, 0, none⟩) (Kd.S_types HO_12.out BK266.out (by decide)) (fun _ hk => hk.2) (.int .i64 ((rd_T48 (rd_L8 l1 x65_2) x71_3).f0))) (fun _ hk => hk.2) (.int .i64 ((rd_T48 (rd_L8 l1 x65_2) x71_3).f1))) (fun _ hk => ⟨hk.1.1, hk.1.2⟩)⟩
               have n2_ : Aside0 (Kd.R k177 177 ((w53.setCell ⟨gb266, 0, none⟩ (.int .i64 ((rd_T48 (rd_L8 l1 x65_2) x71_3).f0))).setCell ⟨gb266, 1, none⟩ (.int .i64 ((rd_T48 (rd_L8 l1 x65_2) x71_3).f1))) w.heap.size (fun _ => True) u262000 x262000_3) := ⟨by (with_reducible repeat (first | apply Kd.R_alloc | apply Kd.R_drewN | apply Kd.R_drew)); exact Kd.R_mono (Kd.R_far (p := ⟨gb266, 1, none⟩) (Kd.R_far (p := ⟨gb266, 0, none⟩) (Kd.R_types HO_262000.out BK266.out (by decide)) (fun _ hk => hk.2) (.int .i64 ((rd_T48 (rd_L8 l1 x65_2) x71_3).f0))) (fun _ hk => hk.2) (.int .i64 ((rd_T48 (rd_L8 l1 x65_2) x71_3).f1))) (fun _ hk => trivial)⟩
               have n3_ : Aside0 (((w53.setCell ⟨gb266, 0, none⟩ (.int .i64 ((rd_T48 (rd_L8 l1 x65_2) x71_3).f0))).setCell ⟨gb266, 1, none⟩ (.int .i64 ((rd_T48 (rd_L8 l1 x65_2) x71_3).f1))).heap[gb233]? = some (.cells #[.int .i64 x234000_3, .int .i64 x234001_3, .bool x234002_3] 102 (0, 0))) := ⟨by (with_reducible repeat (first | refine b1_ ?_ _ | refine b2_ ?_ | refine b3_ ?_ _)); refine blk_far ?_ NB233_266.out _; (with_reducible repeat (first | refine b1_ ?_ _ | refine b2_ ?_ | refine b3_ ?_ _)); refine blk_far ?_ NB233_266.out _; (with_reducible repeat (first | refine b1_ ?_ _ | refine b2_ ?_ | refine b3_ ?_ _)); exact BK233.out⟩
               have n4_ : Aside0 (((w53.setCell ⟨gb266, 0, none⟩ (.int .i64 ((rd_T48 (rd_L8 l1 x65_2) x71_3).f0))).setCell ⟨gb266, 1, none⟩ (.int .i64 ((rd_T48 (rd_L8 l1 x65_2) x71_3).f1))).heap[gb261]? = some (.cells #[u262000] 174 (0, 0))) := ⟨by (with_reducible repeat (first | refine b1_ ?_ _ | refine b2_ ?_ | refine b3_ ?_ _)); refine blk_far ?_ NB261_266.out _; (with_reducible repeat (first | refine b1_ ?_ _ | refine b2_ ?_ | refine b3_ ?_ _)); refine blk_far ?_ NB261_266.out _; (with_reducible repeat (first | refine b1_ ?_ _ | refine b2_ ?_ | refine b3_ ?_ _)); exact BK261.out⟩
               have n5_ : Aside0 (((w53.setCell ⟨gb266, 0, none⟩ (.int .i64 ((rd_T48 (rd_L8 l1 x65_2) x71_3).f0))).setCell ⟨gb266, 1, none⟩ (.int .i64 ((rd_T48 (rd_L8 l1 x65_2) x71_3).f1))).heap[gb266]? = some (.cells #[.int .i64 ((rd_T48 (rd_L8 l1 x65_2) x71_3).f0), .int .i64 ((rd_T48 (rd_L8 l1 x65_2) x71_3).f1)] 48 (0, 0))) := ⟨by (with_reducible repeat (first | refine b1_ ?_ _ | refine b2_ ?_ | refine b3_ ?_ _)); refine blk_put (cs := #[.int .i64 ((rd_T48 (rd_L8 l1 x65_2) x71_3).f0), .int .i64 0]) ?_ 1 _ rfl; (with_reducible repeat (first | refine b1_ ?_ _ | refine b2_ ?_ | refine b3_ ?_ _)); refine blk_put (cs := #[.int .i64 0, .int .i64 0]) ?_ 0 _ rfl; (with_reducible repeat (first | refine b1_ ?_ _ | refine b2_ ?_ | refine b3_ ?_ _)); exact BK266.out⟩
               have n6_ : Aside0 (Below w.heap.size w ((w53.setCell ⟨gb266, 0, none⟩ (.int .i64 ((rd_T48 (rd_L8 l1 x65_2) x71_3).f0))).setCell ⟨gb266, 1, none⟩ (.int .i64 ((rd_T48 (rd_L8 l1 x65_2) x71_3).f1)))) := ⟨by repeat (first | (with_reducible first | exact HB.out | apply below_alloc | apply pw_below_drewN | apply below_drew1 | refine below_set ?_ GE233.out | refine below_set ?_ GE261.out | refine below_set ?_ GE266.out) | exact HB.out)⟩
               (try clear HO_9)
               (try clear HO_12)
               (try clear HO_262000)
               (try clear BK233)
               (try clear BK261)
               (try clear BK266)
               (try clear HB)
               generalize ((w53.setCell ⟨gb266, 0, none⟩ (.int .i64 ((rd_T48 (rd_L8 l1 x65_2) x71_3).f0))).setCell ⟨gb266, 1, none⟩ (.int .i64 ((rd_T48 (rd_L8 l1 x65_2) x71_3).f1))) = w57 at n0_ n1_ n2_ n3_ n4_ n5_ n6_ ⊢
               have HO_9 := n0_
               have HO_12 := n1_
               have HO_262000 := n2_
               have BK233 := n3_
               have BK261 := n4_
               have BK266 := n5_
               have HB := n6_
               clear n0_ n1_ n2_ n3_ n4_ n5_ n6_
               have n0_ := Aside0.mk (Kd.R_drew HO_9.out)
               have n1_ := Aside0.mk (Kd.S_drew HO_12.out)
               have n2_ := Aside0.mk (Kd.R_drew HO_262000.out)
               have n3_ := Aside0.mk (blk_drew BK233.out)
               have n4_ := Aside0.mk (blk_drew BK261.out)
               have n5_ := Aside0.mk (blk_drew BK266.out)
               have n6_ := Aside0.mk (below_drew1 HB.out)
               clear HO_9
               clear HO_12
               clear HO_262000
               clear BK233
               clear BK261
               clear BK266
               clear HB
               have HO_9 := n0_
               have HO_12 := n1_
               have HO_262000 := n2_
               have BK233 := n3_
               have BK261 := n4_
               have BK266 := n5_
               have HB := n6_
               clear n0_ n1_ n2_ n3_ n4_ n5_ n6_
               refine start_ (n := 15) (S := fun w' => w'.cell? ⟨gb261, 0, none⟩ = some (u262000) ∧ w'.cell? ⟨gb266, 0, none⟩ = some (.int .i64 ((rd_T48 (rd_L8 l1 x65_2) x71_3).f0)) ∧ w'.cell? ⟨gb266, 1, none⟩ = some (.int .i64 ((rd_T48 (rd_L8 l1 x65_2) x71_3).f1))) (ds := [14]) #[ff,ff,ff,ff,ff,ff,ff,ff,ff,ff,ff,ff,ff,ff,ff] (by kernel_rfl) rfl rfl ⟨(blk_cell BK261.out 0).trans rfl, (blk_cell BK266.out 0).trans rfl, (blk_cell BK266.out 1).trans rfl⟩ (fun hHeld => ?_); refine with_tabW impl_Normalized.tab17 impl_Normalized.bits17 (fun HT_ HW_ => ?_)
               generalize w57.drew = w58 at HO_9 HO_12 HO_262000 BK233 BK261 BK266 HB hHeld ⊢
               refine pure_ (i := 0) (N := some 75) (v := ?_) (a' := ?_) #[tt,ff,ff,ff,ff,ff,ff,ff,ff,ff,ff,ff,ff,ff,ff] rfl rfl (any_of HT_.out (by kernel_rfl)) (fun _ _ _ h => h) (Or.inl ⟨by rfl, ?_⟩) ?_ ?_
               rotate_left
               ·intro w'
                go_simp
                with_reducible rfl
               rotate_left
               ·simp only [Act.put, L1_, L2_, L3_, i64_w, i32_w]
                rfl
               refine pure_ (i := 2) (N := some 77) (v := ?_) (a' := ?_) #[tt,ff,tt,ff,ff,ff,ff,ff,ff,ff,ff,ff,ff,ff,ff] rfl rfl (any_of HT_.out (by kernel_rfl)) (fun _ _ _ h => h) (Or.inl ⟨by rfl, ?_⟩) ?_ ?_
               rotate_left
               ·intro w'
                go_simp
                with_reducible rfl
               rotate_left
               ·simp only [Act.put, L1_, L2_, L3_, i64_w, i32_w]
                rfl
               refine pure_ (i := 3) (N := some 78) (v := ?_) (a' := ?_) #[tt,ff,tt,tt,ff,ff,ff,ff,ff,ff,ff,ff,ff,ff,ff] rfl rfl (any_of HT_.out (by kernel_rfl)) (fun _ _ _ h => h) (Or.inl ⟨by rfl, ?_⟩) ?_ ?_
               rotate_left
               ·intro w'
                go_simp
                with_reducible rfl
               rotate_left
               ·simp only [Act.put, L1_, L2_, L3_, i64_w, i32_w]
                rfl
               refine pure_ (i := 6) (N := some 81) (v := ?_) (a' := ?_) #[tt,ff,tt,tt,ff,ff,tt,ff,ff,ff,ff,ff,ff,ff,ff] rfl rfl (any_of HT_.out (by kernel_rfl)) (fun _ _ _ h => h) (Or.inl ⟨by rfl, ?_⟩) ?_ ?_
               rotate_left
               ·intro w'
                go_simp
                with_reducible rfl
               rotate_left
               ·simp only [Act.put, L1_, L2_, L3_, i64_w, i32_w]
                rfl
               refine pure_ (i := 7) (N := some 82) (v := ?_) (a' := ?_) #[tt,ff,tt,tt,ff,ff,tt,tt,ff,ff,ff,ff,ff,ff,ff] rfl rfl (any_of HT_.out (by kernel_rfl)) (fun _ _ _ h => h) (Or.inl ⟨by rfl, ?_⟩) ?_ ?_
               rotate_left
               ·intro w'
                go_simp
                with_reducible rfl
               rotate_left
               ·simp only [Act.put, L1_, L2_, L3_, i64_w, i32_w]
                rfl
               refine take_ (i := 1) (N := some 76) (v := ?_) (a' := ?_) #[tt,tt,tt,tt,ff,ff,tt,tt,ff,ff,ff,ff,ff,ff,ff] rfl rfl (take_ofW HT_.out HW_.out (by kernel_rfl)) (fun _ _ _ h => h) (Or.inl ⟨by rfl, ?_⟩) hHeld ?_ ?_
               rotate_left
               ·rintro w' ⟨s0, s1, s2⟩
                go_simp
                with_reducible rfl
               rotate_left
               ·simp only [Act.put, L1_, L2_, L3_, i64_w, i32_w]
                rfl
               refine take_ (i := 4) (N := some 79) (v := ?_) (a' := ?_) #[tt,tt,tt,tt,tt,ff,tt,tt,ff,ff,ff,ff,ff,ff,ff] rfl rfl (take_ofW HT_.out HW_.out (by kernel_rfl)) (fun _ _ _ h => h) (Or.inl ⟨by rfl, ?_⟩) hHeld ?_ ?_
               rotate_left
               ·rintro w' ⟨s0, s1, s2⟩
                go_simp
                with_reducible rfl
               rotate_left
               ·simp only [Act.put, L1_, L2_, L3_, i64_w, i32_w]
                rfl
               refine take_ (i := 8) (N := some 83) (v := ?_) (a' := ?_) #[tt,tt,tt,tt,tt,ff,tt,tt,tt,ff,ff,ff,ff,ff,ff] rfl rfl (take_ofW HT_.out HW_.out (by kernel_rfl)) (fun _ _ _ h => h) (Or.inl ⟨by rfl, ?_⟩) hHeld ?_ ?_
               rotate_left
               ·rintro w' ⟨s0, s1, s2⟩
                go_simp
                with_reducible rfl
               rotate_left
               ·simp only [Act.put, L1_, L2_, L3_, i64_w, i32_w]
                rfl
               refine one_ (i := 5) (N := some 80) #[tt,tt,tt,tt,tt,tt,tt,tt,tt,ff,ff,ff,ff,ff,ff] rfl rfl (one_of HT_.out (by kernel_rfl)) (by decide) (fun K hK => ?_)
               refine goes_ Try.func51 (by kernel_rfl) rfl #[.pointer (some ⟨gb233, 0, none⟩), .int .i64 ((rd_T48 (rd_L8 l1 x65_2) x71_3).f0)] (by rfl) rfl rfl (by (try simp only [List.map_toArray, List.map_cons, List.map_nil]); first | done | rfl | (simp only [List.length_drop, List.length_take]; rfl)) ?_
               with_reducible refine (impl_builder_signed.calls gb233 x234000_3 x234001_3 x234002_3 ((rd_T48 (rd_L8 l1 x65_2) x71_3).f0) t267 t268 t269 t270 w _ ?side1 ?side2 A50.out).mono ?_
               (case side1 => repeat (first | (with_reducible first | exact (Aside0.mk (IsS102.of BK233.out GE233.out)).out | apply IsS102.alloc | apply IsS102.drewN | apply IsS102.drew | apply IsS102.set_0 | apply IsS102.set_1 | apply IsS102.set_2 | refine IsS102.far ?_ NB233_261.out _ | refine IsS102.far ?_ NB233_266.out _) | exact (Aside0.mk (IsS102.of BK233.out GE233.out)).out))
               (case side2 => repeat (first | (with_reducible first | exact HB.out | apply below_alloc | apply pw_below_drewN | apply below_drew1 | refine below_set ?_ (IsS102.ge (Aside0.mk (IsS102.of BK233.out GE233.out)).out) | refine below_set ?_ GE261.out | refine below_set ?_ GE266.out) | exact HB.out))
               rintro e w59 ⟨rfl, hi, hb, hk⟩
               refine ⟨_, rfl, ?_⟩
               have n0_ := Aside0.mk (Kd.R_mono (Kd.R_keep (IsS102.apart (show IsS102 w _ gb233 x234000_3 x234001_3 x234002_3 from by repeat (first | (with_reducible first | exact (Aside0.mk (IsS102.of BK233.out GE233.out)).out | apply IsS102.alloc | apply IsS102.drewN | apply IsS102.drew | apply IsS102.set_0 | apply IsS102.set_1 | apply IsS102.set_2 | refine IsS102.far ?_ NB233_261.out _ | refine IsS102.far ?_ NB233_266.out _) | exact (Aside0.mk (IsS102.of BK233.out GE233.out)).out)) (by (with_reducible repeat (first | apply Kd.R_alloc | apply Kd.R_drewN | apply Kd.R_drew)); exact HO_9.out) (by decide)) hk (fun _ h => h.2)) (fun _ h => h.1))
               have n1_ := Aside0.mk (Kd.S_mono (Kd.S_keep (IsS102.apartS (show IsS102 w _ gb233 x234000_3 x234001_3 x234002_3 from by repeat (first | (with_reducible first | exact (Aside0.mk (IsS102.of BK233.out GE233.out)).out | apply IsS102.alloc | apply IsS102.drewN | apply IsS102.drew | apply IsS102.set_0 | apply IsS102.set_1 | apply IsS102.set_2 | refine IsS102.far ?_ NB233_261.out _ | refine IsS102.far ?_ NB233_266.out _) | exact (Aside0.mk (IsS102.of BK233.out GE233.out)).out)) (by (with_reducible repeat (first | apply Kd.S_alloc | apply Kd.S_drewN | apply Kd.S_drew)); exact HO_12.out) (by decide)) hk (fun _ h => h.2)) (fun _ h => h.1))
               have n2_ := Aside0.mk (Kd.R_mono (Kd.R_keep (IsS102.apart (show IsS102 w _ gb233 x234000_3 x234001_3 x234002_3 from by repeat (first | (with_reducible first | exact (Aside0.mk (IsS102.of BK233.out GE233.out)).out | apply IsS102.alloc | apply IsS102.drewN | apply IsS102.drew | apply IsS102.set_0 | apply IsS102.set_1 | apply IsS102.set_2 | refine IsS102.far ?_ NB233_261.out _ | refine IsS102.far ?_ NB233_266.out _) | exact (Aside0.mk (IsS102.of BK233.out GE233.out)).out)) (by (with_reducible repeat (first | apply Kd.R_alloc | apply Kd.R_drewN | apply Kd.R_drew)); exact HO_262000.out) (by decide)) hk (fun _ h => h.2)) (fun _ h => h.1))
               have n3_ := Aside0.mk (KeepBut.blk hk (g' := gb261) (o := .cells #[u262000] 174 (0, 0)) (by (with_reducible repeat (first | refine b1_ ?_ _ | refine b2_ ?_ | refine b3_ ?_ _)); exact BK261.out) NB261_233.out (by simp))
               have n4_ := Aside0.mk (KeepBut.blk hk (g' := gb266) (o := .cells #[.int .i64 ((rd_T48 (rd_L8 l1 x65_2) x71_3).f0), .int .i64 ((rd_T48 (rd_L8 l1 x65_2) x71_3).f1)] 48 (0, 0)) (by (with_reducible repeat (first | refine b1_ ?_ _ | refine b2_ ?_ | refine b3_ ?_ _)); exact BK266.out) NB266_233.out (by simp))
               have n5_ := Aside0.mk (hb)
               have n6_ := Aside0.mk (IsS102.cells hi)
               clear HO_9
               clear HO_12
               clear HO_262000
               clear BK261
               clear BK266
               clear HB
               clear BK233
               have HO_9 := n0_
               have HO_12 := n1_
               have HO_262000 := n2_
               have BK261 := n3_
               have BK266 := n4_
               have HB := n5_
               have BK233 := n6_
               clear n0_ n1_ n2_ n3_ n4_ n5_ n6_
               (try clear hb)
               (try clear hb2)
               (try clear hk)
               (try clear hi)
               refine hK.out _ _ ⟨(blk_cell BK261.out 0).trans rfl, (blk_cell BK266.out 0).trans rfl, (blk_cell BK266.out 1).trans rfl⟩ (fun hHeld => ?_)
               clear hK K
               refine norm_ (a' := ?_) ?_ ?_
               rotate_left
               ·show Act.put _ (some 80) _ = _
                simp only [Act.put, L1_, L2_, L3_, i64_w, i32_w]
                rfl
               refine one_ (i := 9) (N := some 84) #[tt,tt,tt,tt,tt,tt,tt,tt,tt,tt,ff,ff,ff,ff,ff] rfl rfl (one_of HT_.out (by kernel_rfl)) (by decide) (fun K hK => ?_)
               refine goes_ Try.func51 (by kernel_rfl) rfl #[.pointer (some ⟨gb233, 0, none⟩), .int .i64 ((rd_T48 (rd_L8 l1 x65_2) x71_3).f1)] (by rfl) rfl rfl (by (try simp only [List.map_toArray, List.map_cons, List.map_nil]); first | done | rfl | (simp only [List.length_drop, List.length_take]; rfl)) ?_
               with_reducible refine (impl_builder_signed.calls gb233 t268 t269 t270 ((rd_T48 (rd_L8 l1 x65_2) x71_3).f1) t271 t272 t273 t274 w _ ?side1 ?side2 A51.out).mono ?_
               (case side1 => repeat (first | (with_reducible first | exact (Aside0.mk (IsS102.of BK233.out GE233.out)).out | apply IsS102.alloc | apply IsS102.drewN | apply IsS102.drew | apply IsS102.set_0 | apply IsS102.set_1 | apply IsS102.set_2 | refine IsS102.far ?_ NB233_261.out _ | refine IsS102.far ?_ NB233_266.out _) | exact (Aside0.mk (IsS102.of BK233.out GE233.out)).out))
               (case side2 => repeat (first | (with_reducible first | exact HB.out | apply below_alloc | apply pw_below_drewN | apply below_drew1 | refine below_set ?_ (IsS102.ge (Aside0.mk (IsS102.of BK233.out GE233.out)).out) | refine below_set ?_ GE261.out | refine below_set ?_ GE266.out) | exact HB.out))
               rintro e w60 ⟨rfl, hi, hb, hk⟩
               refine ⟨_, rfl, ?_⟩
               have n0_ := Aside0.mk (Kd.R_mono (Kd.R_keep (IsS102.apart (show IsS102 w _ gb233 t268 t269 t270 from by repeat (first | (with_reducible first | exact (Aside0.mk (IsS102.of BK233.out GE233.out)).out | apply IsS102.alloc | apply IsS102.drewN | apply IsS102.drew | apply IsS102.set_0 | apply IsS102.set_1 | apply IsS102.set_2 | refine IsS102.far ?_ NB233_261.out _ | refine IsS102.far ?_ NB233_266.out _) | exact (Aside0.mk (IsS102.of BK233.out GE233.out)).out)) (by (with_reducible repeat (first | apply Kd.R_alloc | apply Kd.R_drewN | apply Kd.R_drew)); exact HO_9.out) (by decide)) hk (fun _ h => h.2)) (fun _ h => h.1))
               have n1_ := Aside0.mk (Kd.S_mono (Kd.S_keep (IsS102.apartS (show IsS102 w _ gb233 t268 t269 t270 from by repeat (first | (with_reducible first | exact (Aside0.mk (IsS102.of BK233.out GE233.out)).out | apply IsS102.alloc | apply IsS102.drewN | apply IsS102.drew | apply IsS102.set_0 | apply IsS102.set_1 | apply IsS102.set_2 | refine IsS102.far ?_ NB233_261.out _ | refine IsS102.far ?_ NB233_266.out _) | exact (Aside0.mk (IsS102.of BK233.out GE233.out)).out)) (by (with_reducible repeat (first | apply Kd.S_alloc | apply Kd.S_drewN | apply Kd.S_drew)); exact HO_12.out) (by decide)) hk (fun _ h => h.2)) (fun _ h => h.1))
               have n2_ := Aside0.mk (Kd.R_mono (Kd.R_keep (IsS102.apart (show IsS102 w _ gb233 t268 t269 t270 from by repeat (first | (with_reducible first | exact (Aside0.mk (IsS102.of BK233.out GE233.out)).out | apply IsS102.alloc | apply IsS102.drewN | apply IsS102.drew | apply IsS102.set_0 | apply IsS102.set_1 | apply IsS102.set_2 | refine IsS102.far ?_ NB233_261.out _ | refine IsS102.far ?_ NB233_266.out _) | exact (Aside0.mk (IsS102.of BK233.out GE233.out)).out)) (by (with_reducible repeat (first | apply Kd.R_alloc | apply Kd.R_drewN | apply Kd.R_drew)); exact HO_262000.out) (by decide)) hk (fun _ h => h.2)) (fun _ h => h.1))
               have n3_ := Aside0.mk (KeepBut.blk hk (g' := gb261) (o := .cells #[u262000] 174 (0, 0)) (by (with_reducible repeat (first | refine b1_ ?_ _ | refine b2_ ?_ | refine b3_ ?_ _)); exact BK261.out) NB261_233.out (by simp))
               have n4_ := Aside0.mk (KeepBut.blk hk (g' := gb266) (o := .cells #[.int .i64 ((rd_T48 (rd_L8 l1 x65_2) x71_3).f0), .int .i64 ((rd_T48 (rd_L8 l1 x65_2) x71_3).f1)] 48 (0, 0)) (by (with_reducible repeat (first | refine b1_ ?_ _ | refine b2_ ?_ | refine b3_ ?_ _)); exact BK266.out) NB266_233.out (by simp))
               have n5_ := Aside0.mk (hb)
               have n6_ := Aside0.mk (IsS102.cells hi)
               clear HO_9
               clear HO_12
               clear HO_262000
               clear BK261
               clear BK266
               clear HB
               clear BK233
               have HO_9 := n0_
               have HO_12 := n1_
               have HO_262000 := n2_
               have BK261 := n3_
               have BK266 := n4_
               have HB := n5_
               have BK233 := n6_
               clear n0_ n1_ n2_ n3_ n4_ n5_ n6_
               (try clear hb)
               (try clear hb2)
               (try clear hk)
               (try clear hi)
               refine hK.out _ _ ⟨(blk_cell BK261.out 0).trans rfl, (blk_cell BK266.out 0).trans rfl, (blk_cell BK266.out 1).trans rfl⟩ (fun hHeld => ?_)
               clear hK K
               refine norm_ (a' := ?_) ?_ ?_
               rotate_left
               ·show Act.put _ (some 84) _ = _
                simp only [Act.put, L1_, L2_, L3_, i64_w, i32_w]
                rfl
               refine pure_ (i := 10) (N := some 85) (v := ?_) (a' := ?_) #[tt,tt,tt,tt,tt,tt,tt,tt,tt,tt,tt,ff,ff,ff,ff] rfl rfl (any_of HT_.out (by kernel_rfl)) (fun _ _ _ h => h) (Or.inl ⟨by rfl, ?_⟩) ?_ ?_
               rotate_left
               ·intro w'
                go_simp
                with_reducible rfl
               rotate_left
               ·simp only [Act.put, L1_, L2_, L3_, i64_w, i32_w]
                rfl
               refine one_ (i := 11) (N := some 86) #[tt,tt,tt,tt,tt,tt,tt,tt,tt,tt,tt,tt,ff,ff,ff] rfl rfl (one_of HT_.out (by kernel_rfl)) (by decide) (fun K hK => ?_)
               refine value_ (w1 := ?_) (v := ?_) (by rfl) rfl ?_ ?_
               rotate_left 2
               ·go_simp
                constructor
                ·rfl
                ·rfl
               refine hK.out _ _ ⟨(blk_cell (blk_alloc BK261.out _) 0).trans rfl, (blk_cell (blk_alloc BK266.out _) 0).trans rfl, (blk_cell (blk_alloc BK266.out _) 1).trans rfl⟩ (fun hHeld => ?_)
               clear hK K
               refine norm_ (a' := ?_) ?_ ?_
               rotate_left
               ·show Act.put _ (some 86) _ = _
                simp only [Act.put, L1_, L2_, L3_, i64_w, i32_w]
                rfl
               refine one_ (i := 12) (N := some 87) #[tt,tt,tt,tt,tt,tt,tt,tt,tt,tt,tt,tt,tt,ff,ff] rfl rfl (one_of HT_.out (by kernel_rfl)) (by decide) (fun K hK => ?_)
               refine Kd.R_append_step k177 (w0 := w) w.heap.size (by rfl) (.tmp 76) (.tmp 86) 172 177 (.agg #[(.int .i16 0), (.int .i16 0)]) 4 rfl Try.underlying172 info177 rfl (by decide) (by omega) u262000 x262000_3 (⟨t267, t271⟩ : S177) [.int .i16 t267, .int .i16 t271] (fun _ => True) (fun _ => False) rfl rfl ?aP (fun _ hk => hk.elim) ?aF ?aO ?aB ?aS ?aL ?_
               (case aP => exact k177_mkM _ _ _ (⟨t267, t271⟩ : S177))
               (case aB => exact (by repeat (first | (with_reducible first | exact HB.out | apply below_alloc | apply pw_below_drewN | apply below_drew1 | refine below_set ?_ GE233.out | refine below_set ?_ GE261.out | refine below_set ?_ GE266.out) | exact HB.out)))
               (case aF => exact (fun _ _ => trivial))
               (case aO => exact (by (with_reducible repeat (first | apply Kd.R_alloc | apply Kd.R_drewN | apply Kd.R_drew)); exact HO_262000.out))
               (case aS => exact (below_size (by repeat (first | (with_reducible first | exact HB.out | apply below_alloc | apply pw_below_drewN | apply below_drew1 | refine below_set ?_ GE233.out | refine below_set ?_ GE261.out | refine below_set ?_ GE266.out) | exact HB.out))))
               (case aL => have := LMc52.out; omega)
               intro v276 w61 ho hb hg hat
               rw [← Ny275.out] at ho
               have n0_ := Aside0.mk (Kd.R_over' (by (with_reducible repeat (first | apply Kd.R_alloc | apply Kd.R_drewN | apply Kd.R_drew)); exact HO_9.out) (Kd.R_typed (by (with_reducible repeat (first | apply Kd.R_alloc | apply Kd.R_drewN | apply Kd.R_drew)); exact HO_262000.out)) (by decide) hg)
               have n1_ := Aside0.mk (Kd.S_after (ok := (fun k_ => k_ ≠ gb261)) (by (with_reducible repeat (first | apply Kd.S_alloc | apply Kd.S_drewN | apply Kd.S_drew)); exact Kd.S_mono HO_12.out (fun _ hk => ⟨hk.2, hk.1⟩)) hg hat)
               have n2_ := Aside0.mk (blk_grown (g := gb233) (o := .cells #[.int .i64 t272, .int .i64 t273, .bool t274] 102 (0, 0)) (by (with_reducible repeat (first | refine b1_ ?_ _ | refine b2_ ?_ | refine b3_ ?_ _)); exact BK233.out) hg (Kd.R_ne HO_262000.out BK233.out (by decide)))
               have n3_ := Aside0.mk (blk_grown (g := gb261) (o := .cells #[u262000] 174 (0, 0)) (by (with_reducible repeat (first | refine b1_ ?_ _ | refine b2_ ?_ | refine b3_ ?_ _)); exact BK261.out) hg (Kd.R_ne HO_262000.out BK261.out (by decide)))
               have n4_ := Aside0.mk (blk_grown (g := gb266) (o := .cells #[.int .i64 ((rd_T48 (rd_L8 l1 x65_2) x71_3).f0), .int .i64 ((rd_T48 (rd_L8 l1 x65_2) x71_3).f1)] 48 (0, 0)) (by (with_reducible repeat (first | refine b1_ ?_ _ | refine b2_ ?_ | refine b3_ ?_ _)); exact BK266.out) hg (Kd.R_ne HO_262000.out BK266.out (by decide)))
               have n5_ := Aside0.mk (hb)
               have n6_ := Aside0.mk (ho)
               clear HO_9
               clear HO_12
               clear BK233
               clear BK261
               clear BK266
               clear HB
               clear HO_262000
               have HO_9 := n0_
               have HO_12 := n1_
               have BK233 := n2_
               have BK261 := n3_
               have BK266 := n4_
               have HB := n5_
               have HO277 := n6_
               clear n0_ n1_ n2_ n3_ n4_ n5_ n6_
               clear ho hb hg hat
               obtain ⟨Ao62, co62, eo62⟩ := Kd.R_slice HO277.out
               (first | subst eo62 | (injection eo62 with f1_ f2_ f3_; have f4_ := f1_.symm; have f5_ := f3_.symm; clear f1_ f2_ f3_; subst f4_; subst f5_))
               refine hK.out _ _ ⟨(blk_cell BK261.out 0).trans rfl, (blk_cell BK266.out 0).trans rfl, (blk_cell BK266.out 1).trans rfl⟩ (fun hHeld => ?_)
               clear hK K
               refine norm_ (a' := ?_) ?_ ?_
               rotate_left
               ·show Act.put _ (some 87) _ = _
                simp only [Act.put, L1_, L2_, L3_, i64_w, i32_w]
                rfl
               refine pure_ (i := 13) (N := some 88) (v := ?_) (a' := ?_) #[tt,tt,tt,tt,tt,tt,tt,tt,tt,tt,tt,tt,tt,tt,ff] rfl rfl (any_of HT_.out (by kernel_rfl)) (fun _ _ _ h => h) (Or.inl ⟨by rfl, ?_⟩) ?_ ?_
               rotate_left
               ·intro w'
                go_simp
                with_reducible rfl
               rotate_left
               ·simp only [Act.put, L1_, L2_, L3_, i64_w, i32_w]
                rfl
               refine last_ (i := 14) (N := none) #[tt,tt,tt,tt,tt,tt,tt,tt,tt,tt,tt,tt,tt,tt,tt] rfl rfl (one_of HT_.out (by kernel_rfl)) (by decide) (fun K hK => ?_)
               have hs63 : w61.cell? ⟨gb261, 0, none⟩ = some (u262000) := (blk_cell BK261.out 0).trans rfl
               have hfs63 := blk_frozen BK261.out 0
               have hns63_0 := NB233_261.out
               have hns63_2 := NB266_261.out
               have hms63_0 := NB261_233.out
               have hms63_2 := NB261_266.out
               refine skip_ (w1 := ?_) (by rfl) rfl ?_ ?_
               rotate_left
               ·go_simp
                rfl
               refine hK.out _ _ ?_
               clear hK K
               refine done_ (done_of HT_.out (by kernel_rfl)) ?_
               try go_wp2
               go_roundg k3
               case measure => have := HK1.out; have := HK2.out; have := HK3.out; omega
               case rel => exact ⟨(wrap64 (x71_3 + 1)), (t272), (t273), (t274), (y275), (.slice Ao62 y275.length co62), (by first | rfl | (simp; done) | (simp [*]; done)), H', ⟨by have := HK1.out; have := HK2.out; have := HK3.out; omega⟩, ⟨by (with_reducible repeat (first | apply Kd.R_alloc | apply Kd.R_drewN | apply Kd.R_drew)); exact Kd.R_mono (Kd.R_far (p := ⟨gb261, 0, none⟩) (Kd.R_types HO_9.out BK261.out (by decide)) (fun _ hk => hk.2) (.slice Ao62 y275.length co62)) (fun _ hk => trivial)⟩, ⟨by (with_reducible repeat (first | apply Kd.S_alloc | apply Kd.S_drewN | apply Kd.S_drew)); exact Kd.S_mono (Kd.S_far (p := ⟨gb261, 0, none⟩) (Kd.S_mono HO_12.out (fun k_ hk => (⟨hk, hk.1⟩ : _ ∧ k_ ≠ gb261))) (fun _ hk => hk.2) (.slice Ao62 y275.length co62)) (fun _ hk => ⟨hk.1.2, hk.1.1⟩)⟩, ⟨by (with_reducible repeat (first | apply Kd.R_alloc | apply Kd.R_drewN | apply Kd.R_drew)); exact Kd.R_mono (Kd.R_far (p := ⟨gb261, 0, none⟩) (Kd.R_types HO277.out BK261.out (by decide)) (fun _ hk => hk.2) (.slice Ao62 y275.length co62)) (fun _ hk => trivial)⟩, ⟨by (with_reducible repeat (first | refine b1_ ?_ _ | refine b2_ ?_ | refine b3_ ?_ _)); refine blk_far ?_ NB233_261.out _; (with_reducible repeat (first | refine b1_ ?_ _ | refine b2_ ?_ | refine b3_ ?_ _)); exact BK233.out⟩, ⟨by (with_reducible repeat (first | refine b1_ ?_ _ | refine b2_ ?_ | refine b3_ ?_ _)); refine blk_put (cs := #[u262000]) ?_ 0 _ rfl; (with_reducible repeat (first | refine b1_ ?_ _ | refine b2_ ?_ | refine b3_ ?_ _)); exact BK261.out⟩, ⟨by repeat (first | (with_reducible first | exact HB.out | apply below_alloc | apply pw_below_drewN | apply below_drew1 | refine below_set ?_ GE233.out | refine below_set ?_ GE261.out | refine below_set ?_ GE266.out) | exact HB.out)⟩⟩
              ·rw [if_neg c52] at H
               exact absurd H (by simp)
             ·rw [if_neg c49] at H
              exact absurd H (by simp)
            ·rw [if_neg c48] at H
             exact absurd H (by simp)
           ·rw [if_neg c47] at H
            have c47b0 : decide (x71_3 < ((rd_L8 l1 x65_2).length : Int)) = false := decide_eq_false c47
            clear c47
            by_cases c64 : x12_2.length < 5864062014805
            ·rw [if_pos c64] at H
             have LMc64 := Aside0.mk c64
             clear c64
             obtain ⟨y262, hy262⟩ : ∃ y_ : List (S174), y_ = (x12_2 ++ [(⟨x262000_3⟩ : S174)]) := ⟨_, rfl⟩
             replace H : (impl_Normalized.l1 k3 l0 l1 l2 x9_1 y262 l1 (l1.length : Int) (wrap64 (x65_2 + 1)) x234000_3 x234001_3 x234002_3) = some (r1, r2) := by first | (rw [hy262]; with_reducible exact H) | (have H2_ := (Option.bind_some _ _).symm.trans H; rw [hy262]; with_reducible exact H2_) | (have H2_ := (Option.bind_some _ _).symm.trans H; with_reducible exact H2_) | with_reducible exact H | (rw [hy262]; exact H) | exact H
             have Ny262 := Aside0.mk hy262
             clear hy262
             have H' := Aside0.mk H
             clear H
             have hnb65 := NB261_233.out
             have hnc65 := NB233_261.out
             have hcz66_0 : wr.cell? ⟨gb261, 0, none⟩ = some (u262000) := (blk_cell BK261.out 0).trans rfl
             have hfz66_0 := blk_frozen BK261.out 0
             obtain ⟨Ao68, co68, eo68⟩ := Kd.R_slice HO_262000.out
             subst eo68
             go_wp2_with (first | ((with_reducible refine gate_builtin (b := .append) (xs := #[.tmp 90, .tmp 92]) rfl ?_); (try (refine gate_guard (by rfl) ?_; dsimp only)); at_builtin; refine Kd.S_append k174 (w0 := w) w.heap.size rfl (.tmp 90) (.tmp 92) 171 174 (.agg #[(.slice none 0 0)]) 24 rfl Try.underlying171 info174 rfl (by decide) (by omega) u12 x12_2 (⟨x262000_3⟩ : S174) [.slice Ao68 x262000_3.length co68] (fun k_ => k_ ≠ gb261) (fun k_ => some k_ = (.slice Ao68 x262000_3.length co68 : Value).ownBlock) rfl rfl ?aP (fun k_ hk_ => ((Kd.R_mono (ok' := fun k_ => ((fun k_ => k_ ≠ gb261)) k_ ∧ some k_ ≠ (u12 : Value).ownBlock) (Kd.R_types (Kd.R_apart' (HO_262000.out) (Kd.S_typed HO_12.out) (by decide)) BK261.out (by decide)) (fun k_ hk => ⟨hk.2, hk.1.2⟩))).1 k_ hk_.symm) ?aF ?aO ?aB ?aS ?aL ?_; (case aP => exact k174_mkM _ _ _ (⟨x262000_3⟩ : S174) (Kd.R_mono (Kd.R_tight rfl (Kd.R_mono (ok' := fun k_ => ((fun k_ => k_ ≠ gb261)) k_ ∧ some k_ ≠ (u12 : Value).ownBlock) (Kd.R_types (Kd.R_apart' (HO_262000.out) (Kd.S_typed HO_12.out) (by decide)) BK261.out (by decide)) (fun k_ hk => ⟨hk.2, hk.1.2⟩))) (fun _ h_ => h_))); (case aB => exact (by repeat (first | (with_reducible first | exact HB.out | apply below_alloc | apply pw_below_drewN | apply below_drew1 | refine below_set ?_ GE233.out | refine below_set ?_ GE261.out) | exact HB.out))); (case aF => exact (fun k_ hk => Kd.freshB (g := gb261) (o := .cells #[.slice Ao68 x262000_3.length co68] 174 (0, 0)) (by (with_reducible repeat (first | refine b1_ ?_ _ | refine b2_ ?_ | refine b3_ ?_ _)); exact BK261.out) k_ hk)); (case aO => exact (by (with_reducible repeat (first | apply Kd.S_alloc | apply Kd.S_drewN | apply Kd.S_drew)); exact Kd.S_mono HO_12.out (fun k_ hk => ⟨hk.2, fun e_ => hk.1 e_⟩))); (case aS => exact (below_size (by repeat (first | (with_reducible first | exact HB.out | apply below_alloc | apply pw_below_drewN | apply below_drew1 | refine below_set ?_ GE233.out | refine below_set ?_ GE261.out) | exact HB.out)))); (case aL => have := LMc64.out; omega); intro v263 w67 ho hb hg hat; rw [← Ny262.out] at ho; have n0_ := Aside0.mk (Kd.R_over' (by (with_reducible repeat (first | apply Kd.R_alloc | apply Kd.R_drewN | apply Kd.R_drew)); exact HO_9.out) (Kd.S_typed (by (with_reducible repeat (first | apply Kd.S_alloc | apply Kd.S_drewN | apply Kd.S_drew)); exact HO_12.out)) (by decide) hg); have n1_ := Aside0.mk (blk_grown (g := gb233) (o := .cells #[.int .i64 x234000_3, .int .i64 x234001_3, .bool x234002_3] 102 (0, 0)) (by (with_reducible repeat (first | refine b1_ ?_ _ | refine b2_ ?_ | refine b3_ ?_ _)); exact BK233.out) hg (Kd.S_ne HO_12.out BK233.out (by decide))); have n2_ := Aside0.mk (blk_grown (g := gb261) (o := .cells #[.slice Ao68 x262000_3.length co68] 174 (0, 0)) (by (with_reducible repeat (first | refine b1_ ?_ _ | refine b2_ ?_ | refine b3_ ?_ _)); exact BK261.out) hg (Kd.S_away HO_12.out (fun _ hk => hk.2))); have n3_ := Aside0.mk (hb); have n4_ := Aside0.mk (ho); clear HO_9; clear BK233; clear BK261; clear HB; clear HO_12; clear HO_262000; have HO_9 := n0_; have BK233 := n1_; have BK261 := n2_; have HB := n3_; have HO264 := n4_; clear n0_ n1_ n2_ n3_ n4_; clear ho hb hg hat))
             go_roundg k3
             case measure => have := HK1.out; have := HK2.out; have := HK3.out; omega
             case rel => exact ⟨(y262), (wrap64 (x65_2 + 1)), (x234000_3), (x234001_3), (x234002_3), (by first | rfl | (simp; done) | (simp [*]; done)), H', ⟨by have := HK1.out; have := HK2.out; have := HK3.out; omega⟩, ⟨by (with_reducible repeat (first | apply Kd.R_alloc | apply Kd.R_drewN | apply Kd.R_drew)); exact HO_9.out⟩, ⟨by (with_reducible repeat (first | apply Kd.S_alloc | apply Kd.S_drewN | apply Kd.S_drew)); exact Kd.S_mono HO264.out (fun _ hk => trivial)⟩, ⟨by (with_reducible repeat (first | refine b1_ ?_ _ | refine b2_ ?_ | refine b3_ ?_ _)); exact BK233.out⟩, ⟨by repeat (first | (with_reducible first | exact HB.out | apply below_alloc | apply pw_below_drewN | apply below_drew1 | refine below_set ?_ GE233.out | refine below_set ?_ GE261.out) | exact HB.out)⟩⟩
            ·rw [if_neg c64] at H
             exact absurd H (by simp)
        ·rw [if_neg c45] at H
         exact absurd H (by simp)
       ·rw [if_neg c44] at H
        exact absurd H (by simp)
      ·rw [if_neg c43] at H
       have c43b0 : decide (x65_2 < (l1.length : Int)) = false := decide_eq_false c43
       clear c43
       have HC69 := Aside0.mk H
       clear H
       go_upto_region 21 with (fail)
       go_cut [] (fun wc => ∃ (kq : Nat) (x234000_68 : Int) (x234001_68 : Int) (x234002_68 : Bool), Aside0 (impl_Normalized.j3 kq l2 x9_1 x12_2 x234000_68 x234001_68 x234002_68 = some (r1, r2)) ∧ Aside0 (kq ≤ k2) ∧ Aside0 (Kd.R k170 170 wc w.heap.size (fun _ => True) u9 x9_1) ∧ Aside0 (Kd.S k174 174 wc w.heap.size (fun _ => True) u12 x12_2) ∧ Aside0 (wc.heap[gb233]? = some (.cells #[.int .i64 x234000_68, .int .i64 x234001_68, .bool x234002_68] 102 (0, 0))) ∧ Aside0 (Below w.heap.size w wc))
       case first =>
        have H := HC69.out
        clear HC69
        by_cases c70 : (l2.length : Int) = (l0.length : Int)
        ·rw [if_pos c70] at H
         have c70b0 : ((l2.length : Int) == (l0.length : Int)) = true := beq_iff_eq.mpr c70
         have c70b1 : ((l2.length : Int) != (l0.length : Int)) = false := bne_eq_false_iff_eq.mpr c70
         have c70b2 : (l2.length == l0.length) = true := by first | simpa using c70 | (simp at c70 ⊢; omega)
         clear c70
         (first | rw [c70b0] | (simp only [i64_w, i32_w]; rw [c70b0]) | skip)
         by_cases c71 : (l1.length : Int) = 0
         ·rw [if_pos c71] at H
          have c71b0 : ((l1.length : Int) == 0) = true := beq_iff_eq.mpr c71
          have c71b1 : ((l1.length : Int) != 0) = false := bne_eq_false_iff_eq.mpr c71
          clear c71
          replace H := Option.bind_eq_some_iff.mp H
          obtain ⟨⟨t278, t279, t280⟩, A720, H⟩ := H
          replace H : (impl_Normalized.j3 k2 l2 x9_1 x12_2 t278 t279 t280) = some (r1, r2) := H
          have A72 := Aside0.mk A720
          clear A720
          have H' := Aside0.mk H
          clear H
          go_wp2_with (first | ((with_reducible refine gate_callee (f := 50) rfl ?_); refine goesL_ (some 113) rfl rfl Try.func50 (by kernel_rfl) rfl #[.pointer (some ⟨gb233, 0, none⟩), .bool true] rfl (by (try simp only [List.map_toArray, List.map_cons, List.map_nil]); first | done | rfl | (simp only [List.length_drop, List.length_take]; rfl)) ?_; (with_reducible refine (impl_builder_must.calls gb233 x234000_2 x234001_2 x234002_2 true t278 t279 t280 w _ ?side1 ?side2 A72.out).mono ?_); (case side1 => repeat (first | (with_reducible first | exact (Aside0.mk (IsS102.of BK233.out GE233.out)).out | apply IsS102.alloc | apply IsS102.drewN | apply IsS102.drew | apply IsS102.set_0 | apply IsS102.set_1 | apply IsS102.set_2) | exact (Aside0.mk (IsS102.of BK233.out GE233.out)).out)); (case side2 => repeat (first | (with_reducible first | exact HB.out | apply below_alloc | apply pw_below_drewN | apply below_drew1 | refine below_set ?_ (IsS102.ge (Aside0.mk (IsS102.of BK233.out GE233.out)).out)) | exact HB.out)); rintro e w73 ⟨rfl, hi, hb, hk⟩; refine ⟨_, rfl, ?_⟩; have n0_ := Aside0.mk (Kd.R_mono (Kd.R_keep (IsS102.apart (show IsS102 w _ gb233 x234000_2 x234001_2 x234002_2 from by repeat (first | (with_reducible first | exact (Aside0.mk (IsS102.of BK233.out GE233.out)).out | apply IsS102.alloc | apply IsS102.drewN | apply IsS102.drew | apply IsS102.set_0 | apply IsS102.set_1 | apply IsS102.set_2) | exact (Aside0.mk (IsS102.of BK233.out GE233.out)).out)) (by (with_reducible repeat (first | apply Kd.R_alloc | apply Kd.R_drewN | apply Kd.R_drew)); exact HO_9.out) (by decide)) hk (fun _ h => h.2)) (fun _ h => h.1)); have n1_ := Aside0.mk (Kd.S_mono (Kd.S_keep (IsS102.apartS (show IsS102 w _ gb233 x234000_2 x234001_2 x234002_2 from by repeat (first | (with_reducible first | exact (Aside0.mk (IsS102.of BK233.out GE233.out)).out | apply IsS102.alloc | apply IsS102.drewN | apply IsS102.drew | apply IsS102.set_0 | apply IsS102.set_1 | apply IsS102.set_2) | exact (Aside0.mk (IsS102.of BK233.out GE233.out)).out)) (by (with_reducible repeat (first | apply Kd.S_alloc | apply Kd.S_drewN | apply Kd.S_drew)); exact HO_12.out) (by decide)) hk (fun _ h => h.2)) (fun _ h => h.1)); have n2_ := Aside0.mk (hb); have n3_ := Aside0.mk (IsS102.cells hi); clear HO_9; clear HO_12; clear HB; clear BK233; have HO_9 := n0_; have HO_12 := n1_; have HB := n2_; have BK233 := n3_; clear n0_ n1_ n2_ n3_; (try clear hb); (try clear hb2); (try clear hk); (try clear hi)))
          go_meet
          case rel => exact ⟨_, (t278), (t279), (t280), H', ⟨by have := HK1.out; have := HK2.out; first | omega | exact Nat.le_refl _⟩, ⟨by (with_reducible repeat (first | apply Kd.R_alloc | apply Kd.R_drewN | apply Kd.R_drew)); exact HO_9.out⟩, ⟨by (with_reducible repeat (first | apply Kd.S_alloc | apply Kd.S_drewN | apply Kd.S_drew)); exact HO_12.out⟩, ⟨by (with_reducible repeat (first | refine b1_ ?_ _ | refine b2_ ?_ | refine b3_ ?_ _)); exact BK233.out⟩, ⟨by repeat (first | (with_reducible first | exact HB.out | apply below_alloc | apply pw_below_drewN | apply below_drew1 | refine below_set ?_ GE233.out) | exact HB.out)⟩⟩
         ·rw [if_neg c71] at H
          have c71b0 : ((l1.length : Int) == 0) = false := beq_eq_false_iff_ne.mpr c71
          have c71b1 : ((l1.length : Int) != 0) = true := bne_iff_ne.mpr c71
          have c71b2 : ¬ (l1 = []) := fun h_ => c71 (by rw [h_]; rfl)
          replace H := Option.bind_eq_some_iff.mp H
          obtain ⟨⟨t281, t282, t283⟩, A740, H⟩ := H
          replace H : (impl_Normalized.j3 k2 l2 x9_1 x12_2 t281 t282 t283) = some (r1, r2) := H
          have A74 := Aside0.mk A740
          clear A740
          have H' := Aside0.mk H
          clear H
          go_wp2_with (first | ((with_reducible refine gate_callee (f := 50) rfl ?_); refine goesL_ (some 113) rfl rfl Try.func50 (by kernel_rfl) rfl #[.pointer (some ⟨gb233, 0, none⟩), .bool ((l1.length : Int) == (l0.length : Int))] rfl (by (try simp only [List.map_toArray, List.map_cons, List.map_nil]); first | done | rfl | (simp only [List.length_drop, List.length_take]; rfl)) ?_; (with_reducible refine (impl_builder_must.calls gb233 x234000_2 x234001_2 x234002_2 ((l1.length : Int) == (l0.length : Int)) t281 t282 t283 w _ ?side1 ?side2 A74.out).mono ?_); (case side1 => repeat (first | (with_reducible first | exact (Aside0.mk (IsS102.of BK233.out GE233.out)).out | apply IsS102.alloc | apply IsS102.drewN | apply IsS102.drew | apply IsS102.set_0 | apply IsS102.set_1 | apply IsS102.set_2) | exact (Aside0.mk (IsS102.of BK233.out GE233.out)).out)); (case side2 => repeat (first | (with_reducible first | exact HB.out | apply below_alloc | apply pw_below_drewN | apply below_drew1 | refine below_set ?_ (IsS102.ge (Aside0.mk (IsS102.of BK233.out GE233.out)).out)) | exact HB.out)); rintro e w75 ⟨rfl, hi, hb, hk⟩; refine ⟨_, rfl, ?_⟩; have n0_ := Aside0.mk (Kd.R_mono (Kd.R_keep (IsS102.apart (show IsS102 w _ gb233 x234000_2 x234001_2 x234002_2 from by repeat (first | (with_reducible first | exact (Aside0.mk (IsS102.of BK233.out GE233.out)).out | apply IsS102.alloc | apply IsS102.drewN | apply IsS102.drew | apply IsS102.set_0 | apply IsS102.set_1 | apply IsS102.set_2) | exact (Aside0.mk (IsS102.of BK233.out GE233.out)).out)) (by (with_reducible repeat (first | apply Kd.R_alloc | apply Kd.R_drewN | apply Kd.R_drew)); exact HO_9.out) (by decide)) hk (fun _ h => h.2)) (fun _ h => h.1)); have n1_ := Aside0.mk (Kd.S_mono (Kd.S_keep (IsS102.apartS (show IsS102 w _ gb233 x234000_2 x234001_2 x234002_2 from by repeat (first | (with_reducible first | exact (Aside0.mk (IsS102.of BK233.out GE233.out)).out | apply IsS102.alloc | apply IsS102.drewN | apply IsS102.drew | apply IsS102.set_0 | apply IsS102.set_1 | apply IsS102.set_2) | exact (Aside0.mk (IsS102.of BK233.out GE233.out)).out)) (by (with_reducible repeat (first | apply Kd.S_alloc | apply Kd.S_drewN | apply Kd.S_drew)); exact HO_12.out) (by decide)) hk (fun _ h => h.2)) (fun _ h => h.1)); have n2_ := Aside0.mk (hb); have n3_ := Aside0.mk (IsS102.cells hi); clear HO_9; clear HO_12; clear HB; clear BK233; have HO_9 := n0_; have HO_12 := n1_; have HB := n2_; have BK233 := n3_; clear n0_ n1_ n2_ n3_; (try clear hb); (try clear hb2); (try clear hk); (try clear hi)))
          go_meet
          case rel => exact ⟨_, (t281), (t282), (t283), H', ⟨by have := HK1.out; have := HK2.out; first | omega | exact Nat.le_refl _⟩, ⟨by (with_reducible repeat (first | apply Kd.R_alloc | apply Kd.R_drewN | apply Kd.R_drew)); exact HO_9.out⟩, ⟨by (with_reducible repeat (first | apply Kd.S_alloc | apply Kd.S_drewN | apply Kd.S_drew)); exact HO_12.out⟩, ⟨by (with_reducible repeat (first | refine b1_ ?_ _ | refine b2_ ?_ | refine b3_ ?_ _)); exact BK233.out⟩, ⟨by repeat (first | (with_reducible first | exact HB.out | apply below_alloc | apply pw_below_drewN | apply below_drew1 | refine below_set ?_ GE233.out) | exact HB.out)⟩⟩
        ·rw [if_neg c70] at H
         have c70b0 : ((l2.length : Int) == (l0.length : Int)) = false := beq_eq_false_iff_ne.mpr c70
         have c70b1 : ((l2.length : Int) != (l0.length : Int)) = true := bne_iff_ne.mpr c70
         have c70b2 : (l2.length == l0.length) = false := by first | simpa using c70 | (simp at c70 ⊢; omega)
         (first | rw [c70b0] | (simp only [i64_w, i32_w]; rw [c70b0]) | skip)
         replace H := Option.bind_eq_some_iff.mp H
         obtain ⟨⟨t284, t285, t286⟩, A760, H⟩ := H
         replace H : (impl_Normalized.j3 k2 l2 x9_1 x12_2 t284 t285 t286) = some (r1, r2) := H
         have A76 := Aside0.mk A760
         clear A760
         have H' := Aside0.mk H
         clear H
         go_wp2_with (first | ((with_reducible refine gate_callee (f := 50) rfl ?_); refine goesL_ (some 113) rfl rfl Try.func50 (by kernel_rfl) rfl #[.pointer (some ⟨gb233, 0, none⟩), .bool false] rfl (by (try simp only [List.map_toArray, List.map_cons, List.map_nil]); first | done | rfl | (simp only [List.length_drop, List.length_take]; rfl)) ?_; (with_reducible refine (impl_builder_must.calls gb233 x234000_2 x234001_2 x234002_2 false t284 t285 t286 w _ ?side1 ?side2 A76.out).mono ?_); (case side1 => repeat (first | (with_reducible first | exact (Aside0.mk (IsS102.of BK233.out GE233.out)).out | apply IsS102.alloc | apply IsS102.drewN | apply IsS102.drew | apply IsS102.set_0 | apply IsS102.set_1 | apply IsS102.set_2) | exact (Aside0.mk (IsS102.of BK233.out GE233.out)).out)); (case side2 => repeat (first | (with_reducible first | exact HB.out | apply below_alloc | apply pw_below_drewN | apply below_drew1 | refine below_set ?_ (IsS102.ge (Aside0.mk (IsS102.of BK233.out GE233.out)).out)) | exact HB.out)); rintro e w77 ⟨rfl, hi, hb, hk⟩; refine ⟨_, rfl, ?_⟩; have n0_ := Aside0.mk (Kd.R_mono (Kd.R_keep (IsS102.apart (show IsS102 w _ gb233 x234000_2 x234001_2 x234002_2 from by repeat (first | (with_reducible first | exact (Aside0.mk (IsS102.of BK233.out GE233.out)).out | apply IsS102.alloc | apply IsS102.drewN | apply IsS102.drew | apply IsS102.set_0 | apply IsS102.set_1 | apply IsS102.set_2) | exact (Aside0.mk (IsS102.of BK233.out GE233.out)).out)) (by (with_reducible repeat (first | apply Kd.R_alloc | apply Kd.R_drewN | apply Kd.R_drew)); exact HO_9.out) (by decide)) hk (fun _ h => h.2)) (fun _ h => h.1)); have n1_ := Aside0.mk (Kd.S_mono (Kd.S_keep (IsS102.apartS (show IsS102 w _ gb233 x234000_2 x234001_2 x234002_2 from by repeat (first | (with_reducible first | exact (Aside0.mk (IsS102.of BK233.out GE233.out)).out | apply IsS102.alloc | apply IsS102.drewN | apply IsS102.drew | apply IsS102.set_0 | apply IsS102.set_1 | apply IsS102.set_2) | exact (Aside0.mk (IsS102.of BK233.out GE233.out)).out)) (by (with_reducible repeat (first | apply Kd.S_alloc | apply Kd.S_drewN | apply Kd.S_drew)); exact HO_12.out) (by decide)) hk (fun _ h => h.2)) (fun _ h => h.1)); have n2_ := Aside0.mk (hb); have n3_ := Aside0.mk (IsS102.cells hi); clear HO_9; clear HO_12; clear HB; clear BK233; have HO_9 := n0_; have HO_12 := n1_; have HB := n2_; have BK233 := n3_; clear n0_ n1_ n2_ n3_; (try clear hb); (try clear hb2); (try clear hk); (try clear hi)))
         go_meet
         case rel => exact ⟨_, (t284), (t285), (t286), H', ⟨by have := HK1.out; have := HK2.out; first | omega | exact Nat.le_refl _⟩, ⟨by (with_reducible repeat (first | apply Kd.R_alloc | apply Kd.R_drewN | apply Kd.R_drew)); exact HO_9.out⟩, ⟨by (with_reducible repeat (first | apply Kd.S_alloc | apply Kd.S_drewN | apply Kd.S_drew)); exact HO_12.out⟩, ⟨by (with_reducible repeat (first | refine b1_ ?_ _ | refine b2_ ?_ | refine b3_ ?_ _)); exact BK233.out⟩, ⟨by repeat (first | (with_reducible first | exact HB.out | apply below_alloc | apply pw_below_drewN | apply below_drew1 | refine below_set ?_ GE233.out) | exact HB.out)⟩⟩
       case rest =>
        clear HC69
        try clear c1
        try clear c2
        try clear p2
        try clear q2
        try clear hx2
        try clear c3
        try clear c4
        try clear c5
        try clear c5b0
        try clear c6
        try clear c6b0
        try clear p6
        try clear c7
        try clear c7b0
        try clear c8
        try clear c8b0
        try clear c8b1
        try clear c8b2
        try clear c9
        try clear c9b0
        try clear c9b1
        try clear c9b2
        try clear c10
        try clear c10b0
        try clear c10b1
        try clear c10b2
        try clear c12
        try clear c14
        try clear c20
        try clear c22
        try clear p23
        try clear q23
        try clear hx23
        try clear c26
        try clear p26
        try clear q26
        try clear hx26
        try clear c27
        try clear c28
        try clear c30
        try clear c36
        try clear c38
        try clear c43
        try clear c43b0
        try clear c44
        try clear c44b0
        try clear c45
        try clear c45b0
        try clear c47
        try clear c47b0
        try clear c48
        try clear c48b0
        try clear c49
        try clear c49b0
        try clear c50
        try clear c51
        try clear c52
        try clear c54
        try clear c55
        try clear c64
        try clear p64
        try clear c65
        try clear c70
        try clear c70b0
        try clear c70b1
        try clear c70b2
        try clear c71
        try clear c71b0
        try clear c71b1
        try clear c71b2
        try clear hcz15_0
        try clear hcz15_1
        try clear hcz15_2
        try clear hcz17_0
        try clear hcz17_1
        try clear hcz17_2
        try clear hcz23_0
        try clear hcz23_1
        try clear hcz23_2
        try clear hcz25_0
        try clear hcz25_1
        try clear hcz25_2
        try clear hcz31_0
        try clear hcz31_1
        try clear hcz31_2
        try clear hcz33_0
        try clear hcz33_1
        try clear hcz33_2
        try clear hcz39_0
        try clear hcz39_1
        try clear hcz39_2
        try clear hcz41_0
        try clear hcz41_1
        try clear hcz41_2
        try clear hcz56_0
        try clear hcz56_1
        try clear hcz66_0
        try clear hfz15_0
        try clear hfz15_1
        try clear hfz15_2
        try clear hfz17_0
        try clear hfz17_1
        try clear hfz17_2
        try clear hfz23_0
        try clear hfz23_1
        try clear hfz23_2
        try clear hfz25_0
        try clear hfz25_1
        try clear hfz25_2
        try clear hfz31_0
        try clear hfz31_1
        try clear hfz31_2
        try clear hfz33_0
        try clear hfz33_1
        try clear hfz33_2
        try clear hfz39_0
        try clear hfz39_1
        try clear hfz39_2
        try clear hfz41_0
        try clear hfz41_1
        try clear hfz41_2
        try clear hfz56_0
        try clear hfz56_1
        try clear hfz66_0
        try clear hx234_0
        try clear hx234_1
        try clear hx234_2
        try clear hx260_0
        try clear hx265_0
        try clear hx265_1
        try clear p2
        try clear p23
        try clear p234
        try clear p26
        try clear p260
        try clear p265
        try clear p6
        try clear q2
        try clear q23
        try clear q234
        try clear q26
        try clear q260
        try clear q265
        obtain ⟨kq, x234000_68, x234001_68, x234002_68, HA, HJ68, HO_9, HO_12, BK233, HB⟩ := hcut
        cases kq with
        | zero => exact absurd HA.out (by simp [impl_Normalized.j3])
        | succ kj68 =>
         have H := HA.out
         clear HA
         simp only [impl_Normalized.j3] at H
         have H' := Aside0.mk H
         clear H
         go_wp2
         go_loopg [116] kj68 (fun kq v116 w' => ∃ (x116_4 : Int) (x234000_4 : Int) (x234001_4 : Int) (x234002_4 : Bool), v116 = .int .i64 x116_4 ∧ Aside0 (impl_Normalized.l3 kq l2 x9_1 x12_2 l2 (l2.length : Int) x116_4 x234000_4 x234001_4 x234002_4 = some (r1, r2)) ∧ Aside0 (kq ≤ kj68) ∧ Aside0 (Kd.R k170 170 w' w.heap.size (fun _ => True) u9 x9_1) ∧ Aside0 (Kd.S k174 174 w' w.heap.size (fun _ => True) u12 x12_2) ∧ Aside0 (w'.heap[gb233]? = some (.cells #[.int .i64 x234000_4, .int .i64 x234001_4, .bool x234002_4] 102 (0, 0))) ∧ Aside0 (Below w.heap.size w w'))
         case atStart => exact ⟨(0), (x234000_68), (x234001_68), (x234002_68), (by first | rfl | (simp; done) | (simp [*]; done)), H', ⟨Nat.le_refl _⟩, ⟨by (with_reducible repeat (first | apply Kd.R_alloc | apply Kd.R_drewN | apply Kd.R_drew)); exact HO_9.out⟩, ⟨by (with_reducible repeat (first | apply Kd.S_alloc | apply Kd.S_drewN | apply Kd.S_drew)); exact HO_12.out⟩, ⟨by (with_reducible repeat (first | refine b1_ ?_ _ | refine b2_ ?_ | refine b3_ ?_ _)); exact BK233.out⟩, ⟨by repeat (first | (with_reducible first | exact HB.out | apply below_alloc | apply pw_below_drewN | apply below_drew1 | refine below_set ?_ GE233.out) | exact HB.out)⟩⟩
         case round =>
          clear H'
          try clear c1
          try clear c2
          try clear p2
          try clear q2
          try clear hx2
          try clear c3
          try clear c4
          try clear c5
          try clear c5b0
          try clear c6
          try clear c6b0
          try clear p6
          try clear c7
          try clear c7b0
          try clear c8
          try clear c8b0
          try clear c8b1
          try clear c8b2
          try clear c9
          try clear c9b0
          try clear c9b1
          try clear c9b2
          try clear c10
          try clear c10b0
          try clear c10b1
          try clear c10b2
          try clear c12
          try clear c14
          try clear c20
          try clear c22
          try clear p23
          try clear q23
          try clear hx23
          try clear c26
          try clear p26
          try clear q26
          try clear hx26
          try clear c27
          try clear c28
          try clear c30
          try clear c36
          try clear c38
          try clear c43
          try clear c43b0
          try clear c44
          try clear c44b0
          try clear c45
          try clear c45b0
          try clear c47
          try clear c47b0
          try clear c48
          try clear c48b0
          try clear c49
          try clear c49b0
          try clear c50
          try clear c51
          try clear c52
          try clear c54
          try clear c55
          try clear c64
          try clear p64
          try clear c65
          try clear c70
          try clear c70b0
          try clear c70b1
          try clear c70b2
          try clear c71
          try clear c71b0
          try clear c71b1
          try clear c71b2
          try clear hcz15_0
          try clear hcz15_1
          try clear hcz15_2
          try clear hcz17_0
          try clear hcz17_1
          try clear hcz17_2
          try clear hcz23_0
          try clear hcz23_1
          try clear hcz23_2
          try clear hcz25_0
          try clear hcz25_1
          try clear hcz25_2
          try clear hcz31_0
          try clear hcz31_1
          try clear hcz31_2
          try clear hcz33_0
          try clear hcz33_1
          try clear hcz33_2
          try clear hcz39_0
          try clear hcz39_1
          try clear hcz39_2
          try clear hcz41_0
          try clear hcz41_1
          try clear hcz41_2
          try clear hcz56_0
          try clear hcz56_1
          try clear hcz66_0
          try clear hfz15_0
          try clear hfz15_1
          try clear hfz15_2
          try clear hfz17_0
          try clear hfz17_1
          try clear hfz17_2
          try clear hfz23_0
          try clear hfz23_1
          try clear hfz23_2
          try clear hfz25_0
          try clear hfz25_1
          try clear hfz25_2
          try clear hfz31_0
          try clear hfz31_1
          try clear hfz31_2
          try clear hfz33_0
          try clear hfz33_1
          try clear hfz33_2
          try clear hfz39_0
          try clear hfz39_1
          try clear hfz39_2
          try clear hfz41_0
          try clear hfz41_1
          try clear hfz41_2
          try clear hfz56_0
          try clear hfz56_1
          try clear hfz66_0
          try clear hx234_0
          try clear hx234_1
          try clear hx234_2
          try clear hx260_0
          try clear hx265_0
          try clear hx265_1
          try clear p2
          try clear p23
          try clear p234
          try clear p26
          try clear p260
          try clear p265
          try clear p6
          try clear p64
          try clear q2
          try clear q23
          try clear q234
          try clear q26
          try clear q260
          try clear q265
          obtain ⟨x116_4, x234000_4, x234001_4, x234002_4, rfl, HA, HK4, HO_9, HO_12, BK233, HB⟩ := hrel
          cases gk with
          | zero => exact absurd HA.out (by simp [impl_Normalized.l3])
          | succ k4 =>
           have H := HA.out
           clear HA
           simp only [impl_Normalized.l3] at H
           by_cases c78 : x116_4 < (l2.length : Int)
           ·rw [if_pos c78] at H
            have c78b0 : decide (x116_4 < (l2.length : Int)) = true := decide_eq_true c78
            clear c78
            by_cases c79 : 0 ≤ x116_4
            ·rw [if_pos c79] at H
             have c79b0 : decide (0 ≤ x116_4) = true := decide_eq_true c79
             clear c79
             by_cases c80 : x116_4 < (l2.length : Int)
             ·rw [if_pos c80] at H
              have c80b0 : decide (x116_4 < (l2.length : Int)) = true := decide_eq_true c80
              clear c80
              replace H := Option.bind_eq_some_iff.mp H
              obtain ⟨⟨t288, t289, t290⟩, A810, H⟩ := H
              replace H : (impl_Normalized.l3 k4 l2 x9_1 x12_2 l2 (l2.length : Int) (wrap64 (x116_4 + 1)) t288 t289 t290) = some (r1, r2) := H
              have A81 := Aside0.mk A810
              clear A810
              have H' := Aside0.mk H
              clear H
              have p287 : 0 ≤ (x116_4 : Int) := of_decide_eq_true (by first | (with_reducible assumption) | assumption)
              have q287 : x116_4 < (l2.length : Int) := of_decide_eq_true (by first | (with_reducible assumption) | assumption)
              obtain ⟨ad287, e287, hx287_0⟩ := at_flt HR2.out x116_4 p287 q287
              cases e287
              replace hx287_0 := (HB.out.cell (World.block_lt_of_cell? w _ hx287_0)).trans hx287_0
              replace p287 := eq_true p287
              replace q287 := eq_true q287
              go_wp2_with (first | ((with_reducible refine gate_callee (f := 50) rfl ?_); refine goesL_ (some 124) rfl rfl Try.func50 (by kernel_rfl) rfl #[.pointer (some ⟨gb233, 0, none⟩), .bool (FloatKind.f32.format.order (rdOf (0 : Nat) l2 x116_4) (rdOf (0 : Nat) l2 x116_4) == some .eq)] rfl (by (try simp only [List.map_toArray, List.map_cons, List.map_nil]); first | done | rfl | (simp only [List.length_drop, List.length_take]; rfl)) ?_; (with_reducible refine (impl_builder_must.calls gb233 x234000_4 x234001_4 x234002_4 (FloatKind.f32.format.order (rdOf (0 : Nat) l2 x116_4) (rdOf (0 : Nat) l2 x116_4) == some .eq) t288 t289 t290 w _ ?side1 ?side2 A81.out).mono ?_); (case side1 => repeat (first | (with_reducible first | exact (Aside0.mk (IsS102.of BK233.out GE233.out)).out | apply IsS102.alloc | apply IsS102.drewN | apply IsS102.drew | apply IsS102.set_0 | apply IsS102.set_1 | apply IsS102.set_2) | exact (Aside0.mk (IsS102.of BK233.out GE233.out)).out)); (case side2 => repeat (first | (with_reducible first | exact HB.out | apply below_alloc | apply pw_below_drewN | apply below_drew1 | refine below_set ?_ (IsS102.ge (Aside0.mk (IsS102.of BK233.out GE233.out)).out)) | exact HB.out)); rintro e w82 ⟨rfl, hi, hb, hk⟩; refine ⟨_, rfl, ?_⟩; have n0_ := Aside0.mk (Kd.R_mono (Kd.R_keep (IsS102.apart (show IsS102 w _ gb233 x234000_4 x234001_4 x234002_4 from by repeat (first | (with_reducible first | exact (Aside0.mk (IsS102.of BK233.out GE233.out)).out | apply IsS102.alloc | apply IsS102.drewN | apply IsS102.drew | apply IsS102.set_0 | apply IsS102.set_1 | apply IsS102.set_2) | exact (Aside0.mk (IsS102.of BK233.out GE233.out)).out)) (by (with_reducible repeat (first | apply Kd.R_alloc | apply Kd.R_drewN | apply Kd.R_drew)); exact HO_9.out) (by decide)) hk (fun _ h => h.2)) (fun _ h => h.1)); have n1_ := Aside0.mk (Kd.S_mono (Kd.S_keep (IsS102.apartS (show IsS102 w _ gb233 x234000_4 x234001_4 x234002_4 from by repeat (first | (with_reducible first | exact (Aside0.mk (IsS102.of BK233.out GE233.out)).out | apply IsS102.alloc | apply IsS102.drewN | apply IsS102.drew | apply IsS102.set_0 | apply IsS102.set_1 | apply IsS102.set_2) | exact (Aside0.mk (IsS102.of BK233.out GE233.out)).out)) (by (with_reducible repeat (first | apply Kd.S_alloc | apply Kd.S_drewN | apply Kd.S_drew)); exact HO_12.out) (by decide)) hk (fun _ h => h.2)) (fun _ h => h.1)); have n2_ := Aside0.mk (hb); have n3_ := Aside0.mk (IsS102.cells hi); clear HO_9; clear HO_12; clear HB; clear BK233; have HO_9 := n0_; have HO_12 := n1_; have HB := n2_; have BK233 := n3_; clear n0_ n1_ n2_ n3_; (try clear hb); (try clear hb2); (try clear hk); (try clear hi)))
              go_roundg k4
              case measure => have := HK1.out; have := HK2.out; have := HJ68.out; have := HK4.out; omega
              case rel => exact ⟨(wrap64 (x116_4 + 1)), (t288), (t289), (t290), (by first | rfl | (simp; done) | (simp [*]; done)), H', ⟨by have := HK1.out; have := HK2.out; have := HJ68.out; have := HK4.out; omega⟩, ⟨by (with_reducible repeat (first | apply Kd.R_alloc | apply Kd.R_drewN | apply Kd.R_drew)); exact HO_9.out⟩, ⟨by (with_reducible repeat (first | apply Kd.S_alloc | apply Kd.S_drewN | apply Kd.S_drew)); exact HO_12.out⟩, ⟨by (with_reducible repeat (first | refine b1_ ?_ _ | refine b2_ ?_ | refine b3_ ?_ _)); exact BK233.out⟩, ⟨by repeat (first | (with_reducible first | exact HB.out | apply below_alloc | apply pw_below_drewN | apply below_drew1 | refine below_set ?_ GE233.out) | exact HB.out)⟩⟩
             ·rw [if_neg c80] at H
              exact absurd H (by simp)
            ·rw [if_neg c79] at H
             exact absurd H (by simp)
           ·rw [if_neg c78] at H
            have c78b0 : decide (x116_4 < (l2.length : Int)) = false := decide_eq_false c78
            clear c78
            by_cases c83 : x234002_4 = true
            ·subst c83
             have H1 : (some (([] : List Int), false)) = some (r1, r2) := by rw [if_pos rfl] at H; exact H
             clear H
             have H := H1
             clear H1
             simp only [Option.some.injEq, Prod.mk.injEq] at H
             obtain ⟨rfl, rfl⟩ := H
             have hcz84_0 : wr.cell? ⟨gb233, 0, none⟩ = some (.int .i64 x234000_4) := (blk_cell BK233.out 0).trans rfl
             have hcz84_1 : wr.cell? ⟨gb233, 1, none⟩ = some (.int .i64 x234001_4) := (blk_cell BK233.out 1).trans rfl
             have hcz84_2 : wr.cell? ⟨gb233, 2, none⟩ = some (.bool true) := (blk_cell BK233.out 2).trans rfl
             have hfz84_0 := blk_frozen BK233.out 0
             have hfz84_1 := blk_frozen BK233.out 1
             have hfz84_2 := blk_frozen BK233.out 2
             go_wp2
             go_ret2
             exact ⟨_, by first | rfl | (simp [errW_none, errW_some] <;> rfl) | (simp [*, errW_none, errW_some] <;> rfl), by first | exact Kd.R_nil _ _ _ _ _ | exact Kd.N_nil _ _ _ _ _ | exact Kd.V_nil _ _ _ _ _ | exact Kd.Q_nil _ _ _ _ _ | exact Kd.S_nil _ _ _ _ _, by repeat (first | (with_reducible first | exact HB.out | apply below_alloc | apply pw_below_drewN | apply below_drew1 | refine below_set ?_ GE233.out) | exact HB.out)⟩
            ·replace c83 := Bool.eq_false_iff.mpr c83
             subst c83
             have H1 : ((font_ZzNormalize.f k4 x9_1 x12_2 l2).bind fun t291 => ((tables_Coord.f k4 t291).bind fun t294 => (some (t294, true)))) = some (r1, r2) := by rw [if_neg (show ¬ (false = true) by decide)] at H; exact H
             clear H
             have H := H1
             clear H1
             replace H := Option.bind_eq_some_iff.mp H
             obtain ⟨t291, A850, H⟩ := H
             replace H : ((tables_Coord.f k4 t291).bind fun t294 => (some (t294, true))) = some (r1, r2) := H
             have A85 := Aside0.mk A850
             clear A850
             replace H := Option.bind_eq_some_iff.mp H
             obtain ⟨t294, A860, H⟩ := H
             replace H : (some (t294, true)) = some (r1, r2) := H
             have A86 := Aside0.mk A860
             clear A860
             simp only [Option.some.injEq, Prod.mk.injEq] at H
             obtain ⟨rfl, rfl⟩ := H
             have hcz87_0 : wr.cell? ⟨gb233, 0, none⟩ = some (.int .i64 x234000_4) := (blk_cell BK233.out 0).trans rfl
             have hcz87_1 : wr.cell? ⟨gb233, 1, none⟩ = some (.int .i64 x234001_4) := (blk_cell BK233.out 1).trans rfl
             have hcz87_2 : wr.cell? ⟨gb233, 2, none⟩ = some (.bool false) := (blk_cell BK233.out 2).trans rfl
             have hfz87_0 := blk_frozen BK233.out 0
             have hfz87_1 := blk_frozen BK233.out 1
             have hfz87_2 := blk_frozen BK233.out 2
             obtain ⟨Ao88, co88, eo88⟩ := Kd.R_slice HO_9.out
             subst eo88
             obtain ⟨Ao89, co89, eo89⟩ := Kd.S_slice HO_12.out
             subst eo89
             go_wp2_with (first | ((with_reducible refine gate_callee (f := 57) rfl ?_); refine goesL_ (some 133) rfl rfl Try.func57 (by kernel_rfl) rfl #[.slice Ao88 x9_1.length co88, .slice Ao89 x12_2.length co89, .slice A2 l2.length c2] rfl (by (try simp only [List.map_toArray, List.map_cons, List.map_nil]); first | done | rfl | (simp only [List.length_drop, List.length_take]; rfl)) ?_; (with_reducible refine (font_ZzNormalize.calls k4 _ _ x9_1 _ _ x12_2 _ _ l2 t291 _ ?side1 ?side2 ?side3 ?side4 ?side5 ?side6 A85.out).mono ?_); (case side1 => repeat (first | exact (Kd.R_reads' HO_9.out).2.2 | (with_reducible refine Kd.C_alloc ?_ _) | (with_reducible refine Kd.C_drewN ?_ _) | (with_reducible refine Kd.C_drew ?_))); (case side2 => exact (Kd.R_reads' HO_9.out).2.1); (case side3 => repeat (first | exact (Kd.S_reads' HO_12.out).2.2 | (with_reducible refine Kd.C_alloc ?_ _) | (with_reducible refine Kd.C_drewN ?_ _) | (with_reducible refine Kd.C_drew ?_))); (case side4 => exact (Kd.S_reads' HO_12.out).2.1); (case side5 => repeat (first | exact (Kd.C_below HR2.out HB.out) | (with_reducible refine Kd.C_alloc ?_ _) | (with_reducible refine Kd.C_drewN ?_ _) | (with_reducible refine Kd.C_drew ?_))); (case side6 => exact HC2.out); rintro e w90 ⟨v292, rfl, ho0, hb⟩; refine ⟨_, rfl, ?_⟩; have n0_ := Aside0.mk (Kd.R_below (by (with_reducible repeat (first | apply Kd.R_alloc | apply Kd.R_drewN | apply Kd.R_drew)); exact HO_9.out) hb); have n1_ := Aside0.mk (Kd.S_below (by (with_reducible repeat (first | apply Kd.S_alloc | apply Kd.S_drewN | apply Kd.S_drew)); exact HO_12.out) hb); have n2_ := Aside0.mk (Kd.R_lower ho0 (below_size (by repeat (first | (with_reducible first | exact HB.out | apply below_alloc | apply pw_below_drewN | apply below_drew1 | refine below_set ?_ GE233.out) | exact HB.out)))); have n3_ := Aside0.mk (blk_below (g := gb233) (o := .cells #[.int .i64 x234000_4, .int .i64 x234001_4, .bool false] 102 (0, 0)) (by (with_reducible repeat (first | refine b1_ ?_ _ | refine b2_ ?_ | refine b3_ ?_ _)); exact BK233.out) hb); have n4_ := Aside0.mk (below_step (by repeat (first | (with_reducible first | exact HB.out | apply below_alloc | apply pw_below_drewN | apply below_drew1 | refine below_set ?_ GE233.out) | exact HB.out)) hb); clear HO_9; clear HO_12; clear BK233; clear HB; have HO_9 := n0_; have HO_12 := n1_; have HO293 := n2_; have BK233 := n3_; have HB := n4_; clear n0_ n1_ n2_ n3_ n4_; (try clear hb); (try clear hb2); (try clear hk); (try clear hi); (try clear ho0); obtain ⟨Ao91, co91, eo91⟩ := Kd.R_slice HO293.out; subst eo91) | ((with_reducible refine gate_callee (f := 56) rfl ?_); refine goesL_ (some 134) rfl rfl Try.func56 (by kernel_rfl) rfl #[.slice Ao91 t291.length co91] rfl (by (try simp only [List.map_toArray, List.map_cons, List.map_nil]); first | done | rfl | (simp only [List.length_drop, List.length_take]; rfl)) ?_; (with_reducible refine (tables_Coord.calls k4 _ _ t291 t294 _ ?side1 ?side2 A86.out).mono ?_); (case side1 => repeat (first | exact (Kd.R_reads' HO293.out).2.2 | (with_reducible refine Kd.C_alloc ?_ _) | (with_reducible refine Kd.C_drewN ?_ _) | (with_reducible refine Kd.C_drew ?_))); (case side2 => exact (Kd.R_reads' HO293.out).2.1); rintro e w92 ⟨v295, rfl, ho0, hb⟩; refine ⟨_, rfl, ?_⟩; have n0_ := Aside0.mk (Kd.R_below (by (with_reducible repeat (first | apply Kd.R_alloc | apply Kd.R_drewN | apply Kd.R_drew)); exact HO_9.out) hb); have n1_ := Aside0.mk (Kd.S_below (by (with_reducible repeat (first | apply Kd.S_alloc | apply Kd.S_drewN | apply Kd.S_drew)); exact HO_12.out) hb); have n2_ := Aside0.mk (Kd.R_below (by (with_reducible repeat (first | apply Kd.R_alloc | apply Kd.R_drewN | apply Kd.R_drew)); exact HO293.out) hb); have n3_ := Aside0.mk (Kd.R_lower ho0 (below_size (by repeat (first | (with_reducible first | exact HB.out | apply below_alloc | apply pw_below_drewN | apply below_drew1 | refine below_set ?_ GE233.out) | exact HB.out)))); have n4_ := Aside0.mk (blk_below (g := gb233) (o := .cells #[.int .i64 x234000_4, .int .i64 x234001_4, .bool false] 102 (0, 0)) (by (with_reducible repeat (first | refine b1_ ?_ _ | refine b2_ ?_ | refine b3_ ?_ _)); exact BK233.out) hb); have n5_ := Aside0.mk (below_step (by repeat (first | (with_reducible first | exact HB.out | apply below_alloc | apply pw_below_drewN | apply below_drew1 | refine below_set ?_ GE233.out) | exact HB.out)) hb); clear HO_9; clear HO_12; clear HO293; clear BK233; clear HB; have HO_9 := n0_; have HO_12 := n1_; have HO293 := n2_; have HO296 := n3_; have BK233 := n4_; have HB := n5_; clear n0_ n1_ n2_ n3_ n4_ n5_; (try clear hb); (try clear hb2); (try clear hk); (try clear hi); (try clear ho0)))
             go_ret2
             exact ⟨_, by first | rfl | (simp [errW_none, errW_some] <;> rfl) | (simp [*, errW_none, errW_some] <;> rfl), by (with_reducible repeat (first | apply Kd.R_alloc | apply Kd.R_drewN | apply Kd.R_drew)); exact HO296.out, by repeat (first | (with_reducible first | exact HB.out | apply below_alloc | apply pw_below_drewN | apply below_drew1 | refine below_set ?_ GE233.out) | exact HB.out)⟩

end Go.Proofs.Ytlbmfnjhpojghaa.PFnNormalized
