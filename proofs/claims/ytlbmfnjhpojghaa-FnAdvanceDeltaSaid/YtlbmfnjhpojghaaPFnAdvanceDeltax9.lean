-- Written by a program of this session (xprint) out of the translation; Lean checks it.
import Derived.Test.YtlbmfnjhpojghaaPFnAdvanceDeltax0
import Derived.Test.YtlbmfnjhpojghaaPFnAdvanceDeltax1
import Derived.Test.YtlbmfnjhpojghaaPFnAdvanceDeltax3
import Derived.Test.YtlbmfnjhpojghaaPFnAdvanceDeltax4
import Derived.Test.YtlbmfnjhpojghaaPFnAdvanceDeltax8
namespace Go.Proofs.Ytlbmfnjhpojghaa.PFnAdvanceDelta
open Go.RowKit Go.Proofs.YtlbmfnjhpojghaaW.PrintWords Go.Proofs.YtlbmfnjhpojghaaW.PrintLast Go.Proofs.YtlbmfnjhpojghaaW.PrintMore
attribute [local go_sem] max2_int min2_int max_two min_two max_three min_three max_four min_four   -- for this text's walks alone
set_option linter.unusedVariables false
set_option linter.unusedSimpArgs false

attribute [local go_sem] f_add f_sub f_mul f_quo f_conv f_same f_int f_max
theorem f_neg (k : FloatKind) (b : Nat) : Op.unary .neg (.float k b) = pure (.float k (Op.negFloat k b)) := rfl
attribute [local go_sem] f_neg
/-! ### laws_FnAdvanceDelta: function 4 -/
mutual
def laws_FnAdvanceDelta.j0 : Nat → List (List (S161)) → List (List Int) → List (List Int) → List (S47) → Int → List Int → Bool → Option (Bool)
 | 0, _, _, _, _, _, _, _ => none
 | k + 1, x0, x1, x2, x3, x4, x5, x50 => if x50 = true then (some true) else ((spec_SomeStore.f k x0 x1 x2 x5).bind fun bt301 => (if (bt301.1.length : Int) = 0 then (some true) else (laws_FnAdvanceDelta.l0 k x3 x4 bt301.1 bt301.2.1 bt301.2.2 ([] : List (S48)) 0)))
def laws_FnAdvanceDelta.j2 : Nat → Int → List (List (S36)) → List (S41) → List Int → List (S48) → Option (Bool)
 | 0, _, _, _, _, _ => none
 | k + 1, x4, x13, x14, x15, x16 => if (x16.length : Int) > 0 then (if 0 ≤ (mn (wrap64 (x4)) (wrap64 ((x16.length : Int) - 1))) then (if (mn (wrap64 (x4)) (wrap64 ((x16.length : Int) - 1))) < (x16.length : Int) then (laws_FnAdvanceDelta.j3 k x4 x13 x14 x15 x16 ((rd_T48 x16 (mn (wrap64 (x4)) (wrap64 ((x16.length : Int) - 1)))).f0) ((rd_T48 x16 (mn (wrap64 (x4)) (wrap64 ((x16.length : Int) - 1)))).f1)) else (none)) else (none)) else (laws_FnAdvanceDelta.j3 k x4 x13 x14 x15 x16 0 (wrap64 (x4)))
def laws_FnAdvanceDelta.j3 : Nat → Int → List (List (S36)) → List (S41) → List Int → List (S48) → Int → Int → Option (Bool)
 | 0, _, _, _, _, _, _, _ => none
 | k + 1, x4, x13, x14, x15, x16, x18, x19 => if 0 ≤ x18 then (if x18 < (x14.length : Int) then (if x19 < (((rd_T41 x14 x18).f1).length : Int) then ((spec_DeltaRef.f k x13 ((rd_T41 x14 x18).f0) ((rd_T41 x14 x18).f1) x19 x15).bind fun t320 => (if 0 ≤ x19 then (laws_FnAdvanceDelta.l1 k x4 x13 x14 x15 x16 t320 4576918229304087675 (rd_L9 ((rd_T41 x14 x18).f1) x19) ((rd_L9 ((rd_T41 x14 x18).f1) x19).length : Int) 0) else (none))) else ((impl_AdvanceDelta.f k x13 x14 x16 (wrap64 (x4)) x15).bind fun bt326 => (if fcok .f32 bt326.1 .f64 = true then (if fok .sub .f64 (fc .f32 bt326.1 .f64) 0 = true then (if bt326.2 = true then (if fmok .f64 (fv .sub .f64 (fc .f32 bt326.1 .f64) 0) (Go.Op.negFloat .f64 (fv .sub .f64 (fc .f32 bt326.1 .f64) 0)) = true then (some (FloatKind.f64.format.order (fmx .f64 (fv .sub .f64 (fc .f32 bt326.1 .f64) 0) (Go.Op.negFloat .f64 (fv .sub .f64 (fc .f32 bt326.1 .f64) 0))) 4576918229304087675 == some .lt || FloatKind.f64.format.order (fmx .f64 (fv .sub .f64 (fc .f32 bt326.1 .f64) 0) (Go.Op.negFloat .f64 (fv .sub .f64 (fc .f32 bt326.1 .f64) 0))) 4576918229304087675 == some .eq)) else (none)) else (some false)) else (none)) else (none)))) else (none)) else (none)
def laws_FnAdvanceDelta.l1 : Nat → Int → List (List (S36)) → List (S41) → List Int → List (S48) → Nat → Nat → List Int → Int → Int → Option (Bool)
 | 0, _, _, _, _, _, _, _, _, _, _ => none
 | k + 1, x4, x13, x14, x15, x16, x21, x22, x139, x140, x141 => if x141 < x140 then (if 0 ≤ x141 then (if x141 < (x139.length : Int) then (if fok .mul .f64 (floatOfInt .f64 (mx (rd x139 x141) (wrap64 (-(rd x139 x141))))) 4521832792735477133 = true then (if fok .add .f64 x22 (fv .mul .f64 (floatOfInt .f64 (mx (rd x139 x141) (wrap64 (-(rd x139 x141))))) 4521832792735477133) = true then (laws_FnAdvanceDelta.l1 k x4 x13 x14 x15 x16 x21 (fv .add .f64 x22 (fv .mul .f64 (floatOfInt .f64 (mx (rd x139 x141) (wrap64 (-(rd x139 x141))))) 4521832792735477133)) x139 x140 (wrap64 (x141 + 1))) else (none)) else (none)) else (none)) else (none)) else ((impl_AdvanceDelta.f k x13 x14 x16 (wrap64 (x4)) x15).bind fun bt324 => (if fcok .f32 bt324.1 .f64 = true then (if fok .sub .f64 (fc .f32 bt324.1 .f64) x21 = true then (if bt324.2 = true then (if fmok .f64 (fv .sub .f64 (fc .f32 bt324.1 .f64) x21) (Go.Op.negFloat .f64 (fv .sub .f64 (fc .f32 bt324.1 .f64) x21)) = true then (some (FloatKind.f64.format.order (fmx .f64 (fv .sub .f64 (fc .f32 bt324.1 .f64) x21) (Go.Op.negFloat .f64 (fv .sub .f64 (fc .f32 bt324.1 .f64) x21))) x22 == some .lt || FloatKind.f64.format.order (fmx .f64 (fv .sub .f64 (fc .f32 bt324.1 .f64) x21) (Go.Op.negFloat .f64 (fv .sub .f64 (fc .f32 bt324.1 .f64) x21))) x22 == some .eq)) else (none)) else (some false)) else (none)) else (none)))
def laws_FnAdvanceDelta.l0 : Nat → List (S47) → Int → List (List (S36)) → List (S41) → List Int → List (S48) → Int → Option (Bool)
 | 0, _, _, _, _, _, _, _ => none
 | k + 1, x3, x4, x13, x14, x15, x16, x17 => if x17 < (x3.length : Int) then (if x17 < 20 then (if 0 ≤ x17 then (if (x14.length : Int) = 0 then (none) else (if 0 < (x14.length : Int) then (if (((rd_T41 x14 0).f1).length : Int) = 0 then (none) else (if x16.length < 8796093022208 then (laws_FnAdvanceDelta.l0 k x3 x4 x13 x14 x15 (x16 ++ [(⟨Int.tmod (wrap64 ((rd_T47 x3 x17).f0)) (x14.length : Int), Int.tmod (wrap64 ((rd_T47 x3 x17).f1)) (((rd_T41 x14 0).f1).length : Int)⟩ : S48)]) (wrap64 (x17 + 1))) else (none))) else (none))) else (none)) else (laws_FnAdvanceDelta.j2 k x4 x13 x14 x15 x16)) else (laws_FnAdvanceDelta.j2 k x4 x13 x14 x15 x16)
end
def laws_FnAdvanceDelta.f (k : Nat) (l0 : List (List (S161))) (l1 : List (List Int)) (l2 : List (List Int)) (l3 : List (S47)) (a4 : Int) (l5 : List Int) : Option (Bool) := (laws_zzFits28.f k l0).bind fun t298 => (if t298 = true then ((laws_zzFits29.f k l1).bind fun t299 => (if t299 = true then ((laws_zzFits30.f k l2).bind fun t300 => (if t300 = true then (if (l3.length : Int) > 2147483647 then (laws_FnAdvanceDelta.j0 k l0 l1 l2 l3 a4 l5 true) else (laws_FnAdvanceDelta.j0 k l0 l1 l2 l3 a4 l5 (decide ((l5.length : Int) > 2147483647)))) else (laws_FnAdvanceDelta.j0 k l0 l1 l2 l3 a4 l5 true))) else (laws_FnAdvanceDelta.j0 k l0 l1 l2 l3 a4 l5 true))) else (laws_FnAdvanceDelta.j0 k l0 l1 l2 l3 a4 l5 true))
theorem laws_FnAdvanceDelta.mono_l : ∀ k, (∀ y0 y1 y2 y3 y4 y5 y6, LeO (laws_FnAdvanceDelta.j0 k y0 y1 y2 y3 y4 y5 y6) (laws_FnAdvanceDelta.j0 (k + 1) y0 y1 y2 y3 y4 y5 y6)) ∧ (∀ y0 y1 y2 y3 y4, LeO (laws_FnAdvanceDelta.j2 k y0 y1 y2 y3 y4) (laws_FnAdvanceDelta.j2 (k + 1) y0 y1 y2 y3 y4)) ∧ (∀ y0 y1 y2 y3 y4 y5 y6, LeO (laws_FnAdvanceDelta.j3 k y0 y1 y2 y3 y4 y5 y6) (laws_FnAdvanceDelta.j3 (k + 1) y0 y1 y2 y3 y4 y5 y6)) ∧ (∀ y0 y1 y2 y3 y4 y5 y6 y7 y8 y9, LeO (laws_FnAdvanceDelta.l1 k y0 y1 y2 y3 y4 y5 y6 y7 y8 y9) (laws_FnAdvanceDelta.l1 (k + 1) y0 y1 y2 y3 y4 y5 y6 y7 y8 y9)) ∧ (∀ y0 y1 y2 y3 y4 y5 y6, LeO (laws_FnAdvanceDelta.l0 k y0 y1 y2 y3 y4 y5 y6) (laws_FnAdvanceDelta.l0 (k + 1) y0 y1 y2 y3 y4 y5 y6))
 | 0 => ⟨fun _ _ _ _ _ _ _ r h => by simp [laws_FnAdvanceDelta.j0] at h, fun _ _ _ _ _ r h => by simp [laws_FnAdvanceDelta.j2] at h, fun _ _ _ _ _ _ _ r h => by simp [laws_FnAdvanceDelta.j3] at h, fun _ _ _ _ _ _ _ _ _ _ r h => by simp [laws_FnAdvanceDelta.l1] at h, fun _ _ _ _ _ _ _ r h => by simp [laws_FnAdvanceDelta.l0] at h⟩
 | k + 1 => by
  obtain ⟨ih0, ih1, ih2, ih3, ih4⟩ := laws_FnAdvanceDelta.mono_l k
  refine ⟨?_, ?_, ?_, ?_, ?_⟩
  ·intro y0 y1 y2 y3 y4 y5 y6
   unfold laws_FnAdvanceDelta.j0
   repeat' first
   | (with_reducible exact ih0 _ _ _ _ _ _ _)
   | (with_reducible exact ih1 _ _ _ _ _)
   | (with_reducible exact ih2 _ _ _ _ _ _ _)
   | (with_reducible exact ih3 _ _ _ _ _ _ _ _ _ _)
   | (with_reducible exact ih4 _ _ _ _ _ _ _)
   | (with_reducible exact impl_AdvanceDelta.mono _ _ _ _ _ _)
   | (with_reducible exact laws_zzFits28.mono _ _)
   | (with_reducible exact laws_zzFits29.mono _ _)
   | (with_reducible exact laws_zzFits30.mono _ _)
   | (with_reducible exact spec_DeltaRef.mono _ _ _ _ _ _)
   | (with_reducible exact spec_SomeStore.mono _ _ _ _ _)
   | (with_reducible exact LeO.refl _)
   | (with_reducible exact LeO.none _)
   | (with_reducible refine LeO.ite ?_ ?_)
   | (with_reducible refine LeO.bind ?_ (fun _ => ?_))
   | exact ih0 _ _ _ _ _ _ _
   | exact ih1 _ _ _ _ _
   | exact ih2 _ _ _ _ _ _ _
   | exact ih3 _ _ _ _ _ _ _ _ _ _
   | exact ih4 _ _ _ _ _ _ _
   | exact impl_AdvanceDelta.mono _ _ _ _ _ _
   | exact laws_zzFits28.mono _ _
   | exact laws_zzFits29.mono _ _
   | exact laws_zzFits30.mono _ _
   | exact spec_DeltaRef.mono _ _ _ _ _ _
   | exact spec_SomeStore.mono _ _ _ _ _
   | exact LeO.none _
   | refine LeO.ite ?_ ?_
   | refine LeO.bind ?_ (fun _ => ?_)
  ·intro y0 y1 y2 y3 y4
   unfold laws_FnAdvanceDelta.j2
   repeat' first
   | (with_reducible exact ih0 _ _ _ _ _ _ _)
   | (with_reducible exact ih1 _ _ _ _ _)
   | (with_reducible exact ih2 _ _ _ _ _ _ _)
   | (with_reducible exact ih3 _ _ _ _ _ _ _ _ _ _)
   | (with_reducible exact ih4 _ _ _ _ _ _ _)
   | (with_reducible exact impl_AdvanceDelta.mono _ _ _ _ _ _)
   | (with_reducible exact laws_zzFits28.mono _ _)
   | (with_reducible exact laws_zzFits29.mono _ _)
   | (with_reducible exact laws_zzFits30.mono _ _)
   | (with_reducible exact spec_DeltaRef.mono _ _ _ _ _ _)
   | (with_reducible exact spec_SomeStore.mono _ _ _ _ _)
   | (with_reducible exact LeO.refl _)
   | (with_reducible exact LeO.none _)
   | (with_reducible refine LeO.ite ?_ ?_)
   | (with_reducible refine LeO.bind ?_ (fun _ => ?_))
   | exact ih0 _ _ _ _ _ _ _
   | exact ih1 _ _ _ _ _
   | exact ih2 _ _ _ _ _ _ _
   | exact ih3 _ _ _ _ _ _ _ _ _ _
   | exact ih4 _ _ _ _ _ _ _
   | exact impl_AdvanceDelta.mono _ _ _ _ _ _
   | exact laws_zzFits28.mono _ _
   | exact laws_zzFits29.mono _ _
   | exact laws_zzFits30.mono _ _
   | exact spec_DeltaRef.mono _ _ _ _ _ _
   | exact spec_SomeStore.mono _ _ _ _ _
   | exact LeO.none _
   | refine LeO.ite ?_ ?_
   | refine LeO.bind ?_ (fun _ => ?_)
  ·intro y0 y1 y2 y3 y4 y5 y6
   unfold laws_FnAdvanceDelta.j3
   repeat' first
   | (with_reducible exact ih0 _ _ _ _ _ _ _)
   | (with_reducible exact ih1 _ _ _ _ _)
   | (with_reducible exact ih2 _ _ _ _ _ _ _)
   | (with_reducible exact ih3 _ _ _ _ _ _ _ _ _ _)
   | (with_reducible exact ih4 _ _ _ _ _ _ _)
   | (with_reducible exact impl_AdvanceDelta.mono _ _ _ _ _ _)
   | (with_reducible exact laws_zzFits28.mono _ _)
   | (with_reducible exact laws_zzFits29.mono _ _)
   | (with_reducible exact laws_zzFits30.mono _ _)
   | (with_reducible exact spec_DeltaRef.mono _ _ _ _ _ _)
   | (with_reducible exact spec_SomeStore.mono _ _ _ _ _)
   | (with_reducible exact LeO.refl _)
   | (with_reducible exact LeO.none _)
   | (with_reducible refine LeO.ite ?_ ?_)
   | (with_reducible refine LeO.bind ?_ (fun _ => ?_))
   | exact ih0 _ _ _ _ _ _ _
   | exact ih1 _ _ _ _ _
   | exact ih2 _ _ _ _ _ _ _
   | exact ih3 _ _ _ _ _ _ _ _ _ _
   | exact ih4 _ _ _ _ _ _ _
   | exact impl_AdvanceDelta.mono _ _ _ _ _ _
   | exact laws_zzFits28.mono _ _
   | exact laws_zzFits29.mono _ _
   | exact laws_zzFits30.mono _ _
   | exact spec_DeltaRef.mono _ _ _ _ _ _
   | exact spec_SomeStore.mono _ _ _ _ _
   | exact LeO.none _
   | refine LeO.ite ?_ ?_
   | refine LeO.bind ?_ (fun _ => ?_)
  ·intro y0 y1 y2 y3 y4 y5 y6 y7 y8 y9
   unfold laws_FnAdvanceDelta.l1
   repeat' first
   | (with_reducible exact ih0 _ _ _ _ _ _ _)
   | (with_reducible exact ih1 _ _ _ _ _)
   | (with_reducible exact ih2 _ _ _ _ _ _ _)
   | (with_reducible exact ih3 _ _ _ _ _ _ _ _ _ _)
   | (with_reducible exact ih4 _ _ _ _ _ _ _)
   | (with_reducible exact impl_AdvanceDelta.mono _ _ _ _ _ _)
   | (with_reducible exact laws_zzFits28.mono _ _)
   | (with_reducible exact laws_zzFits29.mono _ _)
   | (with_reducible exact laws_zzFits30.mono _ _)
   | (with_reducible exact spec_DeltaRef.mono _ _ _ _ _ _)
   | (with_reducible exact spec_SomeStore.mono _ _ _ _ _)
   | (with_reducible exact LeO.refl _)
   | (with_reducible exact LeO.none _)
   | (with_reducible refine LeO.ite ?_ ?_)
   | (with_reducible refine LeO.bind ?_ (fun _ => ?_))
   | exact ih0 _ _ _ _ _ _ _
   | exact ih1 _ _ _ _ _
   | exact ih2 _ _ _ _ _ _ _
   | exact ih3 _ _ _ _ _ _ _ _ _ _
   | exact ih4 _ _ _ _ _ _ _
   | exact impl_AdvanceDelta.mono _ _ _ _ _ _
   | exact laws_zzFits28.mono _ _
   | exact laws_zzFits29.mono _ _
   | exact laws_zzFits30.mono _ _
   | exact spec_DeltaRef.mono _ _ _ _ _ _
   | exact spec_SomeStore.mono _ _ _ _ _
   | exact LeO.none _
   | refine LeO.ite ?_ ?_
   | refine LeO.bind ?_ (fun _ => ?_)
  ·intro y0 y1 y2 y3 y4 y5 y6
   unfold laws_FnAdvanceDelta.l0
   repeat' first
   | (with_reducible exact ih0 _ _ _ _ _ _ _)
   | (with_reducible exact ih1 _ _ _ _ _)
   | (with_reducible exact ih2 _ _ _ _ _ _ _)
   | (with_reducible exact ih3 _ _ _ _ _ _ _ _ _ _)
   | (with_reducible exact ih4 _ _ _ _ _ _ _)
   | (with_reducible exact impl_AdvanceDelta.mono _ _ _ _ _ _)
   | (with_reducible exact laws_zzFits28.mono _ _)
   | (with_reducible exact laws_zzFits29.mono _ _)
   | (with_reducible exact laws_zzFits30.mono _ _)
   | (with_reducible exact spec_DeltaRef.mono _ _ _ _ _ _)
   | (with_reducible exact spec_SomeStore.mono _ _ _ _ _)
   | (with_reducible exact LeO.refl _)
   | (with_reducible exact LeO.none _)
   | (with_reducible refine LeO.ite ?_ ?_)
   | (with_reducible refine LeO.bind ?_ (fun _ => ?_))
   | exact ih0 _ _ _ _ _ _ _
   | exact ih1 _ _ _ _ _
   | exact ih2 _ _ _ _ _ _ _
   | exact ih3 _ _ _ _ _ _ _ _ _ _
   | exact ih4 _ _ _ _ _ _ _
   | exact impl_AdvanceDelta.mono _ _ _ _ _ _
   | exact laws_zzFits28.mono _ _
   | exact laws_zzFits29.mono _ _
   | exact laws_zzFits30.mono _ _
   | exact spec_DeltaRef.mono _ _ _ _ _ _
   | exact spec_SomeStore.mono _ _ _ _ _
   | exact LeO.none _
   | refine LeO.ite ?_ ?_
   | refine LeO.bind ?_ (fun _ => ?_)
theorem laws_FnAdvanceDelta.mono : ∀ a0 a1 a2 a3 a4 a5 k, LeO (laws_FnAdvanceDelta.f k a0 a1 a2 a3 a4 a5) (laws_FnAdvanceDelta.f (k + 1) a0 a1 a2 a3 a4 a5) := by
 intro a0 a1 a2 a3 a4 a5 k
 obtain ⟨ih0, ih1, ih2, ih3, ih4⟩ := laws_FnAdvanceDelta.mono_l k
 unfold laws_FnAdvanceDelta.f
 repeat' first
   | (with_reducible exact ih0 _ _ _ _ _ _ _)
   | (with_reducible exact ih1 _ _ _ _ _)
   | (with_reducible exact ih2 _ _ _ _ _ _ _)
   | (with_reducible exact ih3 _ _ _ _ _ _ _ _ _ _)
   | (with_reducible exact ih4 _ _ _ _ _ _ _)
   | (with_reducible exact impl_AdvanceDelta.mono _ _ _ _ _ _)
   | (with_reducible exact laws_zzFits28.mono _ _)
   | (with_reducible exact laws_zzFits29.mono _ _)
   | (with_reducible exact laws_zzFits30.mono _ _)
   | (with_reducible exact spec_DeltaRef.mono _ _ _ _ _ _)
   | (with_reducible exact spec_SomeStore.mono _ _ _ _ _)
   | (with_reducible exact LeO.refl _)
   | (with_reducible exact LeO.none _)
   | (with_reducible refine LeO.ite ?_ ?_)
   | (with_reducible refine LeO.bind ?_ (fun _ => ?_))
   | exact ih0 _ _ _ _ _ _ _
   | exact ih1 _ _ _ _ _
   | exact ih2 _ _ _ _ _ _ _
   | exact ih3 _ _ _ _ _ _ _ _ _ _
   | exact ih4 _ _ _ _ _ _ _
   | exact impl_AdvanceDelta.mono _ _ _ _ _ _
   | exact laws_zzFits28.mono _ _
   | exact laws_zzFits29.mono _ _
   | exact laws_zzFits30.mono _ _
   | exact spec_DeltaRef.mono _ _ _ _ _ _
   | exact spec_SomeStore.mono _ _ _ _ _
   | exact LeO.none _
   | refine LeO.ite ?_ ?_
   | refine LeO.bind ?_ (fun _ => ?_)
def laws_FnAdvanceDelta.T10 : Bool × List (List Nat × List Nat) := (true, [([], []), ([], []), ([], []), ([1, 2], [1, 2]), ([3], [3]), ([4], [4]), ([5], [5]), ([], []), ([7], [7]), ([6, 8], [6, 8]), ([], []), ([], []), ([10, 11], [10, 11]), ([12], [12]), ([13], [13]), ([14], [14]), ([], []), ([16], [16]), ([17], [17]), ([18], [18]), ([19], [19]), ([15, 20], [15, 20]), ([9, 21], [9, 21]), ([22], [22]), ([0, 23], [0, 23]), ([24, 24, 0, 1, 2, 3, 4, 5, 6, 7, 8, 9, 10, 11, 12, 13, 14, 15, 16, 17, 18, 19, 20, 21, 22, 23, 24], [0, 24])])
def laws_FnAdvanceDelta.B10 : List Nat := [0, 0, 0, 6, 14, 30, 62, 0, 128, 510, 0, 0, 3072, 7168, 15360, 31744, 0, 65536, 196608, 458752, 983040, 2096128, 4194302, 8388606, 16777215, 33554431]
theorem laws_FnAdvanceDelta.tab10 : rtab .any (opsOf Try.f4 10) = laws_FnAdvanceDelta.T10 := by kernel_rfl
theorem laws_FnAdvanceDelta.bits10 : waitsOk laws_FnAdvanceDelta.T10.2 laws_FnAdvanceDelta.B10 = true := by kernel_rfl
set_option maxHeartbeats 8000000 in
set_option maxRecDepth 100000 in
theorem laws_FnAdvanceDelta.calls (k : Nat) (A0 : Option Addr) (c0 : Nat) (l0 : List (List (S161))) (A1 : Option Addr) (c1 : Nat) (l1 : List (List Int)) (A2 : Option Addr) (c2 : Nat) (l2 : List (List Int)) (A3 : Option Addr) (c3 : Nat) (l3 : List (S47)) (a4 : Int) (A5 : Option Addr) (c5 : Nat) (l5 : List Int) (r : Bool) (w : World) (hr0 : Kd.C (Kd.slice 161 k161) w A0 l0.length l0) (hc0 : l0.length ≤ c0) (hr1 : Kd.C (Kd.slice 5 (Kd.int .u8)) w A1 l1.length l1) (hc1 : l1.length ≤ c1) (hr2 : Kd.C (Kd.slice 98 (Kd.int .i16)) w A2 l2.length l2) (hc2 : l2.length ≤ c2) (hr3 : Kd.C k47 w A3 l3.length l3) (hc3 : l3.length ≤ c3) (hr5 : Kd.C (Kd.int .i16) w A5 l5.length l5) (hc5 : l5.length ≤ c5) (h : laws_FnAdvanceDelta.f k l0 l1 l2 l3 a4 l5 = some r) :
  Calls Try.prog 4 #[.slice A0 l0.length c0, .slice A1 l1.length c1, .slice A2 l2.length c2, .slice A3 l3.length c3, .int .u8 a4, .slice A5 l5.length c5] w fun e w' => e = .returned (.bool r) ∧ Below w.heap.size w w' := by
 have hu48 := Try.underlying48
 have hu41 := Try.underlying41
 have HR0 := Aside0.mk hr0
 have HC0 := Aside0.mk hc0
 clear hr0 hc0
 have HR1 := Aside0.mk hr1
 have HC1 := Aside0.mk hc1
 clear hr1 hc1
 have HR2 := Aside0.mk hr2
 have HC2 := Aside0.mk hc2
 clear hr2 hc2
 have HR3 := Aside0.mk hr3
 have HC3 := Aside0.mk hc3
 clear hr3 hc3
 have HR5 := Aside0.mk hr5
 have HC5 := Aside0.mk hc5
 clear hr5 hc5
 have HB := Aside0.mk (Below.refl w.heap.size w)
 have H : ((laws_zzFits28.f k l0).bind fun t298 => (if t298 = true then ((laws_zzFits29.f k l1).bind fun t299 => (if t299 = true then ((laws_zzFits30.f k l2).bind fun t300 => (if t300 = true then (if (l3.length : Int) > 2147483647 then (laws_FnAdvanceDelta.j0 k l0 l1 l2 l3 a4 l5 true) else (laws_FnAdvanceDelta.j0 k l0 l1 l2 l3 a4 l5 (decide ((l5.length : Int) > 2147483647)))) else (laws_FnAdvanceDelta.j0 k l0 l1 l2 l3 a4 l5 true))) else (laws_FnAdvanceDelta.j0 k l0 l1 l2 l3 a4 l5 true))) else (laws_FnAdvanceDelta.j0 k l0 l1 l2 l3 a4 l5 true))) = some r := h
 clear h
 have HC7 := Aside0.mk H
 clear H
 go_enter Try.func4, Try.ntmps4
 go_upto_region 1 with (fail)
 go_cut [50] (fun v50 wc => ∃ (kq : Nat) (x50_6 : Bool), v50 = .bool x50_6 ∧ Aside0 (laws_FnAdvanceDelta.j0 kq l0 l1 l2 l3 a4 l5 x50_6 = some r) ∧ Aside0 (kq ≤ k) ∧ Aside0 (Below w.heap.size w wc))
 case first =>
  have H := HC7.out
  clear HC7
  replace H := Option.bind_eq_some_iff.mp H
  obtain ⟨t298, A80, H⟩ := H
  replace H : (if t298 = true then ((laws_zzFits29.f k l1).bind fun t299 => (if t299 = true then ((laws_zzFits30.f k l2).bind fun t300 => (if t300 = true then (if (l3.length : Int) > 2147483647 then (laws_FnAdvanceDelta.j0 k l0 l1 l2 l3 a4 l5 true) else (laws_FnAdvanceDelta.j0 k l0 l1 l2 l3 a4 l5 (decide ((l5.length : Int) > 2147483647)))) else (laws_FnAdvanceDelta.j0 k l0 l1 l2 l3 a4 l5 true))) else (laws_FnAdvanceDelta.j0 k l0 l1 l2 l3 a4 l5 true))) else (laws_FnAdvanceDelta.j0 k l0 l1 l2 l3 a4 l5 true)) = some r := H
  have A8 := Aside0.mk A80
  clear A80
  by_cases c9 : t298 = true
  ·subst c9
   have H1 : ((laws_zzFits29.f k l1).bind fun t299 => (if t299 = true then ((laws_zzFits30.f k l2).bind fun t300 => (if t300 = true then (if (l3.length : Int) > 2147483647 then (laws_FnAdvanceDelta.j0 k l0 l1 l2 l3 a4 l5 true) else (laws_FnAdvanceDelta.j0 k l0 l1 l2 l3 a4 l5 (decide ((l5.length : Int) > 2147483647)))) else (laws_FnAdvanceDelta.j0 k l0 l1 l2 l3 a4 l5 true))) else (laws_FnAdvanceDelta.j0 k l0 l1 l2 l3 a4 l5 true))) = some r := by rw [if_pos rfl] at H; exact H
   clear H
   have H := H1
   clear H1
   replace H := Option.bind_eq_some_iff.mp H
   obtain ⟨t299, A100, H⟩ := H
   replace H : (if t299 = true then ((laws_zzFits30.f k l2).bind fun t300 => (if t300 = true then (if (l3.length : Int) > 2147483647 then (laws_FnAdvanceDelta.j0 k l0 l1 l2 l3 a4 l5 true) else (laws_FnAdvanceDelta.j0 k l0 l1 l2 l3 a4 l5 (decide ((l5.length : Int) > 2147483647)))) else (laws_FnAdvanceDelta.j0 k l0 l1 l2 l3 a4 l5 true))) else (laws_FnAdvanceDelta.j0 k l0 l1 l2 l3 a4 l5 true)) = some r := H
   have A10 := Aside0.mk A100
   clear A100
   by_cases c11 : t299 = true
   ·subst c11
    have H1 : ((laws_zzFits30.f k l2).bind fun t300 => (if t300 = true then (if (l3.length : Int) > 2147483647 then (laws_FnAdvanceDelta.j0 k l0 l1 l2 l3 a4 l5 true) else (laws_FnAdvanceDelta.j0 k l0 l1 l2 l3 a4 l5 (decide ((l5.length : Int) > 2147483647)))) else (laws_FnAdvanceDelta.j0 k l0 l1 l2 l3 a4 l5 true))) = some r := by rw [if_pos rfl] at H; exact H
    clear H
    have H := H1
    clear H1
    replace H := Option.bind_eq_some_iff.mp H
    obtain ⟨t300, A120, H⟩ := H
    replace H : (if t300 = true then (if (l3.length : Int) > 2147483647 then (laws_FnAdvanceDelta.j0 k l0 l1 l2 l3 a4 l5 true) else (laws_FnAdvanceDelta.j0 k l0 l1 l2 l3 a4 l5 (decide ((l5.length : Int) > 2147483647)))) else (laws_FnAdvanceDelta.j0 k l0 l1 l2 l3 a4 l5 true)) = some r := H
    have A12 := Aside0.mk A120
    clear A120
    by_cases c13 : t300 = true
    ·subst c13
     have H1 : (if (l3.length : Int) > 2147483647 then (laws_FnAdvanceDelta.j0 k l0 l1 l2 l3 a4 l5 true) else (laws_FnAdvanceDelta.j0 k l0 l1 l2 l3 a4 l5 (decide ((l5.length : Int) > 2147483647)))) = some r := by rw [if_pos rfl] at H; exact H
     clear H
     have H := H1
     clear H1
     by_cases c14 : (l3.length : Int) > 2147483647
     ·rw [if_pos c14] at H
      have c14b0 : decide (2147483647 < (l3.length : Int)) = true := decide_eq_true c14
      have c14b1 : decide (2147483647 < l3.length) = true := decide_eq_true (by omega)
      clear c14
      (first | rw [c14b0] | (simp only [i64_w, i32_w]; rw [c14b0]) | skip)
      have H' := Aside0.mk H
      clear H
      go_wp2_with (first | ((with_reducible refine gate_callee (f := 8) rfl ?_); refine goesL_ (some 29) rfl rfl Try.func8 (by kernel_rfl) rfl #[.slice A0 l0.length c0] rfl (by (try simp only [List.map_toArray, List.map_cons, List.map_nil]); first | done | rfl | (simp only [List.length_drop, List.length_take]; rfl)) ?_; (with_reducible refine (laws_zzFits28.calls k _ _ l0 true _ ?side1 ?side2 A8.out).mono ?_); (case side1 => repeat (first | exact (Kd.C_below HR0.out HB.out) | (with_reducible refine Kd.C_alloc ?_ _) | (with_reducible refine Kd.C_drewN ?_ _) | (with_reducible refine Kd.C_drew ?_))); (case side2 => exact HC0.out); rintro e w' ⟨rfl, ⟨nd, rfl⟩⟩; refine ⟨_, rfl, ?_⟩) | (go_at_call 9; (with_reducible refine (laws_zzFits29.calls k _ _ l1 true _ ?side1 ?side2 A10.out).mono ?_); (case side1 => repeat (first | exact (Kd.C_below HR1.out (by repeat (first | (with_reducible first | exact HB.out | apply below_alloc | apply pw_below_drewN | apply below_drew1) | exact HB.out))) | (with_reducible refine Kd.C_alloc ?_ _) | (with_reducible refine Kd.C_drewN ?_ _) | (with_reducible refine Kd.C_drew ?_))); (case side2 => exact HC1.out); rintro e w' ⟨rfl, ⟨nd, rfl⟩⟩) | (go_at_call 10; (with_reducible refine (laws_zzFits30.calls k _ _ l2 true _ ?side1 ?side2 A12.out).mono ?_); (case side1 => repeat (first | exact (Kd.C_below HR2.out (by repeat (first | (with_reducible first | exact HB.out | apply below_alloc | apply pw_below_drewN | apply below_drew1) | exact HB.out))) | (with_reducible refine Kd.C_alloc ?_ _) | (with_reducible refine Kd.C_drewN ?_ _) | (with_reducible refine Kd.C_drew ?_))); (case side2 => exact HC2.out); rintro e w' ⟨rfl, ⟨nd, rfl⟩⟩))
      go_meet
      case rel => exact ⟨_, (true), (by first | rfl | (simp; done) | (simp [*]; done)), H', ⟨by first | omega | exact Nat.le_refl _⟩, ⟨by repeat (first | (with_reducible first | exact HB.out | apply below_alloc | apply pw_below_drewN | apply below_drew1) | exact HB.out)⟩⟩
     ·rw [if_neg c14] at H
      have c14b0 : decide (2147483647 < (l3.length : Int)) = false := decide_eq_false c14
      have c14b1 : decide (2147483647 < l3.length) = false := decide_eq_false (by omega)
      clear c14
      (first | rw [c14b0] | (simp only [i64_w, i32_w]; rw [c14b0]) | skip)
      have H' := Aside0.mk H
      clear H
      go_wp2_with (first | ((with_reducible refine gate_callee (f := 8) rfl ?_); refine goesL_ (some 29) rfl rfl Try.func8 (by kernel_rfl) rfl #[.slice A0 l0.length c0] rfl (by (try simp only [List.map_toArray, List.map_cons, List.map_nil]); first | done | rfl | (simp only [List.length_drop, List.length_take]; rfl)) ?_; (with_reducible refine (laws_zzFits28.calls k _ _ l0 true _ ?side1 ?side2 A8.out).mono ?_); (case side1 => repeat (first | exact (Kd.C_below HR0.out HB.out) | (with_reducible refine Kd.C_alloc ?_ _) | (with_reducible refine Kd.C_drewN ?_ _) | (with_reducible refine Kd.C_drew ?_))); (case side2 => exact HC0.out); rintro e w' ⟨rfl, ⟨nd, rfl⟩⟩; refine ⟨_, rfl, ?_⟩) | (go_at_call 9; (with_reducible refine (laws_zzFits29.calls k _ _ l1 true _ ?side1 ?side2 A10.out).mono ?_); (case side1 => repeat (first | exact (Kd.C_below HR1.out (by repeat (first | (with_reducible first | exact HB.out | apply below_alloc | apply pw_below_drewN | apply below_drew1) | exact HB.out))) | (with_reducible refine Kd.C_alloc ?_ _) | (with_reducible refine Kd.C_drewN ?_ _) | (with_reducible refine Kd.C_drew ?_))); (case side2 => exact HC1.out); rintro e w' ⟨rfl, ⟨nd, rfl⟩⟩) | (go_at_call 10; (with_reducible refine (laws_zzFits30.calls k _ _ l2 true _ ?side1 ?side2 A12.out).mono ?_); (case side1 => repeat (first | exact (Kd.C_below HR2.out (by repeat (first | (with_reducible first | exact HB.out | apply below_alloc | apply pw_below_drewN | apply below_drew1) | exact HB.out))) | (with_reducible refine Kd.C_alloc ?_ _) | (with_reducible refine Kd.C_drewN ?_ _) | (with_reducible refine Kd.C_drew ?_))); (case side2 => exact HC2.out); rintro e w' ⟨rfl, ⟨nd, rfl⟩⟩))
      go_meet
      case rel => exact ⟨_, (decide ((l5.length : Int) > 2147483647)), (by first | rfl | (simp; done) | (simp [*]; done)), H', ⟨by first | omega | exact Nat.le_refl _⟩, ⟨by repeat (first | (with_reducible first | exact HB.out | apply below_alloc | apply pw_below_drewN | apply below_drew1) | exact HB.out)⟩⟩
    ·replace c13 := Bool.eq_false_iff.mpr c13
     subst c13
     have H1 : (laws_FnAdvanceDelta.j0 k l0 l1 l2 l3 a4 l5 true) = some r := by rw [if_neg (show ¬ (false = true) by decide)] at H; exact H
     clear H
     have H := H1
     clear H1
     have H' := Aside0.mk H
     clear H
     go_wp2_with (first | ((with_reducible refine gate_callee (f := 8) rfl ?_); refine goesL_ (some 29) rfl rfl Try.func8 (by kernel_rfl) rfl #[.slice A0 l0.length c0] rfl (by (try simp only [List.map_toArray, List.map_cons, List.map_nil]); first | done | rfl | (simp only [List.length_drop, List.length_take]; rfl)) ?_; (with_reducible refine (laws_zzFits28.calls k _ _ l0 true _ ?side1 ?side2 A8.out).mono ?_); (case side1 => repeat (first | exact (Kd.C_below HR0.out HB.out) | (with_reducible refine Kd.C_alloc ?_ _) | (with_reducible refine Kd.C_drewN ?_ _) | (with_reducible refine Kd.C_drew ?_))); (case side2 => exact HC0.out); rintro e w' ⟨rfl, ⟨nd, rfl⟩⟩; refine ⟨_, rfl, ?_⟩) | (go_at_call 9; (with_reducible refine (laws_zzFits29.calls k _ _ l1 true _ ?side1 ?side2 A10.out).mono ?_); (case side1 => repeat (first | exact (Kd.C_below HR1.out (by repeat (first | (with_reducible first | exact HB.out | apply below_alloc | apply pw_below_drewN | apply below_drew1) | exact HB.out))) | (with_reducible refine Kd.C_alloc ?_ _) | (with_reducible refine Kd.C_drewN ?_ _) | (with_reducible refine Kd.C_drew ?_))); (case side2 => exact HC1.out); rintro e w' ⟨rfl, ⟨nd, rfl⟩⟩) | (go_at_call 10; (with_reducible refine (laws_zzFits30.calls k _ _ l2 false _ ?side1 ?side2 A12.out).mono ?_); (case side1 => repeat (first | exact (Kd.C_below HR2.out (by repeat (first | (with_reducible first | exact HB.out | apply below_alloc | apply pw_below_drewN | apply below_drew1) | exact HB.out))) | (with_reducible refine Kd.C_alloc ?_ _) | (with_reducible refine Kd.C_drewN ?_ _) | (with_reducible refine Kd.C_drew ?_))); (case side2 => exact HC2.out); rintro e w' ⟨rfl, ⟨nd, rfl⟩⟩))
     go_meet
     case rel => exact ⟨_, (true), (by first | rfl | (simp; done) | (simp [*]; done)), H', ⟨by first | omega | exact Nat.le_refl _⟩, ⟨by repeat (first | (with_reducible first | exact HB.out | apply below_alloc | apply pw_below_drewN | apply below_drew1) | exact HB.out)⟩⟩
   ·replace c11 := Bool.eq_false_iff.mpr c11
    subst c11
    have H1 : (laws_FnAdvanceDelta.j0 k l0 l1 l2 l3 a4 l5 true) = some r := by rw [if_neg (show ¬ (false = true) by decide)] at H; exact H
    clear H
    have H := H1
    clear H1
    have H' := Aside0.mk H
    clear H
    go_wp2_with (first | ((with_reducible refine gate_callee (f := 8) rfl ?_); refine goesL_ (some 29) rfl rfl Try.func8 (by kernel_rfl) rfl #[.slice A0 l0.length c0] rfl (by (try simp only [List.map_toArray, List.map_cons, List.map_nil]); first | done | rfl | (simp only [List.length_drop, List.length_take]; rfl)) ?_; (with_reducible refine (laws_zzFits28.calls k _ _ l0 true _ ?side1 ?side2 A8.out).mono ?_); (case side1 => repeat (first | exact (Kd.C_below HR0.out HB.out) | (with_reducible refine Kd.C_alloc ?_ _) | (with_reducible refine Kd.C_drewN ?_ _) | (with_reducible refine Kd.C_drew ?_))); (case side2 => exact HC0.out); rintro e w' ⟨rfl, ⟨nd, rfl⟩⟩; refine ⟨_, rfl, ?_⟩) | (go_at_call 9; (with_reducible refine (laws_zzFits29.calls k _ _ l1 false _ ?side1 ?side2 A10.out).mono ?_); (case side1 => repeat (first | exact (Kd.C_below HR1.out (by repeat (first | (with_reducible first | exact HB.out | apply below_alloc | apply pw_below_drewN | apply below_drew1) | exact HB.out))) | (with_reducible refine Kd.C_alloc ?_ _) | (with_reducible refine Kd.C_drewN ?_ _) | (with_reducible refine Kd.C_drew ?_))); (case side2 => exact HC1.out); rintro e w' ⟨rfl, ⟨nd, rfl⟩⟩))
    go_meet
    case rel => exact ⟨_, (true), (by first | rfl | (simp; done) | (simp [*]; done)), H', ⟨by first | omega | exact Nat.le_refl _⟩, ⟨by repeat (first | (with_reducible first | exact HB.out | apply below_alloc | apply pw_below_drewN | apply below_drew1) | exact HB.out)⟩⟩
  ·replace c9 := Bool.eq_false_iff.mpr c9
   subst c9
   have H1 : (laws_FnAdvanceDelta.j0 k l0 l1 l2 l3 a4 l5 true) = some r := by rw [if_neg (show ¬ (false = true) by decide)] at H; exact H
   clear H
   have H := H1
   clear H1
   have H' := Aside0.mk H
   clear H
   go_wp2_with (first | ((with_reducible refine gate_callee (f := 8) rfl ?_); refine goesL_ (some 29) rfl rfl Try.func8 (by kernel_rfl) rfl #[.slice A0 l0.length c0] rfl (by (try simp only [List.map_toArray, List.map_cons, List.map_nil]); first | done | rfl | (simp only [List.length_drop, List.length_take]; rfl)) ?_; (with_reducible refine (laws_zzFits28.calls k _ _ l0 false _ ?side1 ?side2 A8.out).mono ?_); (case side1 => repeat (first | exact (Kd.C_below HR0.out HB.out) | (with_reducible refine Kd.C_alloc ?_ _) | (with_reducible refine Kd.C_drewN ?_ _) | (with_reducible refine Kd.C_drew ?_))); (case side2 => exact HC0.out); rintro e w' ⟨rfl, ⟨nd, rfl⟩⟩; refine ⟨_, rfl, ?_⟩))
   go_meet
   case rel => exact ⟨_, (true), (by first | rfl | (simp; done) | (simp [*]; done)), H', ⟨by first | omega | exact Nat.le_refl _⟩, ⟨by repeat (first | (with_reducible first | exact HB.out | apply below_alloc | apply pw_below_drewN | apply below_drew1) | exact HB.out)⟩⟩
 case rest =>
  clear HC7
  try clear c1
  try clear c2
  try clear p2
  try clear c3
  try clear c4
  try clear c5
  try clear c8
  try clear c9
  try clear c11
  try clear c13
  try clear c14
  try clear c14b0
  try clear c14b1
  obtain ⟨kq, x50_6, rfl, HA, HJ6, HB⟩ := hcut
  cases kq with
  | zero => exact absurd HA.out (by simp [laws_FnAdvanceDelta.j0])
  | succ kj6 =>
   have H := HA.out
   clear HA
   simp only [laws_FnAdvanceDelta.j0] at H
   by_cases c15 : x50_6 = true
   ·subst c15
    have H1 : (some true) = some r := by rw [if_pos rfl] at H; exact H
    clear H
    have H := H1
    clear H1
    obtain rfl := Option.some.inj H
    go_wp2
    go_ret
    exact ⟨by first | rfl | (simp [errW_none, errW_some] <;> rfl) | (simp [*, errW_none, errW_some] <;> rfl), by repeat (first | (with_reducible first | exact HB.out | apply below_alloc | apply pw_below_drewN | apply below_drew1) | exact HB.out)⟩
   ·replace c15 := Bool.eq_false_iff.mpr c15
    subst c15
    have H1 : ((spec_SomeStore.f kj6 l0 l1 l2 l5).bind fun bt301 => (if (bt301.1.length : Int) = 0 then (some true) else (laws_FnAdvanceDelta.l0 kj6 l3 a4 bt301.1 bt301.2.1 bt301.2.2 ([] : List (S48)) 0))) = some r := by rw [if_neg (show ¬ (false = true) by decide)] at H; exact H
    clear H
    have H := H1
    clear H1
    replace H := Option.bind_eq_some_iff.mp H
    obtain ⟨⟨t301, t302, t303⟩, A160, H⟩ := H
    replace H : (if (t301.length : Int) = 0 then (some true) else (laws_FnAdvanceDelta.l0 kj6 l3 a4 t301 t302 t303 ([] : List (S48)) 0)) = some r := H
    have A16 := Aside0.mk A160
    clear A160
    by_cases c17 : (t301.length : Int) = 0
    ·rw [if_pos c17] at H
     have c17b0 : ((t301.length : Int) == 0) = true := beq_iff_eq.mpr c17
     have c17b1 : ((t301.length : Int) != 0) = false := bne_eq_false_iff_eq.mpr c17
     clear c17
     obtain rfl := Option.some.inj H
     go_wp2_with (first | ((with_reducible refine gate_callee (f := 11) rfl ?_); refine goesL_ (some 56) rfl rfl Try.func11 (by kernel_rfl) rfl #[.slice A0 l0.length c0, .slice A1 l1.length c1, .slice A2 l2.length c2, .slice A5 l5.length c5] rfl (by (try simp only [List.map_toArray, List.map_cons, List.map_nil]); first | done | rfl | (simp only [List.length_drop, List.length_take]; rfl)) ?_; (with_reducible refine (spec_SomeStore.calls kj6 _ _ l0 _ _ l1 _ _ l2 _ _ l5 t301 t302 t303 _ ?side1 ?side2 ?side3 ?side4 ?side5 ?side6 ?side7 ?side8 A16.out).mono ?_); (case side1 => repeat (first | exact (Kd.C_below HR0.out HB.out) | (with_reducible refine Kd.C_alloc ?_ _) | (with_reducible refine Kd.C_drewN ?_ _) | (with_reducible refine Kd.C_drew ?_))); (case side2 => exact HC0.out); (case side3 => repeat (first | exact (Kd.C_below HR1.out HB.out) | (with_reducible refine Kd.C_alloc ?_ _) | (with_reducible refine Kd.C_drewN ?_ _) | (with_reducible refine Kd.C_drew ?_))); (case side4 => exact HC1.out); (case side5 => repeat (first | exact (Kd.C_below HR2.out HB.out) | (with_reducible refine Kd.C_alloc ?_ _) | (with_reducible refine Kd.C_drewN ?_ _) | (with_reducible refine Kd.C_drew ?_))); (case side6 => exact HC2.out); (case side7 => repeat (first | exact (Kd.C_below HR5.out HB.out) | (with_reducible refine Kd.C_alloc ?_ _) | (with_reducible refine Kd.C_drewN ?_ _) | (with_reducible refine Kd.C_drew ?_))); (case side8 => exact HC5.out); rintro e w18 ⟨v304, v306, v308, rfl, ho0, ho1, ho2, hb⟩; refine ⟨_, rfl, ?_⟩; have n0_ := Aside0.mk (Kd.S_lower ho0 (below_size (by repeat (first | (with_reducible first | exact HB.out | apply below_alloc | apply pw_below_drewN | apply below_drew1) | exact HB.out)))); have n1_ := Aside0.mk (Kd.R_lower ho1 (below_size (by repeat (first | (with_reducible first | exact HB.out | apply below_alloc | apply pw_below_drewN | apply below_drew1) | exact HB.out)))); have n2_ := Aside0.mk (Kd.R_lower ho2 (below_size (by repeat (first | (with_reducible first | exact HB.out | apply below_alloc | apply pw_below_drewN | apply below_drew1) | exact HB.out)))); have n3_ := Aside0.mk (below_step (by repeat (first | (with_reducible first | exact HB.out | apply below_alloc | apply pw_below_drewN | apply below_drew1) | exact HB.out)) hb); clear HB; have HO305 := n0_; have HO307 := n1_; have HO309 := n2_; have HB := n3_; clear n0_ n1_ n2_ n3_; (try clear hb); (try clear hb2); (try clear hk); (try clear hi); (try clear ho0); (try clear ho1); (try clear ho2); obtain ⟨Ao19, co19, eo19⟩ := Kd.S_slice HO305.out; subst eo19))
     go_ret
     exact ⟨by first | rfl | (simp [errW_none, errW_some] <;> rfl) | (simp [*, errW_none, errW_some] <;> rfl), by repeat (first | (with_reducible first | exact HB.out | apply below_alloc | apply pw_below_drewN | apply below_drew1) | exact HB.out)⟩
    ·rw [if_neg c17] at H
     have c17b0 : ((t301.length : Int) == 0) = false := beq_eq_false_iff_ne.mpr c17
     have c17b1 : ((t301.length : Int) != 0) = true := bne_iff_ne.mpr c17
     have c17b2 : ¬ (t301 = []) := fun h_ => c17 (by rw [h_]; rfl)
     have HC20 := Aside0.mk H
     clear H
     go_upto_block 0 with (first | ((with_reducible refine gate_callee (f := 11) rfl ?_); refine goesL_ (some 56) rfl rfl Try.func11 (by kernel_rfl) rfl #[.slice A0 l0.length c0, .slice A1 l1.length c1, .slice A2 l2.length c2, .slice A5 l5.length c5] rfl (by (try simp only [List.map_toArray, List.map_cons, List.map_nil]); first | done | rfl | (simp only [List.length_drop, List.length_take]; rfl)) ?_; (with_reducible refine (spec_SomeStore.calls kj6 _ _ l0 _ _ l1 _ _ l2 _ _ l5 t301 t302 t303 _ ?side1 ?side2 ?side3 ?side4 ?side5 ?side6 ?side7 ?side8 A16.out).mono ?_); (case side1 => repeat (first | exact (Kd.C_below HR0.out HB.out) | (with_reducible refine Kd.C_alloc ?_ _) | (with_reducible refine Kd.C_drewN ?_ _) | (with_reducible refine Kd.C_drew ?_))); (case side2 => exact HC0.out); (case side3 => repeat (first | exact (Kd.C_below HR1.out HB.out) | (with_reducible refine Kd.C_alloc ?_ _) | (with_reducible refine Kd.C_drewN ?_ _) | (with_reducible refine Kd.C_drew ?_))); (case side4 => exact HC1.out); (case side5 => repeat (first | exact (Kd.C_below HR2.out HB.out) | (with_reducible refine Kd.C_alloc ?_ _) | (with_reducible refine Kd.C_drewN ?_ _) | (with_reducible refine Kd.C_drew ?_))); (case side6 => exact HC2.out); (case side7 => repeat (first | exact (Kd.C_below HR5.out HB.out) | (with_reducible refine Kd.C_alloc ?_ _) | (with_reducible refine Kd.C_drewN ?_ _) | (with_reducible refine Kd.C_drew ?_))); (case side8 => exact HC5.out); rintro e w21 ⟨v304, v306, v308, rfl, ho0, ho1, ho2, hb⟩; refine ⟨_, rfl, ?_⟩; have n0_ := Aside0.mk (Kd.S_lower ho0 (below_size (by repeat (first | (with_reducible first | exact HB.out | apply below_alloc | apply pw_below_drewN | apply below_drew1) | exact HB.out)))); have n1_ := Aside0.mk (Kd.R_lower ho1 (below_size (by repeat (first | (with_reducible first | exact HB.out | apply below_alloc | apply pw_below_drewN | apply below_drew1) | exact HB.out)))); have n2_ := Aside0.mk (Kd.R_lower ho2 (below_size (by repeat (first | (with_reducible first | exact HB.out | apply below_alloc | apply pw_below_drewN | apply below_drew1) | exact HB.out)))); have n3_ := Aside0.mk (below_step (by repeat (first | (with_reducible first | exact HB.out | apply below_alloc | apply pw_below_drewN | apply below_drew1) | exact HB.out)) hb); clear HB; have HO305 := n0_; have HO307 := n1_; have HO309 := n2_; have HB := n3_; clear n0_ n1_ n2_ n3_; (try clear hb); (try clear hb2); (try clear hk); (try clear hi); (try clear ho0); (try clear ho1); (try clear ho2); obtain ⟨Ao22, co22, eo22⟩ := Kd.S_slice HO305.out; subst eo22))
     (try simp only [Act.put, L1_, L2_, L3_])
     go_cut [16] (fun v16 wc => ∃ (kq : Nat) (x16_19 : List (S48)), Aside0 (laws_FnAdvanceDelta.j2 kq a4 t301 t302 t303 x16_19 = some r) ∧ Aside0 (kq ≤ kj6) ∧ Aside0 (Kd.S (Kd.slice 36 k36) 38 wc w.heap.size (fun _ => True) (.slice Ao22 t301.length co22) t301) ∧ Aside0 (Kd.R k41 41 wc w.heap.size (fun k_ => some k_ ≠ (v308 : Value).ownBlock) v306 t302) ∧ Aside0 (Kd.R (Kd.int .i64) 3 wc w.heap.size (fun _ => True) v308 t303) ∧ Aside0 (Kd.R k48 48 wc w.heap.size (fun _ => True) v16 x16_19) ∧ Aside0 (Below w.heap.size w wc))
     case first =>
      have H := HC20.out
      clear HC20
      have H' := Aside0.mk H
      clear H
      go_wp2
      go_loopg [16, 17] kj6 (fun kq v16 v17 w' => ∃ (x16_2 : List (S48)) (x17_2 : Int), v17 = .int .i64 x17_2 ∧ Aside0 (laws_FnAdvanceDelta.l0 kq l3 a4 t301 t302 t303 x16_2 x17_2 = some r) ∧ Aside0 (kq ≤ kj6) ∧ Aside0 (Kd.S (Kd.slice 36 k36) 38 w' w.heap.size (fun _ => True) (.slice Ao22 t301.length co22) t301) ∧ Aside0 (Kd.R k41 41 w' w.heap.size (fun k_ => some k_ ≠ (v308 : Value).ownBlock) v306 t302) ∧ Aside0 (Kd.R (Kd.int .i64) 3 w' w.heap.size (fun _ => True) v308 t303) ∧ Aside0 (Kd.R k48 48 w' w.heap.size (fun _ => True) v16 x16_2) ∧ Aside0 (Below w.heap.size w w'))
      case atStart => exact ⟨(([] : List (S48))), (0), (by first | rfl | (simp; done) | (simp [*]; done)), H', ⟨Nat.le_refl _⟩, ⟨by (with_reducible repeat (first | apply Kd.S_alloc | apply Kd.S_drewN | apply Kd.S_drew)); exact HO305.out⟩, ⟨by (with_reducible repeat (first | apply Kd.R_alloc | apply Kd.R_drewN | apply Kd.R_drew)); exact HO307.out⟩, ⟨by (with_reducible repeat (first | apply Kd.R_alloc | apply Kd.R_drewN | apply Kd.R_drew)); exact HO309.out⟩, ⟨by first | exact Kd.R_nil _ _ _ _ _ | exact Kd.N_nil _ _ _ _ _ | exact Kd.V_nil _ _ _ _ _ | exact Kd.Q_nil _ _ _ _ _ | exact Kd.S_nil _ _ _ _ _⟩, ⟨by repeat (first | (with_reducible first | exact HB.out | apply below_alloc | apply pw_below_drewN | apply below_drew1) | exact HB.out)⟩⟩
      case round =>
       clear H'
       try clear c1
       try clear c2
       try clear p2
       try clear c3
       try clear c4
       try clear c5
       try clear c8
       try clear c9
       try clear c11
       try clear c13
       try clear c14
       try clear c14b0
       try clear c14b1
       try clear c15
       try clear c17
       try clear c17b0
       try clear c17b1
       try clear c17b2
       try clear p2
       obtain ⟨x16_2, x17_2, rfl, HA, HK2, HO_13, HO_14, HO_15, HO_16, HB⟩ := hrel
       cases gk with
       | zero => exact absurd HA.out (by simp [laws_FnAdvanceDelta.l0])
       | succ k2 =>
        have H := HA.out
        clear HA
        simp only [laws_FnAdvanceDelta.l0] at H
        by_cases c23 : x17_2 < (l3.length : Int)
        ·rw [if_pos c23] at H
         have c23b0 : decide (x17_2 < (l3.length : Int)) = true := decide_eq_true c23
         clear c23
         (first | rw [c23b0] | (simp only [i64_w, i32_w]; rw [c23b0]) | skip)
         by_cases c24 : x17_2 < 20
         ·rw [if_pos c24] at H
          have c24b0 : decide (x17_2 < 20) = true := decide_eq_true c24
          clear c24
          by_cases c25 : 0 ≤ x17_2
          ·rw [if_pos c25] at H
           have c25b0 : decide (0 ≤ x17_2) = true := decide_eq_true c25
           clear c25
           by_cases c26 : (t302.length : Int) = 0
           ·rw [if_pos c26] at H
            exact absurd H (by simp)
           ·rw [if_neg c26] at H
            have c26b0 : ((t302.length : Int) == 0) = false := beq_eq_false_iff_ne.mpr c26
            have c26b1 : ((t302.length : Int) != 0) = true := bne_iff_ne.mpr c26
            have c26b2 : ¬ (t302 = []) := fun h_ => c26 (by rw [h_]; rfl)
            by_cases c27 : 0 < (t302.length : Int)
            ·rw [if_pos c27] at H
             have c27b0 : decide (0 < (t302.length : Int)) = true := decide_eq_true c27
             have c27b1 : decide (0 < t302.length) = true := decide_eq_true (by omega)
             clear c27
             by_cases c28 : (((rd_T41 t302 0).f1).length : Int) = 0
             ·rw [if_pos c28] at H
              exact absurd H (by simp)
             ·rw [if_neg c28] at H
              have c28b0 : ((((rd_T41 t302 0).f1).length : Int) == 0) = false := beq_eq_false_iff_ne.mpr c28
              have c28b1 : ((((rd_T41 t302 0).f1).length : Int) != 0) = true := bne_iff_ne.mpr c28
              have c28b2 : ¬ (((rd_T41 t302 0).f1) = []) := fun h_ => c28 (by rw [h_]; rfl)
              by_cases c29 : x16_2.length < 8796093022208
              ·rw [if_pos c29] at H
               have LMc29 := Aside0.mk c29
               clear c29
               obtain ⟨y313, hy313⟩ : ∃ y_ : List (S48), y_ = (x16_2 ++ [(⟨Int.tmod (wrap64 ((rd_T47 l3 x17_2).f0)) (t302.length : Int), Int.tmod (wrap64 ((rd_T47 l3 x17_2).f1)) (((rd_T41 t302 0).f1).length : Int)⟩ : S48)]) := ⟨_, rfl⟩
               replace H : (laws_FnAdvanceDelta.l0 k2 l3 a4 t301 t302 t303 y313 (wrap64 (x17_2 + 1))) = some r := by first | (rw [hy313]; with_reducible exact H) | (have H2_ := (Option.bind_some _ _).symm.trans H; rw [hy313]; with_reducible exact H2_) | (have H2_ := (Option.bind_some _ _).symm.trans H; with_reducible exact H2_) | with_reducible exact H | (rw [hy313]; exact H) | exact H
               have Ny313 := Aside0.mk hy313
               clear hy313
               have H' := Aside0.mk H
               clear H
               try go_wp2
               have n0_ := Aside0.mk (Kd.S_drew HO_13.out)
               have n1_ := Aside0.mk (Kd.R_drew HO_14.out)
               have n2_ := Aside0.mk (Kd.R_drew HO_15.out)
               have n3_ := Aside0.mk (Kd.R_drew HO_16.out)
               have n4_ := Aside0.mk (below_drew1 HB.out)
               clear HO_13
               clear HO_14
               clear HO_15
               clear HO_16
               clear HB
               have HO_13 := n0_
               have HO_14 := n1_
               have HO_15 := n2_
               have HO_16 := n3_
               have HB := n4_
               clear n0_ n1_ n2_ n3_ n4_
               have p310 : 0 ≤ (x17_2 : Int) := of_decide_eq_true (by first | (with_reducible assumption) | assumption)
               have q310 : x17_2 < (l3.length : Int) := of_decide_eq_true (by first | (with_reducible assumption) | assumption)
               obtain ⟨ad310, e310, hx310_0, hx310_1⟩ := at_T47 HR3.out x17_2 p310 q310
               have hw310_1 := hx310_1
               have hw310_0 := hx310_0
               cases e310
               replace hx310_1 := (HB.out.cell (World.block_lt_of_cell? w _ hx310_1)).trans hx310_1
               replace p310 := eq_true p310
               replace q310 := eq_true q310
               obtain ⟨Ao31, co31, eo31⟩ := Kd.R_slice HO_14.out
               (first | subst eo31 | (injection eo31 with f1_ f2_ f3_; have f4_ := f1_.symm; have f5_ := f3_.symm; clear f1_ f2_ f3_; subst f4_; subst f5_))
               have p311 : 0 ≤ (x17_2 : Int) := of_decide_eq_true (by first | (with_reducible assumption) | assumption)
               have q311 : x17_2 < (l3.length : Int) := of_decide_eq_true (by first | (with_reducible assumption) | assumption)
               obtain ⟨ad311, e311, hx311_0, hx311_1⟩ := at_T47 HR3.out x17_2 p311 q311
               have hw311_1 := hx311_1
               have hw311_0 := hx311_0
               obtain rfl : ad310 = ad311 := (by injection e311)
               replace hx311_1 := (HB.out.cell (World.block_lt_of_cell? w _ hx311_1)).trans hx311_1
               replace p311 := eq_true p311
               replace q311 := eq_true q311
               have p312 : 0 ≤ (0 : Int) := (by omega)
               have q312 : 0 < (t302.length : Int) := of_decide_eq_true (by first | (with_reducible assumption) | assumption)
               obtain ⟨ad312, A312_0, c312_0, A312_1, c312_1, e312, hx312_0, hx312_1, hl312_0, hi312_0, hl312_1, hi312_1⟩ := at_T41 (Kd.R_reads' HO_14.out).2.2 0 p312 q312
               cases e312
               obtain ⟨ce312, hce312, hMe312, hcc312⟩ := Kd.R_get HO_14.out z41 0 p312 (by first | exact q312 | exact of_decide_eq_true (by first | (with_reducible assumption) | assumption) | (have e_ := (Kd.R_reads' HO_14.out).1; omega))
               obtain ⟨ve312_0, ve312_1, rfl, ge312_0, ge312_1⟩ := k41_openM hMe312
               have hv312_0 := hcc312 0 _ rfl
               rw [Nat.add_zero] at hv312_0
               replace hv312_0 := Option.some.inj (hv312_0.symm.trans hx312_0)
               rw [hv312_0] at ge312_0
               have HL312_0 := Aside0.mk (show Kd.R (Kd.int .i64) 3 _ _ _ _ ((rd_T41 t302 0).f0) from ge312_0)
               clear hv312_0 ge312_0
               have hv312_1 := hcc312 1 _ rfl
               rw [add_field _ _ 1 (by omega)] at hv312_1
               replace hv312_1 := Option.some.inj (hv312_1.symm.trans hx312_1)
               rw [hv312_1] at ge312_1
               have HL312_1 := Aside0.mk (show Kd.R (Kd.slice 3 (Kd.int .i64)) 31 _ _ _ _ ((rd_T41 t302 0).f1) from ge312_1)
               clear hv312_1 ge312_1
               clear hcc312 hce312
               have qi312 : (0 < t302.length) = True := eq_true (by omega)
               (try rw [show ((0 : Int)).toNat = 0 from rfl] at hx312_0)
               (try rw [show 0 * 2 = 0 from rfl] at hx312_0)
               (try rw [Addr.add_zero'] at hx312_0)
               (try rw [show ((0 : Int)).toNat = 0 from rfl] at hx312_1)
               (try rw [show 0 * 2 = 0 from rfl] at hx312_1)
               (try rw [Addr.add_zero'] at hx312_1)
               have HR312_0 := Aside0.mk hi312_0
               have HC312_0 := Aside0.mk hl312_0
               clear hi312_0 hl312_0
               have HR312_1 := Aside0.mk hi312_1
               have HC312_1 := Aside0.mk hl312_1
               clear hi312_1 hl312_1
               replace p312 := eq_true p312
               replace q312 := eq_true q312
               refine start_ (n := 26) (S := fun w' => w'.cell? (ad310.add ((x17_2).toNat * 2)) = some (.int .u8 ((rd_T47 l3 x17_2).f0)) ∧ w'.cell? ⟨(ad310.add ((x17_2).toNat * 2)).block, (ad310.add ((x17_2).toNat * 2)).off + 1, none⟩ = some (.int .u8 ((rd_T47 l3 x17_2).f1)) ∧ w'.cell? (ad310.add ((x17_2).toNat * 2)) = some (.int .u8 ((rd_T47 l3 x17_2).f0)) ∧ w'.cell? ⟨(ad310.add ((x17_2).toNat * 2)).block, (ad310.add ((x17_2).toNat * 2)).off + 1, none⟩ = some (.int .u8 ((rd_T47 l3 x17_2).f1)) ∧ w'.cell? ad312 = some (.slice A312_0 ((rd_T41 t302 0).f0).length c312_0) ∧ w'.cell? ⟨ad312.block, ad312.off + 1, none⟩ = some (.slice A312_1 ((rd_T41 t302 0).f1).length c312_1)) (ds := [23, 24]) #[ff,ff,ff,ff,ff,ff,ff,ff,ff,ff,ff,ff,ff,ff,ff,ff,ff,ff,ff,ff,ff,ff,ff,ff,ff,ff] (by kernel_rfl) rfl rfl ⟨((HB.out.cell (World.block_lt_of_cell? w _ hw310_0)).trans hw310_0), ((HB.out.cell (World.block_lt_of_cell? w _ hw310_1)).trans hw310_1), ((HB.out.cell (World.block_lt_of_cell? w _ hw311_0)).trans hw311_0), ((HB.out.cell (World.block_lt_of_cell? w _ hw311_1)).trans hw311_1), hx312_0, hx312_1⟩ (fun hHeld => ?_); refine with_tabW laws_FnAdvanceDelta.tab10 laws_FnAdvanceDelta.bits10 (fun HT_ HW_ => ?_)
               generalize wr.drew = w30 at HO_13 HO_14 HO_15 HO_16 HB HL312_0 HL312_1 HR312_0 HR312_1 hx310_0 hx310_1 hx311_0 hx311_1 hx312_0 hx312_1 hHeld ⊢
               refine pure_ (i := 0) (N := some 73) (v := ?_) (a' := ?_) #[tt,ff,ff,ff,ff,ff,ff,ff,ff,ff,ff,ff,ff,ff,ff,ff,ff,ff,ff,ff,ff,ff,ff,ff,ff,ff] rfl rfl (any_of HT_.out (by kernel_rfl)) (fun _ _ _ h => h) (Or.inl ⟨by rfl, ?_⟩) ?_ ?_
               rotate_left
               ·intro w'
                go_simp
                with_reducible rfl
               rotate_left
               ·simp only [Act.put, L1_, L2_, L3_, i64_w, i32_w]
                rfl
               refine pure_ (i := 1) (N := some 74) (v := ?_) (a' := ?_) #[tt,tt,ff,ff,ff,ff,ff,ff,ff,ff,ff,ff,ff,ff,ff,ff,ff,ff,ff,ff,ff,ff,ff,ff,ff,ff] rfl rfl (any_of HT_.out (by kernel_rfl)) (fun _ _ _ h => h) (Or.inl ⟨by rfl, ?_⟩) ?_ ?_
               rotate_left
               ·intro w'
                go_simp
                with_reducible rfl
               rotate_left
               ·simp only [Act.put, L1_, L2_, L3_, i64_w, i32_w]
                rfl
               refine pure_ (i := 2) (N := some 75) (v := ?_) (a' := ?_) #[tt,tt,tt,ff,ff,ff,ff,ff,ff,ff,ff,ff,ff,ff,ff,ff,ff,ff,ff,ff,ff,ff,ff,ff,ff,ff] rfl rfl (any_of HT_.out (by kernel_rfl)) (fun _ _ _ h => h) (Or.inl ⟨by rfl, ?_⟩) ?_ ?_
               rotate_left
               ·intro w'
                go_simp
                with_reducible rfl
               rotate_left
               ·simp only [Act.put, L1_, L2_, L3_, i64_w, i32_w]
                rfl
               refine pure_ (i := 3) (N := some 76) (v := ?_) (a' := ?_) #[tt,tt,tt,tt,ff,ff,ff,ff,ff,ff,ff,ff,ff,ff,ff,ff,ff,ff,ff,ff,ff,ff,ff,ff,ff,ff] rfl rfl (any_of HT_.out (by kernel_rfl)) (fun _ _ _ h => h) (Or.inl ⟨by rfl, ?_⟩) ?_ ?_
               rotate_left
               ·intro w'
                go_simp
                with_reducible rfl
               rotate_left
               ·simp only [Act.put, L1_, L2_, L3_, i64_w, i32_w]
                rfl
               refine pure_ (i := 4) (N := some 77) (v := ?_) (a' := ?_) #[tt,tt,tt,tt,tt,ff,ff,ff,ff,ff,ff,ff,ff,ff,ff,ff,ff,ff,ff,ff,ff,ff,ff,ff,ff,ff] rfl rfl (any_of HT_.out (by kernel_rfl)) (fun _ _ _ h => h) (Or.inl ⟨by rfl, ?_⟩) ?_ ?_
               rotate_left
               ·intro w'
                go_simp
                with_reducible rfl
               rotate_left
               ·simp only [Act.put, L1_, L2_, L3_, i64_w, i32_w]
                rfl
               refine pure_ (i := 7) (N := some 80) (v := ?_) (a' := ?_) #[tt,tt,tt,tt,tt,ff,ff,tt,ff,ff,ff,ff,ff,ff,ff,ff,ff,ff,ff,ff,ff,ff,ff,ff,ff,ff] rfl rfl (any_of HT_.out (by kernel_rfl)) (fun _ _ _ h => h) (Or.inl ⟨by rfl, ?_⟩) ?_ ?_
               rotate_left
               ·intro w'
                go_simp
                with_reducible rfl
               rotate_left
               ·simp only [Act.put, L1_, L2_, L3_, i64_w, i32_w]
                rfl
               refine pure_ (i := 8) (N := some 81) (v := ?_) (a' := ?_) #[tt,tt,tt,tt,tt,ff,ff,tt,tt,ff,ff,ff,ff,ff,ff,ff,ff,ff,ff,ff,ff,ff,ff,ff,ff,ff] rfl rfl (any_of HT_.out (by kernel_rfl)) (fun _ _ _ h => h) (Or.inl ⟨by rfl, ?_⟩) ?_ ?_
               rotate_left
               ·intro w'
                go_simp
                with_reducible rfl
               rotate_left
               ·simp only [Act.put, L1_, L2_, L3_, i64_w, i32_w]
                rfl
               refine pure_ (i := 10) (N := some 83) (v := ?_) (a' := ?_) #[tt,tt,tt,tt,tt,ff,ff,tt,tt,ff,tt,ff,ff,ff,ff,ff,ff,ff,ff,ff,ff,ff,ff,ff,ff,ff] rfl rfl (any_of HT_.out (by kernel_rfl)) (fun _ _ _ h => h) (Or.inl ⟨by rfl, ?_⟩) ?_ ?_
               rotate_left
               ·intro w'
                go_simp
                with_reducible rfl
               rotate_left
               ·simp only [Act.put, L1_, L2_, L3_, i64_w, i32_w]
                rfl
               refine pure_ (i := 11) (N := some 84) (v := ?_) (a' := ?_) #[tt,tt,tt,tt,tt,ff,ff,tt,tt,ff,tt,tt,ff,ff,ff,ff,ff,ff,ff,ff,ff,ff,ff,ff,ff,ff] rfl rfl (any_of HT_.out (by kernel_rfl)) (fun _ _ _ h => h) (Or.inl ⟨by rfl, ?_⟩) ?_ ?_
               rotate_left
               ·intro w'
                go_simp
                with_reducible rfl
               rotate_left
               ·simp only [Act.put, L1_, L2_, L3_, i64_w, i32_w]
                rfl
               refine pure_ (i := 12) (N := some 85) (v := ?_) (a' := ?_) #[tt,tt,tt,tt,tt,ff,ff,tt,tt,ff,tt,tt,tt,ff,ff,ff,ff,ff,ff,ff,ff,ff,ff,ff,ff,ff] rfl rfl (any_of HT_.out (by kernel_rfl)) (fun _ _ _ h => h) (Or.inl ⟨by rfl, ?_⟩) ?_ ?_
               rotate_left
               ·intro w'
                go_simp
                with_reducible rfl
               rotate_left
               ·simp only [Act.put, L1_, L2_, L3_, i64_w, i32_w]
                rfl
               refine pure_ (i := 13) (N := some 86) (v := ?_) (a' := ?_) #[tt,tt,tt,tt,tt,ff,ff,tt,tt,ff,tt,tt,tt,tt,ff,ff,ff,ff,ff,ff,ff,ff,ff,ff,ff,ff] rfl rfl (any_of HT_.out (by kernel_rfl)) (fun _ _ _ h => h) (Or.inl ⟨by rfl, ?_⟩) ?_ ?_
               rotate_left
               ·intro w'
                go_simp
                with_reducible rfl
               rotate_left
               ·simp only [Act.put, L1_, L2_, L3_, i64_w, i32_w]
                rfl
               refine pure_ (i := 16) (N := some 89) (v := ?_) (a' := ?_) #[tt,tt,tt,tt,tt,ff,ff,tt,tt,ff,tt,tt,tt,tt,ff,ff,tt,ff,ff,ff,ff,ff,ff,ff,ff,ff] rfl rfl (any_of HT_.out (by kernel_rfl)) (fun _ _ _ h => h) (Or.inl ⟨by rfl, ?_⟩) ?_ ?_
               rotate_left
               ·intro w'
                go_simp
                with_reducible rfl
               rotate_left
               ·simp only [Act.put, L1_, L2_, L3_, i64_w, i32_w]
                rfl
               refine pure_ (i := 17) (N := some 90) (v := ?_) (a' := ?_) #[tt,tt,tt,tt,tt,ff,ff,tt,tt,ff,tt,tt,tt,tt,ff,ff,tt,tt,ff,ff,ff,ff,ff,ff,ff,ff] rfl rfl (any_of HT_.out (by kernel_rfl)) (fun _ _ _ h => h) (Or.inl ⟨by rfl, ?_⟩) ?_ ?_
               rotate_left
               ·intro w'
                go_simp
                with_reducible rfl
               rotate_left
               ·simp only [Act.put, L1_, L2_, L3_, i64_w, i32_w]
                rfl
               refine pure_ (i := 18) (N := some 91) (v := ?_) (a' := ?_) #[tt,tt,tt,tt,tt,ff,ff,tt,tt,ff,tt,tt,tt,tt,ff,ff,tt,tt,tt,ff,ff,ff,ff,ff,ff,ff] rfl rfl (any_of HT_.out (by kernel_rfl)) (fun _ _ _ h => h) (Or.inl ⟨by rfl, ?_⟩) ?_ ?_
               rotate_left
               ·intro w'
                go_simp
                with_reducible rfl
               rotate_left
               ·simp only [Act.put, L1_, L2_, L3_, i64_w, i32_w]
                rfl
               refine take_ (i := 5) (N := some 78) (v := ?_) (a' := ?_) #[tt,tt,tt,tt,tt,tt,ff,tt,tt,ff,tt,tt,tt,tt,ff,ff,tt,tt,tt,ff,ff,ff,ff,ff,ff,ff] rfl rfl (take_ofW HT_.out HW_.out (by kernel_rfl)) (fun _ _ _ h => h) (Or.inl ⟨by rfl, ?_⟩) hHeld ?_ ?_
               rotate_left
               ·rintro w' ⟨s0, s1, s2, s3, s4, s5⟩
                go_simp
                with_reducible rfl
               rotate_left
               ·simp only [Act.put, L1_, L2_, L3_, i64_w, i32_w]
                rfl
               refine pure_ (i := 6) (N := some 79) (v := ?_) (a' := ?_) #[tt,tt,tt,tt,tt,tt,tt,tt,tt,ff,tt,tt,tt,tt,ff,ff,tt,tt,tt,ff,ff,ff,ff,ff,ff,ff] rfl rfl (any_of HT_.out (by kernel_rfl)) (fun _ _ _ h => h) (Or.inl ⟨by rfl, ?_⟩) ?_ ?_
               rotate_left
               ·intro w'
                go_simp
                with_reducible rfl
               rotate_left
               ·(try go_ints); (try simp (disch := omega) only [n3_]); simp only [Act.put, L1_, L2_, L3_, i64_w, i32_w]
                rfl
               refine pure_ (i := 9) (N := some 82) (v := ?_) (a' := ?_) #[tt,tt,tt,tt,tt,tt,tt,tt,tt,tt,tt,tt,tt,tt,ff,ff,tt,tt,tt,ff,ff,ff,ff,ff,ff,ff] rfl rfl (any_of HT_.out (by kernel_rfl)) (fun _ _ _ h => h) (Or.inl ⟨by rfl, ?_⟩) ?_ ?_
               rotate_left
               ·intro w'
                go_simp
                with_reducible rfl
               rotate_left
               ·(try go_ints); (try simp (disch := omega) only [n3_]); simp only [Act.put, L1_, L2_, L3_, i64_w, i32_w]
                rfl
               refine take_ (i := 14) (N := some 87) (v := ?_) (a' := ?_) #[tt,tt,tt,tt,tt,tt,tt,tt,tt,tt,tt,tt,tt,tt,tt,ff,tt,tt,tt,ff,ff,ff,ff,ff,ff,ff] rfl rfl (take_ofW HT_.out HW_.out (by kernel_rfl)) (fun _ _ _ h => h) (Or.inl ⟨by rfl, ?_⟩) hHeld ?_ ?_
               rotate_left
               ·rintro w' ⟨s0, s1, s2, s3, s4, s5⟩
                go_simp
                with_reducible rfl
               rotate_left
               ·simp only [Act.put, L1_, L2_, L3_, i64_w, i32_w]
                rfl
               refine pure_ (i := 15) (N := some 88) (v := ?_) (a' := ?_) #[tt,tt,tt,tt,tt,tt,tt,tt,tt,tt,tt,tt,tt,tt,tt,tt,tt,tt,tt,ff,ff,ff,ff,ff,ff,ff] rfl rfl (any_of HT_.out (by kernel_rfl)) (fun _ _ _ h => h) (Or.inl ⟨by rfl, ?_⟩) ?_ ?_
               rotate_left
               ·intro w'
                go_simp
                with_reducible rfl
               rotate_left
               ·(try go_ints); (try simp (disch := omega) only [n3_]); simp only [Act.put, L1_, L2_, L3_, i64_w, i32_w]
                rfl
               refine take_ (i := 19) (N := some 92) (v := ?_) (a' := ?_) #[tt,tt,tt,tt,tt,tt,tt,tt,tt,tt,tt,tt,tt,tt,tt,tt,tt,tt,tt,tt,ff,ff,ff,ff,ff,ff] rfl rfl (take_ofW HT_.out HW_.out (by kernel_rfl)) (fun _ _ _ h => h) (Or.inl ⟨by rfl, ?_⟩) hHeld ?_ ?_
               rotate_left
               ·rintro w' ⟨s0, s1, s2, s3, s4, s5⟩
                go_simp
                with_reducible rfl
               rotate_left
               ·simp only [Act.put, L1_, L2_, L3_, i64_w, i32_w]
                rfl
               refine pure_ (i := 20) (N := some 93) (v := ?_) (a' := ?_) #[tt,tt,tt,tt,tt,tt,tt,tt,tt,tt,tt,tt,tt,tt,tt,tt,tt,tt,tt,tt,tt,ff,ff,ff,ff,ff] rfl rfl (any_of HT_.out (by kernel_rfl)) (fun _ _ _ h => h) (Or.inl ⟨by rfl, ?_⟩) ?_ ?_
               rotate_left
               ·intro w'
                go_simp
                with_reducible rfl
               rotate_left
               ·simp only [Act.put, L1_, L2_, L3_, i64_w, i32_w]
                rfl
               refine pure_ (i := 21) (N := some 94) (v := ?_) (a' := ?_) #[tt,tt,tt,tt,tt,tt,tt,tt,tt,tt,tt,tt,tt,tt,tt,tt,tt,tt,tt,tt,tt,tt,ff,ff,ff,ff] rfl rfl (any_of HT_.out (by kernel_rfl)) (fun _ _ _ h => h) (Or.inl ⟨by rfl, ?_⟩) ?_ ?_
               rotate_left
               ·intro w'
                go_simp
                with_reducible rfl
               rotate_left
               ·(try go_ints); (try simp (disch := omega) only [n3_]); simp only [Act.put, L1_, L2_, L3_, i64_w, i32_w]
                rfl
               refine pure_ (i := 22) (N := some 95) (v := ?_) (a' := ?_) #[tt,tt,tt,tt,tt,tt,tt,tt,tt,tt,tt,tt,tt,tt,tt,tt,tt,tt,tt,tt,tt,tt,tt,ff,ff,ff] rfl rfl (any_of HT_.out (by kernel_rfl)) (fun _ _ _ h => h) (Or.inl ⟨by rfl, ?_⟩) ?_ ?_
               rotate_left
               ·intro w'
                go_simp
                with_reducible rfl
               rotate_left
               ·simp only [Act.put, L1_, L2_, L3_, i64_w, i32_w]
                rfl
               refine last_ (i := 23) (N := some 96) #[tt,tt,tt,tt,tt,tt,tt,tt,tt,tt,tt,tt,tt,tt,tt,tt,tt,tt,tt,tt,tt,tt,tt,tt,ff,ff] rfl rfl (one_of HT_.out (by kernel_rfl)) (by decide) (fun K hK => ?_)
               refine value_ (w1 := ?_) (v := ?_) (by rfl) rfl ?_ ?_
               rotate_left 2
               ·go_simp
                constructor
                ·rfl
                ·rfl
               refine hK.out _ _ ?_
               clear hK K
               refine norm_ (a' := ?_) ?_ ?_
               rotate_left
               ·show Act.put _ (some 96) _ = _
                simp only [Act.put, L1_, L2_, L3_, i64_w, i32_w]
                rfl
               refine last_ (i := 24) (N := some 97) #[tt,tt,tt,tt,tt,tt,tt,tt,tt,tt,tt,tt,tt,tt,tt,tt,tt,tt,tt,tt,tt,tt,tt,tt,tt,ff] rfl rfl (one_of HT_.out (by kernel_rfl)) (by decide) (fun K hK => ?_)
               refine Kd.R_append_step k48 (w0 := w) w.heap.size (by rfl) (.tmp 73) (.tmp 96) 46 48 (.agg #[(.int .i64 0), (.int .i64 0)]) 16 rfl Try.underlying46 info48 rfl (by decide) (by omega) u16 x16_2 (⟨Int.tmod (wrap64 ((rd_T47 l3 x17_2).f0)) (t302.length : Int), Int.tmod (wrap64 ((rd_T47 l3 x17_2).f1)) (((rd_T41 t302 0).f1).length : Int)⟩ : S48) [.int .i64 (Int.tmod (wrap64 ((rd_T47 l3 x17_2).f0)) (t302.length : Int)), .int .i64 (Int.tmod (wrap64 ((rd_T47 l3 x17_2).f1)) (((rd_T41 t302 0).f1).length : Int))] (fun _ => True) (fun _ => False) rfl rfl ?aP (fun _ hk => hk.elim) ?aF ?aO ?aB ?aS ?aL ?_
               (case aP => exact k48_mkM _ _ _ (⟨Int.tmod (wrap64 ((rd_T47 l3 x17_2).f0)) (t302.length : Int), Int.tmod (wrap64 ((rd_T47 l3 x17_2).f1)) (((rd_T41 t302 0).f1).length : Int)⟩ : S48))
               (case aB => exact (by repeat (first | (with_reducible first | exact HB.out | apply below_alloc | apply pw_below_drewN | apply below_drew1) | exact HB.out)))
               (case aF => exact (fun _ _ => trivial))
               (case aO => exact (by (with_reducible repeat (first | apply Kd.R_alloc | apply Kd.R_drewN | apply Kd.R_drew)); exact HO_16.out))
               (case aS => exact (below_size (by repeat (first | (with_reducible first | exact HB.out | apply below_alloc | apply pw_below_drewN | apply below_drew1) | exact HB.out))))
               (case aL => have := LMc29.out; omega)
               intro v314 w32 ho hb hg hat
               rw [← Ny313.out] at ho
               have n0_ := Aside0.mk (Kd.S_over' (by (with_reducible repeat (first | apply Kd.S_alloc | apply Kd.S_drewN | apply Kd.S_drew)); exact HO_13.out) (Kd.R_typed (by (with_reducible repeat (first | apply Kd.R_alloc | apply Kd.R_drewN | apply Kd.R_drew)); exact HO_16.out)) (by decide) hg)
               have n1_ := Aside0.mk (Kd.R_over' (by (with_reducible repeat (first | apply Kd.R_alloc | apply Kd.R_drewN | apply Kd.R_drew)); exact HO_14.out) (Kd.R_typed (by (with_reducible repeat (first | apply Kd.R_alloc | apply Kd.R_drewN | apply Kd.R_drew)); exact HO_16.out)) (by decide) hg)
               have n2_ := Aside0.mk (Kd.R_over' (by (with_reducible repeat (first | apply Kd.R_alloc | apply Kd.R_drewN | apply Kd.R_drew)); exact HO_15.out) (Kd.R_typed (by (with_reducible repeat (first | apply Kd.R_alloc | apply Kd.R_drewN | apply Kd.R_drew)); exact HO_16.out)) (by decide) hg)
               have n3_ := Aside0.mk (Kd.R_over' (by (with_reducible repeat (first | apply Kd.R_alloc | apply Kd.R_drewN | apply Kd.R_drew)); exact HL312_0.out) (Kd.R_typed (by (with_reducible repeat (first | apply Kd.R_alloc | apply Kd.R_drewN | apply Kd.R_drew)); exact HO_16.out)) (by decide) hg)
               have n4_ := Aside0.mk (Kd.R_over' (by (with_reducible repeat (first | apply Kd.R_alloc | apply Kd.R_drewN | apply Kd.R_drew)); exact HL312_1.out) (Kd.R_typed (by (with_reducible repeat (first | apply Kd.R_alloc | apply Kd.R_drewN | apply Kd.R_drew)); exact HO_16.out)) (by decide) hg)
               have n5_ := Aside0.mk (hb)
               have n6_ := Aside0.mk (ho)
               clear HO_13
               clear HO_14
               clear HO_15
               clear HL312_0
               clear HL312_1
               clear HB
               clear HO_16
               have HO_13 := n0_
               have HO_14 := n1_
               have HO_15 := n2_
               have HL312_0 := n3_
               have HL312_1 := n4_
               have HB := n5_
               have HO315 := n6_
               clear n0_ n1_ n2_ n3_ n4_ n5_ n6_
               clear ho hb hg hat
               refine hK.out _ _ ?_
               clear hK K
               refine norm_ (a' := ?_) ?_ ?_
               rotate_left
               ·show Act.put _ (some 97) _ = _
                simp only [Act.put, L1_, L2_, L3_, i64_w, i32_w]
                rfl
               refine pure_ (i := 25) (N := some 16) (v := ?_) (a' := ?_) #[tt,tt,tt,tt,tt,tt,tt,tt,tt,tt,tt,tt,tt,tt,tt,tt,tt,tt,tt,tt,tt,tt,tt,tt,tt,tt] rfl rfl (any_of HT_.out (by kernel_rfl)) (fun _ _ _ h => h) (Or.inl ⟨by rfl, ?_⟩) ?_ ?_
               rotate_left
               ·intro w'
                go_simp
                with_reducible rfl
               rotate_left
               ·simp only [Act.put, L1_, L2_, L3_, i64_w, i32_w]
                rfl
               refine done_ (done_of HT_.out (by kernel_rfl)) ?_
               try go_wp2
               go_roundg k2
               case measure => have := HJ6.out; have := HK2.out; omega
               case rel => exact ⟨(y313), (wrap64 (x17_2 + 1)), (by first | rfl | (simp; done) | (simp [*]; done)), H', ⟨by have := HJ6.out; have := HK2.out; omega⟩, ⟨by (with_reducible repeat (first | apply Kd.S_alloc | apply Kd.S_drewN | apply Kd.S_drew)); exact HO_13.out⟩, ⟨by (with_reducible repeat (first | apply Kd.R_alloc | apply Kd.R_drewN | apply Kd.R_drew)); exact HO_14.out⟩, ⟨by (with_reducible repeat (first | apply Kd.R_alloc | apply Kd.R_drewN | apply Kd.R_drew)); exact HO_15.out⟩, ⟨by (with_reducible repeat (first | apply Kd.R_alloc | apply Kd.R_drewN | apply Kd.R_drew)); exact HO315.out⟩, ⟨by repeat (first | (with_reducible first | exact HB.out | apply below_alloc | apply pw_below_drewN | apply below_drew1) | exact HB.out)⟩⟩
              ·rw [if_neg c29] at H
               exact absurd H (by simp)
            ·rw [if_neg c27] at H
             exact absurd H (by simp)
          ·rw [if_neg c25] at H
           exact absurd H (by simp)
         ·rw [if_neg c24] at H
          have c24b0 : decide (x17_2 < 20) = false := decide_eq_false c24
          clear c24
          have H' := Aside0.mk H
          clear H
          go_wp2
          go_meet
          case rel => exact ⟨_, (x16_2), H', ⟨by have := HJ6.out; have := HK2.out; first | omega | exact Nat.le_refl _⟩, ⟨by (with_reducible repeat (first | apply Kd.S_alloc | apply Kd.S_drewN | apply Kd.S_drew)); exact HO_13.out⟩, ⟨by (with_reducible repeat (first | apply Kd.R_alloc | apply Kd.R_drewN | apply Kd.R_drew)); exact HO_14.out⟩, ⟨by (with_reducible repeat (first | apply Kd.R_alloc | apply Kd.R_drewN | apply Kd.R_drew)); exact HO_15.out⟩, ⟨by (with_reducible repeat (first | apply Kd.R_alloc | apply Kd.R_drewN | apply Kd.R_drew)); exact HO_16.out⟩, ⟨by repeat (first | (with_reducible first | exact HB.out | apply below_alloc | apply pw_below_drewN | apply below_drew1) | exact HB.out)⟩⟩
        ·rw [if_neg c23] at H
         have c23b0 : decide (x17_2 < (l3.length : Int)) = false := decide_eq_false c23
         clear c23
         (first | rw [c23b0] | (simp only [i64_w, i32_w]; rw [c23b0]) | skip)
         have H' := Aside0.mk H
         clear H
         go_wp2
         go_meet
         case rel => exact ⟨_, (x16_2), H', ⟨by have := HJ6.out; have := HK2.out; first | omega | exact Nat.le_refl _⟩, ⟨by (with_reducible repeat (first | apply Kd.S_alloc | apply Kd.S_drewN | apply Kd.S_drew)); exact HO_13.out⟩, ⟨by (with_reducible repeat (first | apply Kd.R_alloc | apply Kd.R_drewN | apply Kd.R_drew)); exact HO_14.out⟩, ⟨by (with_reducible repeat (first | apply Kd.R_alloc | apply Kd.R_drewN | apply Kd.R_drew)); exact HO_15.out⟩, ⟨by (with_reducible repeat (first | apply Kd.R_alloc | apply Kd.R_drewN | apply Kd.R_drew)); exact HO_16.out⟩, ⟨by repeat (first | (with_reducible first | exact HB.out | apply below_alloc | apply pw_below_drewN | apply below_drew1) | exact HB.out)⟩⟩
     case rest =>
      clear HC20
      try clear c1
      try clear c2
      try clear p2
      try clear c3
      try clear p3
      try clear q3
      try clear hx3
      try clear qi3
      try clear c4
      try clear c5
      try clear p6
      try clear c8
      try clear c9
      try clear c11
      try clear c13
      try clear c14
      try clear c14b0
      try clear c14b1
      try clear c15
      try clear c17
      try clear c17b0
      try clear c17b1
      try clear c17b2
      try clear c23
      try clear c23b0
      try clear c24
      try clear c24b0
      try clear c25
      try clear c25b0
      try clear c26
      try clear c26b0
      try clear c26b1
      try clear c26b2
      try clear c27
      try clear c27b0
      try clear c27b1
      try clear c28
      try clear c28b0
      try clear c28b1
      try clear c28b2
      try clear c29
      try clear c31
      try clear p31
      try clear q31
      try clear hx31
      try clear qi31
      try clear hx310_0
      try clear hx310_1
      try clear hx311_0
      try clear hx311_1
      try clear hx312_0
      try clear hx312_1
      try clear p2
      try clear p310
      try clear p311
      try clear p312
      try clear q310
      try clear q311
      try clear q312
      obtain ⟨kq, x16_19, HA, HJ19, HO_13, HO_14, HO_15, HO_16, HB⟩ := hcut
      cases kq with
      | zero => exact absurd HA.out (by simp [laws_FnAdvanceDelta.j2])
      | succ kj19 =>
       have H := HA.out
       clear HA
       simp only [laws_FnAdvanceDelta.j2] at H
       have HC33 := Aside0.mk H
       clear H
       obtain ⟨Ao34, co34, eo34⟩ := Kd.R_slice HO_16.out
       subst eo34
       go_upto_if 102 with (fail)
       go_cut [18, 19] (fun v18 v19 wc => ∃ (kq : Nat) (x18_32 : Int) (x19_32 : Int), v18 = .int .i64 x18_32 ∧ v19 = .int .i64 x19_32 ∧ Aside0 (laws_FnAdvanceDelta.j3 kq a4 t301 t302 t303 x16_19 x18_32 x19_32 = some r) ∧ Aside0 (kq ≤ kj19) ∧ Aside0 (Kd.S (Kd.slice 36 k36) 38 wc w.heap.size (fun _ => True) (.slice Ao22 t301.length co22) t301) ∧ Aside0 (Kd.R k41 41 wc w.heap.size (fun k_ => some k_ ≠ (v308 : Value).ownBlock) v306 t302) ∧ Aside0 (Kd.R (Kd.int .i64) 3 wc w.heap.size (fun _ => True) v308 t303) ∧ Aside0 (Kd.R k48 48 wc w.heap.size (fun _ => True) (.slice Ao34 x16_19.length co34) x16_19) ∧ Aside0 (Below w.heap.size w wc))
       case first =>
        have H := HC33.out
        clear HC33
        by_cases c35 : (x16_19.length : Int) > 0
        ·rw [if_pos c35] at H
         have c35b0 : decide (0 < (x16_19.length : Int)) = true := decide_eq_true c35
         have c35b1 : decide (0 < x16_19.length) = true := decide_eq_true (by omega)
         clear c35
         (first | rw [c35b0] | (simp only [i64_w, i32_w]; rw [c35b0]) | skip)
         obtain ⟨ji36, hji36⟩ : ∃ j_ : Int, (mn (wrap64 (a4)) (wrap64 ((x16_19.length : Int) - 1))) = j_ := ⟨_, rfl⟩
         replace H : (if 0 ≤ (ji36) then (if (ji36) < (x16_19.length : Int) then (laws_FnAdvanceDelta.j3 kj19 a4 t301 t302 t303 x16_19 ((rd_T48 x16_19 (ji36)).f0) ((rd_T48 x16_19 (ji36)).f1)) else (none)) else (none)) = some r := by first | (rw [hji36] at H; exact H) | (simp only [hji36] at H ⊢; exact H)
         have hji36_ : (if (wrap64 ((x16_19.length : Int) - 1)) < (wrap64 (a4)) then (wrap64 ((x16_19.length : Int) - 1)) else (wrap64 (a4))) = ji36 := hji36
         by_cases c37 : 0 ≤ (ji36)
         ·rw [if_pos c37] at H
          have c37b0 : decide (0 ≤ (ji36)) = true := decide_eq_true c37
          clear c37
          by_cases c38 : (ji36) < (x16_19.length : Int)
          ·rw [if_pos c38] at H
           have c38b0 : decide ((ji36) < (x16_19.length : Int)) = true := decide_eq_true c38
           clear c38
           have H' := Aside0.mk H
           clear H
           have p316 : 0 ≤ ((ji36) : Int) := of_decide_eq_true (by first | (with_reducible assumption) | assumption)
           have q316 : (ji36) < (x16_19.length : Int) := of_decide_eq_true (by first | (with_reducible assumption) | assumption)
           obtain ⟨ad316, e316, hx316_0, hx316_1⟩ := at_T48 (Kd.R_reads' HO_16.out).2.2 (ji36) p316 q316
           cases e316
           replace p316 := eq_true p316
           replace q316 := eq_true q316
           try go_wp2_with (first | ((with_reducible refine gate_dst (N := 20) rfl ?_); (try (refine gate_guard (by rfl) ?_; dsimp only)); refine box_event ?hg (N := 20) ?hd (cs := #[.int .i64 0, .int .i64 0]) (t := 48) ?hr ?_; (case hd => rfl); (case hg => rfl); (case hr => first | (go_simp; done) | (go_simp; rfl)); intro gb317 hg w39 hbox hb; have n0_ := Aside0.mk (Kd.S_below (by (with_reducible repeat (first | apply Kd.S_alloc | apply Kd.S_drewN | apply Kd.S_drew)); exact HO_13.out) hb); have n1_ := Aside0.mk (Kd.R_below (by (with_reducible repeat (first | apply Kd.R_alloc | apply Kd.R_drewN | apply Kd.R_drew)); exact HO_14.out) hb); have n2_ := Aside0.mk (Kd.R_below (by (with_reducible repeat (first | apply Kd.R_alloc | apply Kd.R_drewN | apply Kd.R_drew)); exact HO_15.out) hb); have n3_ := Aside0.mk (Kd.R_below (Kd.R_elderB (by (with_reducible repeat (first | apply Kd.R_alloc | apply Kd.R_drewN | apply Kd.R_drew)); exact HO_16.out) gb317 (Nat.le_of_eq hg.symm)) hb); have n4_ := Aside0.mk (below_step (by repeat (first | (with_reducible first | exact HB.out | apply below_alloc | apply pw_below_drewN | apply below_drew1) | exact HB.out)) hb); have n5_ := Aside0.mk (hbox); have n6_ := Aside0.mk ((by rw [hg]; exact (below_size (by repeat (first | (with_reducible first | exact HB.out | apply below_alloc | apply pw_below_drewN | apply below_drew1) | exact HB.out))) : w.heap.size ≤ gb317)); have n7_ := Aside0.mk ((by rw [hg]; exact (below_size (by repeat (first | (with_reducible first | exact HB.out | apply below_alloc | apply pw_below_drewN | apply below_drew1) | exact HB.out))) : w.heap.size ≤ gb317)); clear HO_13; clear HO_14; clear HO_15; clear HO_16; clear HB; have HO_13 := n0_; have HO_14 := n1_; have HO_15 := n2_; have HO_16 := n3_; have HB := n4_; have BK317 := n5_; have GW317 := n6_; have GE317 := n7_; clear n0_ n1_ n2_ n3_ n4_ n5_ n6_ n7_; clear hb hbox hg; have hcz40_0 : w39.cell? ⟨gb317, 0, none⟩ = some (.int .i64 0) := (blk_cell BK317.out 0).trans rfl; have hcz40_1 : w39.cell? ⟨gb317, 1, none⟩ = some (.int .i64 0) := (blk_cell BK317.out 1).trans rfl; have hfz40_0 := blk_frozen BK317.out 0; have hfz40_1 := blk_frozen BK317.out 1))
           have n0_ : Aside0 (Kd.S (Kd.slice 36 k36) 38 ((w39.setCell ⟨gb317, 0, none⟩ (.int .i64 ((rd_T48 x16_19 (ji36)).f0))).setCell ⟨gb317, 1, none⟩ (.int .i64 ((rd_T48 x16_19 (ji36)).f1))) w.heap.size (fun _ => True) (.slice Ao22 t301.length co22) t301) := ⟨by (with_reducible repeat (first | apply Kd.S_alloc | apply Kd.S_drewN | apply Kd.S_drew)); exact Kd.S_mono (Kd.S_far (p := ⟨gb317, 1, none⟩) (Kd.S_far (p := ⟨gb317, 0, none⟩) (Kd.S_types HO_13.out BK317.out (by decide)) (fun _ hk => hk.2) (.int .i64 ((rd_T48 x16_19 (ji36)).f0))) (fun _ hk => hk.2) (.int .i64 ((rd_T48 x16_19 (ji36)).f1))) (fun _ hk => trivial)⟩
           have n1_ : Aside0 (Kd.R k41 41 ((w39.setCell ⟨gb317, 0, none⟩ (.int .i64 ((rd_T48 x16_19 (ji36)).f0))).setCell ⟨gb317, 1, none⟩ (.int .i64 ((rd_T48 x16_19 (ji36)).f1))) w.heap.size (fun k_ => some k_ ≠ (v308 : Value).ownBlock) v306 t302) := ⟨by (with_reducible repeat (first | apply Kd.R_alloc | apply Kd.R_drewN | apply Kd.R_drew)); exact Kd.R_mono (Kd.R_far (p := ⟨gb317, 1, none⟩) (Kd.R_far (p := ⟨gb317, 0, none⟩) (Kd.R_types HO_14.out BK317.out (by decide)) (fun _ hk => hk.2) (.int .i64 ((rd_T48 x16_19 (ji36)).f0))) (fun _ hk => hk.2) (.int .i64 ((rd_T48 x16_19 (ji36)).f1))) (fun _ hk => hk.1)⟩
           have n2_ : Aside0 (Kd.R (Kd.int .i64) 3 ((w39.setCell ⟨gb317, 0, none⟩ (.int .i64 ((rd_T48 x16_19 (ji36)).f0))).setCell ⟨gb317, 1, none⟩ (.int .i64 ((rd_T48 x16_19 (ji36)).f1))) w.heap.size (fun _ => True) v308 t303) := ⟨by (with_reducible repeat (first | apply Kd.R_alloc | apply Kd.R_drewN | apply Kd.R_drew)); exact Kd.R_mono (Kd.R_far (p := ⟨gb317, 1, none⟩) (Kd.R_far (p := ⟨gb317, 0, none⟩) (Kd.R_types HO_15.out BK317.out (by decide)) (fun _ hk => hk.2) (.int .i64 ((rd_T48 x16_19 (ji36)).f0))) (fun _ hk => hk.2) (.int .i64 ((rd_T48 x16_19 (ji36)).f1))) (fun _ hk => trivial)⟩
           have n3_ : Aside0 (Kd.R k48 48 ((w39.setCell ⟨gb317, 0, none⟩ (.int .i64 ((rd_T48 x16_19 (ji36)).f0))).setCell ⟨gb317, 1, none⟩ (.int .i64 ((rd_T48 x16_19 (ji36)).f1))) w.heap.size (fun k_ => k_ ≠ gb317) (.slice (some ad316) x16_19.length co34) x16_19) := ⟨by (with_reducible repeat (first | apply Kd.R_alloc | apply Kd.R_drewN | apply Kd.R_drew)); exact Kd.R_mono (Kd.R_far (p := ⟨gb317, 1, none⟩) (Kd.R_far (p := ⟨gb317, 0, none⟩) (Kd.R_mono HO_16.out (fun k_ hk => (⟨hk, hk.2⟩ : _ ∧ k_ ≠ gb317))) (fun _ hk => hk.2) (.int .i64 ((rd_T48 x16_19 (ji36)).f0))) (fun _ hk => hk.2) (.int .i64 ((rd_T48 x16_19 (ji36)).f1))) (fun _ hk => hk.1.2)⟩
           have n4_ : Aside0 (((w39.setCell ⟨gb317, 0, none⟩ (.int .i64 ((rd_T48 x16_19 (ji36)).f0))).setCell ⟨gb317, 1, none⟩ (.int .i64 ((rd_T48 x16_19 (ji36)).f1))).heap[gb317]? = some (.cells #[.int .i64 ((rd_T48 x16_19 (ji36)).f0), .int .i64 ((rd_T48 x16_19 (ji36)).f1)] 48 (0, 0))) := ⟨by (with_reducible repeat (first | refine b1_ ?_ _ | refine b2_ ?_ | refine b3_ ?_ _)); refine blk_put (cs := #[.int .i64 ((rd_T48 x16_19 (ji36)).f0), .int .i64 0]) ?_ 1 _ rfl; (with_reducible repeat (first | refine b1_ ?_ _ | refine b2_ ?_ | refine b3_ ?_ _)); refine blk_put (cs := #[.int .i64 0, .int .i64 0]) ?_ 0 _ rfl; (with_reducible repeat (first | refine b1_ ?_ _ | refine b2_ ?_ | refine b3_ ?_ _)); exact BK317.out⟩
           have n5_ : Aside0 (Below w.heap.size w ((w39.setCell ⟨gb317, 0, none⟩ (.int .i64 ((rd_T48 x16_19 (ji36)).f0))).setCell ⟨gb317, 1, none⟩ (.int .i64 ((rd_T48 x16_19 (ji36)).f1)))) := ⟨by repeat (first | (with_reducible first | exact HB.out | apply below_alloc | apply pw_below_drewN | apply below_drew1 | refine below_set ?_ GE317.out) | exact HB.out)⟩
           (try clear HO_13)
           (try clear HO_14)
           (try clear HO_15)
           (try clear HO_16)
           (try clear BK317)
           (try clear HB)
           generalize ((w39.setCell ⟨gb317, 0, none⟩ (.int .i64 ((rd_T48 x16_19 (ji36)).f0))).setCell ⟨gb317, 1, none⟩ (.int .i64 ((rd_T48 x16_19 (ji36)).f1))) = w41 at n0_ n1_ n2_ n3_ n4_ n5_ ⊢
           have HO_13 := n0_
           have HO_14 := n1_
           have HO_15 := n2_
           have HO_16 := n3_
           have BK317 := n4_
           have HB := n5_
           clear n0_ n1_ n2_ n3_ n4_ n5_
           have n0_ := Aside0.mk (Kd.S_drew HO_13.out)
           have n1_ := Aside0.mk (Kd.R_drew HO_14.out)
           have n2_ := Aside0.mk (Kd.R_drew HO_15.out)
           have n3_ := Aside0.mk (Kd.R_drew HO_16.out)
           have n4_ := Aside0.mk (blk_drew BK317.out)
           have n5_ := Aside0.mk (below_drew1 HB.out)
           clear HO_13
           clear HO_14
           clear HO_15
           clear HO_16
           clear BK317
           clear HB
           have HO_13 := n0_
           have HO_14 := n1_
           have HO_15 := n2_
           have HO_16 := n3_
           have BK317 := n4_
           have HB := n5_
           clear n0_ n1_ n2_ n3_ n4_ n5_
           refine start_ (n := 6) (S := fun w' => w'.cell? ⟨gb317, 0, none⟩ = some (.int .i64 ((rd_T48 x16_19 (ji36)).f0)) ∧ w'.cell? ⟨gb317, 1, none⟩ = some (.int .i64 ((rd_T48 x16_19 (ji36)).f1))) (ds := []) #[false, false, false, false, false, false] (by kernel_rfl) rfl rfl ⟨(blk_cell BK317.out 0).trans rfl, (blk_cell BK317.out 1).trans rfl⟩ (fun hHeld => ?_)
           generalize w41.drew = w42 at HO_13 HO_14 HO_15 HO_16 BK317 HB hHeld ⊢
           refine pure_ (i := 0) (N := some 112) (v := ?_) (a' := ?_) #[true, false, false, false, false, false] rfl rfl (by kernel_rfl) (fun _ _ _ h => h) (Or.inl ⟨by rfl, ?_⟩) ?_ ?_
           rotate_left
           ·intro w'
            go_simp
            with_reducible rfl
           rotate_left
           ·simp only [Act.put, L1_, L2_, L3_, i64_w, i32_w]
            rfl
           refine pure_ (i := 2) (N := some 114) (v := ?_) (a' := ?_) #[true, false, true, false, false, false] rfl rfl (by kernel_rfl) (fun _ _ _ h => h) (Or.inl ⟨by rfl, ?_⟩) ?_ ?_
           rotate_left
           ·intro w'
            go_simp
            with_reducible rfl
           rotate_left
           ·simp only [Act.put, L1_, L2_, L3_, i64_w, i32_w]
            rfl
           refine take_ (i := 1) (N := some 113) (v := ?_) (a' := ?_) #[true, true, true, false, false, false] rfl rfl (by kernel_rfl) (fun _ _ _ h => h) (Or.inl ⟨by rfl, ?_⟩) hHeld ?_ ?_
           rotate_left
           ·rintro w' ⟨s0, s1⟩
            go_simp
            with_reducible rfl
           rotate_left
           ·simp only [Act.put, L1_, L2_, L3_, i64_w, i32_w]
            rfl
           refine pure_ (i := 4) (N := some 18) (v := ?_) (a' := ?_) #[true, true, true, false, true, false] rfl rfl (by kernel_rfl) (fun _ _ _ h => h) (Or.inl ⟨by rfl, ?_⟩) ?_ ?_
           rotate_left
           ·intro w'
            go_simp
            with_reducible rfl
           rotate_left
           ·simp only [Act.put, L1_, L2_, L3_, i64_w, i32_w]
            rfl
           refine take_ (i := 3) (N := some 115) (v := ?_) (a' := ?_) #[true, true, true, true, true, false] rfl rfl (by kernel_rfl) (fun _ _ _ h => h) (Or.inl ⟨by rfl, ?_⟩) hHeld ?_ ?_
           rotate_left
           ·rintro w' ⟨s0, s1⟩
            go_simp
            with_reducible rfl
           rotate_left
           ·simp only [Act.put, L1_, L2_, L3_, i64_w, i32_w]
            rfl
           refine pure_ (i := 5) (N := some 19) (v := ?_) (a' := ?_) #[true, true, true, true, true, true] rfl rfl (by kernel_rfl) (fun _ _ _ h => h) (Or.inl ⟨by rfl, ?_⟩) ?_ ?_
           rotate_left
           ·intro w'
            go_simp
            with_reducible rfl
           rotate_left
           ·simp only [Act.put, L1_, L2_, L3_, i64_w, i32_w]
            rfl
           refine done_ (by kernel_rfl) ?_
           try go_wp2
           go_meet
           case rel => exact ⟨_, ((rd_T48 x16_19 (ji36)).f0), ((rd_T48 x16_19 (ji36)).f1), (by first | rfl | (simp; done) | (simp only [← hji36] <;> (first | rfl | simp)) | (simp [*]; done)), (by first | rfl | (simp; done) | (simp only [← hji36] <;> (first | rfl | simp)) | (simp [*]; done)), H', ⟨by have := HJ6.out; have := HJ19.out; first | omega | exact Nat.le_refl _⟩, ⟨by (with_reducible repeat (first | apply Kd.S_alloc | apply Kd.S_drewN | apply Kd.S_drew)); exact HO_13.out⟩, ⟨by (with_reducible repeat (first | apply Kd.R_alloc | apply Kd.R_drewN | apply Kd.R_drew)); exact HO_14.out⟩, ⟨by (with_reducible repeat (first | apply Kd.R_alloc | apply Kd.R_drewN | apply Kd.R_drew)); exact HO_15.out⟩, ⟨by (with_reducible repeat (first | apply Kd.R_alloc | apply Kd.R_drewN | apply Kd.R_drew)); exact Kd.R_mono HO_16.out (fun _ hk => trivial)⟩, ⟨by repeat (first | (with_reducible first | exact HB.out | apply below_alloc | apply pw_below_drewN | apply below_drew1 | refine below_set ?_ GE317.out) | exact HB.out)⟩⟩
           all_goals (rename_i hx_; exact absurd (show 0 < x16_19.length by have h1_ := of_eq_true p316; have h2_ := of_eq_true q316; omega) hx_)
          ·rw [if_neg c38] at H
           exact absurd H (by simp)
         ·rw [if_neg c37] at H
          exact absurd H (by simp)
        ·rw [if_neg c35] at H
         have c35b0 : decide (0 < (x16_19.length : Int)) = false := decide_eq_false c35
         have c35b1 : decide (0 < x16_19.length) = false := decide_eq_false (by omega)
         have c35q := Aside0.mk (show ¬ (0 < x16_19.length) by omega)
         clear c35
         (first | rw [c35b0] | (simp only [i64_w, i32_w]; rw [c35b0]) | skip)
         have H' := Aside0.mk H
         clear H
         go_wp2
         all_goals (try (exact absurd (by assumption : 0 < x16_19.length) c35q.out))
         go_meet
         case rel => exact ⟨_, (0), (wrap64 (a4)), (by first | rfl | (simp; done) | (simp [*]; done)), (by first | rfl | (simp; done) | (simp [*]; done)), H', ⟨by have := HJ6.out; have := HJ19.out; first | omega | exact Nat.le_refl _⟩, ⟨by (with_reducible repeat (first | apply Kd.S_alloc | apply Kd.S_drewN | apply Kd.S_drew)); exact HO_13.out⟩, ⟨by (with_reducible repeat (first | apply Kd.R_alloc | apply Kd.R_drewN | apply Kd.R_drew)); exact HO_14.out⟩, ⟨by (with_reducible repeat (first | apply Kd.R_alloc | apply Kd.R_drewN | apply Kd.R_drew)); exact HO_15.out⟩, ⟨by (with_reducible repeat (first | apply Kd.R_alloc | apply Kd.R_drewN | apply Kd.R_drew)); exact HO_16.out⟩, ⟨by repeat (first | (with_reducible first | exact HB.out | apply below_alloc | apply pw_below_drewN | apply below_drew1) | exact HB.out)⟩⟩
       case rest =>
        clear HC33
        try clear c1
        try clear c2
        try clear p2
        try clear c3
        try clear p3
        try clear q3
        try clear hx3
        try clear qi3
        try clear c4
        try clear c5
        try clear p6
        try clear c8
        try clear c9
        try clear c11
        try clear c13
        try clear c14
        try clear c14b0
        try clear c14b1
        try clear c15
        try clear c17
        try clear c17b0
        try clear c17b1
        try clear c17b2
        try clear c23
        try clear c23b0
        try clear c24
        try clear c24b0
        try clear c25
        try clear c25b0
        try clear c26
        try clear c26b0
        try clear c26b1
        try clear c26b2
        try clear c27
        try clear c27b0
        try clear c27b1
        try clear c28
        try clear c28b0
        try clear c28b1
        try clear c28b2
        try clear c29
        try clear c31
        try clear p31
        try clear q31
        try clear hx31
        try clear qi31
        try clear c35
        try clear c35b0
        try clear c35b1
        try clear c37
        try clear c37b0
        try clear c38
        try clear c38b0
        try clear hcz40_0
        try clear hcz40_1
        try clear hfz40_0
        try clear hfz40_1
        try clear hx310_0
        try clear hx310_1
        try clear hx311_0
        try clear hx311_1
        try clear hx312_0
        try clear hx312_1
        try clear hx316_0
        try clear hx316_1
        try clear p2
        try clear p3
        try clear p31
        try clear p310
        try clear p311
        try clear p312
        try clear p316
        try clear p6
        try clear q3
        try clear q31
        try clear q310
        try clear q311
        try clear q312
        try clear q316
        obtain ⟨kq, x18_32, x19_32, rfl, rfl, HA, HJ32, HO_13, HO_14, HO_15, HO_16, HB⟩ := hcut
        cases kq with
        | zero => exact absurd HA.out (by simp [laws_FnAdvanceDelta.j3])
        | succ kj32 =>
         have H := HA.out
         clear HA
         simp only [laws_FnAdvanceDelta.j3] at H
         by_cases c43 : 0 ≤ x18_32
         ·rw [if_pos c43] at H
          have c43b0 : decide (0 ≤ x18_32) = true := decide_eq_true c43
          clear c43
          by_cases c44 : x18_32 < (t302.length : Int)
          ·rw [if_pos c44] at H
           have c44b0 : decide (x18_32 < (t302.length : Int)) = true := decide_eq_true c44
           clear c44
           by_cases c45 : x19_32 < (((rd_T41 t302 x18_32).f1).length : Int)
           ·rw [if_pos c45] at H
            have c45b0 : decide (x19_32 < (((rd_T41 t302 x18_32).f1).length : Int)) = true := decide_eq_true c45
            clear c45
            replace H := Option.bind_eq_some_iff.mp H
            obtain ⟨t320, A460, H⟩ := H
            replace H : (if 0 ≤ x19_32 then (laws_FnAdvanceDelta.l1 kj32 a4 t301 t302 t303 x16_19 t320 4576918229304087675 (rd_L9 ((rd_T41 t302 x18_32).f1) x19_32) ((rd_L9 ((rd_T41 t302 x18_32).f1) x19_32).length : Int) 0) else (none)) = some r := H
            have A46 := Aside0.mk A460
            clear A460
            by_cases c47 : 0 ≤ x19_32
            ·rw [if_pos c47] at H
             have c47b0 : decide (0 ≤ x19_32) = true := decide_eq_true c47
             clear c47
             have H' := Aside0.mk H
             clear H
             obtain ⟨Ao48, co48, eo48⟩ := Kd.R_slice HO_14.out
             subst eo48
             have p318 : 0 ≤ (x18_32 : Int) := of_decide_eq_true (by first | (with_reducible assumption) | assumption)
             have q318 : x18_32 < (t302.length : Int) := of_decide_eq_true (by first | (with_reducible assumption) | assumption)
             obtain ⟨ad318, A318_0, c318_0, A318_1, c318_1, e318, hx318_0, hx318_1, hl318_0, hi318_0, hl318_1, hi318_1⟩ := at_T41 (Kd.R_reads' HO_14.out).2.2 x18_32 p318 q318
             cases e318
             obtain ⟨ce318, hce318, hMe318, hcc318⟩ := Kd.R_get HO_14.out z41 x18_32 p318 (by first | exact q318 | exact of_decide_eq_true (by first | (with_reducible assumption) | assumption) | (have e_ := (Kd.R_reads' HO_14.out).1; omega))
             obtain ⟨ve318_0, ve318_1, rfl, ge318_0, ge318_1⟩ := k41_openM hMe318
             have hv318_0 := hcc318 0 _ rfl
             rw [Nat.add_zero] at hv318_0
             replace hv318_0 := Option.some.inj (hv318_0.symm.trans hx318_0)
             rw [hv318_0] at ge318_0
             have HL318_0 := Aside0.mk (show Kd.R (Kd.int .i64) 3 _ _ _ _ ((rd_T41 t302 x18_32).f0) from ge318_0)
             clear hv318_0 ge318_0
             have hv318_1 := hcc318 1 _ rfl
             rw [add_field _ _ 1 (by omega)] at hv318_1
             replace hv318_1 := Option.some.inj (hv318_1.symm.trans hx318_1)
             rw [hv318_1] at ge318_1
             have HL318_1 := Aside0.mk (show Kd.R (Kd.slice 3 (Kd.int .i64)) 31 _ _ _ _ ((rd_T41 t302 x18_32).f1) from ge318_1)
             clear hv318_1 ge318_1
             clear hcc318 hce318
             have HR318_0 := Aside0.mk hi318_0
             have HC318_0 := Aside0.mk hl318_0
             clear hi318_0 hl318_0
             have HR318_1 := Aside0.mk hi318_1
             have HC318_1 := Aside0.mk hl318_1
             clear hi318_1 hl318_1
             replace p318 := eq_true p318
             replace q318 := eq_true q318
             have p319 : 0 ≤ (x18_32 : Int) := of_decide_eq_true (by first | (with_reducible assumption) | assumption)
             have q319 : x18_32 < (t302.length : Int) := of_decide_eq_true (by first | (with_reducible assumption) | assumption)
             obtain ⟨ad319, A319_0, c319_0, A319_1, c319_1, e319, hx319_0, hx319_1, hl319_0, hi319_0, hl319_1, hi319_1⟩ := at_T41 (Kd.R_reads' HO_14.out).2.2 x18_32 p319 q319
             obtain rfl : ad318 = ad319 := (by injection e319)
             obtain ⟨ce319, hce319, hMe319, hcc319⟩ := Kd.R_get HO_14.out z41 x18_32 p319 (by first | exact q319 | exact of_decide_eq_true (by first | (with_reducible assumption) | assumption) | (have e_ := (Kd.R_reads' HO_14.out).1; omega))
             obtain ⟨ve319_0, ve319_1, rfl, ge319_0, ge319_1⟩ := k41_openM hMe319
             have hv319_0 := hcc319 0 _ rfl
             rw [Nat.add_zero] at hv319_0
             replace hv319_0 := Option.some.inj (hv319_0.symm.trans hx319_0)
             rw [hv319_0] at ge319_0
             have HL319_0 := Aside0.mk (show Kd.R (Kd.int .i64) 3 _ _ _ _ ((rd_T41 t302 x18_32).f0) from ge319_0)
             clear hv319_0 ge319_0
             have hv319_1 := hcc319 1 _ rfl
             rw [add_field _ _ 1 (by omega)] at hv319_1
             replace hv319_1 := Option.some.inj (hv319_1.symm.trans hx319_1)
             rw [hv319_1] at ge319_1
             have HL319_1 := Aside0.mk (show Kd.R (Kd.slice 3 (Kd.int .i64)) 31 _ _ _ _ ((rd_T41 t302 x18_32).f1) from ge319_1)
             clear hv319_1 ge319_1
             clear hcc319 hce319
             have HR319_0 := Aside0.mk hi319_0
             have HC319_0 := Aside0.mk hl319_0
             clear hi319_0 hl319_0
             have HR319_1 := Aside0.mk hi319_1
             have HC319_1 := Aside0.mk hl319_1
             clear hi319_1 hl319_1
             replace p319 := eq_true p319
             replace q319 := eq_true q319
             have ea_ := Option.some.inj (hx318_0.symm.trans hx319_0)
             injection ea_ with ea_ en_ ec_
             subst ea_
             subst ec_
             clear en_
             have ea_ := Option.some.inj (hx318_1.symm.trans hx319_1)
             injection ea_ with ea_ en_ ec_
             subst ea_
             subst ec_
             clear en_
             obtain ⟨Ao49, co49, eo49⟩ := Kd.R_slice HO_15.out
             subst eo49
             go_wp2_with (first | ((with_reducible refine gate_callee (f := 13) rfl ?_); refine goesL_ (some 131) rfl rfl Try.func13 (by kernel_rfl) rfl #[.slice Ao22 t301.length co22, .agg #[.slice A318_0 ((rd_T41 t302 x18_32).f0).length c318_0, .slice A318_1 ((rd_T41 t302 x18_32).f1).length c318_1], .int .i64 x19_32, .slice Ao49 t303.length co49] rfl (by (try simp only [List.map_toArray, List.map_cons, List.map_nil]); first | done | rfl | (simp only [List.length_drop, List.length_take]; rfl)) ?_; (with_reducible refine (spec_DeltaRef.calls kj32 _ _ t301 _ _ ((rd_T41 t302 x18_32).f0) _ _ ((rd_T41 t302 x18_32).f1) x19_32 _ _ t303 t320 _ ?side1 ?side2 ?side3 ?side4 ?side5 ?side6 ?side7 ?side8 A46.out).mono ?_); (case side1 => repeat (first | exact (Kd.S_reads' HO_13.out).2.2 | (with_reducible refine Kd.C_alloc ?_ _) | (with_reducible refine Kd.C_drewN ?_ _) | (with_reducible refine Kd.C_drew ?_))); (case side2 => exact (Kd.S_reads' HO_13.out).2.1); (case side3 => repeat (first | exact (by repeat (first | (with_reducible exact HR319_0.out) | (with_reducible refine Kd.C_alloc ?_ _) | (with_reducible refine Kd.C_drewN ?_ _) | (with_reducible refine Kd.C_drew ?_) | exact HR319_0.out)) | (with_reducible refine Kd.C_alloc ?_ _) | (with_reducible refine Kd.C_drewN ?_ _) | (with_reducible refine Kd.C_drew ?_))); (case side4 => exact HC319_0.out); (case side5 => repeat (first | exact (by repeat (first | (with_reducible exact HR319_1.out) | (with_reducible refine Kd.C_alloc ?_ _) | (with_reducible refine Kd.C_drewN ?_ _) | (with_reducible refine Kd.C_drew ?_) | exact HR319_1.out)) | (with_reducible refine Kd.C_alloc ?_ _) | (with_reducible refine Kd.C_drewN ?_ _) | (with_reducible refine Kd.C_drew ?_))); (case side6 => exact HC319_1.out); (case side7 => repeat (first | exact (Kd.R_reads' HO_15.out).2.2 | (with_reducible refine Kd.C_alloc ?_ _) | (with_reducible refine Kd.C_drewN ?_ _) | (with_reducible refine Kd.C_drew ?_))); (case side8 => exact (Kd.R_reads' HO_15.out).2.1); rintro e w50 ⟨rfl, hb⟩; refine ⟨_, rfl, ?_⟩; have n0_ := Aside0.mk (Kd.S_below (by (with_reducible repeat (first | apply Kd.S_alloc | apply Kd.S_drewN | apply Kd.S_drew)); exact HO_13.out) hb); have n1_ := Aside0.mk (Kd.R_below (by (with_reducible repeat (first | apply Kd.R_alloc | apply Kd.R_drewN | apply Kd.R_drew)); exact HO_14.out) hb); have n2_ := Aside0.mk (Kd.R_below (by (with_reducible repeat (first | apply Kd.R_alloc | apply Kd.R_drewN | apply Kd.R_drew)); exact HO_15.out) hb); have n3_ := Aside0.mk (Kd.R_below (by (with_reducible repeat (first | apply Kd.R_alloc | apply Kd.R_drewN | apply Kd.R_drew)); exact HO_16.out) hb); have n4_ := Aside0.mk (Kd.R_below (by (with_reducible repeat (first | apply Kd.R_alloc | apply Kd.R_drewN | apply Kd.R_drew)); exact HL318_0.out) hb); have n5_ := Aside0.mk (Kd.R_below (by (with_reducible repeat (first | apply Kd.R_alloc | apply Kd.R_drewN | apply Kd.R_drew)); exact HL318_1.out) hb); have n6_ := Aside0.mk (Kd.R_below (by (with_reducible repeat (first | apply Kd.R_alloc | apply Kd.R_drewN | apply Kd.R_drew)); exact HL319_0.out) hb); have n7_ := Aside0.mk (Kd.R_below (by (with_reducible repeat (first | apply Kd.R_alloc | apply Kd.R_drewN | apply Kd.R_drew)); exact HL319_1.out) hb); have n8_ := Aside0.mk (Kd.C_below (by repeat (first | (with_reducible exact HR318_0.out) | (with_reducible refine Kd.C_alloc ?_ _) | (with_reducible refine Kd.C_drewN ?_ _) | (with_reducible refine Kd.C_drew ?_) | exact HR318_0.out)) hb); have n9_ := Aside0.mk (Kd.C_below (by repeat (first | (with_reducible exact HR318_1.out) | (with_reducible refine Kd.C_alloc ?_ _) | (with_reducible refine Kd.C_drewN ?_ _) | (with_reducible refine Kd.C_drew ?_) | exact HR318_1.out)) hb); have n10_ := Aside0.mk (Kd.C_below (by repeat (first | (with_reducible exact HR319_0.out) | (with_reducible refine Kd.C_alloc ?_ _) | (with_reducible refine Kd.C_drewN ?_ _) | (with_reducible refine Kd.C_drew ?_) | exact HR319_0.out)) hb); have n11_ := Aside0.mk (Kd.C_below (by repeat (first | (with_reducible exact HR319_1.out) | (with_reducible refine Kd.C_alloc ?_ _) | (with_reducible refine Kd.C_drewN ?_ _) | (with_reducible refine Kd.C_drew ?_) | exact HR319_1.out)) hb); have n12_ := Aside0.mk (below_step (by repeat (first | (with_reducible first | exact HB.out | apply below_alloc | apply pw_below_drewN | apply below_drew1) | exact HB.out)) hb); clear HO_13; clear HO_14; clear HO_15; clear HO_16; clear HL318_0; clear HL318_1; clear HL319_0; clear HL319_1; clear HR318_0; clear HR318_1; clear HR319_0; clear HR319_1; clear HB; have HO_13 := n0_; have HO_14 := n1_; have HO_15 := n2_; have HO_16 := n3_; have HL318_0 := n4_; have HL318_1 := n5_; have HL319_0 := n6_; have HL319_1 := n7_; have HR318_0 := n8_; have HR318_1 := n9_; have HR319_0 := n10_; have HR319_1 := n11_; have HB := n12_; clear n0_ n1_ n2_ n3_ n4_ n5_ n6_ n7_ n8_ n9_ n10_ n11_ n12_; (try clear hb); (try clear hb2); (try clear hk); (try clear hi); have p321 : 0 ≤ (x18_32 : Int) := of_decide_eq_true (by first | (with_reducible assumption) | assumption); have q321 : x18_32 < (t302.length : Int) := of_decide_eq_true (by first | (with_reducible assumption) | assumption); obtain ⟨ad321, A321_0, c321_0, A321_1, c321_1, e321, hx321_0, hx321_1, hl321_0, hi321_0, hl321_1, hi321_1⟩ := at_T41 (Kd.R_reads' HO_14.out).2.2 x18_32 p321 q321; obtain rfl : ad318 = ad321 := (by injection e321); obtain ⟨ce321, hce321, hMe321, hcc321⟩ := Kd.R_get HO_14.out z41 x18_32 p321 (by first | exact q321 | exact of_decide_eq_true (by first | (with_reducible assumption) | assumption) | (have e_ := (Kd.R_reads' HO_14.out).1; omega)); obtain ⟨ve321_0, ve321_1, rfl, ge321_0, ge321_1⟩ := k41_openM hMe321; have hv321_0 := hcc321 0 _ rfl; rw [Nat.add_zero] at hv321_0; replace hv321_0 := Option.some.inj (hv321_0.symm.trans hx321_0); rw [hv321_0] at ge321_0; have HL321_0 := Aside0.mk (show Kd.R (Kd.int .i64) 3 _ _ _ _ ((rd_T41 t302 x18_32).f0) from ge321_0); clear hv321_0 ge321_0; have hv321_1 := hcc321 1 _ rfl; rw [add_field _ _ 1 (by omega)] at hv321_1; replace hv321_1 := Option.some.inj (hv321_1.symm.trans hx321_1); rw [hv321_1] at ge321_1; have HL321_1 := Aside0.mk (show Kd.R (Kd.slice 3 (Kd.int .i64)) 31 _ _ _ _ ((rd_T41 t302 x18_32).f1) from ge321_1); clear hv321_1 ge321_1; clear hcc321 hce321; have HR321_0 := Aside0.mk hi321_0; have HC321_0 := Aside0.mk hl321_0; clear hi321_0 hl321_0; have HR321_1 := Aside0.mk hi321_1; have HC321_1 := Aside0.mk hl321_1; clear hi321_1 hl321_1; replace p321 := eq_true p321; replace q321 := eq_true q321; have p322 : 0 ≤ (x19_32 : Int) := of_decide_eq_true (by first | (with_reducible assumption) | assumption); have q322 : x19_32 < (((rd_T41 t302 x18_32).f1).length : Int) := of_decide_eq_true (by first | (with_reducible assumption) | assumption); obtain ⟨ad322, A322_0, c322_0, e322, hx322_0, hl322_0, hi322_0⟩ := at_L9 (by repeat (first | (with_reducible exact HR321_1.out) | (with_reducible refine Kd.C_alloc ?_ _) | (with_reducible refine Kd.C_drewN ?_ _) | (with_reducible refine Kd.C_drew ?_) | exact HR321_1.out)) x19_32 p322 q322; cases e322; obtain ⟨ce322, hce322, hMe322, hcc322⟩ := Kd.R_get HL321_1.out [] x19_32 p322 (by first | exact q322 | exact of_decide_eq_true (by first | (with_reducible assumption) | assumption) | (have e_ := (Kd.R_reads' HL321_1.out).1; omega)); obtain ⟨ve322_0, rfl, ge322_0⟩ := hMe322; have hv322_0 := hcc322 0 _ rfl; rw [Nat.add_zero, show ((Kd.slice 3 (Kd.int .i64))).sz = 1 from rfl, Nat.mul_one] at hv322_0; replace hv322_0 := Option.some.inj (hv322_0.symm.trans hx322_0); rw [hv322_0] at ge322_0; have HL322_0 := Aside0.mk (show Kd.R (Kd.int .i64) 3 _ _ _ _ (rd_L9 ((rd_T41 t302 x18_32).f1) x19_32) from ge322_0); clear hv322_0 ge322_0; clear hcc322 hce322; have HR322_0 := Aside0.mk hi322_0; have HC322_0 := Aside0.mk hl322_0; clear hi322_0 hl322_0; replace p322 := eq_true p322; replace q322 := eq_true q322))
             go_loopg [22, 141] kj32 (fun kq v22 v141 w' => ∃ (x22_4 : Nat) (x141_4 : Int), v22 = .float .f64 x22_4 ∧ v141 = .int .i64 x141_4 ∧ Aside0 (laws_FnAdvanceDelta.l1 kq a4 t301 t302 t303 x16_19 t320 x22_4 (rd_L9 ((rd_T41 t302 x18_32).f1) x19_32) ((rd_L9 ((rd_T41 t302 x18_32).f1) x19_32).length : Int) x141_4 = some r) ∧ Aside0 (kq ≤ kj32) ∧ Aside0 (Kd.S (Kd.slice 36 k36) 38 w' w.heap.size (fun _ => True) (.slice Ao22 t301.length co22) t301) ∧ Aside0 (Kd.R k41 41 w' w.heap.size (fun k_ => some k_ ≠ ((.slice Ao49 t303.length co49) : Value).ownBlock) (.slice (some ad318) t302.length co48) t302) ∧ Aside0 (Kd.R (Kd.int .i64) 3 w' w.heap.size (fun _ => True) (.slice Ao49 t303.length co49) t303) ∧ Aside0 (Kd.R k48 48 w' w.heap.size (fun _ => True) (.slice Ao34 x16_19.length co34) x16_19) ∧ Aside0 (Kd.C (Kd.int .i64) w' A318_0 ((rd_T41 t302 x18_32).f0).length ((rd_T41 t302 x18_32).f0)) ∧ Aside0 (Kd.C (Kd.slice 3 (Kd.int .i64)) w' A318_1 ((rd_T41 t302 x18_32).f1).length ((rd_T41 t302 x18_32).f1)) ∧ Aside0 (Kd.C (Kd.int .i64) w' A318_0 ((rd_T41 t302 x18_32).f0).length ((rd_T41 t302 x18_32).f0)) ∧ Aside0 (Kd.C (Kd.slice 3 (Kd.int .i64)) w' A318_1 ((rd_T41 t302 x18_32).f1).length ((rd_T41 t302 x18_32).f1)) ∧ Aside0 (Kd.C (Kd.int .i64) w' A321_0 ((rd_T41 t302 x18_32).f0).length ((rd_T41 t302 x18_32).f0)) ∧ Aside0 (Kd.C (Kd.slice 3 (Kd.int .i64)) w' (some ad322) ((rd_T41 t302 x18_32).f1).length ((rd_T41 t302 x18_32).f1)) ∧ Aside0 (Kd.C (Kd.int .i64) w' A322_0 (rd_L9 ((rd_T41 t302 x18_32).f1) x19_32).length (rd_L9 ((rd_T41 t302 x18_32).f1) x19_32)) ∧ Aside0 (Below w.heap.size w w'))
             case atStart => exact ⟨(4576918229304087675), (0), (by first | rfl | (simp; done) | (simp [*]; done)), (by first | rfl | (simp; done) | (simp [*]; done)), H', ⟨Nat.le_refl _⟩, ⟨by (with_reducible repeat (first | apply Kd.S_alloc | apply Kd.S_drewN | apply Kd.S_drew)); exact HO_13.out⟩, ⟨by (with_reducible repeat (first | apply Kd.R_alloc | apply Kd.R_drewN | apply Kd.R_drew)); exact HO_14.out⟩, ⟨by (with_reducible repeat (first | apply Kd.R_alloc | apply Kd.R_drewN | apply Kd.R_drew)); exact HO_15.out⟩, ⟨by (with_reducible repeat (first | apply Kd.R_alloc | apply Kd.R_drewN | apply Kd.R_drew)); exact HO_16.out⟩, ⟨by repeat (first | (with_reducible exact HR318_0.out) | (with_reducible refine Kd.C_alloc ?_ _) | (with_reducible refine Kd.C_drewN ?_ _) | (with_reducible refine Kd.C_drew ?_) | exact HR318_0.out)⟩, ⟨by repeat (first | (with_reducible exact HR318_1.out) | (with_reducible refine Kd.C_alloc ?_ _) | (with_reducible refine Kd.C_drewN ?_ _) | (with_reducible refine Kd.C_drew ?_) | exact HR318_1.out)⟩, ⟨by repeat (first | (with_reducible exact HR319_0.out) | (with_reducible refine Kd.C_alloc ?_ _) | (with_reducible refine Kd.C_drewN ?_ _) | (with_reducible refine Kd.C_drew ?_) | exact HR319_0.out)⟩, ⟨by repeat (first | (with_reducible exact HR319_1.out) | (with_reducible refine Kd.C_alloc ?_ _) | (with_reducible refine Kd.C_drewN ?_ _) | (with_reducible refine Kd.C_drew ?_) | exact HR319_1.out)⟩, ⟨by repeat (first | (with_reducible exact HR321_0.out) | (with_reducible refine Kd.C_alloc ?_ _) | (with_reducible refine Kd.C_drewN ?_ _) | (with_reducible refine Kd.C_drew ?_) | exact HR321_0.out)⟩, ⟨by repeat (first | (with_reducible exact HR321_1.out) | (with_reducible refine Kd.C_alloc ?_ _) | (with_reducible refine Kd.C_drewN ?_ _) | (with_reducible refine Kd.C_drew ?_) | exact HR321_1.out)⟩, ⟨by repeat (first | (with_reducible exact HR322_0.out) | (with_reducible refine Kd.C_alloc ?_ _) | (with_reducible refine Kd.C_drewN ?_ _) | (with_reducible refine Kd.C_drew ?_) | exact HR322_0.out)⟩, ⟨by repeat (first | (with_reducible first | exact HB.out | apply below_alloc | apply pw_below_drewN | apply below_drew1) | exact HB.out)⟩⟩
             case round =>
              clear H'
              try clear c1
              try clear c2
              try clear p2
              try clear c3
              try clear p3
              try clear q3
              try clear hx3
              try clear qi3
              try clear c4
              try clear c5
              try clear p6
              try clear c8
              try clear c9
              try clear c11
              try clear c13
              try clear c14
              try clear c14b0
              try clear c14b1
              try clear c15
              try clear c17
              try clear c17b0
              try clear c17b1
              try clear c17b2
              try clear c23
              try clear c23b0
              try clear c24
              try clear c24b0
              try clear c25
              try clear c25b0
              try clear c26
              try clear c26b0
              try clear c26b1
              try clear c26b2
              try clear c27
              try clear c27b0
              try clear c27b1
              try clear c28
              try clear c28b0
              try clear c28b1
              try clear c28b2
              try clear c29
              try clear c31
              try clear p31
              try clear q31
              try clear hx31
              try clear qi31
              try clear c32
              try clear p32
              try clear q32
              try clear hx32
              try clear c35
              try clear c35b0
              try clear c35b1
              try clear c37
              try clear c37b0
              try clear c38
              try clear c38b0
              try clear c43
              try clear c43b0
              try clear c44
              try clear c44b0
              try clear c45
              try clear c45b0
              try clear c47
              try clear c47b0
              try clear hcz40_0
              try clear hcz40_1
              try clear hfz40_0
              try clear hfz40_1
              try clear hx310_0
              try clear hx310_1
              try clear hx311_0
              try clear hx311_1
              try clear hx312_0
              try clear hx312_1
              try clear hx316_0
              try clear hx316_1
              try clear hx318_0
              try clear hx318_1
              try clear hx319_0
              try clear hx319_1
              try clear hx321_0
              try clear hx321_1
              try clear hx322_0
              try clear p2
              try clear p3
              try clear p31
              try clear p310
              try clear p311
              try clear p312
              try clear p316
              try clear p318
              try clear p319
              try clear p321
              try clear p322
              try clear p6
              try clear q3
              try clear q31
              try clear q310
              try clear q311
              try clear q312
              try clear q316
              try clear q318
              try clear q319
              try clear q321
              try clear q322
              obtain ⟨x22_4, x141_4, rfl, rfl, HA, HK4, HO_13, HO_14, HO_15, HO_16, HR318_0, HR318_1, HR319_0, HR319_1, HR321_0, HR321_1, HR322_0, HB⟩ := hrel
              cases gk with
              | zero => exact absurd HA.out (by simp [laws_FnAdvanceDelta.l1])
              | succ k4 =>
               have H := HA.out
               clear HA
               simp only [laws_FnAdvanceDelta.l1] at H
               by_cases c51 : x141_4 < ((rd_L9 ((rd_T41 t302 x18_32).f1) x19_32).length : Int)
               ·rw [if_pos c51] at H
                have c51b0 : decide (x141_4 < ((rd_L9 ((rd_T41 t302 x18_32).f1) x19_32).length : Int)) = true := decide_eq_true c51
                clear c51
                by_cases c52 : 0 ≤ x141_4
                ·rw [if_pos c52] at H
                 have c52b0 : decide (0 ≤ x141_4) = true := decide_eq_true c52
                 clear c52
                 by_cases c53 : x141_4 < ((rd_L9 ((rd_T41 t302 x18_32).f1) x19_32).length : Int)
                 ·rw [if_pos c53] at H
                  have c53b0 : decide (x141_4 < ((rd_L9 ((rd_T41 t302 x18_32).f1) x19_32).length : Int)) = true := decide_eq_true c53
                  clear c53
                  obtain ⟨ji54, hji54⟩ : ∃ j_ : Int, (mx (rd (rd_L9 ((rd_T41 t302 x18_32).f1) x19_32) x141_4) (wrap64 (-(rd (rd_L9 ((rd_T41 t302 x18_32).f1) x19_32) x141_4)))) = j_ := ⟨_, rfl⟩
                  replace H : (if fok .mul .f64 (floatOfInt .f64 (ji54)) 4521832792735477133 = true then (if fok .add .f64 x22_4 (fv .mul .f64 (floatOfInt .f64 (ji54)) 4521832792735477133) = true then (laws_FnAdvanceDelta.l1 k4 a4 t301 t302 t303 x16_19 t320 (fv .add .f64 x22_4 (fv .mul .f64 (floatOfInt .f64 (ji54)) 4521832792735477133)) (rd_L9 ((rd_T41 t302 x18_32).f1) x19_32) ((rd_L9 ((rd_T41 t302 x18_32).f1) x19_32).length : Int) (wrap64 (x141_4 + 1))) else (none)) else (none)) = some r := by first | (rw [hji54] at H; exact H) | (simp only [hji54] at H ⊢; exact H)
                  have hji54_ : (if (rd (rd_L9 ((rd_T41 t302 x18_32).f1) x19_32) x141_4) < (wrap64 (-(rd (rd_L9 ((rd_T41 t302 x18_32).f1) x19_32) x141_4))) then (wrap64 (-(rd (rd_L9 ((rd_T41 t302 x18_32).f1) x19_32) x141_4))) else (rd (rd_L9 ((rd_T41 t302 x18_32).f1) x19_32) x141_4)) = ji54 := hji54
                  by_cases c55 : fok .mul .f64 (floatOfInt .f64 (ji54)) 4521832792735477133 = true
                  ·rw [if_pos c55] at H
                   have c55b0 := eq_true c55
                   have c55b1 : decide (fok .mul .f64 (floatOfInt .f64 (ji54)) 4521832792735477133 = true) = true := decide_eq_true c55
                   clear c55
                   by_cases c56 : fok .add .f64 x22_4 (fv .mul .f64 (floatOfInt .f64 (ji54)) 4521832792735477133) = true
                   ·rw [if_pos c56] at H
                    have c56b0 := eq_true c56
                    have c56b1 : decide (fok .add .f64 x22_4 (fv .mul .f64 (floatOfInt .f64 (ji54)) 4521832792735477133) = true) = true := decide_eq_true c56
                    clear c56
                    have H' := Aside0.mk H
                    clear H
                    have p323 : 0 ≤ (x141_4 : Int) := of_decide_eq_true (by first | (with_reducible assumption) | assumption)
                    have q323 : x141_4 < ((rd_L9 ((rd_T41 t302 x18_32).f1) x19_32).length : Int) := of_decide_eq_true (by first | (with_reducible assumption) | assumption)
                    obtain ⟨ad323, e323, hx323_0⟩ := Kd.at_int HR322_0.out x141_4 p323 q323
                    cases e323
                    replace p323 := eq_true p323
                    replace q323 := eq_true q323
                    go_wp2
                    go_roundg k4
                    case measure => have := HJ6.out; have := HJ19.out; have := HJ32.out; have := HK4.out; omega
                    case rel => exact ⟨(fv .add .f64 x22_4 (fv .mul .f64 (floatOfInt .f64 (ji54)) 4521832792735477133)), (wrap64 (x141_4 + 1)), (by first | rfl | (simp; done) | (simp only [← hji54] <;> (first | rfl | simp)) | (simp [*]; done)), (by first | rfl | (simp; done) | (simp [*]; done)), H', ⟨by have := HJ6.out; have := HJ19.out; have := HJ32.out; have := HK4.out; omega⟩, ⟨by (with_reducible repeat (first | apply Kd.S_alloc | apply Kd.S_drewN | apply Kd.S_drew)); exact HO_13.out⟩, ⟨by (with_reducible repeat (first | apply Kd.R_alloc | apply Kd.R_drewN | apply Kd.R_drew)); exact HO_14.out⟩, ⟨by (with_reducible repeat (first | apply Kd.R_alloc | apply Kd.R_drewN | apply Kd.R_drew)); exact HO_15.out⟩, ⟨by (with_reducible repeat (first | apply Kd.R_alloc | apply Kd.R_drewN | apply Kd.R_drew)); exact HO_16.out⟩, ⟨by repeat (first | (with_reducible exact HR318_0.out) | (with_reducible refine Kd.C_alloc ?_ _) | (with_reducible refine Kd.C_drewN ?_ _) | (with_reducible refine Kd.C_drew ?_) | exact HR318_0.out)⟩, ⟨by repeat (first | (with_reducible exact HR318_1.out) | (with_reducible refine Kd.C_alloc ?_ _) | (with_reducible refine Kd.C_drewN ?_ _) | (with_reducible refine Kd.C_drew ?_) | exact HR318_1.out)⟩, ⟨by repeat (first | (with_reducible exact HR319_0.out) | (with_reducible refine Kd.C_alloc ?_ _) | (with_reducible refine Kd.C_drewN ?_ _) | (with_reducible refine Kd.C_drew ?_) | exact HR319_0.out)⟩, ⟨by repeat (first | (with_reducible exact HR319_1.out) | (with_reducible refine Kd.C_alloc ?_ _) | (with_reducible refine Kd.C_drewN ?_ _) | (with_reducible refine Kd.C_drew ?_) | exact HR319_1.out)⟩, ⟨by repeat (first | (with_reducible exact HR321_0.out) | (with_reducible refine Kd.C_alloc ?_ _) | (with_reducible refine Kd.C_drewN ?_ _) | (with_reducible refine Kd.C_drew ?_) | exact HR321_0.out)⟩, ⟨by repeat (first | (with_reducible exact HR321_1.out) | (with_reducible refine Kd.C_alloc ?_ _) | (with_reducible refine Kd.C_drewN ?_ _) | (with_reducible refine Kd.C_drew ?_) | exact HR321_1.out)⟩, ⟨by repeat (first | (with_reducible exact HR322_0.out) | (with_reducible refine Kd.C_alloc ?_ _) | (with_reducible refine Kd.C_drewN ?_ _) | (with_reducible refine Kd.C_drew ?_) | exact HR322_0.out)⟩, ⟨by repeat (first | (with_reducible first | exact HB.out | apply below_alloc | apply pw_below_drewN | apply below_drew1) | exact HB.out)⟩⟩
                   ·rw [if_neg c56] at H
                    exact absurd H (by simp)
                  ·rw [if_neg c55] at H
                   exact absurd H (by simp)
                 ·rw [if_neg c53] at H
                  exact absurd H (by simp)
                ·rw [if_neg c52] at H
                 exact absurd H (by simp)
               ·rw [if_neg c51] at H
                have c51b0 : decide (x141_4 < ((rd_L9 ((rd_T41 t302 x18_32).f1) x19_32).length : Int)) = false := decide_eq_false c51
                clear c51
                replace H := Option.bind_eq_some_iff.mp H
                obtain ⟨⟨t324, t325⟩, A570, H⟩ := H
                replace H : (if fcok .f32 t324 .f64 = true then (if fok .sub .f64 (fc .f32 t324 .f64) t320 = true then (if t325 = true then (if fmok .f64 (fv .sub .f64 (fc .f32 t324 .f64) t320) (Go.Op.negFloat .f64 (fv .sub .f64 (fc .f32 t324 .f64) t320)) = true then (some (FloatKind.f64.format.order (fmx .f64 (fv .sub .f64 (fc .f32 t324 .f64) t320) (Go.Op.negFloat .f64 (fv .sub .f64 (fc .f32 t324 .f64) t320))) x22_4 == some .lt || FloatKind.f64.format.order (fmx .f64 (fv .sub .f64 (fc .f32 t324 .f64) t320) (Go.Op.negFloat .f64 (fv .sub .f64 (fc .f32 t324 .f64) t320))) x22_4 == some .eq)) else (none)) else (some false)) else (none)) else (none)) = some r := H
                have A57 := Aside0.mk A570
                clear A570
                by_cases c58 : fcok .f32 t324 .f64 = true
                ·rw [if_pos c58] at H
                 have c58b0 := eq_true c58
                 have c58b1 : decide (fcok .f32 t324 .f64 = true) = true := decide_eq_true c58
                 clear c58
                 by_cases c59 : fok .sub .f64 (fc .f32 t324 .f64) t320 = true
                 ·rw [if_pos c59] at H
                  have c59b0 := eq_true c59
                  have c59b1 : decide (fok .sub .f64 (fc .f32 t324 .f64) t320 = true) = true := decide_eq_true c59
                  clear c59
                  by_cases c60 : t325 = true
                  ·subst c60
                   have H1 : (if fmok .f64 (fv .sub .f64 (fc .f32 t324 .f64) t320) (Go.Op.negFloat .f64 (fv .sub .f64 (fc .f32 t324 .f64) t320)) = true then (some (FloatKind.f64.format.order (fmx .f64 (fv .sub .f64 (fc .f32 t324 .f64) t320) (Go.Op.negFloat .f64 (fv .sub .f64 (fc .f32 t324 .f64) t320))) x22_4 == some .lt || FloatKind.f64.format.order (fmx .f64 (fv .sub .f64 (fc .f32 t324 .f64) t320) (Go.Op.negFloat .f64 (fv .sub .f64 (fc .f32 t324 .f64) t320))) x22_4 == some .eq)) else (none)) = some r := by rw [if_pos rfl] at H; exact H
                   clear H
                   have H := H1
                   clear H1
                   by_cases c61 : fmok .f64 (fv .sub .f64 (fc .f32 t324 .f64) t320) (Go.Op.negFloat .f64 (fv .sub .f64 (fc .f32 t324 .f64) t320)) = true
                   ·rw [if_pos c61] at H
                    have c61b0 := eq_true c61
                    have c61b1 : decide (fmok .f64 (fv .sub .f64 (fc .f32 t324 .f64) t320) (Go.Op.negFloat .f64 (fv .sub .f64 (fc .f32 t324 .f64) t320)) = true) = true := decide_eq_true c61
                    clear c61
                    obtain rfl := Option.some.inj H
                    go_wp2_with (first | ((with_reducible refine gate_callee (f := 14) rfl ?_); refine goesL_ (some 161) rfl rfl Try.func14 (by kernel_rfl) rfl #[.slice Ao22 t301.length co22, .slice (some ad318) t302.length co48, .slice Ao34 x16_19.length co34, .int .i64 (wrap64 (a4)), .slice Ao49 t303.length co49] rfl (by (try simp only [List.map_toArray, List.map_cons, List.map_nil]); first | done | rfl | (simp only [List.length_drop, List.length_take]; rfl)) ?_; (with_reducible refine (impl_AdvanceDelta.calls k4 _ _ t301 _ _ t302 _ _ x16_19 (wrap64 (a4)) _ _ t303 t324 true _ ?side1 ?side2 ?side3 ?side4 ?side5 ?side6 ?side7 ?side8 A57.out).mono ?_); (case side1 => repeat (first | exact (Kd.S_reads' HO_13.out).2.2 | (with_reducible refine Kd.C_alloc ?_ _) | (with_reducible refine Kd.C_drewN ?_ _) | (with_reducible refine Kd.C_drew ?_))); (case side2 => exact (Kd.S_reads' HO_13.out).2.1); (case side3 => repeat (first | exact (Kd.R_reads' HO_14.out).2.2 | (with_reducible refine Kd.C_alloc ?_ _) | (with_reducible refine Kd.C_drewN ?_ _) | (with_reducible refine Kd.C_drew ?_))); (case side4 => exact (Kd.R_reads' HO_14.out).2.1); (case side5 => repeat (first | exact (Kd.R_reads' HO_16.out).2.2 | (with_reducible refine Kd.C_alloc ?_ _) | (with_reducible refine Kd.C_drewN ?_ _) | (with_reducible refine Kd.C_drew ?_))); (case side6 => exact (Kd.R_reads' HO_16.out).2.1); (case side7 => repeat (first | exact (Kd.R_reads' HO_15.out).2.2 | (with_reducible refine Kd.C_alloc ?_ _) | (with_reducible refine Kd.C_drewN ?_ _) | (with_reducible refine Kd.C_drew ?_))); (case side8 => exact (Kd.R_reads' HO_15.out).2.1); rintro e w62 ⟨rfl, hb⟩; refine ⟨_, rfl, ?_⟩; have n0_ := Aside0.mk (Kd.S_below (by (with_reducible repeat (first | apply Kd.S_alloc | apply Kd.S_drewN | apply Kd.S_drew)); exact HO_13.out) hb); have n1_ := Aside0.mk (Kd.R_below (by (with_reducible repeat (first | apply Kd.R_alloc | apply Kd.R_drewN | apply Kd.R_drew)); exact HO_14.out) hb); have n2_ := Aside0.mk (Kd.R_below (by (with_reducible repeat (first | apply Kd.R_alloc | apply Kd.R_drewN | apply Kd.R_drew)); exact HO_15.out) hb); have n3_ := Aside0.mk (Kd.R_below (by (with_reducible repeat (first | apply Kd.R_alloc | apply Kd.R_drewN | apply Kd.R_drew)); exact HO_16.out) hb); have n4_ := Aside0.mk (Kd.C_below (by repeat (first | (with_reducible exact HR318_0.out) | (with_reducible refine Kd.C_alloc ?_ _) | (with_reducible refine Kd.C_drewN ?_ _) | (with_reducible refine Kd.C_drew ?_) | exact HR318_0.out)) hb); have n5_ := Aside0.mk (Kd.C_below (by repeat (first | (with_reducible exact HR318_1.out) | (with_reducible refine Kd.C_alloc ?_ _) | (with_reducible refine Kd.C_drewN ?_ _) | (with_reducible refine Kd.C_drew ?_) | exact HR318_1.out)) hb); have n6_ := Aside0.mk (Kd.C_below (by repeat (first | (with_reducible exact HR319_0.out) | (with_reducible refine Kd.C_alloc ?_ _) | (with_reducible refine Kd.C_drewN ?_ _) | (with_reducible refine Kd.C_drew ?_) | exact HR319_0.out)) hb); have n7_ := Aside0.mk (Kd.C_below (by repeat (first | (with_reducible exact HR319_1.out) | (with_reducible refine Kd.C_alloc ?_ _) | (with_reducible refine Kd.C_drewN ?_ _) | (with_reducible refine Kd.C_drew ?_) | exact HR319_1.out)) hb); have n8_ := Aside0.mk (Kd.C_below (by repeat (first | (with_reducible exact HR321_0.out) | (with_reducible refine Kd.C_alloc ?_ _) | (with_reducible refine Kd.C_drewN ?_ _) | (with_reducible refine Kd.C_drew ?_) | exact HR321_0.out)) hb); have n9_ := Aside0.mk (Kd.C_below (by repeat (first | (with_reducible exact HR321_1.out) | (with_reducible refine Kd.C_alloc ?_ _) | (with_reducible refine Kd.C_drewN ?_ _) | (with_reducible refine Kd.C_drew ?_) | exact HR321_1.out)) hb); have n10_ := Aside0.mk (Kd.C_below (by repeat (first | (with_reducible exact HR322_0.out) | (with_reducible refine Kd.C_alloc ?_ _) | (with_reducible refine Kd.C_drewN ?_ _) | (with_reducible refine Kd.C_drew ?_) | exact HR322_0.out)) hb); have n11_ := Aside0.mk (below_step (by repeat (first | (with_reducible first | exact HB.out | apply below_alloc | apply pw_below_drewN | apply below_drew1) | exact HB.out)) hb); clear HO_13; clear HO_14; clear HO_15; clear HO_16; clear HR318_0; clear HR318_1; clear HR319_0; clear HR319_1; clear HR321_0; clear HR321_1; clear HR322_0; clear HB; have HO_13 := n0_; have HO_14 := n1_; have HO_15 := n2_; have HO_16 := n3_; have HR318_0 := n4_; have HR318_1 := n5_; have HR319_0 := n6_; have HR319_1 := n7_; have HR321_0 := n8_; have HR321_1 := n9_; have HR322_0 := n10_; have HB := n11_; clear n0_ n1_ n2_ n3_ n4_ n5_ n6_ n7_ n8_ n9_ n10_ n11_; (try clear hb); (try clear hb2); (try clear hk); (try clear hi)))
                    go_ret
                    exact ⟨by first | rfl | (simp [errW_none, errW_some] <;> rfl) | (simp [*, errW_none, errW_some] <;> rfl), by repeat (first | (with_reducible first | exact HB.out | apply below_alloc | apply pw_below_drewN | apply below_drew1) | exact HB.out)⟩
                   ·rw [if_neg c61] at H
                    exact absurd H (by simp)
                  ·replace c60 := Bool.eq_false_iff.mpr c60
                   subst c60
                   have H1 : (some false) = some r := by rw [if_neg (show ¬ (false = true) by decide)] at H; exact H
                   clear H
                   have H := H1
                   clear H1
                   obtain rfl := Option.some.inj H
                   go_wp2_with (first | ((with_reducible refine gate_callee (f := 14) rfl ?_); refine goesL_ (some 161) rfl rfl Try.func14 (by kernel_rfl) rfl #[.slice Ao22 t301.length co22, .slice (some ad318) t302.length co48, .slice Ao34 x16_19.length co34, .int .i64 (wrap64 (a4)), .slice Ao49 t303.length co49] rfl (by (try simp only [List.map_toArray, List.map_cons, List.map_nil]); first | done | rfl | (simp only [List.length_drop, List.length_take]; rfl)) ?_; (with_reducible refine (impl_AdvanceDelta.calls k4 _ _ t301 _ _ t302 _ _ x16_19 (wrap64 (a4)) _ _ t303 t324 false _ ?side1 ?side2 ?side3 ?side4 ?side5 ?side6 ?side7 ?side8 A57.out).mono ?_); (case side1 => repeat (first | exact (Kd.S_reads' HO_13.out).2.2 | (with_reducible refine Kd.C_alloc ?_ _) | (with_reducible refine Kd.C_drewN ?_ _) | (with_reducible refine Kd.C_drew ?_))); (case side2 => exact (Kd.S_reads' HO_13.out).2.1); (case side3 => repeat (first | exact (Kd.R_reads' HO_14.out).2.2 | (with_reducible refine Kd.C_alloc ?_ _) | (with_reducible refine Kd.C_drewN ?_ _) | (with_reducible refine Kd.C_drew ?_))); (case side4 => exact (Kd.R_reads' HO_14.out).2.1); (case side5 => repeat (first | exact (Kd.R_reads' HO_16.out).2.2 | (with_reducible refine Kd.C_alloc ?_ _) | (with_reducible refine Kd.C_drewN ?_ _) | (with_reducible refine Kd.C_drew ?_))); (case side6 => exact (Kd.R_reads' HO_16.out).2.1); (case side7 => repeat (first | exact (Kd.R_reads' HO_15.out).2.2 | (with_reducible refine Kd.C_alloc ?_ _) | (with_reducible refine Kd.C_drewN ?_ _) | (with_reducible refine Kd.C_drew ?_))); (case side8 => exact (Kd.R_reads' HO_15.out).2.1); rintro e w63 ⟨rfl, hb⟩; refine ⟨_, rfl, ?_⟩; have n0_ := Aside0.mk (Kd.S_below (by (with_reducible repeat (first | apply Kd.S_alloc | apply Kd.S_drewN | apply Kd.S_drew)); exact HO_13.out) hb); have n1_ := Aside0.mk (Kd.R_below (by (with_reducible repeat (first | apply Kd.R_alloc | apply Kd.R_drewN | apply Kd.R_drew)); exact HO_14.out) hb); have n2_ := Aside0.mk (Kd.R_below (by (with_reducible repeat (first | apply Kd.R_alloc | apply Kd.R_drewN | apply Kd.R_drew)); exact HO_15.out) hb); have n3_ := Aside0.mk (Kd.R_below (by (with_reducible repeat (first | apply Kd.R_alloc | apply Kd.R_drewN | apply Kd.R_drew)); exact HO_16.out) hb); have n4_ := Aside0.mk (Kd.C_below (by repeat (first | (with_reducible exact HR318_0.out) | (with_reducible refine Kd.C_alloc ?_ _) | (with_reducible refine Kd.C_drewN ?_ _) | (with_reducible refine Kd.C_drew ?_) | exact HR318_0.out)) hb); have n5_ := Aside0.mk (Kd.C_below (by repeat (first | (with_reducible exact HR318_1.out) | (with_reducible refine Kd.C_alloc ?_ _) | (with_reducible refine Kd.C_drewN ?_ _) | (with_reducible refine Kd.C_drew ?_) | exact HR318_1.out)) hb); have n6_ := Aside0.mk (Kd.C_below (by repeat (first | (with_reducible exact HR319_0.out) | (with_reducible refine Kd.C_alloc ?_ _) | (with_reducible refine Kd.C_drewN ?_ _) | (with_reducible refine Kd.C_drew ?_) | exact HR319_0.out)) hb); have n7_ := Aside0.mk (Kd.C_below (by repeat (first | (with_reducible exact HR319_1.out) | (with_reducible refine Kd.C_alloc ?_ _) | (with_reducible refine Kd.C_drewN ?_ _) | (with_reducible refine Kd.C_drew ?_) | exact HR319_1.out)) hb); have n8_ := Aside0.mk (Kd.C_below (by repeat (first | (with_reducible exact HR321_0.out) | (with_reducible refine Kd.C_alloc ?_ _) | (with_reducible refine Kd.C_drewN ?_ _) | (with_reducible refine Kd.C_drew ?_) | exact HR321_0.out)) hb); have n9_ := Aside0.mk (Kd.C_below (by repeat (first | (with_reducible exact HR321_1.out) | (with_reducible refine Kd.C_alloc ?_ _) | (with_reducible refine Kd.C_drewN ?_ _) | (with_reducible refine Kd.C_drew ?_) | exact HR321_1.out)) hb); have n10_ := Aside0.mk (Kd.C_below (by repeat (first | (with_reducible exact HR322_0.out) | (with_reducible refine Kd.C_alloc ?_ _) | (with_reducible refine Kd.C_drewN ?_ _) | (with_reducible refine Kd.C_drew ?_) | exact HR322_0.out)) hb); have n11_ := Aside0.mk (below_step (by repeat (first | (with_reducible first | exact HB.out | apply below_alloc | apply pw_below_drewN | apply below_drew1) | exact HB.out)) hb); clear HO_13; clear HO_14; clear HO_15; clear HO_16; clear HR318_0; clear HR318_1; clear HR319_0; clear HR319_1; clear HR321_0; clear HR321_1; clear HR322_0; clear HB; have HO_13 := n0_; have HO_14 := n1_; have HO_15 := n2_; have HO_16 := n3_; have HR318_0 := n4_; have HR318_1 := n5_; have HR319_0 := n6_; have HR319_1 := n7_; have HR321_0 := n8_; have HR321_1 := n9_; have HR322_0 := n10_; have HB := n11_; clear n0_ n1_ n2_ n3_ n4_ n5_ n6_ n7_ n8_ n9_ n10_ n11_; (try clear hb); (try clear hb2); (try clear hk); (try clear hi)))
                   go_ret
                   exact ⟨by first | rfl | (simp [errW_none, errW_some] <;> rfl) | (simp [*, errW_none, errW_some] <;> rfl), by repeat (first | (with_reducible first | exact HB.out | apply below_alloc | apply pw_below_drewN | apply below_drew1) | exact HB.out)⟩
                 ·rw [if_neg c59] at H
                  exact absurd H (by simp)
                ·rw [if_neg c58] at H
                 exact absurd H (by simp)
            ·rw [if_neg c47] at H
             exact absurd H (by simp)
           ·rw [if_neg c45] at H
            have c45b0 : decide (x19_32 < (((rd_T41 t302 x18_32).f1).length : Int)) = false := decide_eq_false c45
            clear c45
            replace H := Option.bind_eq_some_iff.mp H
            obtain ⟨⟨t326, t327⟩, A640, H⟩ := H
            replace H : (if fcok .f32 t326 .f64 = true then (if fok .sub .f64 (fc .f32 t326 .f64) 0 = true then (if t327 = true then (if fmok .f64 (fv .sub .f64 (fc .f32 t326 .f64) 0) (Go.Op.negFloat .f64 (fv .sub .f64 (fc .f32 t326 .f64) 0)) = true then (some (FloatKind.f64.format.order (fmx .f64 (fv .sub .f64 (fc .f32 t326 .f64) 0) (Go.Op.negFloat .f64 (fv .sub .f64 (fc .f32 t326 .f64) 0))) 4576918229304087675 == some .lt || FloatKind.f64.format.order (fmx .f64 (fv .sub .f64 (fc .f32 t326 .f64) 0) (Go.Op.negFloat .f64 (fv .sub .f64 (fc .f32 t326 .f64) 0))) 4576918229304087675 == some .eq)) else (none)) else (some false)) else (none)) else (none)) = some r := H
            have A64 := Aside0.mk A640
            clear A640
            by_cases c65 : fcok .f32 t326 .f64 = true
            ·rw [if_pos c65] at H
             have c65b0 := eq_true c65
             have c65b1 : decide (fcok .f32 t326 .f64 = true) = true := decide_eq_true c65
             clear c65
             by_cases c66 : fok .sub .f64 (fc .f32 t326 .f64) 0 = true
             ·rw [if_pos c66] at H
              have c66b0 := eq_true c66
              have c66b1 : decide (fok .sub .f64 (fc .f32 t326 .f64) 0 = true) = true := decide_eq_true c66
              clear c66
              by_cases c67 : t327 = true
              ·subst c67
               have H1 : (if fmok .f64 (fv .sub .f64 (fc .f32 t326 .f64) 0) (Go.Op.negFloat .f64 (fv .sub .f64 (fc .f32 t326 .f64) 0)) = true then (some (FloatKind.f64.format.order (fmx .f64 (fv .sub .f64 (fc .f32 t326 .f64) 0) (Go.Op.negFloat .f64 (fv .sub .f64 (fc .f32 t326 .f64) 0))) 4576918229304087675 == some .lt || FloatKind.f64.format.order (fmx .f64 (fv .sub .f64 (fc .f32 t326 .f64) 0) (Go.Op.negFloat .f64 (fv .sub .f64 (fc .f32 t326 .f64) 0))) 4576918229304087675 == some .eq)) else (none)) = some r := by rw [if_pos rfl] at H; exact H
               clear H
               have H := H1
               clear H1
               by_cases c68 : fmok .f64 (fv .sub .f64 (fc .f32 t326 .f64) 0) (Go.Op.negFloat .f64 (fv .sub .f64 (fc .f32 t326 .f64) 0)) = true
               ·rw [if_pos c68] at H
                have c68b0 := eq_true c68
                have c68b1 : decide (fmok .f64 (fv .sub .f64 (fc .f32 t326 .f64) 0) (Go.Op.negFloat .f64 (fv .sub .f64 (fc .f32 t326 .f64) 0)) = true) = true := decide_eq_true c68
                clear c68
                obtain rfl := Option.some.inj H
                obtain ⟨Ao69, co69, eo69⟩ := Kd.R_slice HO_14.out
                subst eo69
                have p318 : 0 ≤ (x18_32 : Int) := of_decide_eq_true (by first | (with_reducible assumption) | assumption)
                have q318 : x18_32 < (t302.length : Int) := of_decide_eq_true (by first | (with_reducible assumption) | assumption)
                obtain ⟨ad318, A318_0, c318_0, A318_1, c318_1, e318, hx318_0, hx318_1, hl318_0, hi318_0, hl318_1, hi318_1⟩ := at_T41 (Kd.R_reads' HO_14.out).2.2 x18_32 p318 q318
                cases e318
                obtain ⟨ce318, hce318, hMe318, hcc318⟩ := Kd.R_get HO_14.out z41 x18_32 p318 (by first | exact q318 | exact of_decide_eq_true (by first | (with_reducible assumption) | assumption) | (have e_ := (Kd.R_reads' HO_14.out).1; omega))
                obtain ⟨ve318_0, ve318_1, rfl, ge318_0, ge318_1⟩ := k41_openM hMe318
                have hv318_0 := hcc318 0 _ rfl
                rw [Nat.add_zero] at hv318_0
                replace hv318_0 := Option.some.inj (hv318_0.symm.trans hx318_0)
                rw [hv318_0] at ge318_0
                have HL318_0 := Aside0.mk (show Kd.R (Kd.int .i64) 3 _ _ _ _ ((rd_T41 t302 x18_32).f0) from ge318_0)
                clear hv318_0 ge318_0
                have hv318_1 := hcc318 1 _ rfl
                rw [add_field _ _ 1 (by omega)] at hv318_1
                replace hv318_1 := Option.some.inj (hv318_1.symm.trans hx318_1)
                rw [hv318_1] at ge318_1
                have HL318_1 := Aside0.mk (show Kd.R (Kd.slice 3 (Kd.int .i64)) 31 _ _ _ _ ((rd_T41 t302 x18_32).f1) from ge318_1)
                clear hv318_1 ge318_1
                clear hcc318 hce318
                have HR318_0 := Aside0.mk hi318_0
                have HC318_0 := Aside0.mk hl318_0
                clear hi318_0 hl318_0
                have HR318_1 := Aside0.mk hi318_1
                have HC318_1 := Aside0.mk hl318_1
                clear hi318_1 hl318_1
                replace p318 := eq_true p318
                replace q318 := eq_true q318
                obtain ⟨Ao70, co70, eo70⟩ := Kd.R_slice HO_15.out
                subst eo70
                go_wp2_with (first | ((with_reducible refine gate_callee (f := 14) rfl ?_); refine goesL_ (some 161) rfl rfl Try.func14 (by kernel_rfl) rfl #[.slice Ao22 t301.length co22, .slice (some ad318) t302.length co69, .slice Ao34 x16_19.length co34, .int .i64 (wrap64 (a4)), .slice Ao70 t303.length co70] rfl (by (try simp only [List.map_toArray, List.map_cons, List.map_nil]); first | done | rfl | (simp only [List.length_drop, List.length_take]; rfl)) ?_; (with_reducible refine (impl_AdvanceDelta.calls kj32 _ _ t301 _ _ t302 _ _ x16_19 (wrap64 (a4)) _ _ t303 t326 true _ ?side1 ?side2 ?side3 ?side4 ?side5 ?side6 ?side7 ?side8 A64.out).mono ?_); (case side1 => repeat (first | exact (Kd.S_reads' HO_13.out).2.2 | (with_reducible refine Kd.C_alloc ?_ _) | (with_reducible refine Kd.C_drewN ?_ _) | (with_reducible refine Kd.C_drew ?_))); (case side2 => exact (Kd.S_reads' HO_13.out).2.1); (case side3 => repeat (first | exact (Kd.R_reads' HO_14.out).2.2 | (with_reducible refine Kd.C_alloc ?_ _) | (with_reducible refine Kd.C_drewN ?_ _) | (with_reducible refine Kd.C_drew ?_))); (case side4 => exact (Kd.R_reads' HO_14.out).2.1); (case side5 => repeat (first | exact (Kd.R_reads' HO_16.out).2.2 | (with_reducible refine Kd.C_alloc ?_ _) | (with_reducible refine Kd.C_drewN ?_ _) | (with_reducible refine Kd.C_drew ?_))); (case side6 => exact (Kd.R_reads' HO_16.out).2.1); (case side7 => repeat (first | exact (Kd.R_reads' HO_15.out).2.2 | (with_reducible refine Kd.C_alloc ?_ _) | (with_reducible refine Kd.C_drewN ?_ _) | (with_reducible refine Kd.C_drew ?_))); (case side8 => exact (Kd.R_reads' HO_15.out).2.1); rintro e w71 ⟨rfl, hb⟩; refine ⟨_, rfl, ?_⟩; have n0_ := Aside0.mk (Kd.S_below (by (with_reducible repeat (first | apply Kd.S_alloc | apply Kd.S_drewN | apply Kd.S_drew)); exact HO_13.out) hb); have n1_ := Aside0.mk (Kd.R_below (by (with_reducible repeat (first | apply Kd.R_alloc | apply Kd.R_drewN | apply Kd.R_drew)); exact HO_14.out) hb); have n2_ := Aside0.mk (Kd.R_below (by (with_reducible repeat (first | apply Kd.R_alloc | apply Kd.R_drewN | apply Kd.R_drew)); exact HO_15.out) hb); have n3_ := Aside0.mk (Kd.R_below (by (with_reducible repeat (first | apply Kd.R_alloc | apply Kd.R_drewN | apply Kd.R_drew)); exact HO_16.out) hb); have n4_ := Aside0.mk (Kd.R_below (by (with_reducible repeat (first | apply Kd.R_alloc | apply Kd.R_drewN | apply Kd.R_drew)); exact HL318_0.out) hb); have n5_ := Aside0.mk (Kd.R_below (by (with_reducible repeat (first | apply Kd.R_alloc | apply Kd.R_drewN | apply Kd.R_drew)); exact HL318_1.out) hb); have n6_ := Aside0.mk (Kd.C_below (by repeat (first | (with_reducible exact HR318_0.out) | (with_reducible refine Kd.C_alloc ?_ _) | (with_reducible refine Kd.C_drewN ?_ _) | (with_reducible refine Kd.C_drew ?_) | exact HR318_0.out)) hb); have n7_ := Aside0.mk (Kd.C_below (by repeat (first | (with_reducible exact HR318_1.out) | (with_reducible refine Kd.C_alloc ?_ _) | (with_reducible refine Kd.C_drewN ?_ _) | (with_reducible refine Kd.C_drew ?_) | exact HR318_1.out)) hb); have n8_ := Aside0.mk (below_step (by repeat (first | (with_reducible first | exact HB.out | apply below_alloc | apply pw_below_drewN | apply below_drew1) | exact HB.out)) hb); clear HO_13; clear HO_14; clear HO_15; clear HO_16; clear HL318_0; clear HL318_1; clear HR318_0; clear HR318_1; clear HB; have HO_13 := n0_; have HO_14 := n1_; have HO_15 := n2_; have HO_16 := n3_; have HL318_0 := n4_; have HL318_1 := n5_; have HR318_0 := n6_; have HR318_1 := n7_; have HB := n8_; clear n0_ n1_ n2_ n3_ n4_ n5_ n6_ n7_ n8_; (try clear hb); (try clear hb2); (try clear hk); (try clear hi)))
                go_ret
                exact ⟨by first | rfl | (simp [errW_none, errW_some] <;> rfl) | (simp [*, errW_none, errW_some] <;> rfl), by repeat (first | (with_reducible first | exact HB.out | apply below_alloc | apply pw_below_drewN | apply below_drew1) | exact HB.out)⟩
               ·rw [if_neg c68] at H
                exact absurd H (by simp)
              ·replace c67 := Bool.eq_false_iff.mpr c67
               subst c67
               have H1 : (some false) = some r := by rw [if_neg (show ¬ (false = true) by decide)] at H; exact H
               clear H
               have H := H1
               clear H1
               obtain rfl := Option.some.inj H
               obtain ⟨Ao72, co72, eo72⟩ := Kd.R_slice HO_14.out
               subst eo72
               have p318 : 0 ≤ (x18_32 : Int) := of_decide_eq_true (by first | (with_reducible assumption) | assumption)
               have q318 : x18_32 < (t302.length : Int) := of_decide_eq_true (by first | (with_reducible assumption) | assumption)
               obtain ⟨ad318, A318_0, c318_0, A318_1, c318_1, e318, hx318_0, hx318_1, hl318_0, hi318_0, hl318_1, hi318_1⟩ := at_T41 (Kd.R_reads' HO_14.out).2.2 x18_32 p318 q318
               cases e318
               obtain ⟨ce318, hce318, hMe318, hcc318⟩ := Kd.R_get HO_14.out z41 x18_32 p318 (by first | exact q318 | exact of_decide_eq_true (by first | (with_reducible assumption) | assumption) | (have e_ := (Kd.R_reads' HO_14.out).1; omega))
               obtain ⟨ve318_0, ve318_1, rfl, ge318_0, ge318_1⟩ := k41_openM hMe318
               have hv318_0 := hcc318 0 _ rfl
               rw [Nat.add_zero] at hv318_0
               replace hv318_0 := Option.some.inj (hv318_0.symm.trans hx318_0)
               rw [hv318_0] at ge318_0
               have HL318_0 := Aside0.mk (show Kd.R (Kd.int .i64) 3 _ _ _ _ ((rd_T41 t302 x18_32).f0) from ge318_0)
               clear hv318_0 ge318_0
               have hv318_1 := hcc318 1 _ rfl
               rw [add_field _ _ 1 (by omega)] at hv318_1
               replace hv318_1 := Option.some.inj (hv318_1.symm.trans hx318_1)
               rw [hv318_1] at ge318_1
               have HL318_1 := Aside0.mk (show Kd.R (Kd.slice 3 (Kd.int .i64)) 31 _ _ _ _ ((rd_T41 t302 x18_32).f1) from ge318_1)
               clear hv318_1 ge318_1
               clear hcc318 hce318
               have HR318_0 := Aside0.mk hi318_0
               have HC318_0 := Aside0.mk hl318_0
               clear hi318_0 hl318_0
               have HR318_1 := Aside0.mk hi318_1
               have HC318_1 := Aside0.mk hl318_1
               clear hi318_1 hl318_1
               replace p318 := eq_true p318
               replace q318 := eq_true q318
               obtain ⟨Ao73, co73, eo73⟩ := Kd.R_slice HO_15.out
               subst eo73
               go_wp2_with (first | ((with_reducible refine gate_callee (f := 14) rfl ?_); refine goesL_ (some 161) rfl rfl Try.func14 (by kernel_rfl) rfl #[.slice Ao22 t301.length co22, .slice (some ad318) t302.length co72, .slice Ao34 x16_19.length co34, .int .i64 (wrap64 (a4)), .slice Ao73 t303.length co73] rfl (by (try simp only [List.map_toArray, List.map_cons, List.map_nil]); first | done | rfl | (simp only [List.length_drop, List.length_take]; rfl)) ?_; (with_reducible refine (impl_AdvanceDelta.calls kj32 _ _ t301 _ _ t302 _ _ x16_19 (wrap64 (a4)) _ _ t303 t326 false _ ?side1 ?side2 ?side3 ?side4 ?side5 ?side6 ?side7 ?side8 A64.out).mono ?_); (case side1 => repeat (first | exact (Kd.S_reads' HO_13.out).2.2 | (with_reducible refine Kd.C_alloc ?_ _) | (with_reducible refine Kd.C_drewN ?_ _) | (with_reducible refine Kd.C_drew ?_))); (case side2 => exact (Kd.S_reads' HO_13.out).2.1); (case side3 => repeat (first | exact (Kd.R_reads' HO_14.out).2.2 | (with_reducible refine Kd.C_alloc ?_ _) | (with_reducible refine Kd.C_drewN ?_ _) | (with_reducible refine Kd.C_drew ?_))); (case side4 => exact (Kd.R_reads' HO_14.out).2.1); (case side5 => repeat (first | exact (Kd.R_reads' HO_16.out).2.2 | (with_reducible refine Kd.C_alloc ?_ _) | (with_reducible refine Kd.C_drewN ?_ _) | (with_reducible refine Kd.C_drew ?_))); (case side6 => exact (Kd.R_reads' HO_16.out).2.1); (case side7 => repeat (first | exact (Kd.R_reads' HO_15.out).2.2 | (with_reducible refine Kd.C_alloc ?_ _) | (with_reducible refine Kd.C_drewN ?_ _) | (with_reducible refine Kd.C_drew ?_))); (case side8 => exact (Kd.R_reads' HO_15.out).2.1); rintro e w74 ⟨rfl, hb⟩; refine ⟨_, rfl, ?_⟩; have n0_ := Aside0.mk (Kd.S_below (by (with_reducible repeat (first | apply Kd.S_alloc | apply Kd.S_drewN | apply Kd.S_drew)); exact HO_13.out) hb); have n1_ := Aside0.mk (Kd.R_below (by (with_reducible repeat (first | apply Kd.R_alloc | apply Kd.R_drewN | apply Kd.R_drew)); exact HO_14.out) hb); have n2_ := Aside0.mk (Kd.R_below (by (with_reducible repeat (first | apply Kd.R_alloc | apply Kd.R_drewN | apply Kd.R_drew)); exact HO_15.out) hb); have n3_ := Aside0.mk (Kd.R_below (by (with_reducible repeat (first | apply Kd.R_alloc | apply Kd.R_drewN | apply Kd.R_drew)); exact HO_16.out) hb); have n4_ := Aside0.mk (Kd.R_below (by (with_reducible repeat (first | apply Kd.R_alloc | apply Kd.R_drewN | apply Kd.R_drew)); exact HL318_0.out) hb); have n5_ := Aside0.mk (Kd.R_below (by (with_reducible repeat (first | apply Kd.R_alloc | apply Kd.R_drewN | apply Kd.R_drew)); exact HL318_1.out) hb); have n6_ := Aside0.mk (Kd.C_below (by repeat (first | (with_reducible exact HR318_0.out) | (with_reducible refine Kd.C_alloc ?_ _) | (with_reducible refine Kd.C_drewN ?_ _) | (with_reducible refine Kd.C_drew ?_) | exact HR318_0.out)) hb); have n7_ := Aside0.mk (Kd.C_below (by repeat (first | (with_reducible exact HR318_1.out) | (with_reducible refine Kd.C_alloc ?_ _) | (with_reducible refine Kd.C_drewN ?_ _) | (with_reducible refine Kd.C_drew ?_) | exact HR318_1.out)) hb); have n8_ := Aside0.mk (below_step (by repeat (first | (with_reducible first | exact HB.out | apply below_alloc | apply pw_below_drewN | apply below_drew1) | exact HB.out)) hb); clear HO_13; clear HO_14; clear HO_15; clear HO_16; clear HL318_0; clear HL318_1; clear HR318_0; clear HR318_1; clear HB; have HO_13 := n0_; have HO_14 := n1_; have HO_15 := n2_; have HO_16 := n3_; have HL318_0 := n4_; have HL318_1 := n5_; have HR318_0 := n6_; have HR318_1 := n7_; have HB := n8_; clear n0_ n1_ n2_ n3_ n4_ n5_ n6_ n7_ n8_; (try clear hb); (try clear hb2); (try clear hk); (try clear hi)))
               go_ret
               exact ⟨by first | rfl | (simp [errW_none, errW_some] <;> rfl) | (simp [*, errW_none, errW_some] <;> rfl), by repeat (first | (with_reducible first | exact HB.out | apply below_alloc | apply pw_below_drewN | apply below_drew1) | exact HB.out)⟩
             ·rw [if_neg c66] at H
              exact absurd H (by simp)
            ·rw [if_neg c65] at H
             exact absurd H (by simp)
          ·rw [if_neg c44] at H
           exact absurd H (by simp)
         ·rw [if_neg c43] at H
          exact absurd H (by simp)

/-- THE ONE PURE STATEMENT of laws_FnAdvanceDelta: yours. -/
def good161 (x : S161) : Prop := (Lit.int .i16 x.f0).wf = true ∧ (Lit.int .i16 x.f1).wf = true ∧ (Lit.int .i16 x.f2).wf = true
def good47 (x : S47) : Prop := (Lit.int .u8 x.f0).wf = true ∧ (Lit.int .u8 x.f1).wf = true
def laws_FnAdvanceDelta.Pure : Prop := ∀ (l0 : List (List (S161))) (l1 : List (List Int)) (l2 : List (List Int)) (l3 : List (S47)) (a4 : Int) (l5 : List Int), l0.length ≤ maxLen → (∀ y ∈ l0, (y.length ≤ maxLen ∧ ∀ y_ ∈ y, good161 y_)) → l1.length ≤ maxLen → (∀ y ∈ l1, (y.length ≤ maxLen ∧ ∀ y_ ∈ y, (Lit.int .u8 y_).wf = true)) → l2.length ≤ maxLen → (∀ y ∈ l2, (y.length ≤ maxLen ∧ ∀ y_ ∈ y, (Lit.int .i16 y_).wf = true)) → l3.length ≤ maxLen → (∀ y ∈ l3, good47 y) → (Lit.int .u8 a4).wf = true → l5.length ≤ maxLen → l5.length * 2 ≤ 140737488351232 → (∀ x ∈ l5, (Lit.int .i16 x).wf = true) → ∃ k, laws_FnAdvanceDelta.f k l0 l1 l2 l3 a4 l5 = some true
theorem laws_FnAdvanceDelta.walk (P : laws_FnAdvanceDelta.Pure) (a0 : Option Addr) (cap0 : Nat) (l0 : List (List (S161))) (a1 : Option Addr) (cap1 : Nat) (l1 : List (List Int)) (a2 : Option Addr) (cap2 : Nat) (l2 : List (List Int)) (a3 : Option Addr) (cap3 : Nat) (l3 : List (S47)) (a4 : Int) (a5 : Option Addr) (len5 cap5 : Nat) (z5 : List Int) (w : World) (hc0 : l0.length ≤ cap0) (hC0 : Kd.C (Kd.slice 161 k161) w a0 l0.length l0) (hm0 : l0.length ≤ maxLen) (hg0 : ∀ y ∈ l0, (y.length ≤ maxLen ∧ ∀ y_ ∈ y, good161 y_)) (hc1 : l1.length ≤ cap1) (hC1 : Kd.C (Kd.slice 5 (Kd.int .u8)) w a1 l1.length l1) (hm1 : l1.length ≤ maxLen) (hg1 : ∀ y ∈ l1, (y.length ≤ maxLen ∧ ∀ y_ ∈ y, (Lit.int .u8 y_).wf = true)) (hc2 : l2.length ≤ cap2) (hC2 : Kd.C (Kd.slice 98 (Kd.int .i16)) w a2 l2.length l2) (hm2 : l2.length ≤ maxLen) (hg2 : ∀ y ∈ l2, (y.length ≤ maxLen ∧ ∀ y_ ∈ y, (Lit.int .i16 y_).wf = true)) (hc3 : l3.length ≤ cap3) (hC3 : Kd.C k47 w a3 l3.length l3) (hm3 : l3.length ≤ maxLen) (hg3 : ∀ y ∈ l3, good47 y) (w4 : (Lit.int .u8 a4).wf = true) (w5 : (a5 = none ∧ len5 = 0 ∧ cap5 = 0 ∧ z5 = []) ∨ ∃ x, a5 = some x ∧ len5 ≤ cap5 ∧ cap5 ≤ maxLen ∧ z5.length = cap5 ∧ (∀ i, i < z5.length → w.cell? (x.add i) = some (.int .i16 (z5.getD i 0))) ∧ ∀ n ∈ z5, (Lit.int .i16 n).wf = true) (y5 : len5 * 2 ≤ 140737488351232) :
  Calls Try.prog 4 #[.slice a0 l0.length cap0, .slice a1 l1.length cap1, .slice a2 l2.length cap2, .slice a3 l3.length cap3, .int .u8 a4, .slice a5 len5 cap5] w fun e w' => e = .returned (.bool true) ∧ Below w.heap.size w w' := by
 obtain ⟨l5, rfl, hr5, hm5, hw5, hc5⟩ := ReadsInt.ofRowC w5
 obtain ⟨k, h⟩ := P l0 l1 l2 l3 a4 l5 hm0 hg0 hm1 hg1 hm2 hg2 hm3 hg3 w4 hm5 y5 hw5
 refine (laws_FnAdvanceDelta.calls k _ _ l0 _ _ l1 _ _ l2 _ _ l3 a4 _ _ l5 true w hC0 hc0 hC1 hc1 hC2 hc2 hC3 hc3 (Kd.C_of_reads (d := (0 : Int)) (h1 := fun _ => rfl) hr5) hc5 h).mono ?_
 rintro e w' ⟨rfl, hd⟩
 exact ⟨rfl, hd⟩

end Go.Proofs.Ytlbmfnjhpojghaa.PFnAdvanceDelta
