-- Written by a program of this session (xprint) out of the translation; Lean checks it.
import Derived.Test.YtlbmfnjhpojghaaPFnContoursx0
import Derived.Test.YtlbmfnjhpojghaaPFnContoursx5
namespace Go.Proofs.Ytlbmfnjhpojghaa.PFnContours
open Go.RowKit Go.Proofs.YtlbmfnjhpojghaaW.PrintWords Go.Proofs.YtlbmfnjhpojghaaW.PrintLast Go.Proofs.YtlbmfnjhpojghaaW.PrintMore
attribute [local go_sem] max2_int min2_int max_two min_two max_three min_three max_four min_four   -- for this text's walks alone
set_option linter.unusedVariables false
set_option linter.unusedSimpArgs false

attribute [local go_sem] f_add f_sub f_mul f_quo f_conv f_same f_int f_max f_store
/-! ### font_buildSegments: function 60 -/
mutual
def font_buildSegments.l0 : Nat → Bool → Bool → Bool → List (S195) → List (S198) → Int → Int → Nat → Nat → Nat → Nat → Nat → Nat → Option ((List (S195)))
 | 0, _, _, _, _, _, _, _, _, _, _, _, _, _ => none
 | k + 1, x3, x4, x5, x9, x20, x21, x22, x145000, x145001, x146000, x146001, x147000, x147001 => if x22 < x21 then (if 0 ≤ x22 then (if x22 < (x20.length : Int) then (if x3 = true then (if x5 = true then (if ((rd_T198 x20 x22).f1 = true) then (if x9.length < 5026338869833 then (font_buildSegments.j1 k x3 x4 false (x9 ++ [(⟨2, (⟨(⟨x147000, x147001⟩ : S192), (⟨(rd_T198 x20 x22).f0.f0, (rd_T198 x20 x22).f0.f1⟩ : S192), (⟨0, 0⟩ : S192)⟩ : S193)⟩ : S195)]) x20 x21 x22 x145000 x145001 x146000 x146001 x147000 x147001 ((rd_T198 x20 x22).f0.f0) ((rd_T198 x20 x22).f0.f1) ((rd_T198 x20 x22).f1) ((rd_T198 x20 x22).f2) ((rd_T198 x20 x22).f3)) else (none)) else ((font_midPoint.f x147000 x147001 ((rd_T198 x20 x22).f0.f0) ((rd_T198 x20 x22).f0.f1)).bind fun bt156 => (if x9.length < 5026338869833 then (font_buildSegments.j1 k x3 x4 true (x9 ++ [(⟨2, (⟨(⟨x147000, x147001⟩ : S192), (⟨bt156.1, bt156.2⟩ : S192), (⟨0, 0⟩ : S192)⟩ : S193)⟩ : S195)]) x20 x21 x22 x145000 x145001 x146000 x146001 ((rd_T198 x20 x22).f0.f0) ((rd_T198 x20 x22).f0.f1) ((rd_T198 x20 x22).f0.f0) ((rd_T198 x20 x22).f0.f1) ((rd_T198 x20 x22).f1) ((rd_T198 x20 x22).f2) ((rd_T198 x20 x22).f3)) else (none)))) else (if ((rd_T198 x20 x22).f1 = true) then (if x9.length < 5026338869833 then (font_buildSegments.j1 k x3 x4 x5 (x9 ++ [(⟨1, (⟨(⟨(rd_T198 x20 x22).f0.f0, (rd_T198 x20 x22).f0.f1⟩ : S192), (⟨0, 0⟩ : S192), (⟨0, 0⟩ : S192)⟩ : S193)⟩ : S195)]) x20 x21 x22 x145000 x145001 x146000 x146001 x147000 x147001 ((rd_T198 x20 x22).f0.f0) ((rd_T198 x20 x22).f0.f1) ((rd_T198 x20 x22).f1) ((rd_T198 x20 x22).f2) ((rd_T198 x20 x22).f3)) else (none)) else (if ((rd_T198 x20 x22).f2 = true) then (font_buildSegments.j1 k x3 x4 true x9 x20 x21 x22 x145000 x145001 x146000 x146001 ((rd_T198 x20 x22).f0.f0) ((rd_T198 x20 x22).f0.f1) ((rd_T198 x20 x22).f0.f0) ((rd_T198 x20 x22).f0.f1) ((rd_T198 x20 x22).f1) ((rd_T198 x20 x22).f2) ((rd_T198 x20 x22).f3)) else (font_buildSegments.l0 k x3 x4 true x9 x20 x21 (wrap64 (x22 + 1)) x145000 x145001 x146000 x146001 ((rd_T198 x20 x22).f0.f0) ((rd_T198 x20 x22).f0.f1))))) else (if (rd_T198 x20 x22).f1 = true then (if x9.length < 5026338869833 then (font_buildSegments.j1 k true x4 x5 (x9 ++ [(⟨0, (⟨(⟨(rd_T198 x20 x22).f0.f0, (rd_T198 x20 x22).f0.f1⟩ : S192), (⟨0, 0⟩ : S192), (⟨0, 0⟩ : S192)⟩ : S193)⟩ : S195)]) x20 x21 x22 ((rd_T198 x20 x22).f0.f0) ((rd_T198 x20 x22).f0.f1) x146000 x146001 x147000 x147001 ((rd_T198 x20 x22).f0.f0) ((rd_T198 x20 x22).f0.f1) ((rd_T198 x20 x22).f1) ((rd_T198 x20 x22).f2) ((rd_T198 x20 x22).f3)) else (none)) else (if x4 = true then ((font_midPoint.f x146000 x146001 ((rd_T198 x20 x22).f0.f0) ((rd_T198 x20 x22).f0.f1)).bind fun bt167 => (if x9.length < 5026338869833 then (font_buildSegments.j1 k true x4 true (x9 ++ [(⟨0, (⟨(⟨bt167.1, bt167.2⟩ : S192), (⟨0, 0⟩ : S192), (⟨0, 0⟩ : S192)⟩ : S193)⟩ : S195)]) x20 x21 x22 bt167.1 bt167.2 x146000 x146001 ((rd_T198 x20 x22).f0.f0) ((rd_T198 x20 x22).f0.f1) ((rd_T198 x20 x22).f0.f0) ((rd_T198 x20 x22).f0.f1) ((rd_T198 x20 x22).f1) ((rd_T198 x20 x22).f2) ((rd_T198 x20 x22).f3)) else (none))) else (if ((rd_T198 x20 x22).f2 = true) then (font_buildSegments.j1 k x3 true x5 x9 x20 x21 x22 x145000 x145001 ((rd_T198 x20 x22).f0.f0) ((rd_T198 x20 x22).f0.f1) x147000 x147001 ((rd_T198 x20 x22).f0.f0) ((rd_T198 x20 x22).f0.f1) ((rd_T198 x20 x22).f1) ((rd_T198 x20 x22).f2) ((rd_T198 x20 x22).f3)) else (font_buildSegments.l0 k x3 true x5 x9 x20 x21 (wrap64 (x22 + 1)) x145000 x145001 ((rd_T198 x20 x22).f0.f0) ((rd_T198 x20 x22).f0.f1) x147000 x147001))))) else (none)) else (none)) else (some x9)
def font_buildSegments.j1 : Nat → Bool → Bool → Bool → List (S195) → List (S198) → Int → Int → Nat → Nat → Nat → Nat → Nat → Nat → Nat → Nat → Bool → Bool → Bool → Option ((List (S195)))
 | 0, _, _, _, _, _, _, _, _, _, _, _, _, _, _, _, _, _, _ => none
 | k + 1, x3, x4, x5, x9, x20, x21, x22, x145000, x145001, x146000, x146001, x147000, x147001, x152000, x152001, x152002, x152003, x152004 => if x152003 = true then (if x4 = true then (font_buildSegments.j2 k x4 x5 x9 x20 x21 x22 false x145000 x145001 x146000 x146001 x147000 x147001) else (font_buildSegments.j2 k x4 x5 x9 x20 x21 x22 (!x5) x145000 x145001 x146000 x146001 x147000 x147001)) else (font_buildSegments.l0 k x3 x4 x5 x9 x20 x21 (wrap64 (x22 + 1)) x145000 x145001 x146000 x146001 x147000 x147001)
def font_buildSegments.j2 : Nat → Bool → Bool → List (S195) → List (S198) → Int → Int → Bool → Nat → Nat → Nat → Nat → Nat → Nat → Option ((List (S195)))
 | 0, _, _, _, _, _, _, _, _, _, _, _, _, _ => none
 | k + 1, x4, x5, x9, x20, x21, x22, x92, x145000, x145001, x146000, x146001, x147000, x147001 => if x92 = true then (if x9.length < 5026338869833 then (font_buildSegments.l0 k false false false (x9 ++ [(⟨1, (⟨(⟨x145000, x145001⟩ : S192), (⟨0, 0⟩ : S192), (⟨0, 0⟩ : S192)⟩ : S193)⟩ : S195)]) x20 x21 (wrap64 (x22 + 1)) x145000 x145001 x146000 x146001 x147000 x147001) else (none)) else (if x4 = true then (font_buildSegments.j3 k x4 x5 x9 x20 x21 x22 false x145000 x145001 x146000 x146001 x147000 x147001) else (font_buildSegments.j3 k x4 x5 x9 x20 x21 x22 x5 x145000 x145001 x146000 x146001 x147000 x147001))
def font_buildSegments.j3 : Nat → Bool → Bool → List (S195) → List (S198) → Int → Int → Bool → Nat → Nat → Nat → Nat → Nat → Nat → Option ((List (S195)))
 | 0, _, _, _, _, _, _, _, _, _, _, _, _, _ => none
 | k + 1, x4, x5, x9, x20, x21, x22, x105, x145000, x145001, x146000, x146001, x147000, x147001 => if x105 = true then (if x9.length < 5026338869833 then (font_buildSegments.l0 k false false false (x9 ++ [(⟨2, (⟨(⟨x147000, x147001⟩ : S192), (⟨x145000, x145001⟩ : S192), (⟨0, 0⟩ : S192)⟩ : S193)⟩ : S195)]) x20 x21 (wrap64 (x22 + 1)) x145000 x145001 x146000 x146001 x147000 x147001) else (none)) else (if x4 = true then (font_buildSegments.j4 k x4 x5 x9 x20 x21 x22 (!x5) x145000 x145001 x146000 x146001 x147000 x147001) else (font_buildSegments.j4 k x4 x5 x9 x20 x21 x22 false x145000 x145001 x146000 x146001 x147000 x147001))
def font_buildSegments.j4 : Nat → Bool → Bool → List (S195) → List (S198) → Int → Int → Bool → Nat → Nat → Nat → Nat → Nat → Nat → Option ((List (S195)))
 | 0, _, _, _, _, _, _, _, _, _, _, _, _, _ => none
 | k + 1, x4, x5, x9, x20, x21, x22, x118, x145000, x145001, x146000, x146001, x147000, x147001 => if x118 = true then (if x9.length < 5026338869833 then (font_buildSegments.l0 k false false false (x9 ++ [(⟨2, (⟨(⟨x146000, x146001⟩ : S192), (⟨x145000, x145001⟩ : S192), (⟨0, 0⟩ : S192)⟩ : S193)⟩ : S195)]) x20 x21 (wrap64 (x22 + 1)) x145000 x145001 x146000 x146001 x147000 x147001) else (none)) else (if x4 = true then (font_buildSegments.j5 k x9 x20 x21 x22 x5 x145000 x145001 x146000 x146001 x147000 x147001) else (font_buildSegments.j5 k x9 x20 x21 x22 false x145000 x145001 x146000 x146001 x147000 x147001))
def font_buildSegments.j5 : Nat → List (S195) → List (S198) → Int → Int → Bool → Nat → Nat → Nat → Nat → Nat → Nat → Option ((List (S195)))
 | 0, _, _, _, _, _, _, _, _, _, _, _ => none
 | k + 1, x9, x20, x21, x22, x131, x145000, x145001, x146000, x146001, x147000, x147001 => if x131 = true then ((font_midPoint.f x147000 x147001 x146000 x146001).bind fun bt181 => ((some (([(⟨2, (⟨(⟨x147000, x147001⟩ : S192), (⟨bt181.1, bt181.2⟩ : S192), (⟨0, 0⟩ : S192)⟩ : S193)⟩ : S195), (⟨2, (⟨(⟨x146000, x146001⟩ : S192), (⟨x145000, x145001⟩ : S192), (⟨0, 0⟩ : S192)⟩ : S193)⟩ : S195)] : List (S195)) : List (S195))).bind fun y183 => (if x9.length + y183.length < 5026338869833 then (font_buildSegments.l0 k false false false (x9 ++ y183) x20 x21 (wrap64 (x22 + 1)) x145000 x145001 x146000 x146001 x147000 x147001) else (none)))) else (font_buildSegments.l0 k false false false x9 x20 x21 (wrap64 (x22 + 1)) x145000 x145001 x146000 x146001 x147000 x147001)
end
def font_buildSegments.f (k : Nat) (l0 : List (S198)) : Option ((List (S195))) := if (l0.length : Int) = 0 then (some ([] : List (S195))) else (if 0 ≤ (wrap64 ((l0.length : Int) + 2)) then (if (wrap64 ((l0.length : Int) + 2) : Int).toNat ≤ 10052677739666 then (font_buildSegments.l0 k false false false (([] : List (S195))) l0 (l0.length : Int) 0 0 0 0 0 0 0) else (none)) else (none))
theorem font_buildSegments.mono_l : ∀ k, (∀ y0 y1 y2 y3 y4 y5 y6 y7 y8 y9 y10 y11 y12, LeO (font_buildSegments.l0 k y0 y1 y2 y3 y4 y5 y6 y7 y8 y9 y10 y11 y12) (font_buildSegments.l0 (k + 1) y0 y1 y2 y3 y4 y5 y6 y7 y8 y9 y10 y11 y12)) ∧ (∀ y0 y1 y2 y3 y4 y5 y6 y7 y8 y9 y10 y11 y12 y13 y14 y15 y16 y17, LeO (font_buildSegments.j1 k y0 y1 y2 y3 y4 y5 y6 y7 y8 y9 y10 y11 y12 y13 y14 y15 y16 y17) (font_buildSegments.j1 (k + 1) y0 y1 y2 y3 y4 y5 y6 y7 y8 y9 y10 y11 y12 y13 y14 y15 y16 y17)) ∧ (∀ y0 y1 y2 y3 y4 y5 y6 y7 y8 y9 y10 y11 y12, LeO (font_buildSegments.j2 k y0 y1 y2 y3 y4 y5 y6 y7 y8 y9 y10 y11 y12) (font_buildSegments.j2 (k + 1) y0 y1 y2 y3 y4 y5 y6 y7 y8 y9 y10 y11 y12)) ∧ (∀ y0 y1 y2 y3 y4 y5 y6 y7 y8 y9 y10 y11 y12, LeO (font_buildSegments.j3 k y0 y1 y2 y3 y4 y5 y6 y7 y8 y9 y10 y11 y12) (font_buildSegments.j3 (k + 1) y0 y1 y2 y3 y4 y5 y6 y7 y8 y9 y10 y11 y12)) ∧ (∀ y0 y1 y2 y3 y4 y5 y6 y7 y8 y9 y10 y11 y12, LeO (font_buildSegments.j4 k y0 y1 y2 y3 y4 y5 y6 y7 y8 y9 y10 y11 y12) (font_buildSegments.j4 (k + 1) y0 y1 y2 y3 y4 y5 y6 y7 y8 y9 y10 y11 y12)) ∧ (∀ y0 y1 y2 y3 y4 y5 y6 y7 y8 y9 y10, LeO (font_buildSegments.j5 k y0 y1 y2 y3 y4 y5 y6 y7 y8 y9 y10) (font_buildSegments.j5 (k + 1) y0 y1 y2 y3 y4 y5 y6 y7 y8 y9 y10))
 | 0 => ⟨fun _ _ _ _ _ _ _ _ _ _ _ _ _ r h => by simp [font_buildSegments.l0] at h, fun _ _ _ _ _ _ _ _ _ _ _ _ _ _ _ _ _ _ r h => by simp [font_buildSegments.j1] at h, fun _ _ _ _ _ _ _ _ _ _ _ _ _ r h => by simp [font_buildSegments.j2] at h, fun _ _ _ _ _ _ _ _ _ _ _ _ _ r h => by simp [font_buildSegments.j3] at h, fun _ _ _ _ _ _ _ _ _ _ _ _ _ r h => by simp [font_buildSegments.j4] at h, fun _ _ _ _ _ _ _ _ _ _ _ r h => by simp [font_buildSegments.j5] at h⟩
 | k + 1 => by
  obtain ⟨ih0, ih1, ih2, ih3, ih4, ih5⟩ := font_buildSegments.mono_l k
  refine ⟨?_, ?_, ?_, ?_, ?_, ?_⟩
  ·intro y0 y1 y2 y3 y4 y5 y6 y7 y8 y9 y10 y11 y12
   unfold font_buildSegments.l0
   repeat' first
   | (with_reducible exact ih0 _ _ _ _ _ _ _ _ _ _ _ _ _)
   | (with_reducible exact ih1 _ _ _ _ _ _ _ _ _ _ _ _ _ _ _ _ _ _)
   | (with_reducible exact ih2 _ _ _ _ _ _ _ _ _ _ _ _ _)
   | (with_reducible exact ih3 _ _ _ _ _ _ _ _ _ _ _ _ _)
   | (with_reducible exact ih4 _ _ _ _ _ _ _ _ _ _ _ _ _)
   | (with_reducible exact ih5 _ _ _ _ _ _ _ _ _ _ _)
   | (with_reducible exact LeO.refl _)
   | (with_reducible exact LeO.none _)
   | (with_reducible refine LeO.ite ?_ ?_)
   | (with_reducible refine LeO.bind ?_ (fun _ => ?_))
   | exact ih0 _ _ _ _ _ _ _ _ _ _ _ _ _
   | exact ih1 _ _ _ _ _ _ _ _ _ _ _ _ _ _ _ _ _ _
   | exact ih2 _ _ _ _ _ _ _ _ _ _ _ _ _
   | exact ih3 _ _ _ _ _ _ _ _ _ _ _ _ _
   | exact ih4 _ _ _ _ _ _ _ _ _ _ _ _ _
   | exact ih5 _ _ _ _ _ _ _ _ _ _ _
   | exact LeO.none _
   | refine LeO.ite ?_ ?_
   | refine LeO.bind ?_ (fun _ => ?_)
  ·intro y0 y1 y2 y3 y4 y5 y6 y7 y8 y9 y10 y11 y12 y13 y14 y15 y16 y17
   unfold font_buildSegments.j1
   repeat' first
   | (with_reducible exact ih0 _ _ _ _ _ _ _ _ _ _ _ _ _)
   | (with_reducible exact ih1 _ _ _ _ _ _ _ _ _ _ _ _ _ _ _ _ _ _)
   | (with_reducible exact ih2 _ _ _ _ _ _ _ _ _ _ _ _ _)
   | (with_reducible exact ih3 _ _ _ _ _ _ _ _ _ _ _ _ _)
   | (with_reducible exact ih4 _ _ _ _ _ _ _ _ _ _ _ _ _)
   | (with_reducible exact ih5 _ _ _ _ _ _ _ _ _ _ _)
   | (with_reducible exact LeO.refl _)
   | (with_reducible exact LeO.none _)
   | (with_reducible refine LeO.ite ?_ ?_)
   | (with_reducible refine LeO.bind ?_ (fun _ => ?_))
   | exact ih0 _ _ _ _ _ _ _ _ _ _ _ _ _
   | exact ih1 _ _ _ _ _ _ _ _ _ _ _ _ _ _ _ _ _ _
   | exact ih2 _ _ _ _ _ _ _ _ _ _ _ _ _
   | exact ih3 _ _ _ _ _ _ _ _ _ _ _ _ _
   | exact ih4 _ _ _ _ _ _ _ _ _ _ _ _ _
   | exact ih5 _ _ _ _ _ _ _ _ _ _ _
   | exact LeO.none _
   | refine LeO.ite ?_ ?_
   | refine LeO.bind ?_ (fun _ => ?_)
  ·intro y0 y1 y2 y3 y4 y5 y6 y7 y8 y9 y10 y11 y12
   unfold font_buildSegments.j2
   repeat' first
   | (with_reducible exact ih0 _ _ _ _ _ _ _ _ _ _ _ _ _)
   | (with_reducible exact ih1 _ _ _ _ _ _ _ _ _ _ _ _ _ _ _ _ _ _)
   | (with_reducible exact ih2 _ _ _ _ _ _ _ _ _ _ _ _ _)
   | (with_reducible exact ih3 _ _ _ _ _ _ _ _ _ _ _ _ _)
   | (with_reducible exact ih4 _ _ _ _ _ _ _ _ _ _ _ _ _)
   | (with_reducible exact ih5 _ _ _ _ _ _ _ _ _ _ _)
   | (with_reducible exact LeO.refl _)
   | (with_reducible exact LeO.none _)
   | (with_reducible refine LeO.ite ?_ ?_)
   | (with_reducible refine LeO.bind ?_ (fun _ => ?_))
   | exact ih0 _ _ _ _ _ _ _ _ _ _ _ _ _
   | exact ih1 _ _ _ _ _ _ _ _ _ _ _ _ _ _ _ _ _ _
   | exact ih2 _ _ _ _ _ _ _ _ _ _ _ _ _
   | exact ih3 _ _ _ _ _ _ _ _ _ _ _ _ _
   | exact ih4 _ _ _ _ _ _ _ _ _ _ _ _ _
   | exact ih5 _ _ _ _ _ _ _ _ _ _ _
   | exact LeO.none _
   | refine LeO.ite ?_ ?_
   | refine LeO.bind ?_ (fun _ => ?_)
  ·intro y0 y1 y2 y3 y4 y5 y6 y7 y8 y9 y10 y11 y12
   unfold font_buildSegments.j3
   repeat' first
   | (with_reducible exact ih0 _ _ _ _ _ _ _ _ _ _ _ _ _)
   | (with_reducible exact ih1 _ _ _ _ _ _ _ _ _ _ _ _ _ _ _ _ _ _)
   | (with_reducible exact ih2 _ _ _ _ _ _ _ _ _ _ _ _ _)
   | (with_reducible exact ih3 _ _ _ _ _ _ _ _ _ _ _ _ _)
   | (with_reducible exact ih4 _ _ _ _ _ _ _ _ _ _ _ _ _)
   | (with_reducible exact ih5 _ _ _ _ _ _ _ _ _ _ _)
   | (with_reducible exact LeO.refl _)
   | (with_reducible exact LeO.none _)
   | (with_reducible refine LeO.ite ?_ ?_)
   | (with_reducible refine LeO.bind ?_ (fun _ => ?_))
   | exact ih0 _ _ _ _ _ _ _ _ _ _ _ _ _
   | exact ih1 _ _ _ _ _ _ _ _ _ _ _ _ _ _ _ _ _ _
   | exact ih2 _ _ _ _ _ _ _ _ _ _ _ _ _
   | exact ih3 _ _ _ _ _ _ _ _ _ _ _ _ _
   | exact ih4 _ _ _ _ _ _ _ _ _ _ _ _ _
   | exact ih5 _ _ _ _ _ _ _ _ _ _ _
   | exact LeO.none _
   | refine LeO.ite ?_ ?_
   | refine LeO.bind ?_ (fun _ => ?_)
  ·intro y0 y1 y2 y3 y4 y5 y6 y7 y8 y9 y10 y11 y12
   unfold font_buildSegments.j4
   repeat' first
   | (with_reducible exact ih0 _ _ _ _ _ _ _ _ _ _ _ _ _)
   | (with_reducible exact ih1 _ _ _ _ _ _ _ _ _ _ _ _ _ _ _ _ _ _)
   | (with_reducible exact ih2 _ _ _ _ _ _ _ _ _ _ _ _ _)
   | (with_reducible exact ih3 _ _ _ _ _ _ _ _ _ _ _ _ _)
   | (with_reducible exact ih4 _ _ _ _ _ _ _ _ _ _ _ _ _)
   | (with_reducible exact ih5 _ _ _ _ _ _ _ _ _ _ _)
   | (with_reducible exact LeO.refl _)
   | (with_reducible exact LeO.none _)
   | (with_reducible refine LeO.ite ?_ ?_)
   | (with_reducible refine LeO.bind ?_ (fun _ => ?_))
   | exact ih0 _ _ _ _ _ _ _ _ _ _ _ _ _
   | exact ih1 _ _ _ _ _ _ _ _ _ _ _ _ _ _ _ _ _ _
   | exact ih2 _ _ _ _ _ _ _ _ _ _ _ _ _
   | exact ih3 _ _ _ _ _ _ _ _ _ _ _ _ _
   | exact ih4 _ _ _ _ _ _ _ _ _ _ _ _ _
   | exact ih5 _ _ _ _ _ _ _ _ _ _ _
   | exact LeO.none _
   | refine LeO.ite ?_ ?_
   | refine LeO.bind ?_ (fun _ => ?_)
  ·intro y0 y1 y2 y3 y4 y5 y6 y7 y8 y9 y10
   unfold font_buildSegments.j5
   repeat' first
   | (with_reducible exact ih0 _ _ _ _ _ _ _ _ _ _ _ _ _)
   | (with_reducible exact ih1 _ _ _ _ _ _ _ _ _ _ _ _ _ _ _ _ _ _)
   | (with_reducible exact ih2 _ _ _ _ _ _ _ _ _ _ _ _ _)
   | (with_reducible exact ih3 _ _ _ _ _ _ _ _ _ _ _ _ _)
   | (with_reducible exact ih4 _ _ _ _ _ _ _ _ _ _ _ _ _)
   | (with_reducible exact ih5 _ _ _ _ _ _ _ _ _ _ _)
   | (with_reducible exact LeO.refl _)
   | (with_reducible exact LeO.none _)
   | (with_reducible refine LeO.ite ?_ ?_)
   | (with_reducible refine LeO.bind ?_ (fun _ => ?_))
   | exact ih0 _ _ _ _ _ _ _ _ _ _ _ _ _
   | exact ih1 _ _ _ _ _ _ _ _ _ _ _ _ _ _ _ _ _ _
   | exact ih2 _ _ _ _ _ _ _ _ _ _ _ _ _
   | exact ih3 _ _ _ _ _ _ _ _ _ _ _ _ _
   | exact ih4 _ _ _ _ _ _ _ _ _ _ _ _ _
   | exact ih5 _ _ _ _ _ _ _ _ _ _ _
   | exact LeO.none _
   | refine LeO.ite ?_ ?_
   | refine LeO.bind ?_ (fun _ => ?_)
theorem font_buildSegments.mono : ∀ a0 k, LeO (font_buildSegments.f k a0) (font_buildSegments.f (k + 1) a0) := by
 intro a0 k
 obtain ⟨ih0, ih1, ih2, ih3, ih4, ih5⟩ := font_buildSegments.mono_l k
 unfold font_buildSegments.f
 repeat' first
   | (with_reducible exact ih0 _ _ _ _ _ _ _ _ _ _ _ _ _)
   | (with_reducible exact ih1 _ _ _ _ _ _ _ _ _ _ _ _ _ _ _ _ _ _)
   | (with_reducible exact ih2 _ _ _ _ _ _ _ _ _ _ _ _ _)
   | (with_reducible exact ih3 _ _ _ _ _ _ _ _ _ _ _ _ _)
   | (with_reducible exact ih4 _ _ _ _ _ _ _ _ _ _ _ _ _)
   | (with_reducible exact ih5 _ _ _ _ _ _ _ _ _ _ _)
   | (with_reducible exact LeO.refl _)
   | (with_reducible exact LeO.none _)
   | (with_reducible refine LeO.ite ?_ ?_)
   | (with_reducible refine LeO.bind ?_ (fun _ => ?_))
   | exact ih0 _ _ _ _ _ _ _ _ _ _ _ _ _
   | exact ih1 _ _ _ _ _ _ _ _ _ _ _ _ _ _ _ _ _ _
   | exact ih2 _ _ _ _ _ _ _ _ _ _ _ _ _
   | exact ih3 _ _ _ _ _ _ _ _ _ _ _ _ _
   | exact ih4 _ _ _ _ _ _ _ _ _ _ _ _ _
   | exact ih5 _ _ _ _ _ _ _ _ _ _ _
   | exact LeO.none _
   | refine LeO.ite ?_ ?_
   | refine LeO.bind ?_ (fun _ => ?_)

end Go.Proofs.Ytlbmfnjhpojghaa.PFnContours
