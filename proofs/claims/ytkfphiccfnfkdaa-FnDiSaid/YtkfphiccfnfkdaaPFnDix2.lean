-- Written by a program of this session (xprint) out of the translation; Lean checks it.
import Derived.Test.YtkfphiccfnfkdaaPFnDix0
import Derived.Test.YtkfphiccfnfkdaaPFnDix1
namespace Go.Proofs.Ytkfphiccfnfkdaa.PFnDi
open Go.RowKit Go.Proofs.YtkfphiccfnfkdaaW.PrintWords Go.Proofs.YtkfphiccfnfkdaaW.PrintLast Go.Proofs.YtkfphiccfnfkdaaW.PrintMore
attribute [local go_sem] max2_int min2_int max_two min_two max_three min_three max_four min_four   -- for this text's walks alone
set_option linter.unusedVariables false
set_option linter.unusedSimpArgs false

/-! ### laws_FnDi: function 13 -/
mutual
def laws_FnDi.l0 : Nat → Int → List Int → Int → Int → Bool → Bool → Bool → Bool → Bool → Option (Bool)
  | 0, _, _, _, _, _, _, _, _, _ => none
  | k + 1, x0, x1, x5, x7, x120000, x120001, x120002, x120003, x120004 => if x7 ≤ (x1.length : Int) then (laws_FnDi.j1 k x0 x1 x5 x7 (decide (x7 ≤ 40)) x120000 x120001 x120002 x120003 x120004) else (laws_FnDi.j1 k x0 x1 x5 x7 false x120000 x120001 x120002 x120003 x120004)
def laws_FnDi.j1 : Nat → Int → List Int → Int → Int → Bool → Bool → Bool → Bool → Bool → Bool → Option (Bool)
  | 0, _, _, _, _, _, _, _, _, _, _ => none
  | k + 1, x0, x1, x5, x7, x25, x120000, x120001, x120002, x120003, x120004 => if x25 = true then ((impl_DiTells.f x5).bind fun bt126 => (if (bt126.1 != x120000) = true then (laws_FnDi.j2 k x0 x1 x5 x7 true x120000 x120001 x120002 x120003 x120004 bt126.1 bt126.2.1 bt126.2.2.1 bt126.2.2.2.1 bt126.2.2.2.2.1 bt126.2.2.2.2.2) else (if (bt126.2.2.1 != x120000) = true then (laws_FnDi.j2 k x0 x1 x5 x7 true x120000 x120001 x120002 x120003 x120004 bt126.1 bt126.2.1 bt126.2.2.1 bt126.2.2.2.1 bt126.2.2.2.2.1 bt126.2.2.2.2.2) else (laws_FnDi.j2 k x0 x1 x5 x7 (bt126.2.1 != x120001) x120000 x120001 x120002 x120003 x120004 bt126.1 bt126.2.1 bt126.2.2.1 bt126.2.2.2.1 bt126.2.2.2.2.1 bt126.2.2.2.2.2)))) else ((impl_DiTells.f 3).bind fun bt120 => (some bt120.2.1))
def laws_FnDi.j2 : Nat → Int → List Int → Int → Int → Bool → Bool → Bool → Bool → Bool → Bool → Bool → Bool → Bool → Bool → Bool → Int → Option (Bool)
  | 0, _, _, _, _, _, _, _, _, _, _, _, _, _, _, _, _ => none
  | k + 1, x0, x1, x5, x7, x48, x120000, x120001, x120002, x120003, x120004, x133000, x133001, x133002, x133003, x133004, x133005 => if x48 = true then (some false) else (if x120002 = true then (if (x133003 != x120003) = true then (laws_FnDi.j3 k x0 x1 x5 x7 true x120000 x120001 x120002 x120003 x120004 x133000 x133001 x133002 x133003 x133004 x133005) else (if (x133004 != x120004) = true then (laws_FnDi.j3 k x0 x1 x5 x7 true x120000 x120001 x120002 x120003 x120004 x133000 x133001 x133002 x133003 x133004 x133005) else (if x133004 = true then (if x133003 = true then (laws_FnDi.j3 k x0 x1 x5 x7 (!x133000) x120000 x120001 x120002 x120003 x120004 x133000 x133001 x133002 x133003 x133004 x133005) else (laws_FnDi.j3 k x0 x1 x5 x7 true x120000 x120001 x120002 x120003 x120004 x133000 x133001 x133002 x133003 x133004 x133005)) else (laws_FnDi.j3 k x0 x1 x5 x7 false x120000 x120001 x120002 x120003 x120004 x133000 x133001 x133002 x133003 x133004 x133005)))) else (if x133004 = true then (if x133003 = true then (laws_FnDi.j3 k x0 x1 x5 x7 (!x133000) x120000 x120001 x120002 x120003 x120004 x133000 x133001 x133002 x133003 x133004 x133005) else (laws_FnDi.j3 k x0 x1 x5 x7 true x120000 x120001 x120002 x120003 x120004 x133000 x133001 x133002 x133003 x133004 x133005)) else (laws_FnDi.j3 k x0 x1 x5 x7 false x120000 x120001 x120002 x120003 x120004 x133000 x133001 x133002 x133003 x133004 x133005)))
def laws_FnDi.j3 : Nat → Int → List Int → Int → Int → Bool → Bool → Bool → Bool → Bool → Bool → Bool → Bool → Bool → Bool → Bool → Int → Option (Bool)
  | 0, _, _, _, _, _, _, _, _, _, _, _, _, _, _, _, _ => none
  | k + 1, x0, x1, x5, x7, x78, x120000, x120001, x120002, x120003, x120004, x133000, x133001, x133002, x133003, x133004, x133005 => if x78 = true then (some false) else (if x120002 = true then (if x120003 = true then (laws_FnDi.j4 k x0 x1 x5 x7 false x120000 x120001 x120002 x120003 x120004) else (if x133005 = (wrap64 (4 + (wrap64 (Int.tmod x0 4)))) then (laws_FnDi.j4 k x0 x1 x5 x7 false x120000 x120001 x120002 x120003 x120004) else (laws_FnDi.j4 k x0 x1 x5 x7 (x7 == 0) x120000 x120001 x120002 x120003 x120004))) else (laws_FnDi.j4 k x0 x1 x5 x7 false x120000 x120001 x120002 x120003 x120004))
def laws_FnDi.j4 : Nat → Int → List Int → Int → Int → Bool → Bool → Bool → Bool → Bool → Bool → Option (Bool)
  | 0, _, _, _, _, _, _, _, _, _, _ => none
  | k + 1, x0, x1, x5, x7, x98, x120000, x120001, x120002, x120003, x120004 => if x98 = true then (some false) else (if x7 = (x1.length : Int) then (laws_FnDi.j5 k x0 x1 x5 x7 true x120000 x120001 x120002 x120003 x120004) else (laws_FnDi.j5 k x0 x1 x5 x7 (x7 == 40) x120000 x120001 x120002 x120003 x120004))
def laws_FnDi.j5 : Nat → Int → List Int → Int → Int → Bool → Bool → Bool → Bool → Bool → Bool → Option (Bool)
  | 0, _, _, _, _, _, _, _, _, _, _ => none
  | k + 1, x0, x1, x5, x7, x106, x120000, x120001, x120002, x120003, x120004 => if x106 = true then ((impl_DiTells.f 3).bind fun bt133 => (some bt133.2.1)) else (if 0 ≤ x7 then (if x7 < (x1.length : Int) then (if (Int.tmod (rd x1 x7) 5) = 0 then ((impl_DiSwitch.f x5).bind fun t140 => ((spec_Di_Does.f x120000 x120001 x120002 x120003 x120004 (Int.tmod (rd x1 x7) 5)).bind fun bt141 => (laws_FnDi.l0 k x0 x1 t140 (wrap64 (x7 + 1)) bt141.1 bt141.2.1 bt141.2.2.1 bt141.2.2.2.1 bt141.2.2.2.2))) else (if (Int.tmod (rd x1 x7) 5) = 1 then (laws_FnDi.j6 k x0 x1 x5 x7 (Int.tmod (rd x1 x7) 5) ((Int.tmod (rd x1 x7) 5) == 1) x120000 x120001 x120002 x120003 x120004) else (laws_FnDi.j6 k x0 x1 x5 x7 (Int.tmod (rd x1 x7) 5) ((Int.tmod (rd x1 x7) 5) == 2) x120000 x120001 x120002 x120003 x120004))) else (none)) else (none))
def laws_FnDi.j6 : Nat → Int → List Int → Int → Int → Int → Bool → Bool → Bool → Bool → Bool → Bool → Option (Bool)
  | 0, _, _, _, _, _, _, _, _, _, _, _ => none
  | k + 1, x0, x1, x5, x7, x9, x121, x120000, x120001, x120002, x120003, x120004 => if x121 = true then ((impl_DiSetProgression.f x5 (x9 == 2)).bind fun t146 => ((spec_Di_Does.f x120000 x120001 x120002 x120003 x120004 x9).bind fun bt147 => (laws_FnDi.l0 k x0 x1 t146 (wrap64 (x7 + 1)) bt147.1 bt147.2.1 bt147.2.2.1 bt147.2.2.2.1 bt147.2.2.2.2))) else ((impl_DiSetSideways.f x5 (x9 == 4)).bind fun t152 => ((spec_Di_Does.f x120000 x120001 x120002 x120003 x120004 x9).bind fun bt153 => (laws_FnDi.l0 k x0 x1 t152 (wrap64 (x7 + 1)) bt153.1 bt153.2.1 bt153.2.2.1 bt153.2.2.2.1 bt153.2.2.2.2)))
end
def laws_FnDi.f (k : Nat) (a0 : Int) (l1 : List Int) : Option (Bool) := if (l1.length : Int) > 2147483647 then (some true) else ((spec_DiOf.f (Int.tmod a0 4)).bind fun bt114 => (laws_FnDi.l0 k a0 l1 (Int.tmod a0 4) 0 bt114.1 bt114.2.1 bt114.2.2.1 bt114.2.2.2.1 bt114.2.2.2.2))
theorem laws_FnDi.mono_l : ∀ k, (∀ y0 y1 y2 y3 y4 y5 y6 y7 y8, LeO (laws_FnDi.l0 k y0 y1 y2 y3 y4 y5 y6 y7 y8) (laws_FnDi.l0 (k + 1) y0 y1 y2 y3 y4 y5 y6 y7 y8)) ∧ (∀ y0 y1 y2 y3 y4 y5 y6 y7 y8 y9, LeO (laws_FnDi.j1 k y0 y1 y2 y3 y4 y5 y6 y7 y8 y9) (laws_FnDi.j1 (k + 1) y0 y1 y2 y3 y4 y5 y6 y7 y8 y9)) ∧ (∀ y0 y1 y2 y3 y4 y5 y6 y7 y8 y9 y10 y11 y12 y13 y14 y15, LeO (laws_FnDi.j2 k y0 y1 y2 y3 y4 y5 y6 y7 y8 y9 y10 y11 y12 y13 y14 y15) (laws_FnDi.j2 (k + 1) y0 y1 y2 y3 y4 y5 y6 y7 y8 y9 y10 y11 y12 y13 y14 y15)) ∧ (∀ y0 y1 y2 y3 y4 y5 y6 y7 y8 y9 y10 y11 y12 y13 y14 y15, LeO (laws_FnDi.j3 k y0 y1 y2 y3 y4 y5 y6 y7 y8 y9 y10 y11 y12 y13 y14 y15) (laws_FnDi.j3 (k + 1) y0 y1 y2 y3 y4 y5 y6 y7 y8 y9 y10 y11 y12 y13 y14 y15)) ∧ (∀ y0 y1 y2 y3 y4 y5 y6 y7 y8 y9, LeO (laws_FnDi.j4 k y0 y1 y2 y3 y4 y5 y6 y7 y8 y9) (laws_FnDi.j4 (k + 1) y0 y1 y2 y3 y4 y5 y6 y7 y8 y9)) ∧ (∀ y0 y1 y2 y3 y4 y5 y6 y7 y8 y9, LeO (laws_FnDi.j5 k y0 y1 y2 y3 y4 y5 y6 y7 y8 y9) (laws_FnDi.j5 (k + 1) y0 y1 y2 y3 y4 y5 y6 y7 y8 y9)) ∧ (∀ y0 y1 y2 y3 y4 y5 y6 y7 y8 y9 y10, LeO (laws_FnDi.j6 k y0 y1 y2 y3 y4 y5 y6 y7 y8 y9 y10) (laws_FnDi.j6 (k + 1) y0 y1 y2 y3 y4 y5 y6 y7 y8 y9 y10))
  | 0 => ⟨fun _ _ _ _ _ _ _ _ _ r h => by simp [laws_FnDi.l0] at h, fun _ _ _ _ _ _ _ _ _ _ r h => by simp [laws_FnDi.j1] at h, fun _ _ _ _ _ _ _ _ _ _ _ _ _ _ _ _ r h => by simp [laws_FnDi.j2] at h, fun _ _ _ _ _ _ _ _ _ _ _ _ _ _ _ _ r h => by simp [laws_FnDi.j3] at h, fun _ _ _ _ _ _ _ _ _ _ r h => by simp [laws_FnDi.j4] at h, fun _ _ _ _ _ _ _ _ _ _ r h => by simp [laws_FnDi.j5] at h, fun _ _ _ _ _ _ _ _ _ _ _ r h => by simp [laws_FnDi.j6] at h⟩
  | k + 1 => by
    obtain ⟨ih0, ih1, ih2, ih3, ih4, ih5, ih6⟩ := laws_FnDi.mono_l k
    refine ⟨?_, ?_, ?_, ?_, ?_, ?_, ?_⟩
    · intro y0 y1 y2 y3 y4 y5 y6 y7 y8
      unfold laws_FnDi.l0
      repeat' first
      | (with_reducible exact ih0 _ _ _ _ _ _ _ _ _)
      | (with_reducible exact ih1 _ _ _ _ _ _ _ _ _ _)
      | (with_reducible exact ih2 _ _ _ _ _ _ _ _ _ _ _ _ _ _ _ _)
      | (with_reducible exact ih3 _ _ _ _ _ _ _ _ _ _ _ _ _ _ _ _)
      | (with_reducible exact ih4 _ _ _ _ _ _ _ _ _ _)
      | (with_reducible exact ih5 _ _ _ _ _ _ _ _ _ _)
      | (with_reducible exact ih6 _ _ _ _ _ _ _ _ _ _ _)
      | (with_reducible exact LeO.refl _)
      | (with_reducible exact LeO.none _)
      | (with_reducible refine LeO.ite ?_ ?_)
      | (with_reducible refine LeO.bind ?_ (fun _ => ?_))
      | exact ih0 _ _ _ _ _ _ _ _ _
      | exact ih1 _ _ _ _ _ _ _ _ _ _
      | exact ih2 _ _ _ _ _ _ _ _ _ _ _ _ _ _ _ _
      | exact ih3 _ _ _ _ _ _ _ _ _ _ _ _ _ _ _ _
      | exact ih4 _ _ _ _ _ _ _ _ _ _
      | exact ih5 _ _ _ _ _ _ _ _ _ _
      | exact ih6 _ _ _ _ _ _ _ _ _ _ _
      | exact LeO.none _
      | refine LeO.ite ?_ ?_
      | refine LeO.bind ?_ (fun _ => ?_)
    · intro y0 y1 y2 y3 y4 y5 y6 y7 y8 y9
      unfold laws_FnDi.j1
      repeat' first
      | (with_reducible exact ih0 _ _ _ _ _ _ _ _ _)
      | (with_reducible exact ih1 _ _ _ _ _ _ _ _ _ _)
      | (with_reducible exact ih2 _ _ _ _ _ _ _ _ _ _ _ _ _ _ _ _)
      | (with_reducible exact ih3 _ _ _ _ _ _ _ _ _ _ _ _ _ _ _ _)
      | (with_reducible exact ih4 _ _ _ _ _ _ _ _ _ _)
      | (with_reducible exact ih5 _ _ _ _ _ _ _ _ _ _)
      | (with_reducible exact ih6 _ _ _ _ _ _ _ _ _ _ _)
      | (with_reducible exact LeO.refl _)
      | (with_reducible exact LeO.none _)
      | (with_reducible refine LeO.ite ?_ ?_)
      | (with_reducible refine LeO.bind ?_ (fun _ => ?_))
      | exact ih0 _ _ _ _ _ _ _ _ _
      | exact ih1 _ _ _ _ _ _ _ _ _ _
      | exact ih2 _ _ _ _ _ _ _ _ _ _ _ _ _ _ _ _
      | exact ih3 _ _ _ _ _ _ _ _ _ _ _ _ _ _ _ _
      | exact ih4 _ _ _ _ _ _ _ _ _ _
      | exact ih5 _ _ _ _ _ _ _ _ _ _
      | exact ih6 _ _ _ _ _ _ _ _ _ _ _
      | exact LeO.none _
      | refine LeO.ite ?_ ?_
      | refine LeO.bind ?_ (fun _ => ?_)
    · intro y0 y1 y2 y3 y4 y5 y6 y7 y8 y9 y10 y11 y12 y13 y14 y15
      unfold laws_FnDi.j2
      repeat' first
      | (with_reducible exact ih0 _ _ _ _ _ _ _ _ _)
      | (with_reducible exact ih1 _ _ _ _ _ _ _ _ _ _)
      | (with_reducible exact ih2 _ _ _ _ _ _ _ _ _ _ _ _ _ _ _ _)
      | (with_reducible exact ih3 _ _ _ _ _ _ _ _ _ _ _ _ _ _ _ _)
      | (with_reducible exact ih4 _ _ _ _ _ _ _ _ _ _)
      | (with_reducible exact ih5 _ _ _ _ _ _ _ _ _ _)
      | (with_reducible exact ih6 _ _ _ _ _ _ _ _ _ _ _)
      | (with_reducible exact LeO.refl _)
      | (with_reducible exact LeO.none _)
      | (with_reducible refine LeO.ite ?_ ?_)
      | (with_reducible refine LeO.bind ?_ (fun _ => ?_))
      | exact ih0 _ _ _ _ _ _ _ _ _
      | exact ih1 _ _ _ _ _ _ _ _ _ _
      | exact ih2 _ _ _ _ _ _ _ _ _ _ _ _ _ _ _ _
      | exact ih3 _ _ _ _ _ _ _ _ _ _ _ _ _ _ _ _
      | exact ih4 _ _ _ _ _ _ _ _ _ _
      | exact ih5 _ _ _ _ _ _ _ _ _ _
      | exact ih6 _ _ _ _ _ _ _ _ _ _ _
      | exact LeO.none _
      | refine LeO.ite ?_ ?_
      | refine LeO.bind ?_ (fun _ => ?_)
    · intro y0 y1 y2 y3 y4 y5 y6 y7 y8 y9 y10 y11 y12 y13 y14 y15
      unfold laws_FnDi.j3
      repeat' first
      | (with_reducible exact ih0 _ _ _ _ _ _ _ _ _)
      | (with_reducible exact ih1 _ _ _ _ _ _ _ _ _ _)
      | (with_reducible exact ih2 _ _ _ _ _ _ _ _ _ _ _ _ _ _ _ _)
      | (with_reducible exact ih3 _ _ _ _ _ _ _ _ _ _ _ _ _ _ _ _)
      | (with_reducible exact ih4 _ _ _ _ _ _ _ _ _ _)
      | (with_reducible exact ih5 _ _ _ _ _ _ _ _ _ _)
      | (with_reducible exact ih6 _ _ _ _ _ _ _ _ _ _ _)
      | (with_reducible exact LeO.refl _)
      | (with_reducible exact LeO.none _)
      | (with_reducible refine LeO.ite ?_ ?_)
      | (with_reducible refine LeO.bind ?_ (fun _ => ?_))
      | exact ih0 _ _ _ _ _ _ _ _ _
      | exact ih1 _ _ _ _ _ _ _ _ _ _
      | exact ih2 _ _ _ _ _ _ _ _ _ _ _ _ _ _ _ _
      | exact ih3 _ _ _ _ _ _ _ _ _ _ _ _ _ _ _ _
      | exact ih4 _ _ _ _ _ _ _ _ _ _
      | exact ih5 _ _ _ _ _ _ _ _ _ _
      | exact ih6 _ _ _ _ _ _ _ _ _ _ _
      | exact LeO.none _
      | refine LeO.ite ?_ ?_
      | refine LeO.bind ?_ (fun _ => ?_)
    · intro y0 y1 y2 y3 y4 y5 y6 y7 y8 y9
      unfold laws_FnDi.j4
      repeat' first
      | (with_reducible exact ih0 _ _ _ _ _ _ _ _ _)
      | (with_reducible exact ih1 _ _ _ _ _ _ _ _ _ _)
      | (with_reducible exact ih2 _ _ _ _ _ _ _ _ _ _ _ _ _ _ _ _)
      | (with_reducible exact ih3 _ _ _ _ _ _ _ _ _ _ _ _ _ _ _ _)
      | (with_reducible exact ih4 _ _ _ _ _ _ _ _ _ _)
      | (with_reducible exact ih5 _ _ _ _ _ _ _ _ _ _)
      | (with_reducible exact ih6 _ _ _ _ _ _ _ _ _ _ _)
      | (with_reducible exact LeO.refl _)
      | (with_reducible exact LeO.none _)
      | (with_reducible refine LeO.ite ?_ ?_)
      | (with_reducible refine LeO.bind ?_ (fun _ => ?_))
      | exact ih0 _ _ _ _ _ _ _ _ _
      | exact ih1 _ _ _ _ _ _ _ _ _ _
      | exact ih2 _ _ _ _ _ _ _ _ _ _ _ _ _ _ _ _
      | exact ih3 _ _ _ _ _ _ _ _ _ _ _ _ _ _ _ _
      | exact ih4 _ _ _ _ _ _ _ _ _ _
      | exact ih5 _ _ _ _ _ _ _ _ _ _
      | exact ih6 _ _ _ _ _ _ _ _ _ _ _
      | exact LeO.none _
      | refine LeO.ite ?_ ?_
      | refine LeO.bind ?_ (fun _ => ?_)
    · intro y0 y1 y2 y3 y4 y5 y6 y7 y8 y9
      unfold laws_FnDi.j5
      repeat' first
      | (with_reducible exact ih0 _ _ _ _ _ _ _ _ _)
      | (with_reducible exact ih1 _ _ _ _ _ _ _ _ _ _)
      | (with_reducible exact ih2 _ _ _ _ _ _ _ _ _ _ _ _ _ _ _ _)
      | (with_reducible exact ih3 _ _ _ _ _ _ _ _ _ _ _ _ _ _ _ _)
      | (with_reducible exact ih4 _ _ _ _ _ _ _ _ _ _)
      | (with_reducible exact ih5 _ _ _ _ _ _ _ _ _ _)
      | (with_reducible exact ih6 _ _ _ _ _ _ _ _ _ _ _)
      | (with_reducible exact LeO.refl _)
      | (with_reducible exact LeO.none _)
      | (with_reducible refine LeO.ite ?_ ?_)
      | (with_reducible refine LeO.bind ?_ (fun _ => ?_))
      | exact ih0 _ _ _ _ _ _ _ _ _
      | exact ih1 _ _ _ _ _ _ _ _ _ _
      | exact ih2 _ _ _ _ _ _ _ _ _ _ _ _ _ _ _ _
      | exact ih3 _ _ _ _ _ _ _ _ _ _ _ _ _ _ _ _
      | exact ih4 _ _ _ _ _ _ _ _ _ _
      | exact ih5 _ _ _ _ _ _ _ _ _ _
      | exact ih6 _ _ _ _ _ _ _ _ _ _ _
      | exact LeO.none _
      | refine LeO.ite ?_ ?_
      | refine LeO.bind ?_ (fun _ => ?_)
    · intro y0 y1 y2 y3 y4 y5 y6 y7 y8 y9 y10
      unfold laws_FnDi.j6
      repeat' first
      | (with_reducible exact ih0 _ _ _ _ _ _ _ _ _)
      | (with_reducible exact ih1 _ _ _ _ _ _ _ _ _ _)
      | (with_reducible exact ih2 _ _ _ _ _ _ _ _ _ _ _ _ _ _ _ _)
      | (with_reducible exact ih3 _ _ _ _ _ _ _ _ _ _ _ _ _ _ _ _)
      | (with_reducible exact ih4 _ _ _ _ _ _ _ _ _ _)
      | (with_reducible exact ih5 _ _ _ _ _ _ _ _ _ _)
      | (with_reducible exact ih6 _ _ _ _ _ _ _ _ _ _ _)
      | (with_reducible exact LeO.refl _)
      | (with_reducible exact LeO.none _)
      | (with_reducible refine LeO.ite ?_ ?_)
      | (with_reducible refine LeO.bind ?_ (fun _ => ?_))
      | exact ih0 _ _ _ _ _ _ _ _ _
      | exact ih1 _ _ _ _ _ _ _ _ _ _
      | exact ih2 _ _ _ _ _ _ _ _ _ _ _ _ _ _ _ _
      | exact ih3 _ _ _ _ _ _ _ _ _ _ _ _ _ _ _ _
      | exact ih4 _ _ _ _ _ _ _ _ _ _
      | exact ih5 _ _ _ _ _ _ _ _ _ _
      | exact ih6 _ _ _ _ _ _ _ _ _ _ _
      | exact LeO.none _
      | refine LeO.ite ?_ ?_
      | refine LeO.bind ?_ (fun _ => ?_)
theorem laws_FnDi.mono : ∀ a0 a1 k, LeO (laws_FnDi.f k a0 a1) (laws_FnDi.f (k + 1) a0 a1) := by
  intro a0 a1 k
  obtain ⟨ih0, ih1, ih2, ih3, ih4, ih5, ih6⟩ := laws_FnDi.mono_l k
  unfold laws_FnDi.f
  repeat' first
      | (with_reducible exact ih0 _ _ _ _ _ _ _ _ _)
      | (with_reducible exact ih1 _ _ _ _ _ _ _ _ _ _)
      | (with_reducible exact ih2 _ _ _ _ _ _ _ _ _ _ _ _ _ _ _ _)
      | (with_reducible exact ih3 _ _ _ _ _ _ _ _ _ _ _ _ _ _ _ _)
      | (with_reducible exact ih4 _ _ _ _ _ _ _ _ _ _)
      | (with_reducible exact ih5 _ _ _ _ _ _ _ _ _ _)
      | (with_reducible exact ih6 _ _ _ _ _ _ _ _ _ _ _)
      | (with_reducible exact LeO.refl _)
      | (with_reducible exact LeO.none _)
      | (with_reducible refine LeO.ite ?_ ?_)
      | (with_reducible refine LeO.bind ?_ (fun _ => ?_))
      | exact ih0 _ _ _ _ _ _ _ _ _
      | exact ih1 _ _ _ _ _ _ _ _ _ _
      | exact ih2 _ _ _ _ _ _ _ _ _ _ _ _ _ _ _ _
      | exact ih3 _ _ _ _ _ _ _ _ _ _ _ _ _ _ _ _
      | exact ih4 _ _ _ _ _ _ _ _ _ _
      | exact ih5 _ _ _ _ _ _ _ _ _ _
      | exact ih6 _ _ _ _ _ _ _ _ _ _ _
      | exact LeO.none _
      | refine LeO.ite ?_ ?_
      | refine LeO.bind ?_ (fun _ => ?_)
set_option maxHeartbeats 8000000 in
set_option maxRecDepth 100000 in
theorem laws_FnDi.calls (k : Nat) (a0 : Int) (A1 : Option Addr) (c1 : Nat) (l1 : List Int) (r : Bool) (w : World) (hr1 : Kd.C (Kd.int .u8) w A1 l1.length l1) (hc1 : l1.length ≤ c1) (h : laws_FnDi.f k a0 l1 = some r) :
    Calls Try.prog 13 #[.int .u8 a0, .slice A1 l1.length c1] w fun e w' => e = .returned (.bool r) ∧ Below w.heap.size w w' := by
  have hu62 := Try.underlying62
  have hu65 := Try.underlying65
  have hfd65_1 : ∀ (x0_ x1_ x2_ x3_ x4_ x5_ : Value) (W : World), (Instr.field 65 (.agg #[x0_, x1_, x2_, x3_, x4_, x5_]) 1).run Try.prog W = .ok (x1_) W := fun x0_ x1_ x2_ x3_ x4_ x5_ W => by kernel_rfl
  have HR1 := Aside0.mk hr1
  have HC1 := Aside0.mk hc1
  clear hr1 hc1
  have HB := Aside0.mk (Below.refl w.heap.size w)
  have H : (if (l1.length : Int) > 2147483647 then (some true) else ((spec_DiOf.f (Int.tmod a0 4)).bind fun bt114 => (laws_FnDi.l0 k a0 l1 (Int.tmod a0 4) 0 bt114.1 bt114.2.1 bt114.2.2.1 bt114.2.2.2.1 bt114.2.2.2.2))) = some r := h
  clear h
  by_cases c3 : (l1.length : Int) > 2147483647
  · rw [if_pos c3] at H
    have c3b0 : decide (2147483647 < (l1.length : Int)) = true := decide_eq_true c3
    have c3b1 : decide (2147483647 < l1.length) = true := decide_eq_true (by omega)
    clear c3
    obtain rfl := Option.some.inj H
    go_enter Try.func13, Try.ntmps13
    go_wp2
    go_ret
    exact ⟨by first | rfl | (simp [errW_none, errW_some] <;> rfl) | (simp [*, errW_none, errW_some] <;> rfl), by repeat (first | (with_reducible first | exact HB.out | apply below_alloc | apply pw_below_drewN | apply below_drew1) | exact HB.out)⟩
  · rw [if_neg c3] at H
    have c3b0 : decide (2147483647 < (l1.length : Int)) = false := decide_eq_false c3
    have c3b1 : decide (2147483647 < l1.length) = false := decide_eq_false (by omega)
    clear c3
    replace H := Option.bind_eq_some_iff.mp H
    obtain ⟨⟨t114, t115, t116, t117, t118⟩, A40, H⟩ := H
    replace H : (laws_FnDi.l0 k a0 l1 (Int.tmod a0 4) 0 t114 t115 t116 t117 t118) = some r := H
    have A4 := Aside0.mk A40
    clear A40
    have H' := Aside0.mk H
    clear H
    go_enter Try.func13, Try.ntmps13
    go_wp2_with (first | ((with_reducible refine gate_callee (f := 33) rfl ?_); refine goesL_ (some 17) rfl rfl Try.func33 (by kernel_rfl) rfl #[.int .u8 (Int.tmod a0 4)] rfl (by (try simp only [List.map_toArray, List.map_cons, List.map_nil]); first | done | rfl | (simp only [List.length_drop, List.length_take]; rfl)) ?_; (with_reducible refine (spec_DiOf.calls (Int.tmod a0 4) t114 t115 t116 t117 t118 _ A4.out).mono ?_); rintro e w5 ⟨rfl, hb⟩; refine ⟨_, rfl, ?_⟩; have n0_ := Aside0.mk (below_step (by repeat (first | (with_reducible first | exact HB.out | apply below_alloc | apply pw_below_drewN | apply below_drew1) | exact HB.out)) hb); clear HB; have HB := n0_; clear n0_; (try clear hb); (try clear hb2); (try clear hk); (try clear hi)) | ((with_reducible refine gate_dst (N := 6) rfl ?_); refine box_event ?hg (N := 6) ?hd (cs := #[.bool false, .bool false, .bool false, .bool false, .bool false]) (t := 62) ?hr ?_; (case hd => rfl); (case hg => rfl); (case hr => first | (go_simp; done) | (go_simp; rfl)); intro gb119 hg w6 hbox hb; have n0_ := Aside0.mk (below_step (by repeat (first | (with_reducible first | exact HB.out | apply below_alloc | apply pw_below_drewN | apply below_drew1) | exact HB.out)) hb); have n1_ := Aside0.mk (hbox); have n2_ := Aside0.mk ((by rw [hg]; exact (below_size (by repeat (first | (with_reducible first | exact HB.out | apply below_alloc | apply pw_below_drewN | apply below_drew1) | exact HB.out))) : w.heap.size ≤ gb119)); have n3_ := Aside0.mk ((by rw [hg]; exact (below_size (by repeat (first | (with_reducible first | exact HB.out | apply below_alloc | apply pw_below_drewN | apply below_drew1) | exact HB.out))) : w.heap.size ≤ gb119)); clear HB; have HB := n0_; have BK119 := n1_; have GW119 := n2_; have GE119 := n3_; clear n0_ n1_ n2_ n3_; clear hb hbox hg; have hcz7_0 : w6.cell? ⟨gb119, 0, none⟩ = some (.bool false) := (blk_cell BK119.out 0).trans rfl; have hcz7_1 : w6.cell? ⟨gb119, 1, none⟩ = some (.bool false) := (blk_cell BK119.out 1).trans rfl; have hcz7_2 : w6.cell? ⟨gb119, 2, none⟩ = some (.bool false) := (blk_cell BK119.out 2).trans rfl; have hcz7_3 : w6.cell? ⟨gb119, 3, none⟩ = some (.bool false) := (blk_cell BK119.out 3).trans rfl; have hcz7_4 : w6.cell? ⟨gb119, 4, none⟩ = some (.bool false) := (blk_cell BK119.out 4).trans rfl; have hfz7_0 := blk_frozen BK119.out 0; have hfz7_1 := blk_frozen BK119.out 1; have hfz7_2 := blk_frozen BK119.out 2; have hfz7_3 := blk_frozen BK119.out 3; have hfz7_4 := blk_frozen BK119.out 4))
    go_loopg [5, 7] k (fun kq v5 v7 w' => ∃ (x5_1 : Int) (x7_1 : Int) (x120000_1 : Bool) (x120001_1 : Bool) (x120002_1 : Bool) (x120003_1 : Bool) (x120004_1 : Bool), v5 = .int .u8 x5_1 ∧ v7 = .int .i64 x7_1 ∧ Aside0 (laws_FnDi.l0 kq a0 l1 x5_1 x7_1 x120000_1 x120001_1 x120002_1 x120003_1 x120004_1 = some r) ∧ Aside0 (kq ≤ k) ∧ Aside0 (w'.heap[gb119]? = some (.cells #[.bool x120000_1, .bool x120001_1, .bool x120002_1, .bool x120003_1, .bool x120004_1] 62 (0, 0))) ∧ Aside0 (Below w.heap.size w w'))
    case atStart => exact ⟨(Int.tmod a0 4), (0), (t114), (t115), (t116), (t117), (t118), (by first | rfl | (simp; done) | (simp [*]; done)), (by first | rfl | (simp; done) | (simp [*]; done)), H', ⟨Nat.le_refl _⟩, ⟨by (with_reducible repeat (first | refine blk_drewN ?_ _ | refine blk_drew ?_ | refine blk_alloc ?_ _)); refine blk_put (cs := #[.bool t114, .bool t115, .bool t116, .bool t117, .bool false]) ?_ 4 _ rfl; (with_reducible repeat (first | refine blk_drewN ?_ _ | refine blk_drew ?_ | refine blk_alloc ?_ _)); refine blk_put (cs := #[.bool t114, .bool t115, .bool t116, .bool false, .bool false]) ?_ 3 _ rfl; (with_reducible repeat (first | refine blk_drewN ?_ _ | refine blk_drew ?_ | refine blk_alloc ?_ _)); refine blk_put (cs := #[.bool t114, .bool t115, .bool false, .bool false, .bool false]) ?_ 2 _ rfl; (with_reducible repeat (first | refine blk_drewN ?_ _ | refine blk_drew ?_ | refine blk_alloc ?_ _)); refine blk_put (cs := #[.bool t114, .bool false, .bool false, .bool false, .bool false]) ?_ 1 _ rfl; (with_reducible repeat (first | refine blk_drewN ?_ _ | refine blk_drew ?_ | refine blk_alloc ?_ _)); refine blk_put (cs := #[.bool false, .bool false, .bool false, .bool false, .bool false]) ?_ 0 _ rfl; (with_reducible repeat (first | refine blk_drewN ?_ _ | refine blk_drew ?_ | refine blk_alloc ?_ _)); exact BK119.out⟩, ⟨by repeat (first | (with_reducible first | exact HB.out | apply below_alloc | apply pw_below_drewN | apply below_drew1 | refine below_set ?_ GE119.out) | exact HB.out)⟩⟩
    case round =>
      clear H'
      try clear c1
      try clear p2
      try clear c3
      try clear c3b0
      try clear c3b1
      try clear hcz7_0
      try clear hcz7_1
      try clear hcz7_2
      try clear hcz7_3
      try clear hcz7_4
      try clear hfz7_0
      try clear hfz7_1
      try clear hfz7_2
      try clear hfz7_3
      try clear hfz7_4
      obtain ⟨x5_1, x7_1, x120000_1, x120001_1, x120002_1, x120003_1, x120004_1, rfl, rfl, HA, HK1, BK119, HB⟩ := hrel
      cases gk with
      | zero => exact absurd HA.out (by simp [laws_FnDi.l0])
      | succ k1 =>
        have H := HA.out
        clear HA
        simp only [laws_FnDi.l0] at H
        have HC8 := Aside0.mk H
        clear H
        go_upto_region 5 with (fail)
        go_cut [25] (fun v25 wc => ∃ (kq : Nat) (x25_7 : Bool), v25 = .bool x25_7 ∧ Aside0 (laws_FnDi.j1 kq a0 l1 x5_1 x7_1 x25_7 x120000_1 x120001_1 x120002_1 x120003_1 x120004_1 = some r) ∧ Aside0 (kq ≤ k1) ∧ Aside0 (wc.heap[gb119]? = some (.cells #[.bool x120000_1, .bool x120001_1, .bool x120002_1, .bool x120003_1, .bool x120004_1] 62 (0, 0))) ∧ Aside0 (Below w.heap.size w wc))
        case first =>
          have H := HC8.out
          clear HC8
          by_cases c9 : x7_1 ≤ (l1.length : Int)
          · rw [if_pos c9] at H
            have c9b0 : decide (x7_1 ≤ (l1.length : Int)) = true := decide_eq_true c9
            clear c9
            (first | rw [c9b0] | (simp only [i64_w, i32_w]; rw [c9b0]) | skip)
            have H' := Aside0.mk H
            clear H
            go_wp2
            go_meet
            case rel => exact ⟨_, (decide (x7_1 ≤ 40)), (by first | rfl | (simp; done) | (simp [*]; done)), H', ⟨by have := HK1.out; first | omega | exact Nat.le_refl _⟩, ⟨by (with_reducible repeat (first | refine blk_drewN ?_ _ | refine blk_drew ?_ | refine blk_alloc ?_ _)); exact BK119.out⟩, ⟨by repeat (first | (with_reducible first | exact HB.out | apply below_alloc | apply pw_below_drewN | apply below_drew1 | refine below_set ?_ GE119.out) | exact HB.out)⟩⟩
          · rw [if_neg c9] at H
            have c9b0 : decide (x7_1 ≤ (l1.length : Int)) = false := decide_eq_false c9
            clear c9
            (first | rw [c9b0] | (simp only [i64_w, i32_w]; rw [c9b0]) | skip)
            have H' := Aside0.mk H
            clear H
            go_wp2
            go_meet
            case rel => exact ⟨_, (false), (by first | rfl | (simp; done) | (simp [*]; done)), H', ⟨by have := HK1.out; first | omega | exact Nat.le_refl _⟩, ⟨by (with_reducible repeat (first | refine blk_drewN ?_ _ | refine blk_drew ?_ | refine blk_alloc ?_ _)); exact BK119.out⟩, ⟨by repeat (first | (with_reducible first | exact HB.out | apply below_alloc | apply pw_below_drewN | apply below_drew1 | refine below_set ?_ GE119.out) | exact HB.out)⟩⟩
        case rest =>
          clear HC8
          try clear c1
          try clear p2
          try clear c3
          try clear c3b0
          try clear c3b1
          try clear c9
          try clear c9b0
          try clear hcz7_0
          try clear hcz7_1
          try clear hcz7_2
          try clear hcz7_3
          try clear hcz7_4
          try clear hfz7_0
          try clear hfz7_1
          try clear hfz7_2
          try clear hfz7_3
          try clear hfz7_4
          try clear p2
          obtain ⟨kq, x25_7, rfl, HA, HJ7, BK119, HB⟩ := hcut
          cases kq with
          | zero => exact absurd HA.out (by simp [laws_FnDi.j1])
          | succ kj7 =>
            have H := HA.out
            clear HA
            simp only [laws_FnDi.j1] at H
            by_cases c10 : x25_7 = true
            · subst c10
              have H1 : ((impl_DiTells.f x5_1).bind fun bt126 => (if (bt126.1 != x120000_1) = true then (laws_FnDi.j2 kj7 a0 l1 x5_1 x7_1 true x120000_1 x120001_1 x120002_1 x120003_1 x120004_1 bt126.1 bt126.2.1 bt126.2.2.1 bt126.2.2.2.1 bt126.2.2.2.2.1 bt126.2.2.2.2.2) else (if (bt126.2.2.1 != x120000_1) = true then (laws_FnDi.j2 kj7 a0 l1 x5_1 x7_1 true x120000_1 x120001_1 x120002_1 x120003_1 x120004_1 bt126.1 bt126.2.1 bt126.2.2.1 bt126.2.2.2.1 bt126.2.2.2.2.1 bt126.2.2.2.2.2) else (laws_FnDi.j2 kj7 a0 l1 x5_1 x7_1 (bt126.2.1 != x120001_1) x120000_1 x120001_1 x120002_1 x120003_1 x120004_1 bt126.1 bt126.2.1 bt126.2.2.1 bt126.2.2.2.1 bt126.2.2.2.2.1 bt126.2.2.2.2.2)))) = some r := by rw [if_pos rfl] at H; exact H
              clear H
              have H := H1
              clear H1
              replace H := Option.bind_eq_some_iff.mp H
              obtain ⟨⟨t126, t127, t128, t129, t130, t131⟩, A110, H⟩ := H
              replace H : (if (t126 != x120000_1) = true then (laws_FnDi.j2 kj7 a0 l1 x5_1 x7_1 true x120000_1 x120001_1 x120002_1 x120003_1 x120004_1 t126 t127 t128 t129 t130 t131) else (if (t128 != x120000_1) = true then (laws_FnDi.j2 kj7 a0 l1 x5_1 x7_1 true x120000_1 x120001_1 x120002_1 x120003_1 x120004_1 t126 t127 t128 t129 t130 t131) else (laws_FnDi.j2 kj7 a0 l1 x5_1 x7_1 (t127 != x120001_1) x120000_1 x120001_1 x120002_1 x120003_1 x120004_1 t126 t127 t128 t129 t130 t131))) = some r := H
              have A11 := Aside0.mk A110
              clear A110
              have HC12 := Aside0.mk H
              clear H
              go_upto_region 8 with (first | ((with_reducible refine gate_callee (f := 34) rfl ?_); refine goesL_ (some 29) rfl rfl Try.func34 (by kernel_rfl) rfl #[.int .u8 x5_1] rfl (by (try simp only [List.map_toArray, List.map_cons, List.map_nil]); first | done | rfl | (simp only [List.length_drop, List.length_take]; rfl)) ?_; (with_reducible refine (impl_DiTells.calls x5_1 t126 t127 t128 t129 t130 t131 _ A11.out).mono ?_); rintro e w13 ⟨rfl, hb⟩; refine ⟨_, rfl, ?_⟩; have n0_ := Aside0.mk (blk_below (g := gb119) (o := .cells #[.bool x120000_1, .bool x120001_1, .bool x120002_1, .bool x120003_1, .bool x120004_1] 62 (0, 0)) (by (with_reducible repeat (first | refine blk_drewN ?_ _ | refine blk_drew ?_ | refine blk_alloc ?_ _)); exact BK119.out) hb); have n1_ := Aside0.mk (below_step (by repeat (first | (with_reducible first | exact HB.out | apply below_alloc | apply pw_below_drewN | apply below_drew1 | refine below_set ?_ GE119.out) | exact HB.out)) hb); clear BK119; clear HB; have BK119 := n0_; have HB := n1_; clear n0_ n1_; (try clear hb); (try clear hb2); (try clear hk); (try clear hi)) | ((with_reducible refine gate_dst (N := 8) rfl ?_); refine box_event ?hg (N := 8) ?hd (cs := #[.bool false, .bool false, .bool false, .bool false, .bool false, .int .i64 0]) (t := 65) ?hr ?_; (case hd => rfl); (case hg => rfl); (case hr => first | (go_simp; done) | (go_simp; rfl)); intro gb132 hg w14 hbox hb; have n0_ := Aside0.mk (blk_below (g := gb119) (o := .cells #[.bool x120000_1, .bool x120001_1, .bool x120002_1, .bool x120003_1, .bool x120004_1] 62 (0, 0)) (by (with_reducible repeat (first | refine blk_drewN ?_ _ | refine blk_drew ?_ | refine blk_alloc ?_ _)); exact BK119.out) hb); have n1_ := Aside0.mk (below_step (by repeat (first | (with_reducible first | exact HB.out | apply below_alloc | apply pw_below_drewN | apply below_drew1 | refine below_set ?_ GE119.out) | exact HB.out)) hb); have n2_ := Aside0.mk (hbox); have n3_ := Aside0.mk ((by rw [hg]; exact (below_size (by repeat (first | (with_reducible first | exact HB.out | apply below_alloc | apply pw_below_drewN | apply below_drew1 | refine below_set ?_ GE119.out) | exact HB.out))) : w.heap.size ≤ gb132)); have n4_ := Aside0.mk ((by rw [hg]; exact (below_size (by repeat (first | (with_reducible first | exact HB.out | apply below_alloc | apply pw_below_drewN | apply below_drew1 | refine below_set ?_ GE119.out) | exact HB.out))) : w.heap.size ≤ gb132)); have n5_ := Aside0.mk ((by rw [hg]; exact Nat.ne_of_lt (blk_lt (g := gb119) (o := .cells #[.bool x120000_1, .bool x120001_1, .bool x120002_1, .bool x120003_1, .bool x120004_1] 62 (0, 0)) (by (with_reducible repeat (first | refine blk_drewN ?_ _ | refine blk_drew ?_ | refine blk_alloc ?_ _)); exact BK119.out)) : gb119 ≠ gb132)); have n6_ := Aside0.mk ((by rw [hg]; exact Nat.ne_of_gt (blk_lt (g := gb119) (o := .cells #[.bool x120000_1, .bool x120001_1, .bool x120002_1, .bool x120003_1, .bool x120004_1] 62 (0, 0)) (by (with_reducible repeat (first | refine blk_drewN ?_ _ | refine blk_drew ?_ | refine blk_alloc ?_ _)); exact BK119.out)) : gb132 ≠ gb119)); clear BK119; clear HB; have BK119 := n0_; have HB := n1_; have BK132 := n2_; have GW132 := n3_; have GE132 := n4_; have NB119_132 := n5_; have NB132_119 := n6_; clear n0_ n1_ n2_ n3_ n4_ n5_ n6_; clear hb hbox hg; have hnb15 := NB132_119.out; have hnc15 := NB119_132.out; have hcz16_0 : w14.cell? ⟨gb132, 0, none⟩ = some (.bool false) := (blk_cell BK132.out 0).trans rfl; have hcz16_1 : w14.cell? ⟨gb132, 1, none⟩ = some (.bool false) := (blk_cell BK132.out 1).trans rfl; have hcz16_2 : w14.cell? ⟨gb132, 2, none⟩ = some (.bool false) := (blk_cell BK132.out 2).trans rfl; have hcz16_3 : w14.cell? ⟨gb132, 3, none⟩ = some (.bool false) := (blk_cell BK132.out 3).trans rfl; have hcz16_4 : w14.cell? ⟨gb132, 4, none⟩ = some (.bool false) := (blk_cell BK132.out 4).trans rfl; have hcz16_5 : w14.cell? ⟨gb132, 5, none⟩ = some (.int .i64 0) := (blk_cell BK132.out 5).trans rfl; have hfz16_0 := blk_frozen BK132.out 0; have hfz16_1 := blk_frozen BK132.out 1; have hfz16_2 := blk_frozen BK132.out 2; have hfz16_3 := blk_frozen BK132.out 3; have hfz16_4 := blk_frozen BK132.out 4; have hfz16_5 := blk_frozen BK132.out 5))
              (try simp only [Act.put, List.setIfInBounds_toArray, List.set_cons_zero, List.set_cons_succ])
              go_cut [48] (fun v48 wc => ∃ (kq : Nat) (x48_11 : Bool), v48 = .bool x48_11 ∧ Aside0 (laws_FnDi.j2 kq a0 l1 x5_1 x7_1 x48_11 x120000_1 x120001_1 x120002_1 x120003_1 x120004_1 t126 t127 t128 t129 t130 t131 = some r) ∧ Aside0 (kq ≤ kj7) ∧ Aside0 (wc.heap[gb119]? = some (.cells #[.bool x120000_1, .bool x120001_1, .bool x120002_1, .bool x120003_1, .bool x120004_1] 62 (0, 0))) ∧ Aside0 (wc.heap[gb132]? = some (.cells #[.bool t126, .bool t127, .bool t128, .bool t129, .bool t130, .int .i64 t131] 65 (0, 0))) ∧ Aside0 (Below w.heap.size w wc))
              case first =>
                have H := HC12.out
                clear HC12
                by_cases c17 : (t126 != x120000_1) = true
                · rw [if_pos c17] at H
                  have c17b0 : (t126 != x120000_1) = true := c17
                  (try (have c17b1 : decide (t126 = x120000_1) = false := by simpa using c17))
                  (try (have c17b2 : (t126 == x120000_1) = false := by simpa using c17))
                  (try (have c17b3 : ¬ (t126 = x120000_1) := by simpa using c17))
                  clear c17
                  (first | rw [c17b0] | (simp only [i64_w, i32_w]; rw [c17b0]) | skip)
                  have H' := Aside0.mk H
                  clear H
                  have hnb18 := NB132_119.out
                  have hnc18 := NB119_132.out
                  have hcz19_0 : w14.cell? ⟨gb132, 0, none⟩ = some (.bool false) := (blk_cell BK132.out 0).trans rfl
                  have hcz19_1 : w14.cell? ⟨gb132, 1, none⟩ = some (.bool false) := (blk_cell BK132.out 1).trans rfl
                  have hcz19_2 : w14.cell? ⟨gb132, 2, none⟩ = some (.bool false) := (blk_cell BK132.out 2).trans rfl
                  have hcz19_3 : w14.cell? ⟨gb132, 3, none⟩ = some (.bool false) := (blk_cell BK132.out 3).trans rfl
                  have hcz19_4 : w14.cell? ⟨gb132, 4, none⟩ = some (.bool false) := (blk_cell BK132.out 4).trans rfl
                  have hcz19_5 : w14.cell? ⟨gb132, 5, none⟩ = some (.int .i64 0) := (blk_cell BK132.out 5).trans rfl
                  have hfz19_0 := blk_frozen BK132.out 0
                  have hfz19_1 := blk_frozen BK132.out 1
                  have hfz19_2 := blk_frozen BK132.out 2
                  have hfz19_3 := blk_frozen BK132.out 3
                  have hfz19_4 := blk_frozen BK132.out 4
                  have hfz19_5 := blk_frozen BK132.out 5
                  have hcz20_0 : w14.cell? ⟨gb119, 0, none⟩ = some (.bool x120000_1) := (blk_cell BK119.out 0).trans rfl
                  have hcz20_1 : w14.cell? ⟨gb119, 1, none⟩ = some (.bool x120001_1) := (blk_cell BK119.out 1).trans rfl
                  have hcz20_2 : w14.cell? ⟨gb119, 2, none⟩ = some (.bool x120002_1) := (blk_cell BK119.out 2).trans rfl
                  have hcz20_3 : w14.cell? ⟨gb119, 3, none⟩ = some (.bool x120003_1) := (blk_cell BK119.out 3).trans rfl
                  have hcz20_4 : w14.cell? ⟨gb119, 4, none⟩ = some (.bool x120004_1) := (blk_cell BK119.out 4).trans rfl
                  have hfz20_0 := blk_frozen BK119.out 0
                  have hfz20_1 := blk_frozen BK119.out 1
                  have hfz20_2 := blk_frozen BK119.out 2
                  have hfz20_3 := blk_frozen BK119.out 3
                  have hfz20_4 := blk_frozen BK119.out 4
                  go_wp2
                  go_meet
                  case rel => exact ⟨_, (true), (by first | rfl | (simp; done) | (simp [*]; done)), H', ⟨by have := HK1.out; have := HJ7.out; first | omega | exact Nat.le_refl _⟩, ⟨by (with_reducible repeat (first | refine blk_drewN ?_ _ | refine blk_drew ?_ | refine blk_alloc ?_ _)); refine blk_far ?_ NB119_132.out _; (with_reducible repeat (first | refine blk_drewN ?_ _ | refine blk_drew ?_ | refine blk_alloc ?_ _)); refine blk_far ?_ NB119_132.out _; (with_reducible repeat (first | refine blk_drewN ?_ _ | refine blk_drew ?_ | refine blk_alloc ?_ _)); refine blk_far ?_ NB119_132.out _; (with_reducible repeat (first | refine blk_drewN ?_ _ | refine blk_drew ?_ | refine blk_alloc ?_ _)); refine blk_far ?_ NB119_132.out _; (with_reducible repeat (first | refine blk_drewN ?_ _ | refine blk_drew ?_ | refine blk_alloc ?_ _)); refine blk_far ?_ NB119_132.out _; (with_reducible repeat (first | refine blk_drewN ?_ _ | refine blk_drew ?_ | refine blk_alloc ?_ _)); refine blk_far ?_ NB119_132.out _; (with_reducible repeat (first | refine blk_drewN ?_ _ | refine blk_drew ?_ | refine blk_alloc ?_ _)); exact BK119.out⟩, ⟨by (with_reducible repeat (first | refine blk_drewN ?_ _ | refine blk_drew ?_ | refine blk_alloc ?_ _)); refine blk_put (cs := #[.bool t126, .bool t127, .bool t128, .bool t129, .bool t130, .int .i64 0]) ?_ 5 _ rfl; (with_reducible repeat (first | refine blk_drewN ?_ _ | refine blk_drew ?_ | refine blk_alloc ?_ _)); refine blk_put (cs := #[.bool t126, .bool t127, .bool t128, .bool t129, .bool false, .int .i64 0]) ?_ 4 _ rfl; (with_reducible repeat (first | refine blk_drewN ?_ _ | refine blk_drew ?_ | refine blk_alloc ?_ _)); refine blk_put (cs := #[.bool t126, .bool t127, .bool t128, .bool false, .bool false, .int .i64 0]) ?_ 3 _ rfl; (with_reducible repeat (first | refine blk_drewN ?_ _ | refine blk_drew ?_ | refine blk_alloc ?_ _)); refine blk_put (cs := #[.bool t126, .bool t127, .bool false, .bool false, .bool false, .int .i64 0]) ?_ 2 _ rfl; (with_reducible repeat (first | refine blk_drewN ?_ _ | refine blk_drew ?_ | refine blk_alloc ?_ _)); refine blk_put (cs := #[.bool t126, .bool false, .bool false, .bool false, .bool false, .int .i64 0]) ?_ 1 _ rfl; (with_reducible repeat (first | refine blk_drewN ?_ _ | refine blk_drew ?_ | refine blk_alloc ?_ _)); refine blk_put (cs := #[.bool false, .bool false, .bool false, .bool false, .bool false, .int .i64 0]) ?_ 0 _ rfl; (with_reducible repeat (first | refine blk_drewN ?_ _ | refine blk_drew ?_ | refine blk_alloc ?_ _)); exact BK132.out⟩, ⟨by repeat (first | (with_reducible first | exact HB.out | apply below_alloc | apply pw_below_drewN | apply below_drew1 | refine below_set ?_ GE119.out | refine below_set ?_ GE132.out) | exact HB.out)⟩⟩
                · rw [if_neg c17] at H
                  have c17b0 : (t126 != x120000_1) = false := by simpa using c17
                  (try (have c17b1 : decide (t126 = x120000_1) = true := by simpa using c17))
                  (try (have c17b2 : (t126 == x120000_1) = true := by simpa using c17))
                  clear c17
                  (first | rw [c17b0] | (simp only [i64_w, i32_w]; rw [c17b0]) | skip)
                  by_cases c21 : (t128 != x120000_1) = true
                  · rw [if_pos c21] at H
                    have c21b0 : (t128 != x120000_1) = true := c21
                    (try (have c21b1 : decide (t128 = x120000_1) = false := by simpa using c21))
                    (try (have c21b2 : (t128 == x120000_1) = false := by simpa using c21))
                    (try (have c21b3 : ¬ (t128 = x120000_1) := by simpa using c21))
                    clear c21
                    have H' := Aside0.mk H
                    clear H
                    have hnb22 := NB132_119.out
                    have hnc22 := NB119_132.out
                    have hcz23_0 : w14.cell? ⟨gb132, 0, none⟩ = some (.bool false) := (blk_cell BK132.out 0).trans rfl
                    have hcz23_1 : w14.cell? ⟨gb132, 1, none⟩ = some (.bool false) := (blk_cell BK132.out 1).trans rfl
                    have hcz23_2 : w14.cell? ⟨gb132, 2, none⟩ = some (.bool false) := (blk_cell BK132.out 2).trans rfl
                    have hcz23_3 : w14.cell? ⟨gb132, 3, none⟩ = some (.bool false) := (blk_cell BK132.out 3).trans rfl
                    have hcz23_4 : w14.cell? ⟨gb132, 4, none⟩ = some (.bool false) := (blk_cell BK132.out 4).trans rfl
                    have hcz23_5 : w14.cell? ⟨gb132, 5, none⟩ = some (.int .i64 0) := (blk_cell BK132.out 5).trans rfl
                    have hfz23_0 := blk_frozen BK132.out 0
                    have hfz23_1 := blk_frozen BK132.out 1
                    have hfz23_2 := blk_frozen BK132.out 2
                    have hfz23_3 := blk_frozen BK132.out 3
                    have hfz23_4 := blk_frozen BK132.out 4
                    have hfz23_5 := blk_frozen BK132.out 5
                    have hcz24_0 : w14.cell? ⟨gb119, 0, none⟩ = some (.bool x120000_1) := (blk_cell BK119.out 0).trans rfl
                    have hcz24_1 : w14.cell? ⟨gb119, 1, none⟩ = some (.bool x120001_1) := (blk_cell BK119.out 1).trans rfl
                    have hcz24_2 : w14.cell? ⟨gb119, 2, none⟩ = some (.bool x120002_1) := (blk_cell BK119.out 2).trans rfl
                    have hcz24_3 : w14.cell? ⟨gb119, 3, none⟩ = some (.bool x120003_1) := (blk_cell BK119.out 3).trans rfl
                    have hcz24_4 : w14.cell? ⟨gb119, 4, none⟩ = some (.bool x120004_1) := (blk_cell BK119.out 4).trans rfl
                    have hfz24_0 := blk_frozen BK119.out 0
                    have hfz24_1 := blk_frozen BK119.out 1
                    have hfz24_2 := blk_frozen BK119.out 2
                    have hfz24_3 := blk_frozen BK119.out 3
                    have hfz24_4 := blk_frozen BK119.out 4
                    go_wp2
                    go_meet
                    case rel => exact ⟨_, (true), (by first | rfl | (simp; done) | (simp [*]; done)), H', ⟨by have := HK1.out; have := HJ7.out; first | omega | exact Nat.le_refl _⟩, ⟨by (with_reducible repeat (first | refine blk_drewN ?_ _ | refine blk_drew ?_ | refine blk_alloc ?_ _)); refine blk_far ?_ NB119_132.out _; (with_reducible repeat (first | refine blk_drewN ?_ _ | refine blk_drew ?_ | refine blk_alloc ?_ _)); refine blk_far ?_ NB119_132.out _; (with_reducible repeat (first | refine blk_drewN ?_ _ | refine blk_drew ?_ | refine blk_alloc ?_ _)); refine blk_far ?_ NB119_132.out _; (with_reducible repeat (first | refine blk_drewN ?_ _ | refine blk_drew ?_ | refine blk_alloc ?_ _)); refine blk_far ?_ NB119_132.out _; (with_reducible repeat (first | refine blk_drewN ?_ _ | refine blk_drew ?_ | refine blk_alloc ?_ _)); refine blk_far ?_ NB119_132.out _; (with_reducible repeat (first | refine blk_drewN ?_ _ | refine blk_drew ?_ | refine blk_alloc ?_ _)); refine blk_far ?_ NB119_132.out _; (with_reducible repeat (first | refine blk_drewN ?_ _ | refine blk_drew ?_ | refine blk_alloc ?_ _)); exact BK119.out⟩, ⟨by (with_reducible repeat (first | refine blk_drewN ?_ _ | refine blk_drew ?_ | refine blk_alloc ?_ _)); refine blk_put (cs := #[.bool t126, .bool t127, .bool t128, .bool t129, .bool t130, .int .i64 0]) ?_ 5 _ rfl; (with_reducible repeat (first | refine blk_drewN ?_ _ | refine blk_drew ?_ | refine blk_alloc ?_ _)); refine blk_put (cs := #[.bool t126, .bool t127, .bool t128, .bool t129, .bool false, .int .i64 0]) ?_ 4 _ rfl; (with_reducible repeat (first | refine blk_drewN ?_ _ | refine blk_drew ?_ | refine blk_alloc ?_ _)); refine blk_put (cs := #[.bool t126, .bool t127, .bool t128, .bool false, .bool false, .int .i64 0]) ?_ 3 _ rfl; (with_reducible repeat (first | refine blk_drewN ?_ _ | refine blk_drew ?_ | refine blk_alloc ?_ _)); refine blk_put (cs := #[.bool t126, .bool t127, .bool false, .bool false, .bool false, .int .i64 0]) ?_ 2 _ rfl; (with_reducible repeat (first | refine blk_drewN ?_ _ | refine blk_drew ?_ | refine blk_alloc ?_ _)); refine blk_put (cs := #[.bool t126, .bool false, .bool false, .bool false, .bool false, .int .i64 0]) ?_ 1 _ rfl; (with_reducible repeat (first | refine blk_drewN ?_ _ | refine blk_drew ?_ | refine blk_alloc ?_ _)); refine blk_put (cs := #[.bool false, .bool false, .bool false, .bool false, .bool false, .int .i64 0]) ?_ 0 _ rfl; (with_reducible repeat (first | refine blk_drewN ?_ _ | refine blk_drew ?_ | refine blk_alloc ?_ _)); exact BK132.out⟩, ⟨by repeat (first | (with_reducible first | exact HB.out | apply below_alloc | apply pw_below_drewN | apply below_drew1 | refine below_set ?_ GE119.out | refine below_set ?_ GE132.out) | exact HB.out)⟩⟩
                  · rw [if_neg c21] at H
                    have c21b0 : (t128 != x120000_1) = false := by simpa using c21
                    (try (have c21b1 : decide (t128 = x120000_1) = true := by simpa using c21))
                    (try (have c21b2 : (t128 == x120000_1) = true := by simpa using c21))
                    clear c21
                    have H' := Aside0.mk H
                    clear H
                    have hnb25 := NB132_119.out
                    have hnc25 := NB119_132.out
                    have hcz26_0 : w14.cell? ⟨gb132, 0, none⟩ = some (.bool false) := (blk_cell BK132.out 0).trans rfl
                    have hcz26_1 : w14.cell? ⟨gb132, 1, none⟩ = some (.bool false) := (blk_cell BK132.out 1).trans rfl
                    have hcz26_2 : w14.cell? ⟨gb132, 2, none⟩ = some (.bool false) := (blk_cell BK132.out 2).trans rfl
                    have hcz26_3 : w14.cell? ⟨gb132, 3, none⟩ = some (.bool false) := (blk_cell BK132.out 3).trans rfl
                    have hcz26_4 : w14.cell? ⟨gb132, 4, none⟩ = some (.bool false) := (blk_cell BK132.out 4).trans rfl
                    have hcz26_5 : w14.cell? ⟨gb132, 5, none⟩ = some (.int .i64 0) := (blk_cell BK132.out 5).trans rfl
                    have hfz26_0 := blk_frozen BK132.out 0
                    have hfz26_1 := blk_frozen BK132.out 1
                    have hfz26_2 := blk_frozen BK132.out 2
                    have hfz26_3 := blk_frozen BK132.out 3
                    have hfz26_4 := blk_frozen BK132.out 4
                    have hfz26_5 := blk_frozen BK132.out 5
                    have hcz27_0 : w14.cell? ⟨gb119, 0, none⟩ = some (.bool x120000_1) := (blk_cell BK119.out 0).trans rfl
                    have hcz27_1 : w14.cell? ⟨gb119, 1, none⟩ = some (.bool x120001_1) := (blk_cell BK119.out 1).trans rfl
                    have hcz27_2 : w14.cell? ⟨gb119, 2, none⟩ = some (.bool x120002_1) := (blk_cell BK119.out 2).trans rfl
                    have hcz27_3 : w14.cell? ⟨gb119, 3, none⟩ = some (.bool x120003_1) := (blk_cell BK119.out 3).trans rfl
                    have hcz27_4 : w14.cell? ⟨gb119, 4, none⟩ = some (.bool x120004_1) := (blk_cell BK119.out 4).trans rfl
                    have hfz27_0 := blk_frozen BK119.out 0
                    have hfz27_1 := blk_frozen BK119.out 1
                    have hfz27_2 := blk_frozen BK119.out 2
                    have hfz27_3 := blk_frozen BK119.out 3
                    have hfz27_4 := blk_frozen BK119.out 4
                    go_wp2
                    go_meet
                    case rel => exact ⟨_, ((t127 != x120001_1)), (by first | rfl | (simp; done) | (simp [*]; done)), H', ⟨by have := HK1.out; have := HJ7.out; first | omega | exact Nat.le_refl _⟩, ⟨by (with_reducible repeat (first | refine blk_drewN ?_ _ | refine blk_drew ?_ | refine blk_alloc ?_ _)); refine blk_far ?_ NB119_132.out _; (with_reducible repeat (first | refine blk_drewN ?_ _ | refine blk_drew ?_ | refine blk_alloc ?_ _)); refine blk_far ?_ NB119_132.out _; (with_reducible repeat (first | refine blk_drewN ?_ _ | refine blk_drew ?_ | refine blk_alloc ?_ _)); refine blk_far ?_ NB119_132.out _; (with_reducible repeat (first | refine blk_drewN ?_ _ | refine blk_drew ?_ | refine blk_alloc ?_ _)); refine blk_far ?_ NB119_132.out _; (with_reducible repeat (first | refine blk_drewN ?_ _ | refine blk_drew ?_ | refine blk_alloc ?_ _)); refine blk_far ?_ NB119_132.out _; (with_reducible repeat (first | refine blk_drewN ?_ _ | refine blk_drew ?_ | refine blk_alloc ?_ _)); refine blk_far ?_ NB119_132.out _; (with_reducible repeat (first | refine blk_drewN ?_ _ | refine blk_drew ?_ | refine blk_alloc ?_ _)); exact BK119.out⟩, ⟨by (with_reducible repeat (first | refine blk_drewN ?_ _ | refine blk_drew ?_ | refine blk_alloc ?_ _)); refine blk_put (cs := #[.bool t126, .bool t127, .bool t128, .bool t129, .bool t130, .int .i64 0]) ?_ 5 _ rfl; (with_reducible repeat (first | refine blk_drewN ?_ _ | refine blk_drew ?_ | refine blk_alloc ?_ _)); refine blk_put (cs := #[.bool t126, .bool t127, .bool t128, .bool t129, .bool false, .int .i64 0]) ?_ 4 _ rfl; (with_reducible repeat (first | refine blk_drewN ?_ _ | refine blk_drew ?_ | refine blk_alloc ?_ _)); refine blk_put (cs := #[.bool t126, .bool t127, .bool t128, .bool false, .bool false, .int .i64 0]) ?_ 3 _ rfl; (with_reducible repeat (first | refine blk_drewN ?_ _ | refine blk_drew ?_ | refine blk_alloc ?_ _)); refine blk_put (cs := #[.bool t126, .bool t127, .bool false, .bool false, .bool false, .int .i64 0]) ?_ 2 _ rfl; (with_reducible repeat (first | refine blk_drewN ?_ _ | refine blk_drew ?_ | refine blk_alloc ?_ _)); refine blk_put (cs := #[.bool t126, .bool false, .bool false, .bool false, .bool false, .int .i64 0]) ?_ 1 _ rfl; (with_reducible repeat (first | refine blk_drewN ?_ _ | refine blk_drew ?_ | refine blk_alloc ?_ _)); refine blk_put (cs := #[.bool false, .bool false, .bool false, .bool false, .bool false, .int .i64 0]) ?_ 0 _ rfl; (with_reducible repeat (first | refine blk_drewN ?_ _ | refine blk_drew ?_ | refine blk_alloc ?_ _)); exact BK132.out⟩, ⟨by repeat (first | (with_reducible first | exact HB.out | apply below_alloc | apply pw_below_drewN | apply below_drew1 | refine below_set ?_ GE119.out | refine below_set ?_ GE132.out) | exact HB.out)⟩⟩
              case rest =>
                clear HC12
                try clear c1
                try clear c2
                try clear p2
                try clear c3
                try clear c3b0
                try clear c3b1
                try clear c9
                try clear c9b0
                try clear c10
                try clear c13
                try clear c15
                try clear c17
                try clear c17b0
                try clear c17b1
                try clear c17b2
                try clear c18
                try clear c21
                try clear c21b0
                try clear c21b1
                try clear c21b2
                try clear c22
                try clear c25
                try clear hcz16_0
                try clear hcz16_1
                try clear hcz16_2
                try clear hcz16_3
                try clear hcz16_4
                try clear hcz16_5
                try clear hcz19_0
                try clear hcz19_1
                try clear hcz19_2
                try clear hcz19_3
                try clear hcz19_4
                try clear hcz19_5
                try clear hcz20_0
                try clear hcz20_1
                try clear hcz20_2
                try clear hcz20_3
                try clear hcz20_4
                try clear hcz23_0
                try clear hcz23_1
                try clear hcz23_2
                try clear hcz23_3
                try clear hcz23_4
                try clear hcz23_5
                try clear hcz24_0
                try clear hcz24_1
                try clear hcz24_2
                try clear hcz24_3
                try clear hcz24_4
                try clear hcz26_0
                try clear hcz26_1
                try clear hcz26_2
                try clear hcz26_3
                try clear hcz26_4
                try clear hcz26_5
                try clear hcz27_0
                try clear hcz27_1
                try clear hcz27_2
                try clear hcz27_3
                try clear hcz27_4
                try clear hcz7_0
                try clear hcz7_1
                try clear hcz7_2
                try clear hcz7_3
                try clear hcz7_4
                try clear hfz16_0
                try clear hfz16_1
                try clear hfz16_2
                try clear hfz16_3
                try clear hfz16_4
                try clear hfz16_5
                try clear hfz19_0
                try clear hfz19_1
                try clear hfz19_2
                try clear hfz19_3
                try clear hfz19_4
                try clear hfz19_5
                try clear hfz20_0
                try clear hfz20_1
                try clear hfz20_2
                try clear hfz20_3
                try clear hfz20_4
                try clear hfz23_0
                try clear hfz23_1
                try clear hfz23_2
                try clear hfz23_3
                try clear hfz23_4
                try clear hfz23_5
                try clear hfz24_0
                try clear hfz24_1
                try clear hfz24_2
                try clear hfz24_3
                try clear hfz24_4
                try clear hfz26_0
                try clear hfz26_1
                try clear hfz26_2
                try clear hfz26_3
                try clear hfz26_4
                try clear hfz26_5
                try clear hfz27_0
                try clear hfz27_1
                try clear hfz27_2
                try clear hfz27_3
                try clear hfz27_4
                try clear hfz7_0
                try clear hfz7_1
                try clear hfz7_2
                try clear hfz7_3
                try clear hfz7_4
                try clear p2
                obtain ⟨kq, x48_11, rfl, HA, HJ11, BK119, BK132, HB⟩ := hcut
                cases kq with
                | zero => exact absurd HA.out (by simp [laws_FnDi.j2])
                | succ kj11 =>
                  have H := HA.out
                  clear HA
                  simp only [laws_FnDi.j2] at H
                  by_cases c28 : x48_11 = true
                  · subst c28
                    have H1 : (some false) = some r := by rw [if_pos rfl] at H; exact H
                    clear H
                    have H := H1
                    clear H1
                    obtain rfl := Option.some.inj H
                    go_wp2
                    go_ret
                    exact ⟨by first | rfl | (simp [errW_none, errW_some] <;> rfl) | (simp [*, errW_none, errW_some] <;> rfl), by repeat (first | (with_reducible first | exact HB.out | apply below_alloc | apply pw_below_drewN | apply below_drew1 | refine below_set ?_ GE119.out | refine below_set ?_ GE132.out) | exact HB.out)⟩
                  · replace c28 := Bool.eq_false_iff.mpr c28
                    subst c28
                    have H1 : (if x120002_1 = true then (if (t129 != x120003_1) = true then (laws_FnDi.j3 kj11 a0 l1 x5_1 x7_1 true x120000_1 x120001_1 x120002_1 x120003_1 x120004_1 t126 t127 t128 t129 t130 t131) else (if (t130 != x120004_1) = true then (laws_FnDi.j3 kj11 a0 l1 x5_1 x7_1 true x120000_1 x120001_1 x120002_1 x120003_1 x120004_1 t126 t127 t128 t129 t130 t131) else (if t130 = true then (if t129 = true then (laws_FnDi.j3 kj11 a0 l1 x5_1 x7_1 (!t126) x120000_1 x120001_1 x120002_1 x120003_1 x120004_1 t126 t127 t128 t129 t130 t131) else (laws_FnDi.j3 kj11 a0 l1 x5_1 x7_1 true x120000_1 x120001_1 x120002_1 x120003_1 x120004_1 t126 t127 t128 t129 t130 t131)) else (laws_FnDi.j3 kj11 a0 l1 x5_1 x7_1 false x120000_1 x120001_1 x120002_1 x120003_1 x120004_1 t126 t127 t128 t129 t130 t131)))) else (if t130 = true then (if t129 = true then (laws_FnDi.j3 kj11 a0 l1 x5_1 x7_1 (!t126) x120000_1 x120001_1 x120002_1 x120003_1 x120004_1 t126 t127 t128 t129 t130 t131) else (laws_FnDi.j3 kj11 a0 l1 x5_1 x7_1 true x120000_1 x120001_1 x120002_1 x120003_1 x120004_1 t126 t127 t128 t129 t130 t131)) else (laws_FnDi.j3 kj11 a0 l1 x5_1 x7_1 false x120000_1 x120001_1 x120002_1 x120003_1 x120004_1 t126 t127 t128 t129 t130 t131))) = some r := by rw [if_neg (show ¬ (false = true) by decide)] at H; exact H
                    clear H
                    have H := H1
                    clear H1
                    have HC29 := Aside0.mk H
                    clear H
                    go_upto_region 10 with (fail)
                    go_cut [78] (fun v78 wc => ∃ (kq : Nat) (x78_28 : Bool), v78 = .bool x78_28 ∧ Aside0 (laws_FnDi.j3 kq a0 l1 x5_1 x7_1 x78_28 x120000_1 x120001_1 x120002_1 x120003_1 x120004_1 t126 t127 t128 t129 t130 t131 = some r) ∧ Aside0 (kq ≤ kj11) ∧ Aside0 (wc.heap[gb119]? = some (.cells #[.bool x120000_1, .bool x120001_1, .bool x120002_1, .bool x120003_1, .bool x120004_1] 62 (0, 0))) ∧ Aside0 (wc.heap[gb132]? = some (.cells #[.bool t126, .bool t127, .bool t128, .bool t129, .bool t130, .int .i64 t131] 65 (0, 0))) ∧ Aside0 (Below w.heap.size w wc))
                    case first =>
                      have H := HC29.out
                      clear HC29
                      by_cases c30 : x120002_1 = true
                      · subst c30
                        have H1 : (if (t129 != x120003_1) = true then (laws_FnDi.j3 kj11 a0 l1 x5_1 x7_1 true x120000_1 x120001_1 true x120003_1 x120004_1 t126 t127 t128 t129 t130 t131) else (if (t130 != x120004_1) = true then (laws_FnDi.j3 kj11 a0 l1 x5_1 x7_1 true x120000_1 x120001_1 true x120003_1 x120004_1 t126 t127 t128 t129 t130 t131) else (if t130 = true then (if t129 = true then (laws_FnDi.j3 kj11 a0 l1 x5_1 x7_1 (!t126) x120000_1 x120001_1 true x120003_1 x120004_1 t126 t127 t128 t129 t130 t131) else (laws_FnDi.j3 kj11 a0 l1 x5_1 x7_1 true x120000_1 x120001_1 true x120003_1 x120004_1 t126 t127 t128 t129 t130 t131)) else (laws_FnDi.j3 kj11 a0 l1 x5_1 x7_1 false x120000_1 x120001_1 true x120003_1 x120004_1 t126 t127 t128 t129 t130 t131)))) = some r := by rw [if_pos rfl] at H; exact H
                        clear H
                        have H := H1
                        clear H1
                        by_cases c31 : (t129 != x120003_1) = true
                        · rw [if_pos c31] at H
                          have c31b0 : (t129 != x120003_1) = true := c31
                          (try (have c31b1 : decide (t129 = x120003_1) = false := by simpa using c31))
                          (try (have c31b2 : (t129 == x120003_1) = false := by simpa using c31))
                          (try (have c31b3 : ¬ (t129 = x120003_1) := by simpa using c31))
                          clear c31
                          (first | rw [c31b0] | (simp only [i64_w, i32_w]; rw [c31b0]) | skip)
                          have H' := Aside0.mk H
                          clear H
                          have hnb32 := NB119_132.out
                          have hnc32 := NB132_119.out
                          have hcz33_0 : wc.cell? ⟨gb119, 0, none⟩ = some (.bool x120000_1) := (blk_cell BK119.out 0).trans rfl
                          have hcz33_1 : wc.cell? ⟨gb119, 1, none⟩ = some (.bool x120001_1) := (blk_cell BK119.out 1).trans rfl
                          have hcz33_2 : wc.cell? ⟨gb119, 2, none⟩ = some (.bool true) := (blk_cell BK119.out 2).trans rfl
                          have hcz33_3 : wc.cell? ⟨gb119, 3, none⟩ = some (.bool x120003_1) := (blk_cell BK119.out 3).trans rfl
                          have hcz33_4 : wc.cell? ⟨gb119, 4, none⟩ = some (.bool x120004_1) := (blk_cell BK119.out 4).trans rfl
                          have hfz33_0 := blk_frozen BK119.out 0
                          have hfz33_1 := blk_frozen BK119.out 1
                          have hfz33_2 := blk_frozen BK119.out 2
                          have hfz33_3 := blk_frozen BK119.out 3
                          have hfz33_4 := blk_frozen BK119.out 4
                          have hcz34_0 : wc.cell? ⟨gb132, 0, none⟩ = some (.bool t126) := (blk_cell BK132.out 0).trans rfl
                          have hcz34_1 : wc.cell? ⟨gb132, 1, none⟩ = some (.bool t127) := (blk_cell BK132.out 1).trans rfl
                          have hcz34_2 : wc.cell? ⟨gb132, 2, none⟩ = some (.bool t128) := (blk_cell BK132.out 2).trans rfl
                          have hcz34_3 : wc.cell? ⟨gb132, 3, none⟩ = some (.bool t129) := (blk_cell BK132.out 3).trans rfl
                          have hcz34_4 : wc.cell? ⟨gb132, 4, none⟩ = some (.bool t130) := (blk_cell BK132.out 4).trans rfl
                          have hcz34_5 : wc.cell? ⟨gb132, 5, none⟩ = some (.int .i64 t131) := (blk_cell BK132.out 5).trans rfl
                          have hfz34_0 := blk_frozen BK132.out 0
                          have hfz34_1 := blk_frozen BK132.out 1
                          have hfz34_2 := blk_frozen BK132.out 2
                          have hfz34_3 := blk_frozen BK132.out 3
                          have hfz34_4 := blk_frozen BK132.out 4
                          have hfz34_5 := blk_frozen BK132.out 5
                          go_wp2
                          go_meet
                          case rel => exact ⟨_, (true), (by first | rfl | (simp; done) | (simp [*]; done)), H', ⟨by have := HK1.out; have := HJ7.out; have := HJ11.out; first | omega | exact Nat.le_refl _⟩, ⟨by (with_reducible repeat (first | refine blk_drewN ?_ _ | refine blk_drew ?_ | refine blk_alloc ?_ _)); exact BK119.out⟩, ⟨by (with_reducible repeat (first | refine blk_drewN ?_ _ | refine blk_drew ?_ | refine blk_alloc ?_ _)); exact BK132.out⟩, ⟨by repeat (first | (with_reducible first | exact HB.out | apply below_alloc | apply pw_below_drewN | apply below_drew1 | refine below_set ?_ GE119.out | refine below_set ?_ GE132.out) | exact HB.out)⟩⟩
                        · rw [if_neg c31] at H
                          have c31b0 : (t129 != x120003_1) = false := by simpa using c31
                          (try (have c31b1 : decide (t129 = x120003_1) = true := by simpa using c31))
                          (try (have c31b2 : (t129 == x120003_1) = true := by simpa using c31))
                          clear c31
                          (first | rw [c31b0] | (simp only [i64_w, i32_w]; rw [c31b0]) | skip)
                          by_cases c35 : (t130 != x120004_1) = true
                          · rw [if_pos c35] at H
                            have c35b0 : (t130 != x120004_1) = true := c35
                            (try (have c35b1 : decide (t130 = x120004_1) = false := by simpa using c35))
                            (try (have c35b2 : (t130 == x120004_1) = false := by simpa using c35))
                            (try (have c35b3 : ¬ (t130 = x120004_1) := by simpa using c35))
                            clear c35
                            have H' := Aside0.mk H
                            clear H
                            have hnb36 := NB119_132.out
                            have hnc36 := NB132_119.out
                            have hcz37_0 : wc.cell? ⟨gb119, 0, none⟩ = some (.bool x120000_1) := (blk_cell BK119.out 0).trans rfl
                            have hcz37_1 : wc.cell? ⟨gb119, 1, none⟩ = some (.bool x120001_1) := (blk_cell BK119.out 1).trans rfl
                            have hcz37_2 : wc.cell? ⟨gb119, 2, none⟩ = some (.bool true) := (blk_cell BK119.out 2).trans rfl
                            have hcz37_3 : wc.cell? ⟨gb119, 3, none⟩ = some (.bool x120003_1) := (blk_cell BK119.out 3).trans rfl
                            have hcz37_4 : wc.cell? ⟨gb119, 4, none⟩ = some (.bool x120004_1) := (blk_cell BK119.out 4).trans rfl
                            have hfz37_0 := blk_frozen BK119.out 0
                            have hfz37_1 := blk_frozen BK119.out 1
                            have hfz37_2 := blk_frozen BK119.out 2
                            have hfz37_3 := blk_frozen BK119.out 3
                            have hfz37_4 := blk_frozen BK119.out 4
                            have hcz38_0 : wc.cell? ⟨gb132, 0, none⟩ = some (.bool t126) := (blk_cell BK132.out 0).trans rfl
                            have hcz38_1 : wc.cell? ⟨gb132, 1, none⟩ = some (.bool t127) := (blk_cell BK132.out 1).trans rfl
                            have hcz38_2 : wc.cell? ⟨gb132, 2, none⟩ = some (.bool t128) := (blk_cell BK132.out 2).trans rfl
                            have hcz38_3 : wc.cell? ⟨gb132, 3, none⟩ = some (.bool t129) := (blk_cell BK132.out 3).trans rfl
                            have hcz38_4 : wc.cell? ⟨gb132, 4, none⟩ = some (.bool t130) := (blk_cell BK132.out 4).trans rfl
                            have hcz38_5 : wc.cell? ⟨gb132, 5, none⟩ = some (.int .i64 t131) := (blk_cell BK132.out 5).trans rfl
                            have hfz38_0 := blk_frozen BK132.out 0
                            have hfz38_1 := blk_frozen BK132.out 1
                            have hfz38_2 := blk_frozen BK132.out 2
                            have hfz38_3 := blk_frozen BK132.out 3
                            have hfz38_4 := blk_frozen BK132.out 4
                            have hfz38_5 := blk_frozen BK132.out 5
                            go_wp2
                            go_meet
                            case rel => exact ⟨_, (true), (by first | rfl | (simp; done) | (simp [*]; done)), H', ⟨by have := HK1.out; have := HJ7.out; have := HJ11.out; first | omega | exact Nat.le_refl _⟩, ⟨by (with_reducible repeat (first | refine blk_drewN ?_ _ | refine blk_drew ?_ | refine blk_alloc ?_ _)); exact BK119.out⟩, ⟨by (with_reducible repeat (first | refine blk_drewN ?_ _ | refine blk_drew ?_ | refine blk_alloc ?_ _)); exact BK132.out⟩, ⟨by repeat (first | (with_reducible first | exact HB.out | apply below_alloc | apply pw_below_drewN | apply below_drew1 | refine below_set ?_ GE119.out | refine below_set ?_ GE132.out) | exact HB.out)⟩⟩
                          · rw [if_neg c35] at H
                            have c35b0 : (t130 != x120004_1) = false := by simpa using c35
                            (try (have c35b1 : decide (t130 = x120004_1) = true := by simpa using c35))
                            (try (have c35b2 : (t130 == x120004_1) = true := by simpa using c35))
                            clear c35
                            by_cases c39 : t130 = true
                            · subst c39
                              have H1 : (if t129 = true then (laws_FnDi.j3 kj11 a0 l1 x5_1 x7_1 (!t126) x120000_1 x120001_1 true x120003_1 x120004_1 t126 t127 t128 t129 true t131) else (laws_FnDi.j3 kj11 a0 l1 x5_1 x7_1 true x120000_1 x120001_1 true x120003_1 x120004_1 t126 t127 t128 t129 true t131)) = some r := by rw [if_pos rfl] at H; exact H
                              clear H
                              have H := H1
                              clear H1
                              by_cases c40 : t129 = true
                              · subst c40
                                have H1 : (laws_FnDi.j3 kj11 a0 l1 x5_1 x7_1 (!t126) x120000_1 x120001_1 true x120003_1 x120004_1 t126 t127 t128 true true t131) = some r := by rw [if_pos rfl] at H; exact H
                                clear H
                                have H := H1
                                clear H1
                                have H' := Aside0.mk H
                                clear H
                                have hnb41 := NB119_132.out
                                have hnc41 := NB132_119.out
                                have hcz42_0 : wc.cell? ⟨gb119, 0, none⟩ = some (.bool x120000_1) := (blk_cell BK119.out 0).trans rfl
                                have hcz42_1 : wc.cell? ⟨gb119, 1, none⟩ = some (.bool x120001_1) := (blk_cell BK119.out 1).trans rfl
                                have hcz42_2 : wc.cell? ⟨gb119, 2, none⟩ = some (.bool true) := (blk_cell BK119.out 2).trans rfl
                                have hcz42_3 : wc.cell? ⟨gb119, 3, none⟩ = some (.bool x120003_1) := (blk_cell BK119.out 3).trans rfl
                                have hcz42_4 : wc.cell? ⟨gb119, 4, none⟩ = some (.bool x120004_1) := (blk_cell BK119.out 4).trans rfl
                                have hfz42_0 := blk_frozen BK119.out 0
                                have hfz42_1 := blk_frozen BK119.out 1
                                have hfz42_2 := blk_frozen BK119.out 2
                                have hfz42_3 := blk_frozen BK119.out 3
                                have hfz42_4 := blk_frozen BK119.out 4
                                have hcz43_0 : wc.cell? ⟨gb132, 0, none⟩ = some (.bool t126) := (blk_cell BK132.out 0).trans rfl
                                have hcz43_1 : wc.cell? ⟨gb132, 1, none⟩ = some (.bool t127) := (blk_cell BK132.out 1).trans rfl
                                have hcz43_2 : wc.cell? ⟨gb132, 2, none⟩ = some (.bool t128) := (blk_cell BK132.out 2).trans rfl
                                have hcz43_3 : wc.cell? ⟨gb132, 3, none⟩ = some (.bool true) := (blk_cell BK132.out 3).trans rfl
                                have hcz43_4 : wc.cell? ⟨gb132, 4, none⟩ = some (.bool true) := (blk_cell BK132.out 4).trans rfl
                                have hcz43_5 : wc.cell? ⟨gb132, 5, none⟩ = some (.int .i64 t131) := (blk_cell BK132.out 5).trans rfl
                                have hfz43_0 := blk_frozen BK132.out 0
                                have hfz43_1 := blk_frozen BK132.out 1
                                have hfz43_2 := blk_frozen BK132.out 2
                                have hfz43_3 := blk_frozen BK132.out 3
                                have hfz43_4 := blk_frozen BK132.out 4
                                have hfz43_5 := blk_frozen BK132.out 5
                                go_wp2
                                go_meet
                                case rel => exact ⟨_, (!t126), (by first | rfl | (simp; done) | (simp [*]; done)), H', ⟨by have := HK1.out; have := HJ7.out; have := HJ11.out; first | omega | exact Nat.le_refl _⟩, ⟨by (with_reducible repeat (first | refine blk_drewN ?_ _ | refine blk_drew ?_ | refine blk_alloc ?_ _)); exact BK119.out⟩, ⟨by (with_reducible repeat (first | refine blk_drewN ?_ _ | refine blk_drew ?_ | refine blk_alloc ?_ _)); exact BK132.out⟩, ⟨by repeat (first | (with_reducible first | exact HB.out | apply below_alloc | apply pw_below_drewN | apply below_drew1 | refine below_set ?_ GE119.out | refine below_set ?_ GE132.out) | exact HB.out)⟩⟩
                              · replace c40 := Bool.eq_false_iff.mpr c40
                                subst c40
                                have H1 : (laws_FnDi.j3 kj11 a0 l1 x5_1 x7_1 true x120000_1 x120001_1 true x120003_1 x120004_1 t126 t127 t128 false true t131) = some r := by rw [if_neg (show ¬ (false = true) by decide)] at H; exact H
                                clear H
                                have H := H1
                                clear H1
                                have H' := Aside0.mk H
                                clear H
                                have hnb44 := NB119_132.out
                                have hnc44 := NB132_119.out
                                have hcz45_0 : wc.cell? ⟨gb119, 0, none⟩ = some (.bool x120000_1) := (blk_cell BK119.out 0).trans rfl
                                have hcz45_1 : wc.cell? ⟨gb119, 1, none⟩ = some (.bool x120001_1) := (blk_cell BK119.out 1).trans rfl
                                have hcz45_2 : wc.cell? ⟨gb119, 2, none⟩ = some (.bool true) := (blk_cell BK119.out 2).trans rfl
                                have hcz45_3 : wc.cell? ⟨gb119, 3, none⟩ = some (.bool x120003_1) := (blk_cell BK119.out 3).trans rfl
                                have hcz45_4 : wc.cell? ⟨gb119, 4, none⟩ = some (.bool x120004_1) := (blk_cell BK119.out 4).trans rfl
                                have hfz45_0 := blk_frozen BK119.out 0
                                have hfz45_1 := blk_frozen BK119.out 1
                                have hfz45_2 := blk_frozen BK119.out 2
                                have hfz45_3 := blk_frozen BK119.out 3
                                have hfz45_4 := blk_frozen BK119.out 4
                                have hcz46_0 : wc.cell? ⟨gb132, 0, none⟩ = some (.bool t126) := (blk_cell BK132.out 0).trans rfl
                                have hcz46_1 : wc.cell? ⟨gb132, 1, none⟩ = some (.bool t127) := (blk_cell BK132.out 1).trans rfl
                                have hcz46_2 : wc.cell? ⟨gb132, 2, none⟩ = some (.bool t128) := (blk_cell BK132.out 2).trans rfl
                                have hcz46_3 : wc.cell? ⟨gb132, 3, none⟩ = some (.bool false) := (blk_cell BK132.out 3).trans rfl
                                have hcz46_4 : wc.cell? ⟨gb132, 4, none⟩ = some (.bool true) := (blk_cell BK132.out 4).trans rfl
                                have hcz46_5 : wc.cell? ⟨gb132, 5, none⟩ = some (.int .i64 t131) := (blk_cell BK132.out 5).trans rfl
                                have hfz46_0 := blk_frozen BK132.out 0
                                have hfz46_1 := blk_frozen BK132.out 1
                                have hfz46_2 := blk_frozen BK132.out 2
                                have hfz46_3 := blk_frozen BK132.out 3
                                have hfz46_4 := blk_frozen BK132.out 4
                                have hfz46_5 := blk_frozen BK132.out 5
                                go_wp2
                                go_meet
                                case rel => exact ⟨_, (true), (by first | rfl | (simp; done) | (simp [*]; done)), H', ⟨by have := HK1.out; have := HJ7.out; have := HJ11.out; first | omega | exact Nat.le_refl _⟩, ⟨by (with_reducible repeat (first | refine blk_drewN ?_ _ | refine blk_drew ?_ | refine blk_alloc ?_ _)); exact BK119.out⟩, ⟨by (with_reducible repeat (first | refine blk_drewN ?_ _ | refine blk_drew ?_ | refine blk_alloc ?_ _)); exact BK132.out⟩, ⟨by repeat (first | (with_reducible first | exact HB.out | apply below_alloc | apply pw_below_drewN | apply below_drew1 | refine below_set ?_ GE119.out | refine below_set ?_ GE132.out) | exact HB.out)⟩⟩
                            · replace c39 := Bool.eq_false_iff.mpr c39
                              subst c39
                              have H1 : (laws_FnDi.j3 kj11 a0 l1 x5_1 x7_1 false x120000_1 x120001_1 true x120003_1 x120004_1 t126 t127 t128 t129 false t131) = some r := by rw [if_neg (show ¬ (false = true) by decide)] at H; exact H
                              clear H
                              have H := H1
                              clear H1
                              have H' := Aside0.mk H
                              clear H
                              have hnb47 := NB119_132.out
                              have hnc47 := NB132_119.out
                              have hcz48_0 : wc.cell? ⟨gb119, 0, none⟩ = some (.bool x120000_1) := (blk_cell BK119.out 0).trans rfl
                              have hcz48_1 : wc.cell? ⟨gb119, 1, none⟩ = some (.bool x120001_1) := (blk_cell BK119.out 1).trans rfl
                              have hcz48_2 : wc.cell? ⟨gb119, 2, none⟩ = some (.bool true) := (blk_cell BK119.out 2).trans rfl
                              have hcz48_3 : wc.cell? ⟨gb119, 3, none⟩ = some (.bool x120003_1) := (blk_cell BK119.out 3).trans rfl
                              have hcz48_4 : wc.cell? ⟨gb119, 4, none⟩ = some (.bool x120004_1) := (blk_cell BK119.out 4).trans rfl
                              have hfz48_0 := blk_frozen BK119.out 0
                              have hfz48_1 := blk_frozen BK119.out 1
                              have hfz48_2 := blk_frozen BK119.out 2
                              have hfz48_3 := blk_frozen BK119.out 3
                              have hfz48_4 := blk_frozen BK119.out 4
                              have hcz49_0 : wc.cell? ⟨gb132, 0, none⟩ = some (.bool t126) := (blk_cell BK132.out 0).trans rfl
                              have hcz49_1 : wc.cell? ⟨gb132, 1, none⟩ = some (.bool t127) := (blk_cell BK132.out 1).trans rfl
                              have hcz49_2 : wc.cell? ⟨gb132, 2, none⟩ = some (.bool t128) := (blk_cell BK132.out 2).trans rfl
                              have hcz49_3 : wc.cell? ⟨gb132, 3, none⟩ = some (.bool t129) := (blk_cell BK132.out 3).trans rfl
                              have hcz49_4 : wc.cell? ⟨gb132, 4, none⟩ = some (.bool false) := (blk_cell BK132.out 4).trans rfl
                              have hcz49_5 : wc.cell? ⟨gb132, 5, none⟩ = some (.int .i64 t131) := (blk_cell BK132.out 5).trans rfl
                              have hfz49_0 := blk_frozen BK132.out 0
                              have hfz49_1 := blk_frozen BK132.out 1
                              have hfz49_2 := blk_frozen BK132.out 2
                              have hfz49_3 := blk_frozen BK132.out 3
                              have hfz49_4 := blk_frozen BK132.out 4
                              have hfz49_5 := blk_frozen BK132.out 5
                              go_wp2
                              go_meet
                              case rel => exact ⟨_, (false), (by first | rfl | (simp; done) | (simp [*]; done)), H', ⟨by have := HK1.out; have := HJ7.out; have := HJ11.out; first | omega | exact Nat.le_refl _⟩, ⟨by (with_reducible repeat (first | refine blk_drewN ?_ _ | refine blk_drew ?_ | refine blk_alloc ?_ _)); exact BK119.out⟩, ⟨by (with_reducible repeat (first | refine blk_drewN ?_ _ | refine blk_drew ?_ | refine blk_alloc ?_ _)); exact BK132.out⟩, ⟨by repeat (first | (with_reducible first | exact HB.out | apply below_alloc | apply pw_below_drewN | apply below_drew1 | refine below_set ?_ GE119.out | refine below_set ?_ GE132.out) | exact HB.out)⟩⟩
                      · replace c30 := Bool.eq_false_iff.mpr c30
                        subst c30
                        have H1 : (if t130 = true then (if t129 = true then (laws_FnDi.j3 kj11 a0 l1 x5_1 x7_1 (!t126) x120000_1 x120001_1 false x120003_1 x120004_1 t126 t127 t128 t129 t130 t131) else (laws_FnDi.j3 kj11 a0 l1 x5_1 x7_1 true x120000_1 x120001_1 false x120003_1 x120004_1 t126 t127 t128 t129 t130 t131)) else (laws_FnDi.j3 kj11 a0 l1 x5_1 x7_1 false x120000_1 x120001_1 false x120003_1 x120004_1 t126 t127 t128 t129 t130 t131)) = some r := by rw [if_neg (show ¬ (false = true) by decide)] at H; exact H
                        clear H
                        have H := H1
                        clear H1
                        by_cases c50 : t130 = true
                        · subst c50
                          have H1 : (if t129 = true then (laws_FnDi.j3 kj11 a0 l1 x5_1 x7_1 (!t126) x120000_1 x120001_1 false x120003_1 x120004_1 t126 t127 t128 t129 true t131) else (laws_FnDi.j3 kj11 a0 l1 x5_1 x7_1 true x120000_1 x120001_1 false x120003_1 x120004_1 t126 t127 t128 t129 true t131)) = some r := by rw [if_pos rfl] at H; exact H
                          clear H
                          have H := H1
                          clear H1
                          by_cases c51 : t129 = true
                          · subst c51
                            have H1 : (laws_FnDi.j3 kj11 a0 l1 x5_1 x7_1 (!t126) x120000_1 x120001_1 false x120003_1 x120004_1 t126 t127 t128 true true t131) = some r := by rw [if_pos rfl] at H; exact H
                            clear H
                            have H := H1
                            clear H1
                            have H' := Aside0.mk H
                            clear H
                            have hnb52 := NB119_132.out
                            have hnc52 := NB132_119.out
                            have hcz53_0 : wc.cell? ⟨gb119, 0, none⟩ = some (.bool x120000_1) := (blk_cell BK119.out 0).trans rfl
                            have hcz53_1 : wc.cell? ⟨gb119, 1, none⟩ = some (.bool x120001_1) := (blk_cell BK119.out 1).trans rfl
                            have hcz53_2 : wc.cell? ⟨gb119, 2, none⟩ = some (.bool false) := (blk_cell BK119.out 2).trans rfl
                            have hcz53_3 : wc.cell? ⟨gb119, 3, none⟩ = some (.bool x120003_1) := (blk_cell BK119.out 3).trans rfl
                            have hcz53_4 : wc.cell? ⟨gb119, 4, none⟩ = some (.bool x120004_1) := (blk_cell BK119.out 4).trans rfl
                            have hfz53_0 := blk_frozen BK119.out 0
                            have hfz53_1 := blk_frozen BK119.out 1
                            have hfz53_2 := blk_frozen BK119.out 2
                            have hfz53_3 := blk_frozen BK119.out 3
                            have hfz53_4 := blk_frozen BK119.out 4
                            have hcz54_0 : wc.cell? ⟨gb132, 0, none⟩ = some (.bool t126) := (blk_cell BK132.out 0).trans rfl
                            have hcz54_1 : wc.cell? ⟨gb132, 1, none⟩ = some (.bool t127) := (blk_cell BK132.out 1).trans rfl
                            have hcz54_2 : wc.cell? ⟨gb132, 2, none⟩ = some (.bool t128) := (blk_cell BK132.out 2).trans rfl
                            have hcz54_3 : wc.cell? ⟨gb132, 3, none⟩ = some (.bool true) := (blk_cell BK132.out 3).trans rfl
                            have hcz54_4 : wc.cell? ⟨gb132, 4, none⟩ = some (.bool true) := (blk_cell BK132.out 4).trans rfl
                            have hcz54_5 : wc.cell? ⟨gb132, 5, none⟩ = some (.int .i64 t131) := (blk_cell BK132.out 5).trans rfl
                            have hfz54_0 := blk_frozen BK132.out 0
                            have hfz54_1 := blk_frozen BK132.out 1
                            have hfz54_2 := blk_frozen BK132.out 2
                            have hfz54_3 := blk_frozen BK132.out 3
                            have hfz54_4 := blk_frozen BK132.out 4
                            have hfz54_5 := blk_frozen BK132.out 5
                            go_wp2
                            go_meet
                            case rel => exact ⟨_, (!t126), (by first | rfl | (simp; done) | (simp [*]; done)), H', ⟨by have := HK1.out; have := HJ7.out; have := HJ11.out; first | omega | exact Nat.le_refl _⟩, ⟨by (with_reducible repeat (first | refine blk_drewN ?_ _ | refine blk_drew ?_ | refine blk_alloc ?_ _)); exact BK119.out⟩, ⟨by (with_reducible repeat (first | refine blk_drewN ?_ _ | refine blk_drew ?_ | refine blk_alloc ?_ _)); exact BK132.out⟩, ⟨by repeat (first | (with_reducible first | exact HB.out | apply below_alloc | apply pw_below_drewN | apply below_drew1 | refine below_set ?_ GE119.out | refine below_set ?_ GE132.out) | exact HB.out)⟩⟩
                          · replace c51 := Bool.eq_false_iff.mpr c51
                            subst c51
                            have H1 : (laws_FnDi.j3 kj11 a0 l1 x5_1 x7_1 true x120000_1 x120001_1 false x120003_1 x120004_1 t126 t127 t128 false true t131) = some r := by rw [if_neg (show ¬ (false = true) by decide)] at H; exact H
                            clear H
                            have H := H1
                            clear H1
                            have H' := Aside0.mk H
                            clear H
                            have hnb55 := NB119_132.out
                            have hnc55 := NB132_119.out
                            have hcz56_0 : wc.cell? ⟨gb119, 0, none⟩ = some (.bool x120000_1) := (blk_cell BK119.out 0).trans rfl
                            have hcz56_1 : wc.cell? ⟨gb119, 1, none⟩ = some (.bool x120001_1) := (blk_cell BK119.out 1).trans rfl
                            have hcz56_2 : wc.cell? ⟨gb119, 2, none⟩ = some (.bool false) := (blk_cell BK119.out 2).trans rfl
                            have hcz56_3 : wc.cell? ⟨gb119, 3, none⟩ = some (.bool x120003_1) := (blk_cell BK119.out 3).trans rfl
                            have hcz56_4 : wc.cell? ⟨gb119, 4, none⟩ = some (.bool x120004_1) := (blk_cell BK119.out 4).trans rfl
                            have hfz56_0 := blk_frozen BK119.out 0
                            have hfz56_1 := blk_frozen BK119.out 1
                            have hfz56_2 := blk_frozen BK119.out 2
                            have hfz56_3 := blk_frozen BK119.out 3
                            have hfz56_4 := blk_frozen BK119.out 4
                            have hcz57_0 : wc.cell? ⟨gb132, 0, none⟩ = some (.bool t126) := (blk_cell BK132.out 0).trans rfl
                            have hcz57_1 : wc.cell? ⟨gb132, 1, none⟩ = some (.bool t127) := (blk_cell BK132.out 1).trans rfl
                            have hcz57_2 : wc.cell? ⟨gb132, 2, none⟩ = some (.bool t128) := (blk_cell BK132.out 2).trans rfl
                            have hcz57_3 : wc.cell? ⟨gb132, 3, none⟩ = some (.bool false) := (blk_cell BK132.out 3).trans rfl
                            have hcz57_4 : wc.cell? ⟨gb132, 4, none⟩ = some (.bool true) := (blk_cell BK132.out 4).trans rfl
                            have hcz57_5 : wc.cell? ⟨gb132, 5, none⟩ = some (.int .i64 t131) := (blk_cell BK132.out 5).trans rfl
                            have hfz57_0 := blk_frozen BK132.out 0
                            have hfz57_1 := blk_frozen BK132.out 1
                            have hfz57_2 := blk_frozen BK132.out 2
                            have hfz57_3 := blk_frozen BK132.out 3
                            have hfz57_4 := blk_frozen BK132.out 4
                            have hfz57_5 := blk_frozen BK132.out 5
                            go_wp2
                            go_meet
                            case rel => exact ⟨_, (true), (by first | rfl | (simp; done) | (simp [*]; done)), H', ⟨by have := HK1.out; have := HJ7.out; have := HJ11.out; first | omega | exact Nat.le_refl _⟩, ⟨by (with_reducible repeat (first | refine blk_drewN ?_ _ | refine blk_drew ?_ | refine blk_alloc ?_ _)); exact BK119.out⟩, ⟨by (with_reducible repeat (first | refine blk_drewN ?_ _ | refine blk_drew ?_ | refine blk_alloc ?_ _)); exact BK132.out⟩, ⟨by repeat (first | (with_reducible first | exact HB.out | apply below_alloc | apply pw_below_drewN | apply below_drew1 | refine below_set ?_ GE119.out | refine below_set ?_ GE132.out) | exact HB.out)⟩⟩
                        · replace c50 := Bool.eq_false_iff.mpr c50
                          subst c50
                          have H1 : (laws_FnDi.j3 kj11 a0 l1 x5_1 x7_1 false x120000_1 x120001_1 false x120003_1 x120004_1 t126 t127 t128 t129 false t131) = some r := by rw [if_neg (show ¬ (false = true) by decide)] at H; exact H
                          clear H
                          have H := H1
                          clear H1
                          have H' := Aside0.mk H
                          clear H
                          have hnb58 := NB119_132.out
                          have hnc58 := NB132_119.out
                          have hcz59_0 : wc.cell? ⟨gb119, 0, none⟩ = some (.bool x120000_1) := (blk_cell BK119.out 0).trans rfl
                          have hcz59_1 : wc.cell? ⟨gb119, 1, none⟩ = some (.bool x120001_1) := (blk_cell BK119.out 1).trans rfl
                          have hcz59_2 : wc.cell? ⟨gb119, 2, none⟩ = some (.bool false) := (blk_cell BK119.out 2).trans rfl
                          have hcz59_3 : wc.cell? ⟨gb119, 3, none⟩ = some (.bool x120003_1) := (blk_cell BK119.out 3).trans rfl
                          have hcz59_4 : wc.cell? ⟨gb119, 4, none⟩ = some (.bool x120004_1) := (blk_cell BK119.out 4).trans rfl
                          have hfz59_0 := blk_frozen BK119.out 0
                          have hfz59_1 := blk_frozen BK119.out 1
                          have hfz59_2 := blk_frozen BK119.out 2
                          have hfz59_3 := blk_frozen BK119.out 3
                          have hfz59_4 := blk_frozen BK119.out 4
                          have hcz60_0 : wc.cell? ⟨gb132, 0, none⟩ = some (.bool t126) := (blk_cell BK132.out 0).trans rfl
                          have hcz60_1 : wc.cell? ⟨gb132, 1, none⟩ = some (.bool t127) := (blk_cell BK132.out 1).trans rfl
                          have hcz60_2 : wc.cell? ⟨gb132, 2, none⟩ = some (.bool t128) := (blk_cell BK132.out 2).trans rfl
                          have hcz60_3 : wc.cell? ⟨gb132, 3, none⟩ = some (.bool t129) := (blk_cell BK132.out 3).trans rfl
                          have hcz60_4 : wc.cell? ⟨gb132, 4, none⟩ = some (.bool false) := (blk_cell BK132.out 4).trans rfl
                          have hcz60_5 : wc.cell? ⟨gb132, 5, none⟩ = some (.int .i64 t131) := (blk_cell BK132.out 5).trans rfl
                          have hfz60_0 := blk_frozen BK132.out 0
                          have hfz60_1 := blk_frozen BK132.out 1
                          have hfz60_2 := blk_frozen BK132.out 2
                          have hfz60_3 := blk_frozen BK132.out 3
                          have hfz60_4 := blk_frozen BK132.out 4
                          have hfz60_5 := blk_frozen BK132.out 5
                          go_wp2
                          go_meet
                          case rel => exact ⟨_, (false), (by first | rfl | (simp; done) | (simp [*]; done)), H', ⟨by have := HK1.out; have := HJ7.out; have := HJ11.out; first | omega | exact Nat.le_refl _⟩, ⟨by (with_reducible repeat (first | refine blk_drewN ?_ _ | refine blk_drew ?_ | refine blk_alloc ?_ _)); exact BK119.out⟩, ⟨by (with_reducible repeat (first | refine blk_drewN ?_ _ | refine blk_drew ?_ | refine blk_alloc ?_ _)); exact BK132.out⟩, ⟨by repeat (first | (with_reducible first | exact HB.out | apply below_alloc | apply pw_below_drewN | apply below_drew1 | refine below_set ?_ GE119.out | refine below_set ?_ GE132.out) | exact HB.out)⟩⟩
                    case rest =>
                      clear HC29
                      try clear c1
                      try clear c2
                      try clear p2
                      try clear c3
                      try clear c3b0
                      try clear c3b1
                      try clear c4
                      try clear c5
                      try clear c9
                      try clear c9b0
                      try clear c10
                      try clear c13
                      try clear c15
                      try clear c17
                      try clear c17b0
                      try clear c17b1
                      try clear c17b2
                      try clear c18
                      try clear c21
                      try clear c21b0
                      try clear c21b1
                      try clear c21b2
                      try clear c22
                      try clear c25
                      try clear c28
                      try clear c30
                      try clear c31
                      try clear c31b0
                      try clear c31b1
                      try clear c31b2
                      try clear c32
                      try clear c34
                      try clear c35
                      try clear c35b0
                      try clear c35b1
                      try clear c35b2
                      try clear c36
                      try clear c39
                      try clear c40
                      try clear c41
                      try clear c44
                      try clear c47
                      try clear c50
                      try clear c51
                      try clear c52
                      try clear c55
                      try clear c58
                      try clear hcz16_0
                      try clear hcz16_1
                      try clear hcz16_2
                      try clear hcz16_3
                      try clear hcz16_4
                      try clear hcz16_5
                      try clear hcz19_0
                      try clear hcz19_1
                      try clear hcz19_2
                      try clear hcz19_3
                      try clear hcz19_4
                      try clear hcz19_5
                      try clear hcz20_0
                      try clear hcz20_1
                      try clear hcz20_2
                      try clear hcz20_3
                      try clear hcz20_4
                      try clear hcz23_0
                      try clear hcz23_1
                      try clear hcz23_2
                      try clear hcz23_3
                      try clear hcz23_4
                      try clear hcz23_5
                      try clear hcz24_0
                      try clear hcz24_1
                      try clear hcz24_2
                      try clear hcz24_3
                      try clear hcz24_4
                      try clear hcz26_0
                      try clear hcz26_1
                      try clear hcz26_2
                      try clear hcz26_3
                      try clear hcz26_4
                      try clear hcz26_5
                      try clear hcz27_0
                      try clear hcz27_1
                      try clear hcz27_2
                      try clear hcz27_3
                      try clear hcz27_4
                      try clear hcz33_0
                      try clear hcz33_1
                      try clear hcz33_2
                      try clear hcz33_3
                      try clear hcz33_4
                      try clear hcz34_0
                      try clear hcz34_1
                      try clear hcz34_2
                      try clear hcz34_3
                      try clear hcz34_4
                      try clear hcz34_5
                      try clear hcz37_0
                      try clear hcz37_1
                      try clear hcz37_2
                      try clear hcz37_3
                      try clear hcz37_4
                      try clear hcz38_0
                      try clear hcz38_1
                      try clear hcz38_2
                      try clear hcz38_3
                      try clear hcz38_4
                      try clear hcz38_5
                      try clear hcz42_0
                      try clear hcz42_1
                      try clear hcz42_2
                      try clear hcz42_3
                      try clear hcz42_4
                      try clear hcz43_0
                      try clear hcz43_1
                      try clear hcz43_2
                      try clear hcz43_3
                      try clear hcz43_4
                      try clear hcz43_5
                      try clear hcz45_0
                      try clear hcz45_1
                      try clear hcz45_2
                      try clear hcz45_3
                      try clear hcz45_4
                      try clear hcz46_0
                      try clear hcz46_1
                      try clear hcz46_2
                      try clear hcz46_3
                      try clear hcz46_4
                      try clear hcz46_5
                      try clear hcz48_0
                      try clear hcz48_1
                      try clear hcz48_2
                      try clear hcz48_3
                      try clear hcz48_4
                      try clear hcz49_0
                      try clear hcz49_1
                      try clear hcz49_2
                      try clear hcz49_3
                      try clear hcz49_4
                      try clear hcz49_5
                      try clear hcz53_0
                      try clear hcz53_1
                      try clear hcz53_2
                      try clear hcz53_3
                      try clear hcz53_4
                      try clear hcz54_0
                      try clear hcz54_1
                      try clear hcz54_2
                      try clear hcz54_3
                      try clear hcz54_4
                      try clear hcz54_5
                      try clear hcz56_0
                      try clear hcz56_1
                      try clear hcz56_2
                      try clear hcz56_3
                      try clear hcz56_4
                      try clear hcz57_0
                      try clear hcz57_1
                      try clear hcz57_2
                      try clear hcz57_3
                      try clear hcz57_4
                      try clear hcz57_5
                      try clear hcz59_0
                      try clear hcz59_1
                      try clear hcz59_2
                      try clear hcz59_3
                      try clear hcz59_4
                      try clear hcz60_0
                      try clear hcz60_1
                      try clear hcz60_2
                      try clear hcz60_3
                      try clear hcz60_4
                      try clear hcz60_5
                      try clear hcz7_0
                      try clear hcz7_1
                      try clear hcz7_2
                      try clear hcz7_3
                      try clear hcz7_4
                      try clear hfz16_0
                      try clear hfz16_1
                      try clear hfz16_2
                      try clear hfz16_3
                      try clear hfz16_4
                      try clear hfz16_5
                      try clear hfz19_0
                      try clear hfz19_1
                      try clear hfz19_2
                      try clear hfz19_3
                      try clear hfz19_4
                      try clear hfz19_5
                      try clear hfz20_0
                      try clear hfz20_1
                      try clear hfz20_2
                      try clear hfz20_3
                      try clear hfz20_4
                      try clear hfz23_0
                      try clear hfz23_1
                      try clear hfz23_2
                      try clear hfz23_3
                      try clear hfz23_4
                      try clear hfz23_5
                      try clear hfz24_0
                      try clear hfz24_1
                      try clear hfz24_2
                      try clear hfz24_3
                      try clear hfz24_4
                      try clear hfz26_0
                      try clear hfz26_1
                      try clear hfz26_2
                      try clear hfz26_3
                      try clear hfz26_4
                      try clear hfz26_5
                      try clear hfz27_0
                      try clear hfz27_1
                      try clear hfz27_2
                      try clear hfz27_3
                      try clear hfz27_4
                      try clear hfz33_0
                      try clear hfz33_1
                      try clear hfz33_2
                      try clear hfz33_3
                      try clear hfz33_4
                      try clear hfz34_0
                      try clear hfz34_1
                      try clear hfz34_2
                      try clear hfz34_3
                      try clear hfz34_4
                      try clear hfz34_5
                      try clear hfz37_0
                      try clear hfz37_1
                      try clear hfz37_2
                      try clear hfz37_3
                      try clear hfz37_4
                      try clear hfz38_0
                      try clear hfz38_1
                      try clear hfz38_2
                      try clear hfz38_3
                      try clear hfz38_4
                      try clear hfz38_5
                      try clear hfz42_0
                      try clear hfz42_1
                      try clear hfz42_2
                      try clear hfz42_3
                      try clear hfz42_4
                      try clear hfz43_0
                      try clear hfz43_1
                      try clear hfz43_2
                      try clear hfz43_3
                      try clear hfz43_4
                      try clear hfz43_5
                      try clear hfz45_0
                      try clear hfz45_1
                      try clear hfz45_2
                      try clear hfz45_3
                      try clear hfz45_4
                      try clear hfz46_0
                      try clear hfz46_1
                      try clear hfz46_2
                      try clear hfz46_3
                      try clear hfz46_4
                      try clear hfz46_5
                      try clear hfz48_0
                      try clear hfz48_1
                      try clear hfz48_2
                      try clear hfz48_3
                      try clear hfz48_4
                      try clear hfz49_0
                      try clear hfz49_1
                      try clear hfz49_2
                      try clear hfz49_3
                      try clear hfz49_4
                      try clear hfz49_5
                      try clear hfz53_0
                      try clear hfz53_1
                      try clear hfz53_2
                      try clear hfz53_3
                      try clear hfz53_4
                      try clear hfz54_0
                      try clear hfz54_1
                      try clear hfz54_2
                      try clear hfz54_3
                      try clear hfz54_4
                      try clear hfz54_5
                      try clear hfz56_0
                      try clear hfz56_1
                      try clear hfz56_2
                      try clear hfz56_3
                      try clear hfz56_4
                      try clear hfz57_0
                      try clear hfz57_1
                      try clear hfz57_2
                      try clear hfz57_3
                      try clear hfz57_4
                      try clear hfz57_5
                      try clear hfz59_0
                      try clear hfz59_1
                      try clear hfz59_2
                      try clear hfz59_3
                      try clear hfz59_4
                      try clear hfz60_0
                      try clear hfz60_1
                      try clear hfz60_2
                      try clear hfz60_3
                      try clear hfz60_4
                      try clear hfz60_5
                      try clear hfz7_0
                      try clear hfz7_1
                      try clear hfz7_2
                      try clear hfz7_3
                      try clear hfz7_4
                      try clear p2
                      obtain ⟨kq, x78_28, rfl, HA, HJ28, BK119, BK132, HB⟩ := hcut
                      cases kq with
                      | zero => exact absurd HA.out (by simp [laws_FnDi.j3])
                      | succ kj28 =>
                        have H := HA.out
                        clear HA
                        simp only [laws_FnDi.j3] at H
                        by_cases c61 : x78_28 = true
                        · subst c61
                          have H1 : (some false) = some r := by rw [if_pos rfl] at H; exact H
                          clear H
                          have H := H1
                          clear H1
                          obtain rfl := Option.some.inj H
                          go_wp2
                          go_ret
                          exact ⟨by first | rfl | (simp [errW_none, errW_some] <;> rfl) | (simp [*, errW_none, errW_some] <;> rfl), by repeat (first | (with_reducible first | exact HB.out | apply below_alloc | apply pw_below_drewN | apply below_drew1 | refine below_set ?_ GE119.out | refine below_set ?_ GE132.out) | exact HB.out)⟩
                        · replace c61 := Bool.eq_false_iff.mpr c61
                          subst c61
                          have H1 : (if x120002_1 = true then (if x120003_1 = true then (laws_FnDi.j4 kj28 a0 l1 x5_1 x7_1 false x120000_1 x120001_1 x120002_1 x120003_1 x120004_1) else (if t131 = (wrap64 (4 + (wrap64 (Int.tmod a0 4)))) then (laws_FnDi.j4 kj28 a0 l1 x5_1 x7_1 false x120000_1 x120001_1 x120002_1 x120003_1 x120004_1) else (laws_FnDi.j4 kj28 a0 l1 x5_1 x7_1 (x7_1 == 0) x120000_1 x120001_1 x120002_1 x120003_1 x120004_1))) else (laws_FnDi.j4 kj28 a0 l1 x5_1 x7_1 false x120000_1 x120001_1 x120002_1 x120003_1 x120004_1)) = some r := by rw [if_neg (show ¬ (false = true) by decide)] at H; exact H
                          clear H
                          have H := H1
                          clear H1
                          have HC62 := Aside0.mk H
                          clear H
                          go_upto_region 12 with (fail)
                          go_cut [98] (fun v98 wc => ∃ (kq : Nat) (x98_61 : Bool), v98 = .bool x98_61 ∧ Aside0 (laws_FnDi.j4 kq a0 l1 x5_1 x7_1 x98_61 x120000_1 x120001_1 x120002_1 x120003_1 x120004_1 = some r) ∧ Aside0 (kq ≤ kj28) ∧ Aside0 (wc.heap[gb119]? = some (.cells #[.bool x120000_1, .bool x120001_1, .bool x120002_1, .bool x120003_1, .bool x120004_1] 62 (0, 0))) ∧ Aside0 (wc.heap[gb132]? = some (.cells #[.bool t126, .bool t127, .bool t128, .bool t129, .bool t130, .int .i64 t131] 65 (0, 0))) ∧ Aside0 (Below w.heap.size w wc))
                          case first =>
                            have H := HC62.out
                            clear HC62
                            by_cases c63 : x120002_1 = true
                            · subst c63
                              have H1 : (if x120003_1 = true then (laws_FnDi.j4 kj28 a0 l1 x5_1 x7_1 false x120000_1 x120001_1 true x120003_1 x120004_1) else (if t131 = (wrap64 (4 + (wrap64 (Int.tmod a0 4)))) then (laws_FnDi.j4 kj28 a0 l1 x5_1 x7_1 false x120000_1 x120001_1 true x120003_1 x120004_1) else (laws_FnDi.j4 kj28 a0 l1 x5_1 x7_1 (x7_1 == 0) x120000_1 x120001_1 true x120003_1 x120004_1))) = some r := by rw [if_pos rfl] at H; exact H
                              clear H
                              have H := H1
                              clear H1
                              by_cases c64 : x120003_1 = true
                              · subst c64
                                have H1 : (laws_FnDi.j4 kj28 a0 l1 x5_1 x7_1 false x120000_1 x120001_1 true true x120004_1) = some r := by rw [if_pos rfl] at H; exact H
                                clear H
                                have H := H1
                                clear H1
                                have H' := Aside0.mk H
                                clear H
                                have hnb65 := NB119_132.out
                                have hnc65 := NB132_119.out
                                have hcz66_0 : wc.cell? ⟨gb119, 0, none⟩ = some (.bool x120000_1) := (blk_cell BK119.out 0).trans rfl
                                have hcz66_1 : wc.cell? ⟨gb119, 1, none⟩ = some (.bool x120001_1) := (blk_cell BK119.out 1).trans rfl
                                have hcz66_2 : wc.cell? ⟨gb119, 2, none⟩ = some (.bool true) := (blk_cell BK119.out 2).trans rfl
                                have hcz66_3 : wc.cell? ⟨gb119, 3, none⟩ = some (.bool true) := (blk_cell BK119.out 3).trans rfl
                                have hcz66_4 : wc.cell? ⟨gb119, 4, none⟩ = some (.bool x120004_1) := (blk_cell BK119.out 4).trans rfl
                                have hfz66_0 := blk_frozen BK119.out 0
                                have hfz66_1 := blk_frozen BK119.out 1
                                have hfz66_2 := blk_frozen BK119.out 2
                                have hfz66_3 := blk_frozen BK119.out 3
                                have hfz66_4 := blk_frozen BK119.out 4
                                go_wp2
                                go_meet
                                case rel => exact ⟨_, (false), (by first | rfl | (simp; done) | (simp [*]; done)), H', ⟨by have := HK1.out; have := HJ7.out; have := HJ11.out; have := HJ28.out; first | omega | exact Nat.le_refl _⟩, ⟨by (with_reducible repeat (first | refine blk_drewN ?_ _ | refine blk_drew ?_ | refine blk_alloc ?_ _)); exact BK119.out⟩, ⟨by (with_reducible repeat (first | refine blk_drewN ?_ _ | refine blk_drew ?_ | refine blk_alloc ?_ _)); exact BK132.out⟩, ⟨by repeat (first | (with_reducible first | exact HB.out | apply below_alloc | apply pw_below_drewN | apply below_drew1 | refine below_set ?_ GE119.out | refine below_set ?_ GE132.out) | exact HB.out)⟩⟩
                              · replace c64 := Bool.eq_false_iff.mpr c64
                                subst c64
                                have H1 : (if t131 = (wrap64 (4 + (wrap64 (Int.tmod a0 4)))) then (laws_FnDi.j4 kj28 a0 l1 x5_1 x7_1 false x120000_1 x120001_1 true false x120004_1) else (laws_FnDi.j4 kj28 a0 l1 x5_1 x7_1 (x7_1 == 0) x120000_1 x120001_1 true false x120004_1)) = some r := by rw [if_neg (show ¬ (false = true) by decide)] at H; exact H
                                clear H
                                have H := H1
                                clear H1
                                by_cases c67 : t131 = (wrap64 (4 + (wrap64 (Int.tmod a0 4))))
                                · rw [if_pos c67] at H
                                  have c67b0 : (t131 == (wrap64 (4 + (wrap64 (Int.tmod a0 4))))) = true := beq_iff_eq.mpr c67
                                  have c67b1 : (t131 != (wrap64 (4 + (wrap64 (Int.tmod a0 4))))) = false := bne_eq_false_iff_eq.mpr c67
                                  clear c67
                                  (first | rw [c67b0] | (simp only [i64_w, i32_w]; rw [c67b0]) | skip)
                                  have H' := Aside0.mk H
                                  clear H
                                  have hnb68 := NB119_132.out
                                  have hnc68 := NB132_119.out
                                  have hcz69_0 : wc.cell? ⟨gb119, 0, none⟩ = some (.bool x120000_1) := (blk_cell BK119.out 0).trans rfl
                                  have hcz69_1 : wc.cell? ⟨gb119, 1, none⟩ = some (.bool x120001_1) := (blk_cell BK119.out 1).trans rfl
                                  have hcz69_2 : wc.cell? ⟨gb119, 2, none⟩ = some (.bool true) := (blk_cell BK119.out 2).trans rfl
                                  have hcz69_3 : wc.cell? ⟨gb119, 3, none⟩ = some (.bool false) := (blk_cell BK119.out 3).trans rfl
                                  have hcz69_4 : wc.cell? ⟨gb119, 4, none⟩ = some (.bool x120004_1) := (blk_cell BK119.out 4).trans rfl
                                  have hfz69_0 := blk_frozen BK119.out 0
                                  have hfz69_1 := blk_frozen BK119.out 1
                                  have hfz69_2 := blk_frozen BK119.out 2
                                  have hfz69_3 := blk_frozen BK119.out 3
                                  have hfz69_4 := blk_frozen BK119.out 4
                                  have hcz70_0 : wc.cell? ⟨gb132, 0, none⟩ = some (.bool t126) := (blk_cell BK132.out 0).trans rfl
                                  have hcz70_1 : wc.cell? ⟨gb132, 1, none⟩ = some (.bool t127) := (blk_cell BK132.out 1).trans rfl
                                  have hcz70_2 : wc.cell? ⟨gb132, 2, none⟩ = some (.bool t128) := (blk_cell BK132.out 2).trans rfl
                                  have hcz70_3 : wc.cell? ⟨gb132, 3, none⟩ = some (.bool t129) := (blk_cell BK132.out 3).trans rfl
                                  have hcz70_4 : wc.cell? ⟨gb132, 4, none⟩ = some (.bool t130) := (blk_cell BK132.out 4).trans rfl
                                  have hcz70_5 : wc.cell? ⟨gb132, 5, none⟩ = some (.int .i64 t131) := (blk_cell BK132.out 5).trans rfl
                                  have hfz70_0 := blk_frozen BK132.out 0
                                  have hfz70_1 := blk_frozen BK132.out 1
                                  have hfz70_2 := blk_frozen BK132.out 2
                                  have hfz70_3 := blk_frozen BK132.out 3
                                  have hfz70_4 := blk_frozen BK132.out 4
                                  have hfz70_5 := blk_frozen BK132.out 5
                                  go_wp2
                                  go_meet
                                  case rel => exact ⟨_, (false), (by first | rfl | (simp; done) | (simp [*]; done)), H', ⟨by have := HK1.out; have := HJ7.out; have := HJ11.out; have := HJ28.out; first | omega | exact Nat.le_refl _⟩, ⟨by (with_reducible repeat (first | refine blk_drewN ?_ _ | refine blk_drew ?_ | refine blk_alloc ?_ _)); exact BK119.out⟩, ⟨by (with_reducible repeat (first | refine blk_drewN ?_ _ | refine blk_drew ?_ | refine blk_alloc ?_ _)); exact BK132.out⟩, ⟨by repeat (first | (with_reducible first | exact HB.out | apply below_alloc | apply pw_below_drewN | apply below_drew1 | refine below_set ?_ GE119.out | refine below_set ?_ GE132.out) | exact HB.out)⟩⟩
                                · rw [if_neg c67] at H
                                  have c67b0 : (t131 == (wrap64 (4 + (wrap64 (Int.tmod a0 4))))) = false := beq_eq_false_iff_ne.mpr c67
                                  have c67b1 : (t131 != (wrap64 (4 + (wrap64 (Int.tmod a0 4))))) = true := bne_iff_ne.mpr c67
                                  (first | rw [c67b0] | (simp only [i64_w, i32_w]; rw [c67b0]) | skip)
                                  have H' := Aside0.mk H
                                  clear H
                                  have hnb71 := NB119_132.out
                                  have hnc71 := NB132_119.out
                                  have hcz72_0 : wc.cell? ⟨gb119, 0, none⟩ = some (.bool x120000_1) := (blk_cell BK119.out 0).trans rfl
                                  have hcz72_1 : wc.cell? ⟨gb119, 1, none⟩ = some (.bool x120001_1) := (blk_cell BK119.out 1).trans rfl
                                  have hcz72_2 : wc.cell? ⟨gb119, 2, none⟩ = some (.bool true) := (blk_cell BK119.out 2).trans rfl
                                  have hcz72_3 : wc.cell? ⟨gb119, 3, none⟩ = some (.bool false) := (blk_cell BK119.out 3).trans rfl
                                  have hcz72_4 : wc.cell? ⟨gb119, 4, none⟩ = some (.bool x120004_1) := (blk_cell BK119.out 4).trans rfl
                                  have hfz72_0 := blk_frozen BK119.out 0
                                  have hfz72_1 := blk_frozen BK119.out 1
                                  have hfz72_2 := blk_frozen BK119.out 2
                                  have hfz72_3 := blk_frozen BK119.out 3
                                  have hfz72_4 := blk_frozen BK119.out 4
                                  have hcz73_0 : wc.cell? ⟨gb132, 0, none⟩ = some (.bool t126) := (blk_cell BK132.out 0).trans rfl
                                  have hcz73_1 : wc.cell? ⟨gb132, 1, none⟩ = some (.bool t127) := (blk_cell BK132.out 1).trans rfl
                                  have hcz73_2 : wc.cell? ⟨gb132, 2, none⟩ = some (.bool t128) := (blk_cell BK132.out 2).trans rfl
                                  have hcz73_3 : wc.cell? ⟨gb132, 3, none⟩ = some (.bool t129) := (blk_cell BK132.out 3).trans rfl
                                  have hcz73_4 : wc.cell? ⟨gb132, 4, none⟩ = some (.bool t130) := (blk_cell BK132.out 4).trans rfl
                                  have hcz73_5 : wc.cell? ⟨gb132, 5, none⟩ = some (.int .i64 t131) := (blk_cell BK132.out 5).trans rfl
                                  have hfz73_0 := blk_frozen BK132.out 0
                                  have hfz73_1 := blk_frozen BK132.out 1
                                  have hfz73_2 := blk_frozen BK132.out 2
                                  have hfz73_3 := blk_frozen BK132.out 3
                                  have hfz73_4 := blk_frozen BK132.out 4
                                  have hfz73_5 := blk_frozen BK132.out 5
                                  go_wp2
                                  go_meet
                                  case rel => exact ⟨_, ((x7_1 == 0)), (by first | rfl | (simp; done) | (simp [*]; done)), H', ⟨by have := HK1.out; have := HJ7.out; have := HJ11.out; have := HJ28.out; first | omega | exact Nat.le_refl _⟩, ⟨by (with_reducible repeat (first | refine blk_drewN ?_ _ | refine blk_drew ?_ | refine blk_alloc ?_ _)); exact BK119.out⟩, ⟨by (with_reducible repeat (first | refine blk_drewN ?_ _ | refine blk_drew ?_ | refine blk_alloc ?_ _)); exact BK132.out⟩, ⟨by repeat (first | (with_reducible first | exact HB.out | apply below_alloc | apply pw_below_drewN | apply below_drew1 | refine below_set ?_ GE119.out | refine below_set ?_ GE132.out) | exact HB.out)⟩⟩
                            · replace c63 := Bool.eq_false_iff.mpr c63
                              subst c63
                              have H1 : (laws_FnDi.j4 kj28 a0 l1 x5_1 x7_1 false x120000_1 x120001_1 false x120003_1 x120004_1) = some r := by rw [if_neg (show ¬ (false = true) by decide)] at H; exact H
                              clear H
                              have H := H1
                              clear H1
                              have H' := Aside0.mk H
                              clear H
                              have hnb74 := NB119_132.out
                              have hnc74 := NB132_119.out
                              have hcz75_0 : wc.cell? ⟨gb119, 0, none⟩ = some (.bool x120000_1) := (blk_cell BK119.out 0).trans rfl
                              have hcz75_1 : wc.cell? ⟨gb119, 1, none⟩ = some (.bool x120001_1) := (blk_cell BK119.out 1).trans rfl
                              have hcz75_2 : wc.cell? ⟨gb119, 2, none⟩ = some (.bool false) := (blk_cell BK119.out 2).trans rfl
                              have hcz75_3 : wc.cell? ⟨gb119, 3, none⟩ = some (.bool x120003_1) := (blk_cell BK119.out 3).trans rfl
                              have hcz75_4 : wc.cell? ⟨gb119, 4, none⟩ = some (.bool x120004_1) := (blk_cell BK119.out 4).trans rfl
                              have hfz75_0 := blk_frozen BK119.out 0
                              have hfz75_1 := blk_frozen BK119.out 1
                              have hfz75_2 := blk_frozen BK119.out 2
                              have hfz75_3 := blk_frozen BK119.out 3
                              have hfz75_4 := blk_frozen BK119.out 4
                              go_wp2
                              go_meet
                              case rel => exact ⟨_, (false), (by first | rfl | (simp; done) | (simp [*]; done)), H', ⟨by have := HK1.out; have := HJ7.out; have := HJ11.out; have := HJ28.out; first | omega | exact Nat.le_refl _⟩, ⟨by (with_reducible repeat (first | refine blk_drewN ?_ _ | refine blk_drew ?_ | refine blk_alloc ?_ _)); exact BK119.out⟩, ⟨by (with_reducible repeat (first | refine blk_drewN ?_ _ | refine blk_drew ?_ | refine blk_alloc ?_ _)); exact BK132.out⟩, ⟨by repeat (first | (with_reducible first | exact HB.out | apply below_alloc | apply pw_below_drewN | apply below_drew1 | refine below_set ?_ GE119.out | refine below_set ?_ GE132.out) | exact HB.out)⟩⟩
                          case rest =>
                            clear HC62
                            try clear c1
                            try clear c2
                            try clear p2
                            try clear c3
                            try clear c3b0
                            try clear c3b1
                            try clear c4
                            try clear c5
                            try clear c6
                            try clear p6
                            try clear c7
                            try clear c9
                            try clear c9b0
                            try clear c10
                            try clear c13
                            try clear c15
                            try clear c17
                            try clear c17b0
                            try clear c17b1
                            try clear c17b2
                            try clear c18
                            try clear c21
                            try clear c21b0
                            try clear c21b1
                            try clear c21b2
                            try clear c22
                            try clear c25
                            try clear c28
                            try clear c30
                            try clear c31
                            try clear c31b0
                            try clear c31b1
                            try clear c31b2
                            try clear c32
                            try clear c34
                            try clear c35
                            try clear c35b0
                            try clear c35b1
                            try clear c35b2
                            try clear c36
                            try clear c39
                            try clear c40
                            try clear c41
                            try clear c44
                            try clear c47
                            try clear c50
                            try clear c51
                            try clear c52
                            try clear c55
                            try clear c58
                            try clear c61
                            try clear c63
                            try clear c64
                            try clear p64
                            try clear c65
                            try clear c67
                            try clear c67b0
                            try clear c67b1
                            try clear c68
                            try clear c71
                            try clear c74
                            try clear hcz16_0
                            try clear hcz16_1
                            try clear hcz16_2
                            try clear hcz16_3
                            try clear hcz16_4
                            try clear hcz16_5
                            try clear hcz19_0
                            try clear hcz19_1
                            try clear hcz19_2
                            try clear hcz19_3
                            try clear hcz19_4
                            try clear hcz19_5
                            try clear hcz20_0
                            try clear hcz20_1
                            try clear hcz20_2
                            try clear hcz20_3
                            try clear hcz20_4
                            try clear hcz23_0
                            try clear hcz23_1
                            try clear hcz23_2
                            try clear hcz23_3
                            try clear hcz23_4
                            try clear hcz23_5
                            try clear hcz24_0
                            try clear hcz24_1
                            try clear hcz24_2
                            try clear hcz24_3
                            try clear hcz24_4
                            try clear hcz26_0
                            try clear hcz26_1
                            try clear hcz26_2
                            try clear hcz26_3
                            try clear hcz26_4
                            try clear hcz26_5
                            try clear hcz27_0
                            try clear hcz27_1
                            try clear hcz27_2
                            try clear hcz27_3
                            try clear hcz27_4
                            try clear hcz33_0
                            try clear hcz33_1
                            try clear hcz33_2
                            try clear hcz33_3
                            try clear hcz33_4
                            try clear hcz34_0
                            try clear hcz34_1
                            try clear hcz34_2
                            try clear hcz34_3
                            try clear hcz34_4
                            try clear hcz34_5
                            try clear hcz37_0
                            try clear hcz37_1
                            try clear hcz37_2
                            try clear hcz37_3
                            try clear hcz37_4
                            try clear hcz38_0
                            try clear hcz38_1
                            try clear hcz38_2
                            try clear hcz38_3
                            try clear hcz38_4
                            try clear hcz38_5
                            try clear hcz42_0
                            try clear hcz42_1
                            try clear hcz42_2
                            try clear hcz42_3
                            try clear hcz42_4
                            try clear hcz43_0
                            try clear hcz43_1
                            try clear hcz43_2
                            try clear hcz43_3
                            try clear hcz43_4
                            try clear hcz43_5
                            try clear hcz45_0
                            try clear hcz45_1
                            try clear hcz45_2
                            try clear hcz45_3
                            try clear hcz45_4
                            try clear hcz46_0
                            try clear hcz46_1
                            try clear hcz46_2
                            try clear hcz46_3
                            try clear hcz46_4
                            try clear hcz46_5
                            try clear hcz48_0
                            try clear hcz48_1
                            try clear hcz48_2
                            try clear hcz48_3
                            try clear hcz48_4
                            try clear hcz49_0
                            try clear hcz49_1
                            try clear hcz49_2
                            try clear hcz49_3
                            try clear hcz49_4
                            try clear hcz49_5
                            try clear hcz53_0
                            try clear hcz53_1
                            try clear hcz53_2
                            try clear hcz53_3
                            try clear hcz53_4
                            try clear hcz54_0
                            try clear hcz54_1
                            try clear hcz54_2
                            try clear hcz54_3
                            try clear hcz54_4
                            try clear hcz54_5
                            try clear hcz56_0
                            try clear hcz56_1
                            try clear hcz56_2
                            try clear hcz56_3
                            try clear hcz56_4
                            try clear hcz57_0
                            try clear hcz57_1
                            try clear hcz57_2
                            try clear hcz57_3
                            try clear hcz57_4
                            try clear hcz57_5
                            try clear hcz59_0
                            try clear hcz59_1
                            try clear hcz59_2
                            try clear hcz59_3
                            try clear hcz59_4
                            try clear hcz60_0
                            try clear hcz60_1
                            try clear hcz60_2
                            try clear hcz60_3
                            try clear hcz60_4
                            try clear hcz60_5
                            try clear hcz66_0
                            try clear hcz66_1
                            try clear hcz66_2
                            try clear hcz66_3
                            try clear hcz66_4
                            try clear hcz69_0
                            try clear hcz69_1
                            try clear hcz69_2
                            try clear hcz69_3
                            try clear hcz69_4
                            try clear hcz70_0
                            try clear hcz70_1
                            try clear hcz70_2
                            try clear hcz70_3
                            try clear hcz70_4
                            try clear hcz70_5
                            try clear hcz72_0
                            try clear hcz72_1
                            try clear hcz72_2
                            try clear hcz72_3
                            try clear hcz72_4
                            try clear hcz73_0
                            try clear hcz73_1
                            try clear hcz73_2
                            try clear hcz73_3
                            try clear hcz73_4
                            try clear hcz73_5
                            try clear hcz75_0
                            try clear hcz75_1
                            try clear hcz75_2
                            try clear hcz75_3
                            try clear hcz75_4
                            try clear hcz7_0
                            try clear hcz7_1
                            try clear hcz7_2
                            try clear hcz7_3
                            try clear hcz7_4
                            try clear hfz16_0
                            try clear hfz16_1
                            try clear hfz16_2
                            try clear hfz16_3
                            try clear hfz16_4
                            try clear hfz16_5
                            try clear hfz19_0
                            try clear hfz19_1
                            try clear hfz19_2
                            try clear hfz19_3
                            try clear hfz19_4
                            try clear hfz19_5
                            try clear hfz20_0
                            try clear hfz20_1
                            try clear hfz20_2
                            try clear hfz20_3
                            try clear hfz20_4
                            try clear hfz23_0
                            try clear hfz23_1
                            try clear hfz23_2
                            try clear hfz23_3
                            try clear hfz23_4
                            try clear hfz23_5
                            try clear hfz24_0
                            try clear hfz24_1
                            try clear hfz24_2
                            try clear hfz24_3
                            try clear hfz24_4
                            try clear hfz26_0
                            try clear hfz26_1
                            try clear hfz26_2
                            try clear hfz26_3
                            try clear hfz26_4
                            try clear hfz26_5
                            try clear hfz27_0
                            try clear hfz27_1
                            try clear hfz27_2
                            try clear hfz27_3
                            try clear hfz27_4
                            try clear hfz33_0
                            try clear hfz33_1
                            try clear hfz33_2
                            try clear hfz33_3
                            try clear hfz33_4
                            try clear hfz34_0
                            try clear hfz34_1
                            try clear hfz34_2
                            try clear hfz34_3
                            try clear hfz34_4
                            try clear hfz34_5
                            try clear hfz37_0
                            try clear hfz37_1
                            try clear hfz37_2
                            try clear hfz37_3
                            try clear hfz37_4
                            try clear hfz38_0
                            try clear hfz38_1
                            try clear hfz38_2
                            try clear hfz38_3
                            try clear hfz38_4
                            try clear hfz38_5
                            try clear hfz42_0
                            try clear hfz42_1
                            try clear hfz42_2
                            try clear hfz42_3
                            try clear hfz42_4
                            try clear hfz43_0
                            try clear hfz43_1
                            try clear hfz43_2
                            try clear hfz43_3
                            try clear hfz43_4
                            try clear hfz43_5
                            try clear hfz45_0
                            try clear hfz45_1
                            try clear hfz45_2
                            try clear hfz45_3
                            try clear hfz45_4
                            try clear hfz46_0
                            try clear hfz46_1
                            try clear hfz46_2
                            try clear hfz46_3
                            try clear hfz46_4
                            try clear hfz46_5
                            try clear hfz48_0
                            try clear hfz48_1
                            try clear hfz48_2
                            try clear hfz48_3
                            try clear hfz48_4
                            try clear hfz49_0
                            try clear hfz49_1
                            try clear hfz49_2
                            try clear hfz49_3
                            try clear hfz49_4
                            try clear hfz49_5
                            try clear hfz53_0
                            try clear hfz53_1
                            try clear hfz53_2
                            try clear hfz53_3
                            try clear hfz53_4
                            try clear hfz54_0
                            try clear hfz54_1
                            try clear hfz54_2
                            try clear hfz54_3
                            try clear hfz54_4
                            try clear hfz54_5
                            try clear hfz56_0
                            try clear hfz56_1
                            try clear hfz56_2
                            try clear hfz56_3
                            try clear hfz56_4
                            try clear hfz57_0
                            try clear hfz57_1
                            try clear hfz57_2
                            try clear hfz57_3
                            try clear hfz57_4
                            try clear hfz57_5
                            try clear hfz59_0
                            try clear hfz59_1
                            try clear hfz59_2
                            try clear hfz59_3
                            try clear hfz59_4
                            try clear hfz60_0
                            try clear hfz60_1
                            try clear hfz60_2
                            try clear hfz60_3
                            try clear hfz60_4
                            try clear hfz60_5
                            try clear hfz66_0
                            try clear hfz66_1
                            try clear hfz66_2
                            try clear hfz66_3
                            try clear hfz66_4
                            try clear hfz69_0
                            try clear hfz69_1
                            try clear hfz69_2
                            try clear hfz69_3
                            try clear hfz69_4
                            try clear hfz70_0
                            try clear hfz70_1
                            try clear hfz70_2
                            try clear hfz70_3
                            try clear hfz70_4
                            try clear hfz70_5
                            try clear hfz72_0
                            try clear hfz72_1
                            try clear hfz72_2
                            try clear hfz72_3
                            try clear hfz72_4
                            try clear hfz73_0
                            try clear hfz73_1
                            try clear hfz73_2
                            try clear hfz73_3
                            try clear hfz73_4
                            try clear hfz73_5
                            try clear hfz75_0
                            try clear hfz75_1
                            try clear hfz75_2
                            try clear hfz75_3
                            try clear hfz75_4
                            try clear hfz7_0
                            try clear hfz7_1
                            try clear hfz7_2
                            try clear hfz7_3
                            try clear hfz7_4
                            try clear p2
                            obtain ⟨kq, x98_61, rfl, HA, HJ61, BK119, BK132, HB⟩ := hcut
                            cases kq with
                            | zero => exact absurd HA.out (by simp [laws_FnDi.j4])
                            | succ kj61 =>
                              have H := HA.out
                              clear HA
                              simp only [laws_FnDi.j4] at H
                              by_cases c76 : x98_61 = true
                              · subst c76
                                have H1 : (some false) = some r := by rw [if_pos rfl] at H; exact H
                                clear H
                                have H := H1
                                clear H1
                                obtain rfl := Option.some.inj H
                                go_wp2
                                go_ret
                                exact ⟨by first | rfl | (simp [errW_none, errW_some] <;> rfl) | (simp [*, errW_none, errW_some] <;> rfl), by repeat (first | (with_reducible first | exact HB.out | apply below_alloc | apply pw_below_drewN | apply below_drew1 | refine below_set ?_ GE119.out | refine below_set ?_ GE132.out) | exact HB.out)⟩
                              · replace c76 := Bool.eq_false_iff.mpr c76
                                subst c76
                                have H1 : (if x7_1 = (l1.length : Int) then (laws_FnDi.j5 kj61 a0 l1 x5_1 x7_1 true x120000_1 x120001_1 x120002_1 x120003_1 x120004_1) else (laws_FnDi.j5 kj61 a0 l1 x5_1 x7_1 (x7_1 == 40) x120000_1 x120001_1 x120002_1 x120003_1 x120004_1)) = some r := by rw [if_neg (show ¬ (false = true) by decide)] at H; exact H
                                clear H
                                have H := H1
                                clear H1
                                have HC77 := Aside0.mk H
                                clear H
                                go_upto_region 14 with (fail)
                                go_cut [106] (fun v106 wc => ∃ (kq : Nat) (x106_76 : Bool), v106 = .bool x106_76 ∧ Aside0 (laws_FnDi.j5 kq a0 l1 x5_1 x7_1 x106_76 x120000_1 x120001_1 x120002_1 x120003_1 x120004_1 = some r) ∧ Aside0 (kq ≤ kj61) ∧ Aside0 (wc.heap[gb119]? = some (.cells #[.bool x120000_1, .bool x120001_1, .bool x120002_1, .bool x120003_1, .bool x120004_1] 62 (0, 0))) ∧ Aside0 (wc.heap[gb132]? = some (.cells #[.bool t126, .bool t127, .bool t128, .bool t129, .bool t130, .int .i64 t131] 65 (0, 0))) ∧ Aside0 (Below w.heap.size w wc))
                                case first =>
                                  have H := HC77.out
                                  clear HC77
                                  by_cases c78 : x7_1 = (l1.length : Int)
                                  · rw [if_pos c78] at H
                                    have c78b0 : (x7_1 == (l1.length : Int)) = true := beq_iff_eq.mpr c78
                                    have c78b1 : (x7_1 != (l1.length : Int)) = false := bne_eq_false_iff_eq.mpr c78
                                    clear c78
                                    (first | rw [c78b0] | (simp only [i64_w, i32_w]; rw [c78b0]) | skip)
                                    have H' := Aside0.mk H
                                    clear H
                                    go_wp2
                                    go_meet
                                    case rel => exact ⟨_, (true), (by first | rfl | (simp; done) | (simp [*]; done)), H', ⟨by have := HK1.out; have := HJ7.out; have := HJ11.out; have := HJ28.out; have := HJ61.out; first | omega | exact Nat.le_refl _⟩, ⟨by (with_reducible repeat (first | refine blk_drewN ?_ _ | refine blk_drew ?_ | refine blk_alloc ?_ _)); exact BK119.out⟩, ⟨by (with_reducible repeat (first | refine blk_drewN ?_ _ | refine blk_drew ?_ | refine blk_alloc ?_ _)); exact BK132.out⟩, ⟨by repeat (first | (with_reducible first | exact HB.out | apply below_alloc | apply pw_below_drewN | apply below_drew1 | refine below_set ?_ GE119.out | refine below_set ?_ GE132.out) | exact HB.out)⟩⟩
                                  · rw [if_neg c78] at H
                                    have c78b0 : (x7_1 == (l1.length : Int)) = false := beq_eq_false_iff_ne.mpr c78
                                    have c78b1 : (x7_1 != (l1.length : Int)) = true := bne_iff_ne.mpr c78
                                    (first | rw [c78b0] | (simp only [i64_w, i32_w]; rw [c78b0]) | skip)
                                    have H' := Aside0.mk H
                                    clear H
                                    go_wp2
                                    go_meet
                                    case rel => exact ⟨_, ((x7_1 == 40)), (by first | rfl | (simp; done) | (simp [*]; done)), H', ⟨by have := HK1.out; have := HJ7.out; have := HJ11.out; have := HJ28.out; have := HJ61.out; first | omega | exact Nat.le_refl _⟩, ⟨by (with_reducible repeat (first | refine blk_drewN ?_ _ | refine blk_drew ?_ | refine blk_alloc ?_ _)); exact BK119.out⟩, ⟨by (with_reducible repeat (first | refine blk_drewN ?_ _ | refine blk_drew ?_ | refine blk_alloc ?_ _)); exact BK132.out⟩, ⟨by repeat (first | (with_reducible first | exact HB.out | apply below_alloc | apply pw_below_drewN | apply below_drew1 | refine below_set ?_ GE119.out | refine below_set ?_ GE132.out) | exact HB.out)⟩⟩
                                case rest =>
                                  clear HC77
                                  try clear c1
                                  try clear c2
                                  try clear p2
                                  try clear c3
                                  try clear c3b0
                                  try clear c3b1
                                  try clear c4
                                  try clear c5
                                  try clear c6
                                  try clear p6
                                  try clear c7
                                  try clear c9
                                  try clear c9b0
                                  try clear c10
                                  try clear c13
                                  try clear c15
                                  try clear c17
                                  try clear c17b0
                                  try clear c17b1
                                  try clear c17b2
                                  try clear c18
                                  try clear c21
                                  try clear c21b0
                                  try clear c21b1
                                  try clear c21b2
                                  try clear c22
                                  try clear c25
                                  try clear c28
                                  try clear c30
                                  try clear c31
                                  try clear c31b0
                                  try clear c31b1
                                  try clear c31b2
                                  try clear c32
                                  try clear c34
                                  try clear c35
                                  try clear c35b0
                                  try clear c35b1
                                  try clear c35b2
                                  try clear c36
                                  try clear c39
                                  try clear c40
                                  try clear c41
                                  try clear c44
                                  try clear c47
                                  try clear c50
                                  try clear c51
                                  try clear c52
                                  try clear c55
                                  try clear c58
                                  try clear c61
                                  try clear c63
                                  try clear c64
                                  try clear p64
                                  try clear c65
                                  try clear c67
                                  try clear c67b0
                                  try clear c67b1
                                  try clear c68
                                  try clear c71
                                  try clear c74
                                  try clear c76
                                  try clear c78
                                  try clear c78b0
                                  try clear c78b1
                                  try clear hcz16_0
                                  try clear hcz16_1
                                  try clear hcz16_2
                                  try clear hcz16_3
                                  try clear hcz16_4
                                  try clear hcz16_5
                                  try clear hcz19_0
                                  try clear hcz19_1
                                  try clear hcz19_2
                                  try clear hcz19_3
                                  try clear hcz19_4
                                  try clear hcz19_5
                                  try clear hcz20_0
                                  try clear hcz20_1
                                  try clear hcz20_2
                                  try clear hcz20_3
                                  try clear hcz20_4
                                  try clear hcz23_0
                                  try clear hcz23_1
                                  try clear hcz23_2
                                  try clear hcz23_3
                                  try clear hcz23_4
                                  try clear hcz23_5
                                  try clear hcz24_0
                                  try clear hcz24_1
                                  try clear hcz24_2
                                  try clear hcz24_3
                                  try clear hcz24_4
                                  try clear hcz26_0
                                  try clear hcz26_1
                                  try clear hcz26_2
                                  try clear hcz26_3
                                  try clear hcz26_4
                                  try clear hcz26_5
                                  try clear hcz27_0
                                  try clear hcz27_1
                                  try clear hcz27_2
                                  try clear hcz27_3
                                  try clear hcz27_4
                                  try clear hcz33_0
                                  try clear hcz33_1
                                  try clear hcz33_2
                                  try clear hcz33_3
                                  try clear hcz33_4
                                  try clear hcz34_0
                                  try clear hcz34_1
                                  try clear hcz34_2
                                  try clear hcz34_3
                                  try clear hcz34_4
                                  try clear hcz34_5
                                  try clear hcz37_0
                                  try clear hcz37_1
                                  try clear hcz37_2
                                  try clear hcz37_3
                                  try clear hcz37_4
                                  try clear hcz38_0
                                  try clear hcz38_1
                                  try clear hcz38_2
                                  try clear hcz38_3
                                  try clear hcz38_4
                                  try clear hcz38_5
                                  try clear hcz42_0
                                  try clear hcz42_1
                                  try clear hcz42_2
                                  try clear hcz42_3
                                  try clear hcz42_4
                                  try clear hcz43_0
                                  try clear hcz43_1
                                  try clear hcz43_2
                                  try clear hcz43_3
                                  try clear hcz43_4
                                  try clear hcz43_5
                                  try clear hcz45_0
                                  try clear hcz45_1
                                  try clear hcz45_2
                                  try clear hcz45_3
                                  try clear hcz45_4
                                  try clear hcz46_0
                                  try clear hcz46_1
                                  try clear hcz46_2
                                  try clear hcz46_3
                                  try clear hcz46_4
                                  try clear hcz46_5
                                  try clear hcz48_0
                                  try clear hcz48_1
                                  try clear hcz48_2
                                  try clear hcz48_3
                                  try clear hcz48_4
                                  try clear hcz49_0
                                  try clear hcz49_1
                                  try clear hcz49_2
                                  try clear hcz49_3
                                  try clear hcz49_4
                                  try clear hcz49_5
                                  try clear hcz53_0
                                  try clear hcz53_1
                                  try clear hcz53_2
                                  try clear hcz53_3
                                  try clear hcz53_4
                                  try clear hcz54_0
                                  try clear hcz54_1
                                  try clear hcz54_2
                                  try clear hcz54_3
                                  try clear hcz54_4
                                  try clear hcz54_5
                                  try clear hcz56_0
                                  try clear hcz56_1
                                  try clear hcz56_2
                                  try clear hcz56_3
                                  try clear hcz56_4
                                  try clear hcz57_0
                                  try clear hcz57_1
                                  try clear hcz57_2
                                  try clear hcz57_3
                                  try clear hcz57_4
                                  try clear hcz57_5
                                  try clear hcz59_0
                                  try clear hcz59_1
                                  try clear hcz59_2
                                  try clear hcz59_3
                                  try clear hcz59_4
                                  try clear hcz60_0
                                  try clear hcz60_1
                                  try clear hcz60_2
                                  try clear hcz60_3
                                  try clear hcz60_4
                                  try clear hcz60_5
                                  try clear hcz66_0
                                  try clear hcz66_1
                                  try clear hcz66_2
                                  try clear hcz66_3
                                  try clear hcz66_4
                                  try clear hcz69_0
                                  try clear hcz69_1
                                  try clear hcz69_2
                                  try clear hcz69_3
                                  try clear hcz69_4
                                  try clear hcz70_0
                                  try clear hcz70_1
                                  try clear hcz70_2
                                  try clear hcz70_3
                                  try clear hcz70_4
                                  try clear hcz70_5
                                  try clear hcz72_0
                                  try clear hcz72_1
                                  try clear hcz72_2
                                  try clear hcz72_3
                                  try clear hcz72_4
                                  try clear hcz73_0
                                  try clear hcz73_1
                                  try clear hcz73_2
                                  try clear hcz73_3
                                  try clear hcz73_4
                                  try clear hcz73_5
                                  try clear hcz75_0
                                  try clear hcz75_1
                                  try clear hcz75_2
                                  try clear hcz75_3
                                  try clear hcz75_4
                                  try clear hcz7_0
                                  try clear hcz7_1
                                  try clear hcz7_2
                                  try clear hcz7_3
                                  try clear hcz7_4
                                  try clear hfz16_0
                                  try clear hfz16_1
                                  try clear hfz16_2
                                  try clear hfz16_3
                                  try clear hfz16_4
                                  try clear hfz16_5
                                  try clear hfz19_0
                                  try clear hfz19_1
                                  try clear hfz19_2
                                  try clear hfz19_3
                                  try clear hfz19_4
                                  try clear hfz19_5
                                  try clear hfz20_0
                                  try clear hfz20_1
                                  try clear hfz20_2
                                  try clear hfz20_3
                                  try clear hfz20_4
                                  try clear hfz23_0
                                  try clear hfz23_1
                                  try clear hfz23_2
                                  try clear hfz23_3
                                  try clear hfz23_4
                                  try clear hfz23_5
                                  try clear hfz24_0
                                  try clear hfz24_1
                                  try clear hfz24_2
                                  try clear hfz24_3
                                  try clear hfz24_4
                                  try clear hfz26_0
                                  try clear hfz26_1
                                  try clear hfz26_2
                                  try clear hfz26_3
                                  try clear hfz26_4
                                  try clear hfz26_5
                                  try clear hfz27_0
                                  try clear hfz27_1
                                  try clear hfz27_2
                                  try clear hfz27_3
                                  try clear hfz27_4
                                  try clear hfz33_0
                                  try clear hfz33_1
                                  try clear hfz33_2
                                  try clear hfz33_3
                                  try clear hfz33_4
                                  try clear hfz34_0
                                  try clear hfz34_1
                                  try clear hfz34_2
                                  try clear hfz34_3
                                  try clear hfz34_4
                                  try clear hfz34_5
                                  try clear hfz37_0
                                  try clear hfz37_1
                                  try clear hfz37_2
                                  try clear hfz37_3
                                  try clear hfz37_4
                                  try clear hfz38_0
                                  try clear hfz38_1
                                  try clear hfz38_2
                                  try clear hfz38_3
                                  try clear hfz38_4
                                  try clear hfz38_5
                                  try clear hfz42_0
                                  try clear hfz42_1
                                  try clear hfz42_2
                                  try clear hfz42_3
                                  try clear hfz42_4
                                  try clear hfz43_0
                                  try clear hfz43_1
                                  try clear hfz43_2
                                  try clear hfz43_3
                                  try clear hfz43_4
                                  try clear hfz43_5
                                  try clear hfz45_0
                                  try clear hfz45_1
                                  try clear hfz45_2
                                  try clear hfz45_3
                                  try clear hfz45_4
                                  try clear hfz46_0
                                  try clear hfz46_1
                                  try clear hfz46_2
                                  try clear hfz46_3
                                  try clear hfz46_4
                                  try clear hfz46_5
                                  try clear hfz48_0
                                  try clear hfz48_1
                                  try clear hfz48_2
                                  try clear hfz48_3
                                  try clear hfz48_4
                                  try clear hfz49_0
                                  try clear hfz49_1
                                  try clear hfz49_2
                                  try clear hfz49_3
                                  try clear hfz49_4
                                  try clear hfz49_5
                                  try clear hfz53_0
                                  try clear hfz53_1
                                  try clear hfz53_2
                                  try clear hfz53_3
                                  try clear hfz53_4
                                  try clear hfz54_0
                                  try clear hfz54_1
                                  try clear hfz54_2
                                  try clear hfz54_3
                                  try clear hfz54_4
                                  try clear hfz54_5
                                  try clear hfz56_0
                                  try clear hfz56_1
                                  try clear hfz56_2
                                  try clear hfz56_3
                                  try clear hfz56_4
                                  try clear hfz57_0
                                  try clear hfz57_1
                                  try clear hfz57_2
                                  try clear hfz57_3
                                  try clear hfz57_4
                                  try clear hfz57_5
                                  try clear hfz59_0
                                  try clear hfz59_1
                                  try clear hfz59_2
                                  try clear hfz59_3
                                  try clear hfz59_4
                                  try clear hfz60_0
                                  try clear hfz60_1
                                  try clear hfz60_2
                                  try clear hfz60_3
                                  try clear hfz60_4
                                  try clear hfz60_5
                                  try clear hfz66_0
                                  try clear hfz66_1
                                  try clear hfz66_2
                                  try clear hfz66_3
                                  try clear hfz66_4
                                  try clear hfz69_0
                                  try clear hfz69_1
                                  try clear hfz69_2
                                  try clear hfz69_3
                                  try clear hfz69_4
                                  try clear hfz70_0
                                  try clear hfz70_1
                                  try clear hfz70_2
                                  try clear hfz70_3
                                  try clear hfz70_4
                                  try clear hfz70_5
                                  try clear hfz72_0
                                  try clear hfz72_1
                                  try clear hfz72_2
                                  try clear hfz72_3
                                  try clear hfz72_4
                                  try clear hfz73_0
                                  try clear hfz73_1
                                  try clear hfz73_2
                                  try clear hfz73_3
                                  try clear hfz73_4
                                  try clear hfz73_5
                                  try clear hfz75_0
                                  try clear hfz75_1
                                  try clear hfz75_2
                                  try clear hfz75_3
                                  try clear hfz75_4
                                  try clear hfz7_0
                                  try clear hfz7_1
                                  try clear hfz7_2
                                  try clear hfz7_3
                                  try clear hfz7_4
                                  try clear p2
                                  try clear p6
                                  try clear p64
                                  obtain ⟨kq, x106_76, rfl, HA, HJ76, BK119, BK132, HB⟩ := hcut
                                  cases kq with
                                  | zero => exact absurd HA.out (by simp [laws_FnDi.j5])
                                  | succ kj76 =>
                                    have H := HA.out
                                    clear HA
                                    simp only [laws_FnDi.j5] at H
                                    by_cases c79 : x106_76 = true
                                    · subst c79
                                      have H1 : ((impl_DiTells.f 3).bind fun bt133 => (some bt133.2.1)) = some r := by rw [if_pos rfl] at H; exact H
                                      clear H
                                      have H := H1
                                      clear H1
                                      replace H := Option.bind_eq_some_iff.mp H
                                      obtain ⟨⟨t133, t134, t135, t136, t137, t138⟩, A800, H⟩ := H
                                      replace H : (some t134) = some r := H
                                      have A80 := Aside0.mk A800
                                      clear A800
                                      obtain rfl := Option.some.inj H
                                      go_wp2_with (first | ((with_reducible refine gate_callee (f := 34) rfl ?_); refine goesL_ (some 131) rfl rfl Try.func34 (by kernel_rfl) rfl #[.int .u8 3] rfl (by (try simp only [List.map_toArray, List.map_cons, List.map_nil]); first | done | rfl | (simp only [List.length_drop, List.length_take]; rfl)) ?_; (with_reducible refine (impl_DiTells.calls 3 t133 t134 t135 t136 t137 t138 _ A80.out).mono ?_); rintro e w81 ⟨rfl, hb⟩; refine ⟨_, rfl, ?_⟩; have n0_ := Aside0.mk (blk_below (g := gb119) (o := .cells #[.bool x120000_1, .bool x120001_1, .bool x120002_1, .bool x120003_1, .bool x120004_1] 62 (0, 0)) (by (with_reducible repeat (first | refine blk_drewN ?_ _ | refine blk_drew ?_ | refine blk_alloc ?_ _)); exact BK119.out) hb); have n1_ := Aside0.mk (blk_below (g := gb132) (o := .cells #[.bool t126, .bool t127, .bool t128, .bool t129, .bool t130, .int .i64 t131] 65 (0, 0)) (by (with_reducible repeat (first | refine blk_drewN ?_ _ | refine blk_drew ?_ | refine blk_alloc ?_ _)); exact BK132.out) hb); have n2_ := Aside0.mk (below_step (by repeat (first | (with_reducible first | exact HB.out | apply below_alloc | apply pw_below_drewN | apply below_drew1 | refine below_set ?_ GE119.out | refine below_set ?_ GE132.out) | exact HB.out)) hb); clear BK119; clear BK132; clear HB; have BK119 := n0_; have BK132 := n1_; have HB := n2_; clear n0_ n1_ n2_; (try clear hb); (try clear hb2); (try clear hk); (try clear hi)))
                                      go_ret
                                      exact ⟨by first | rfl | (simp [errW_none, errW_some] <;> rfl) | (simp [*, errW_none, errW_some] <;> rfl), by repeat (first | (with_reducible first | exact HB.out | apply below_alloc | apply pw_below_drewN | apply below_drew1 | refine below_set ?_ GE119.out | refine below_set ?_ GE132.out) | exact HB.out)⟩
                                    · replace c79 := Bool.eq_false_iff.mpr c79
                                      subst c79
                                      have H1 : (if 0 ≤ x7_1 then (if x7_1 < (l1.length : Int) then (if (Int.tmod (rd l1 x7_1) 5) = 0 then ((impl_DiSwitch.f x5_1).bind fun t140 => ((spec_Di_Does.f x120000_1 x120001_1 x120002_1 x120003_1 x120004_1 (Int.tmod (rd l1 x7_1) 5)).bind fun bt141 => (laws_FnDi.l0 kj76 a0 l1 t140 (wrap64 (x7_1 + 1)) bt141.1 bt141.2.1 bt141.2.2.1 bt141.2.2.2.1 bt141.2.2.2.2))) else (if (Int.tmod (rd l1 x7_1) 5) = 1 then (laws_FnDi.j6 kj76 a0 l1 x5_1 x7_1 (Int.tmod (rd l1 x7_1) 5) ((Int.tmod (rd l1 x7_1) 5) == 1) x120000_1 x120001_1 x120002_1 x120003_1 x120004_1) else (laws_FnDi.j6 kj76 a0 l1 x5_1 x7_1 (Int.tmod (rd l1 x7_1) 5) ((Int.tmod (rd l1 x7_1) 5) == 2) x120000_1 x120001_1 x120002_1 x120003_1 x120004_1))) else (none)) else (none)) = some r := by rw [if_neg (show ¬ (false = true) by decide)] at H; exact H
                                      clear H
                                      have H := H1
                                      clear H1
                                      by_cases c82 : 0 ≤ x7_1
                                      · rw [if_pos c82] at H
                                        have c82b0 : decide (0 ≤ x7_1) = true := decide_eq_true c82
                                        clear c82
                                        by_cases c83 : x7_1 < (l1.length : Int)
                                        · rw [if_pos c83] at H
                                          have c83b0 : decide (x7_1 < (l1.length : Int)) = true := decide_eq_true c83
                                          clear c83
                                          by_cases c84 : (Int.tmod (rd l1 x7_1) 5) = 0
                                          · rw [if_pos c84] at H
                                            have c84b0 : ((Int.tmod (rd l1 x7_1) 5) == 0) = true := beq_iff_eq.mpr c84
                                            have c84b1 : ((Int.tmod (rd l1 x7_1) 5) != 0) = false := bne_eq_false_iff_eq.mpr c84
                                            clear c84
                                            replace H := Option.bind_eq_some_iff.mp H
                                            obtain ⟨t140, A850, H⟩ := H
                                            replace H : ((spec_Di_Does.f x120000_1 x120001_1 x120002_1 x120003_1 x120004_1 (Int.tmod (rd l1 x7_1) 5)).bind fun bt141 => (laws_FnDi.l0 kj76 a0 l1 t140 (wrap64 (x7_1 + 1)) bt141.1 bt141.2.1 bt141.2.2.1 bt141.2.2.2.1 bt141.2.2.2.2)) = some r := H
                                            have A85 := Aside0.mk A850
                                            clear A850
                                            replace H := Option.bind_eq_some_iff.mp H
                                            obtain ⟨⟨t141, t142, t143, t144, t145⟩, A860, H⟩ := H
                                            replace H : (laws_FnDi.l0 kj76 a0 l1 t140 (wrap64 (x7_1 + 1)) t141 t142 t143 t144 t145) = some r := H
                                            have A86 := Aside0.mk A860
                                            clear A860
                                            have H' := Aside0.mk H
                                            clear H
                                            have p139 : 0 ≤ (x7_1 : Int) := of_decide_eq_true (by first | (with_reducible assumption) | assumption)
                                            have q139 : x7_1 < (l1.length : Int) := of_decide_eq_true (by first | (with_reducible assumption) | assumption)
                                            obtain ⟨ad139, e139, hx139_0⟩ := Kd.at_int HR1.out x7_1 p139 q139
                                            cases e139
                                            replace hx139_0 := (HB.out.cell (World.block_lt_of_cell? w _ hx139_0)).trans hx139_0
                                            replace p139 := eq_true p139
                                            replace q139 := eq_true q139
                                            go_wp2_with (first | ((with_reducible refine gate_callee (f := 35) rfl ?_); refine goesL_ (some 120) rfl rfl Try.func35 (by kernel_rfl) rfl #[.int .u8 x5_1] rfl (by (try simp only [List.map_toArray, List.map_cons, List.map_nil]); first | done | rfl | (simp only [List.length_drop, List.length_take]; rfl)) ?_; (with_reducible refine (impl_DiSwitch.calls x5_1 t140 _ A85.out).mono ?_); rintro e w' ⟨rfl, ⟨nd, rfl⟩⟩; refine ⟨_, rfl, ?_⟩; (try (rw [drewN_self wc]; generalize hq_ : World.drewN wc _ = wc; have n0_ : Aside0 (wc.heap[gb119]? = some (.cells #[.bool x120000_1, .bool x120001_1, .bool x120002_1, .bool x120003_1, .bool x120004_1] 62 (0, 0))) := ⟨by rw [← hq_]; exact (by (with_reducible repeat (first | refine blk_drewN ?_ _ | refine blk_drew ?_ | refine blk_alloc ?_ _)); exact BK119.out)⟩; have n1_ : Aside0 (wc.heap[gb132]? = some (.cells #[.bool t126, .bool t127, .bool t128, .bool t129, .bool t130, .int .i64 t131] 65 (0, 0))) := ⟨by rw [← hq_]; exact (by (with_reducible repeat (first | refine blk_drewN ?_ _ | refine blk_drew ?_ | refine blk_alloc ?_ _)); exact BK132.out)⟩; have n2_ : Aside0 (Below w.heap.size w wc) := ⟨by rw [← hq_]; exact (by repeat (first | (with_reducible first | exact HB.out | apply below_alloc | apply pw_below_drewN | apply below_drew1 | refine below_set ?_ GE119.out | refine below_set ?_ GE132.out) | exact HB.out))⟩; clear BK119 BK132 HB hq_; have BK119 := n0_; have BK132 := n1_; have HB := n2_; clear n0_ n1_ n2_)); have hnb87 := NB119_132.out; have hnc87 := NB132_119.out; have hcz88_0 : wc.cell? ⟨gb119, 0, none⟩ = some (.bool x120000_1) := (blk_cell BK119.out 0).trans rfl; have hcz88_1 : wc.cell? ⟨gb119, 1, none⟩ = some (.bool x120001_1) := (blk_cell BK119.out 1).trans rfl; have hcz88_2 : wc.cell? ⟨gb119, 2, none⟩ = some (.bool x120002_1) := (blk_cell BK119.out 2).trans rfl; have hcz88_3 : wc.cell? ⟨gb119, 3, none⟩ = some (.bool x120003_1) := (blk_cell BK119.out 3).trans rfl; have hcz88_4 : wc.cell? ⟨gb119, 4, none⟩ = some (.bool x120004_1) := (blk_cell BK119.out 4).trans rfl; have hfz88_0 := blk_frozen BK119.out 0; have hfz88_1 := blk_frozen BK119.out 1; have hfz88_2 := blk_frozen BK119.out 2; have hfz88_3 := blk_frozen BK119.out 3; have hfz88_4 := blk_frozen BK119.out 4) | ((with_reducible refine gate_callee (f := 38) rfl ?_); refine goesL_ (some 130) rfl rfl Try.func38 (by kernel_rfl) rfl #[.agg #[.bool x120000_1, .bool x120001_1, .bool x120002_1, .bool x120003_1, .bool x120004_1], .int .u8 (Int.tmod (rd l1 x7_1) 5)] rfl (by (try simp only [List.map_toArray, List.map_cons, List.map_nil]); first | done | rfl | (simp only [List.length_drop, List.length_take]; rfl)) ?_; (with_reducible refine (spec_Di_Does.calls x120000_1 x120001_1 x120002_1 x120003_1 x120004_1 (Int.tmod (rd l1 x7_1) 5) t141 t142 t143 t144 t145 _ A86.out).mono ?_); rintro e w89 ⟨rfl, hb⟩; refine ⟨_, rfl, ?_⟩; have n0_ := Aside0.mk (blk_below (g := gb119) (o := .cells #[.bool x120000_1, .bool x120001_1, .bool x120002_1, .bool x120003_1, .bool x120004_1] 62 (0, 0)) (by (with_reducible repeat (first | refine blk_drewN ?_ _ | refine blk_drew ?_ | refine blk_alloc ?_ _)); exact BK119.out) hb); have n1_ := Aside0.mk (blk_below (g := gb132) (o := .cells #[.bool t126, .bool t127, .bool t128, .bool t129, .bool t130, .int .i64 t131] 65 (0, 0)) (by (with_reducible repeat (first | refine blk_drewN ?_ _ | refine blk_drew ?_ | refine blk_alloc ?_ _)); exact BK132.out) hb); have n2_ := Aside0.mk (below_step (by repeat (first | (with_reducible first | exact HB.out | apply below_alloc | apply pw_below_drewN | apply below_drew1 | refine below_set ?_ GE119.out | refine below_set ?_ GE132.out) | exact HB.out)) hb); clear BK119; clear BK132; clear HB; have BK119 := n0_; have BK132 := n1_; have HB := n2_; clear n0_ n1_ n2_; (try clear hb); (try clear hb2); (try clear hk); (try clear hi); have hcz90_0 : w89.cell? ⟨gb119, 0, none⟩ = some (.bool x120000_1) := (blk_cell BK119.out 0).trans rfl; have hcz90_1 : w89.cell? ⟨gb119, 1, none⟩ = some (.bool x120001_1) := (blk_cell BK119.out 1).trans rfl; have hcz90_2 : w89.cell? ⟨gb119, 2, none⟩ = some (.bool x120002_1) := (blk_cell BK119.out 2).trans rfl; have hcz90_3 : w89.cell? ⟨gb119, 3, none⟩ = some (.bool x120003_1) := (blk_cell BK119.out 3).trans rfl; have hcz90_4 : w89.cell? ⟨gb119, 4, none⟩ = some (.bool x120004_1) := (blk_cell BK119.out 4).trans rfl; have hfz90_0 := blk_frozen BK119.out 0; have hfz90_1 := blk_frozen BK119.out 1; have hfz90_2 := blk_frozen BK119.out 2; have hfz90_3 := blk_frozen BK119.out 3; have hfz90_4 := blk_frozen BK119.out 4))
                                            go_roundg kj76
                                            case measure => have := HK1.out; have := HJ7.out; have := HJ11.out; have := HJ28.out; have := HJ61.out; have := HJ76.out; omega
                                            case rel => exact ⟨(t140), (wrap64 (x7_1 + 1)), (t141), (t142), (t143), (t144), (t145), (by first | rfl | (simp; done) | (simp [*]; done)), (by first | rfl | (simp; done) | (simp [*]; done)), H', ⟨by have := HK1.out; have := HJ7.out; have := HJ11.out; have := HJ28.out; have := HJ61.out; have := HJ76.out; omega⟩, ⟨by (with_reducible repeat (first | refine blk_drewN ?_ _ | refine blk_drew ?_ | refine blk_alloc ?_ _)); refine blk_put (cs := #[.bool t141, .bool t142, .bool t143, .bool t144, .bool x120004_1]) ?_ 4 _ rfl; (with_reducible repeat (first | refine blk_drewN ?_ _ | refine blk_drew ?_ | refine blk_alloc ?_ _)); refine blk_put (cs := #[.bool t141, .bool t142, .bool t143, .bool x120003_1, .bool x120004_1]) ?_ 3 _ rfl; (with_reducible repeat (first | refine blk_drewN ?_ _ | refine blk_drew ?_ | refine blk_alloc ?_ _)); refine blk_put (cs := #[.bool t141, .bool t142, .bool x120002_1, .bool x120003_1, .bool x120004_1]) ?_ 2 _ rfl; (with_reducible repeat (first | refine blk_drewN ?_ _ | refine blk_drew ?_ | refine blk_alloc ?_ _)); refine blk_put (cs := #[.bool t141, .bool x120001_1, .bool x120002_1, .bool x120003_1, .bool x120004_1]) ?_ 1 _ rfl; (with_reducible repeat (first | refine blk_drewN ?_ _ | refine blk_drew ?_ | refine blk_alloc ?_ _)); refine blk_put (cs := #[.bool x120000_1, .bool x120001_1, .bool x120002_1, .bool x120003_1, .bool x120004_1]) ?_ 0 _ rfl; (with_reducible repeat (first | refine blk_drewN ?_ _ | refine blk_drew ?_ | refine blk_alloc ?_ _)); exact BK119.out⟩, ⟨by repeat (first | (with_reducible first | exact HB.out | apply below_alloc | apply pw_below_drewN | apply below_drew1 | refine below_set ?_ GE119.out | refine below_set ?_ GE132.out) | exact HB.out)⟩⟩
                                          · rw [if_neg c84] at H
                                            have c84b0 : ((Int.tmod (rd l1 x7_1) 5) == 0) = false := beq_eq_false_iff_ne.mpr c84
                                            have c84b1 : ((Int.tmod (rd l1 x7_1) 5) != 0) = true := bne_iff_ne.mpr c84
                                            have HC91 := Aside0.mk H
                                            clear H
                                            have p139 : 0 ≤ (x7_1 : Int) := of_decide_eq_true (by first | (with_reducible assumption) | assumption)
                                            have q139 : x7_1 < (l1.length : Int) := of_decide_eq_true (by first | (with_reducible assumption) | assumption)
                                            obtain ⟨ad139, e139, hx139_0⟩ := Kd.at_int HR1.out x7_1 p139 q139
                                            cases e139
                                            replace hx139_0 := (HB.out.cell (World.block_lt_of_cell? w _ hx139_0)).trans hx139_0
                                            replace p139 := eq_true p139
                                            replace q139 := eq_true q139
                                            go_upto_if 121 with (fail)
                                            go_cut [121] (fun v121 wc => ∃ (kq : Nat) (x121_90 : Bool), v121 = .bool x121_90 ∧ Aside0 (laws_FnDi.j6 kq a0 l1 x5_1 x7_1 (Int.tmod (rd l1 x7_1) 5) x121_90 x120000_1 x120001_1 x120002_1 x120003_1 x120004_1 = some r) ∧ Aside0 (kq ≤ kj76) ∧ Aside0 (wc.heap[gb119]? = some (.cells #[.bool x120000_1, .bool x120001_1, .bool x120002_1, .bool x120003_1, .bool x120004_1] 62 (0, 0))) ∧ Aside0 (wc.heap[gb132]? = some (.cells #[.bool t126, .bool t127, .bool t128, .bool t129, .bool t130, .int .i64 t131] 65 (0, 0))) ∧ Aside0 (Below w.heap.size w wc))
                                            case first =>
                                              have H := HC91.out
                                              clear HC91
                                              by_cases c92 : (Int.tmod (rd l1 x7_1) 5) = 1
                                              · rw [if_pos c92] at H
                                                have c92b0 : ((Int.tmod (rd l1 x7_1) 5) == 1) = true := beq_iff_eq.mpr c92
                                                have c92b1 : ((Int.tmod (rd l1 x7_1) 5) != 1) = false := bne_eq_false_iff_eq.mpr c92
                                                clear c92
                                                (first | rw [c92b0] | (simp only [i64_w, i32_w]; rw [c92b0]) | skip)
                                                have H' := Aside0.mk H
                                                clear H
                                                go_wp2
                                                go_meet
                                                case rel => exact ⟨_, (((Int.tmod (rd l1 x7_1) 5) == 1)), (by first | rfl | (simp; done) | (simp [*]; done)), H', ⟨by have := HK1.out; have := HJ7.out; have := HJ11.out; have := HJ28.out; have := HJ61.out; have := HJ76.out; first | omega | exact Nat.le_refl _⟩, ⟨by (with_reducible repeat (first | refine blk_drewN ?_ _ | refine blk_drew ?_ | refine blk_alloc ?_ _)); exact BK119.out⟩, ⟨by (with_reducible repeat (first | refine blk_drewN ?_ _ | refine blk_drew ?_ | refine blk_alloc ?_ _)); exact BK132.out⟩, ⟨by repeat (first | (with_reducible first | exact HB.out | apply below_alloc | apply pw_below_drewN | apply below_drew1 | refine below_set ?_ GE119.out | refine below_set ?_ GE132.out) | exact HB.out)⟩⟩
                                              · rw [if_neg c92] at H
                                                have c92b0 : ((Int.tmod (rd l1 x7_1) 5) == 1) = false := beq_eq_false_iff_ne.mpr c92
                                                have c92b1 : ((Int.tmod (rd l1 x7_1) 5) != 1) = true := bne_iff_ne.mpr c92
                                                (first | rw [c92b0] | (simp only [i64_w, i32_w]; rw [c92b0]) | skip)
                                                have H' := Aside0.mk H
                                                clear H
                                                go_wp2
                                                go_meet
                                                case rel => exact ⟨_, (((Int.tmod (rd l1 x7_1) 5) == 2)), (by first | rfl | (simp; done) | (simp [*]; done)), H', ⟨by have := HK1.out; have := HJ7.out; have := HJ11.out; have := HJ28.out; have := HJ61.out; have := HJ76.out; first | omega | exact Nat.le_refl _⟩, ⟨by (with_reducible repeat (first | refine blk_drewN ?_ _ | refine blk_drew ?_ | refine blk_alloc ?_ _)); exact BK119.out⟩, ⟨by (with_reducible repeat (first | refine blk_drewN ?_ _ | refine blk_drew ?_ | refine blk_alloc ?_ _)); exact BK132.out⟩, ⟨by repeat (first | (with_reducible first | exact HB.out | apply below_alloc | apply pw_below_drewN | apply below_drew1 | refine below_set ?_ GE119.out | refine below_set ?_ GE132.out) | exact HB.out)⟩⟩
                                            case rest =>
                                              clear HC91
                                              try clear c1
                                              try clear p1
                                              try clear q1
                                              try clear hx1
                                              try clear c2
                                              try clear p2
                                              try clear c3
                                              try clear c3b0
                                              try clear c3b1
                                              try clear c4
                                              try clear c5
                                              try clear c6
                                              try clear p6
                                              try clear c7
                                              try clear c8
                                              try clear c9
                                              try clear c9b0
                                              try clear c10
                                              try clear c13
                                              try clear p13
                                              try clear q13
                                              try clear hx13
                                              try clear c15
                                              try clear c17
                                              try clear c17b0
                                              try clear c17b1
                                              try clear c17b2
                                              try clear c18
                                              try clear c21
                                              try clear c21b0
                                              try clear c21b1
                                              try clear c21b2
                                              try clear c22
                                              try clear c25
                                              try clear c28
                                              try clear c30
                                              try clear c31
                                              try clear c31b0
                                              try clear c31b1
                                              try clear c31b2
                                              try clear c32
                                              try clear c34
                                              try clear c35
                                              try clear c35b0
                                              try clear c35b1
                                              try clear c35b2
                                              try clear c36
                                              try clear c38
                                              try clear c39
                                              try clear c40
                                              try clear c41
                                              try clear c44
                                              try clear c47
                                              try clear c50
                                              try clear c51
                                              try clear c52
                                              try clear c55
                                              try clear c58
                                              try clear c61
                                              try clear c63
                                              try clear c64
                                              try clear p64
                                              try clear c65
                                              try clear c67
                                              try clear c67b0
                                              try clear c67b1
                                              try clear c68
                                              try clear c71
                                              try clear c74
                                              try clear c76
                                              try clear c78
                                              try clear c78b0
                                              try clear c78b1
                                              try clear c79
                                              try clear c82
                                              try clear c82b0
                                              try clear c83
                                              try clear c83b0
                                              try clear c84
                                              try clear c84b0
                                              try clear c84b1
                                              try clear c87
                                              try clear c92
                                              try clear c92b0
                                              try clear c92b1
                                              try clear hcz16_0
                                              try clear hcz16_1
                                              try clear hcz16_2
                                              try clear hcz16_3
                                              try clear hcz16_4
                                              try clear hcz16_5
                                              try clear hcz19_0
                                              try clear hcz19_1
                                              try clear hcz19_2
                                              try clear hcz19_3
                                              try clear hcz19_4
                                              try clear hcz19_5
                                              try clear hcz20_0
                                              try clear hcz20_1
                                              try clear hcz20_2
                                              try clear hcz20_3
                                              try clear hcz20_4
                                              try clear hcz23_0
                                              try clear hcz23_1
                                              try clear hcz23_2
                                              try clear hcz23_3
                                              try clear hcz23_4
                                              try clear hcz23_5
                                              try clear hcz24_0
                                              try clear hcz24_1
                                              try clear hcz24_2
                                              try clear hcz24_3
                                              try clear hcz24_4
                                              try clear hcz26_0
                                              try clear hcz26_1
                                              try clear hcz26_2
                                              try clear hcz26_3
                                              try clear hcz26_4
                                              try clear hcz26_5
                                              try clear hcz27_0
                                              try clear hcz27_1
                                              try clear hcz27_2
                                              try clear hcz27_3
                                              try clear hcz27_4
                                              try clear hcz33_0
                                              try clear hcz33_1
                                              try clear hcz33_2
                                              try clear hcz33_3
                                              try clear hcz33_4
                                              try clear hcz34_0
                                              try clear hcz34_1
                                              try clear hcz34_2
                                              try clear hcz34_3
                                              try clear hcz34_4
                                              try clear hcz34_5
                                              try clear hcz37_0
                                              try clear hcz37_1
                                              try clear hcz37_2
                                              try clear hcz37_3
                                              try clear hcz37_4
                                              try clear hcz38_0
                                              try clear hcz38_1
                                              try clear hcz38_2
                                              try clear hcz38_3
                                              try clear hcz38_4
                                              try clear hcz38_5
                                              try clear hcz42_0
                                              try clear hcz42_1
                                              try clear hcz42_2
                                              try clear hcz42_3
                                              try clear hcz42_4
                                              try clear hcz43_0
                                              try clear hcz43_1
                                              try clear hcz43_2
                                              try clear hcz43_3
                                              try clear hcz43_4
                                              try clear hcz43_5
                                              try clear hcz45_0
                                              try clear hcz45_1
                                              try clear hcz45_2
                                              try clear hcz45_3
                                              try clear hcz45_4
                                              try clear hcz46_0
                                              try clear hcz46_1
                                              try clear hcz46_2
                                              try clear hcz46_3
                                              try clear hcz46_4
                                              try clear hcz46_5
                                              try clear hcz48_0
                                              try clear hcz48_1
                                              try clear hcz48_2
                                              try clear hcz48_3
                                              try clear hcz48_4
                                              try clear hcz49_0
                                              try clear hcz49_1
                                              try clear hcz49_2
                                              try clear hcz49_3
                                              try clear hcz49_4
                                              try clear hcz49_5
                                              try clear hcz53_0
                                              try clear hcz53_1
                                              try clear hcz53_2
                                              try clear hcz53_3
                                              try clear hcz53_4
                                              try clear hcz54_0
                                              try clear hcz54_1
                                              try clear hcz54_2
                                              try clear hcz54_3
                                              try clear hcz54_4
                                              try clear hcz54_5
                                              try clear hcz56_0
                                              try clear hcz56_1
                                              try clear hcz56_2
                                              try clear hcz56_3
                                              try clear hcz56_4
                                              try clear hcz57_0
                                              try clear hcz57_1
                                              try clear hcz57_2
                                              try clear hcz57_3
                                              try clear hcz57_4
                                              try clear hcz57_5
                                              try clear hcz59_0
                                              try clear hcz59_1
                                              try clear hcz59_2
                                              try clear hcz59_3
                                              try clear hcz59_4
                                              try clear hcz60_0
                                              try clear hcz60_1
                                              try clear hcz60_2
                                              try clear hcz60_3
                                              try clear hcz60_4
                                              try clear hcz60_5
                                              try clear hcz66_0
                                              try clear hcz66_1
                                              try clear hcz66_2
                                              try clear hcz66_3
                                              try clear hcz66_4
                                              try clear hcz69_0
                                              try clear hcz69_1
                                              try clear hcz69_2
                                              try clear hcz69_3
                                              try clear hcz69_4
                                              try clear hcz70_0
                                              try clear hcz70_1
                                              try clear hcz70_2
                                              try clear hcz70_3
                                              try clear hcz70_4
                                              try clear hcz70_5
                                              try clear hcz72_0
                                              try clear hcz72_1
                                              try clear hcz72_2
                                              try clear hcz72_3
                                              try clear hcz72_4
                                              try clear hcz73_0
                                              try clear hcz73_1
                                              try clear hcz73_2
                                              try clear hcz73_3
                                              try clear hcz73_4
                                              try clear hcz73_5
                                              try clear hcz75_0
                                              try clear hcz75_1
                                              try clear hcz75_2
                                              try clear hcz75_3
                                              try clear hcz75_4
                                              try clear hcz7_0
                                              try clear hcz7_1
                                              try clear hcz7_2
                                              try clear hcz7_3
                                              try clear hcz7_4
                                              try clear hcz88_0
                                              try clear hcz88_1
                                              try clear hcz88_2
                                              try clear hcz88_3
                                              try clear hcz88_4
                                              try clear hcz90_0
                                              try clear hcz90_1
                                              try clear hcz90_2
                                              try clear hcz90_3
                                              try clear hcz90_4
                                              try clear hfz16_0
                                              try clear hfz16_1
                                              try clear hfz16_2
                                              try clear hfz16_3
                                              try clear hfz16_4
                                              try clear hfz16_5
                                              try clear hfz19_0
                                              try clear hfz19_1
                                              try clear hfz19_2
                                              try clear hfz19_3
                                              try clear hfz19_4
                                              try clear hfz19_5
                                              try clear hfz20_0
                                              try clear hfz20_1
                                              try clear hfz20_2
                                              try clear hfz20_3
                                              try clear hfz20_4
                                              try clear hfz23_0
                                              try clear hfz23_1
                                              try clear hfz23_2
                                              try clear hfz23_3
                                              try clear hfz23_4
                                              try clear hfz23_5
                                              try clear hfz24_0
                                              try clear hfz24_1
                                              try clear hfz24_2
                                              try clear hfz24_3
                                              try clear hfz24_4
                                              try clear hfz26_0
                                              try clear hfz26_1
                                              try clear hfz26_2
                                              try clear hfz26_3
                                              try clear hfz26_4
                                              try clear hfz26_5
                                              try clear hfz27_0
                                              try clear hfz27_1
                                              try clear hfz27_2
                                              try clear hfz27_3
                                              try clear hfz27_4
                                              try clear hfz33_0
                                              try clear hfz33_1
                                              try clear hfz33_2
                                              try clear hfz33_3
                                              try clear hfz33_4
                                              try clear hfz34_0
                                              try clear hfz34_1
                                              try clear hfz34_2
                                              try clear hfz34_3
                                              try clear hfz34_4
                                              try clear hfz34_5
                                              try clear hfz37_0
                                              try clear hfz37_1
                                              try clear hfz37_2
                                              try clear hfz37_3
                                              try clear hfz37_4
                                              try clear hfz38_0
                                              try clear hfz38_1
                                              try clear hfz38_2
                                              try clear hfz38_3
                                              try clear hfz38_4
                                              try clear hfz38_5
                                              try clear hfz42_0
                                              try clear hfz42_1
                                              try clear hfz42_2
                                              try clear hfz42_3
                                              try clear hfz42_4
                                              try clear hfz43_0
                                              try clear hfz43_1
                                              try clear hfz43_2
                                              try clear hfz43_3
                                              try clear hfz43_4
                                              try clear hfz43_5
                                              try clear hfz45_0
                                              try clear hfz45_1
                                              try clear hfz45_2
                                              try clear hfz45_3
                                              try clear hfz45_4
                                              try clear hfz46_0
                                              try clear hfz46_1
                                              try clear hfz46_2
                                              try clear hfz46_3
                                              try clear hfz46_4
                                              try clear hfz46_5
                                              try clear hfz48_0
                                              try clear hfz48_1
                                              try clear hfz48_2
                                              try clear hfz48_3
                                              try clear hfz48_4
                                              try clear hfz49_0
                                              try clear hfz49_1
                                              try clear hfz49_2
                                              try clear hfz49_3
                                              try clear hfz49_4
                                              try clear hfz49_5
                                              try clear hfz53_0
                                              try clear hfz53_1
                                              try clear hfz53_2
                                              try clear hfz53_3
                                              try clear hfz53_4
                                              try clear hfz54_0
                                              try clear hfz54_1
                                              try clear hfz54_2
                                              try clear hfz54_3
                                              try clear hfz54_4
                                              try clear hfz54_5
                                              try clear hfz56_0
                                              try clear hfz56_1
                                              try clear hfz56_2
                                              try clear hfz56_3
                                              try clear hfz56_4
                                              try clear hfz57_0
                                              try clear hfz57_1
                                              try clear hfz57_2
                                              try clear hfz57_3
                                              try clear hfz57_4
                                              try clear hfz57_5
                                              try clear hfz59_0
                                              try clear hfz59_1
                                              try clear hfz59_2
                                              try clear hfz59_3
                                              try clear hfz59_4
                                              try clear hfz60_0
                                              try clear hfz60_1
                                              try clear hfz60_2
                                              try clear hfz60_3
                                              try clear hfz60_4
                                              try clear hfz60_5
                                              try clear hfz66_0
                                              try clear hfz66_1
                                              try clear hfz66_2
                                              try clear hfz66_3
                                              try clear hfz66_4
                                              try clear hfz69_0
                                              try clear hfz69_1
                                              try clear hfz69_2
                                              try clear hfz69_3
                                              try clear hfz69_4
                                              try clear hfz70_0
                                              try clear hfz70_1
                                              try clear hfz70_2
                                              try clear hfz70_3
                                              try clear hfz70_4
                                              try clear hfz70_5
                                              try clear hfz72_0
                                              try clear hfz72_1
                                              try clear hfz72_2
                                              try clear hfz72_3
                                              try clear hfz72_4
                                              try clear hfz73_0
                                              try clear hfz73_1
                                              try clear hfz73_2
                                              try clear hfz73_3
                                              try clear hfz73_4
                                              try clear hfz73_5
                                              try clear hfz75_0
                                              try clear hfz75_1
                                              try clear hfz75_2
                                              try clear hfz75_3
                                              try clear hfz75_4
                                              try clear hfz7_0
                                              try clear hfz7_1
                                              try clear hfz7_2
                                              try clear hfz7_3
                                              try clear hfz7_4
                                              try clear hfz88_0
                                              try clear hfz88_1
                                              try clear hfz88_2
                                              try clear hfz88_3
                                              try clear hfz88_4
                                              try clear hfz90_0
                                              try clear hfz90_1
                                              try clear hfz90_2
                                              try clear hfz90_3
                                              try clear hfz90_4
                                              try clear hx139_0
                                              try clear p139
                                              try clear p2
                                              try clear p6
                                              try clear p64
                                              try clear q139
                                              obtain ⟨kq, x121_90, rfl, HA, HJ90, BK119, BK132, HB⟩ := hcut
                                              cases kq with
                                              | zero => exact absurd HA.out (by simp [laws_FnDi.j6])
                                              | succ kj90 =>
                                                have H := HA.out
                                                clear HA
                                                simp only [laws_FnDi.j6] at H
                                                by_cases c93 : x121_90 = true
                                                · subst c93
                                                  have H1 : ((impl_DiSetProgression.f x5_1 ((Int.tmod (rd l1 x7_1) 5) == 2)).bind fun t146 => ((spec_Di_Does.f x120000_1 x120001_1 x120002_1 x120003_1 x120004_1 (Int.tmod (rd l1 x7_1) 5)).bind fun bt147 => (laws_FnDi.l0 kj90 a0 l1 t146 (wrap64 (x7_1 + 1)) bt147.1 bt147.2.1 bt147.2.2.1 bt147.2.2.2.1 bt147.2.2.2.2))) = some r := by rw [if_pos rfl] at H; exact H
                                                  clear H
                                                  have H := H1
                                                  clear H1
                                                  replace H := Option.bind_eq_some_iff.mp H
                                                  obtain ⟨t146, A940, H⟩ := H
                                                  replace H : ((spec_Di_Does.f x120000_1 x120001_1 x120002_1 x120003_1 x120004_1 (Int.tmod (rd l1 x7_1) 5)).bind fun bt147 => (laws_FnDi.l0 kj90 a0 l1 t146 (wrap64 (x7_1 + 1)) bt147.1 bt147.2.1 bt147.2.2.1 bt147.2.2.2.1 bt147.2.2.2.2)) = some r := H
                                                  have A94 := Aside0.mk A940
                                                  clear A940
                                                  replace H := Option.bind_eq_some_iff.mp H
                                                  obtain ⟨⟨t147, t148, t149, t150, t151⟩, A950, H⟩ := H
                                                  replace H : (laws_FnDi.l0 kj90 a0 l1 t146 (wrap64 (x7_1 + 1)) t147 t148 t149 t150 t151) = some r := H
                                                  have A95 := Aside0.mk A950
                                                  clear A950
                                                  have H' := Aside0.mk H
                                                  clear H
                                                  go_wp2_with (first | ((with_reducible refine gate_callee (f := 36) rfl ?_); refine goesL_ (some 127) rfl rfl Try.func36 (by kernel_rfl) rfl #[.int .u8 x5_1, .bool ((Int.tmod (rd l1 x7_1) 5) == 2)] rfl (by (try simp only [List.map_toArray, List.map_cons, List.map_nil]); first | done | rfl | (simp only [List.length_drop, List.length_take]; rfl)) ?_; (with_reducible refine (impl_DiSetProgression.calls x5_1 ((Int.tmod (rd l1 x7_1) 5) == 2) t146 _ A94.out).mono ?_); rintro e w96 ⟨rfl, hb⟩; refine ⟨_, rfl, ?_⟩; have n0_ := Aside0.mk (blk_below (g := gb119) (o := .cells #[.bool x120000_1, .bool x120001_1, .bool x120002_1, .bool x120003_1, .bool x120004_1] 62 (0, 0)) (by (with_reducible repeat (first | refine blk_drewN ?_ _ | refine blk_drew ?_ | refine blk_alloc ?_ _)); exact BK119.out) hb); have n1_ := Aside0.mk (blk_below (g := gb132) (o := .cells #[.bool t126, .bool t127, .bool t128, .bool t129, .bool t130, .int .i64 t131] 65 (0, 0)) (by (with_reducible repeat (first | refine blk_drewN ?_ _ | refine blk_drew ?_ | refine blk_alloc ?_ _)); exact BK132.out) hb); have n2_ := Aside0.mk (below_step (by repeat (first | (with_reducible first | exact HB.out | apply below_alloc | apply pw_below_drewN | apply below_drew1 | refine below_set ?_ GE119.out | refine below_set ?_ GE132.out) | exact HB.out)) hb); clear BK119; clear BK132; clear HB; have BK119 := n0_; have BK132 := n1_; have HB := n2_; clear n0_ n1_ n2_; (try clear hb); (try clear hb2); (try clear hk); (try clear hi); have hnb97 := NB119_132.out; have hnc97 := NB132_119.out; have hcz98_0 : w96.cell? ⟨gb119, 0, none⟩ = some (.bool x120000_1) := (blk_cell BK119.out 0).trans rfl; have hcz98_1 : w96.cell? ⟨gb119, 1, none⟩ = some (.bool x120001_1) := (blk_cell BK119.out 1).trans rfl; have hcz98_2 : w96.cell? ⟨gb119, 2, none⟩ = some (.bool x120002_1) := (blk_cell BK119.out 2).trans rfl; have hcz98_3 : w96.cell? ⟨gb119, 3, none⟩ = some (.bool x120003_1) := (blk_cell BK119.out 3).trans rfl; have hcz98_4 : w96.cell? ⟨gb119, 4, none⟩ = some (.bool x120004_1) := (blk_cell BK119.out 4).trans rfl; have hfz98_0 := blk_frozen BK119.out 0; have hfz98_1 := blk_frozen BK119.out 1; have hfz98_2 := blk_frozen BK119.out 2; have hfz98_3 := blk_frozen BK119.out 3; have hfz98_4 := blk_frozen BK119.out 4) | ((with_reducible refine gate_callee (f := 38) rfl ?_); refine goesL_ (some 130) rfl rfl Try.func38 (by kernel_rfl) rfl #[.agg #[.bool x120000_1, .bool x120001_1, .bool x120002_1, .bool x120003_1, .bool x120004_1], .int .u8 (Int.tmod (rd l1 x7_1) 5)] rfl (by (try simp only [List.map_toArray, List.map_cons, List.map_nil]); first | done | rfl | (simp only [List.length_drop, List.length_take]; rfl)) ?_; (with_reducible refine (spec_Di_Does.calls x120000_1 x120001_1 x120002_1 x120003_1 x120004_1 (Int.tmod (rd l1 x7_1) 5) t147 t148 t149 t150 t151 _ A95.out).mono ?_); rintro e w99 ⟨rfl, hb⟩; refine ⟨_, rfl, ?_⟩; have n0_ := Aside0.mk (blk_below (g := gb119) (o := .cells #[.bool x120000_1, .bool x120001_1, .bool x120002_1, .bool x120003_1, .bool x120004_1] 62 (0, 0)) (by (with_reducible repeat (first | refine blk_drewN ?_ _ | refine blk_drew ?_ | refine blk_alloc ?_ _)); exact BK119.out) hb); have n1_ := Aside0.mk (blk_below (g := gb132) (o := .cells #[.bool t126, .bool t127, .bool t128, .bool t129, .bool t130, .int .i64 t131] 65 (0, 0)) (by (with_reducible repeat (first | refine blk_drewN ?_ _ | refine blk_drew ?_ | refine blk_alloc ?_ _)); exact BK132.out) hb); have n2_ := Aside0.mk (below_step (by repeat (first | (with_reducible first | exact HB.out | apply below_alloc | apply pw_below_drewN | apply below_drew1 | refine below_set ?_ GE119.out | refine below_set ?_ GE132.out) | exact HB.out)) hb); clear BK119; clear BK132; clear HB; have BK119 := n0_; have BK132 := n1_; have HB := n2_; clear n0_ n1_ n2_; (try clear hb); (try clear hb2); (try clear hk); (try clear hi); have hcz100_0 : w99.cell? ⟨gb119, 0, none⟩ = some (.bool x120000_1) := (blk_cell BK119.out 0).trans rfl; have hcz100_1 : w99.cell? ⟨gb119, 1, none⟩ = some (.bool x120001_1) := (blk_cell BK119.out 1).trans rfl; have hcz100_2 : w99.cell? ⟨gb119, 2, none⟩ = some (.bool x120002_1) := (blk_cell BK119.out 2).trans rfl; have hcz100_3 : w99.cell? ⟨gb119, 3, none⟩ = some (.bool x120003_1) := (blk_cell BK119.out 3).trans rfl; have hcz100_4 : w99.cell? ⟨gb119, 4, none⟩ = some (.bool x120004_1) := (blk_cell BK119.out 4).trans rfl; have hfz100_0 := blk_frozen BK119.out 0; have hfz100_1 := blk_frozen BK119.out 1; have hfz100_2 := blk_frozen BK119.out 2; have hfz100_3 := blk_frozen BK119.out 3; have hfz100_4 := blk_frozen BK119.out 4))
                                                  go_roundg kj90
                                                  case measure => have := HK1.out; have := HJ7.out; have := HJ11.out; have := HJ28.out; have := HJ61.out; have := HJ76.out; have := HJ90.out; omega
                                                  case rel => exact ⟨(t146), (wrap64 (x7_1 + 1)), (t147), (t148), (t149), (t150), (t151), (by first | rfl | (simp; done) | (simp [*]; done)), (by first | rfl | (simp; done) | (simp [*]; done)), H', ⟨by have := HK1.out; have := HJ7.out; have := HJ11.out; have := HJ28.out; have := HJ61.out; have := HJ76.out; have := HJ90.out; omega⟩, ⟨by (with_reducible repeat (first | refine blk_drewN ?_ _ | refine blk_drew ?_ | refine blk_alloc ?_ _)); refine blk_put (cs := #[.bool t147, .bool t148, .bool t149, .bool t150, .bool x120004_1]) ?_ 4 _ rfl; (with_reducible repeat (first | refine blk_drewN ?_ _ | refine blk_drew ?_ | refine blk_alloc ?_ _)); refine blk_put (cs := #[.bool t147, .bool t148, .bool t149, .bool x120003_1, .bool x120004_1]) ?_ 3 _ rfl; (with_reducible repeat (first | refine blk_drewN ?_ _ | refine blk_drew ?_ | refine blk_alloc ?_ _)); refine blk_put (cs := #[.bool t147, .bool t148, .bool x120002_1, .bool x120003_1, .bool x120004_1]) ?_ 2 _ rfl; (with_reducible repeat (first | refine blk_drewN ?_ _ | refine blk_drew ?_ | refine blk_alloc ?_ _)); refine blk_put (cs := #[.bool t147, .bool x120001_1, .bool x120002_1, .bool x120003_1, .bool x120004_1]) ?_ 1 _ rfl; (with_reducible repeat (first | refine blk_drewN ?_ _ | refine blk_drew ?_ | refine blk_alloc ?_ _)); refine blk_put (cs := #[.bool x120000_1, .bool x120001_1, .bool x120002_1, .bool x120003_1, .bool x120004_1]) ?_ 0 _ rfl; (with_reducible repeat (first | refine blk_drewN ?_ _ | refine blk_drew ?_ | refine blk_alloc ?_ _)); exact BK119.out⟩, ⟨by repeat (first | (with_reducible first | exact HB.out | apply below_alloc | apply pw_below_drewN | apply below_drew1 | refine below_set ?_ GE119.out | refine below_set ?_ GE132.out) | exact HB.out)⟩⟩
                                                · replace c93 := Bool.eq_false_iff.mpr c93
                                                  subst c93
                                                  have H1 : ((impl_DiSetSideways.f x5_1 ((Int.tmod (rd l1 x7_1) 5) == 4)).bind fun t152 => ((spec_Di_Does.f x120000_1 x120001_1 x120002_1 x120003_1 x120004_1 (Int.tmod (rd l1 x7_1) 5)).bind fun bt153 => (laws_FnDi.l0 kj90 a0 l1 t152 (wrap64 (x7_1 + 1)) bt153.1 bt153.2.1 bt153.2.2.1 bt153.2.2.2.1 bt153.2.2.2.2))) = some r := by rw [if_neg (show ¬ (false = true) by decide)] at H; exact H
                                                  clear H
                                                  have H := H1
                                                  clear H1
                                                  replace H := Option.bind_eq_some_iff.mp H
                                                  obtain ⟨t152, A1010, H⟩ := H
                                                  replace H : ((spec_Di_Does.f x120000_1 x120001_1 x120002_1 x120003_1 x120004_1 (Int.tmod (rd l1 x7_1) 5)).bind fun bt153 => (laws_FnDi.l0 kj90 a0 l1 t152 (wrap64 (x7_1 + 1)) bt153.1 bt153.2.1 bt153.2.2.1 bt153.2.2.2.1 bt153.2.2.2.2)) = some r := H
                                                  have A101 := Aside0.mk A1010
                                                  clear A1010
                                                  replace H := Option.bind_eq_some_iff.mp H
                                                  obtain ⟨⟨t153, t154, t155, t156, t157⟩, A1020, H⟩ := H
                                                  replace H : (laws_FnDi.l0 kj90 a0 l1 t152 (wrap64 (x7_1 + 1)) t153 t154 t155 t156 t157) = some r := H
                                                  have A102 := Aside0.mk A1020
                                                  clear A1020
                                                  have H' := Aside0.mk H
                                                  clear H
                                                  go_wp2_with (first | ((with_reducible refine gate_callee (f := 37) rfl ?_); refine goesL_ (some 116) rfl rfl Try.func37 (by kernel_rfl) rfl #[.int .u8 x5_1, .bool ((Int.tmod (rd l1 x7_1) 5) == 4)] rfl (by (try simp only [List.map_toArray, List.map_cons, List.map_nil]); first | done | rfl | (simp only [List.length_drop, List.length_take]; rfl)) ?_; (with_reducible refine (impl_DiSetSideways.calls x5_1 ((Int.tmod (rd l1 x7_1) 5) == 4) t152 _ A101.out).mono ?_); rintro e w103 ⟨rfl, hb⟩; refine ⟨_, rfl, ?_⟩; have n0_ := Aside0.mk (blk_below (g := gb119) (o := .cells #[.bool x120000_1, .bool x120001_1, .bool x120002_1, .bool x120003_1, .bool x120004_1] 62 (0, 0)) (by (with_reducible repeat (first | refine blk_drewN ?_ _ | refine blk_drew ?_ | refine blk_alloc ?_ _)); exact BK119.out) hb); have n1_ := Aside0.mk (blk_below (g := gb132) (o := .cells #[.bool t126, .bool t127, .bool t128, .bool t129, .bool t130, .int .i64 t131] 65 (0, 0)) (by (with_reducible repeat (first | refine blk_drewN ?_ _ | refine blk_drew ?_ | refine blk_alloc ?_ _)); exact BK132.out) hb); have n2_ := Aside0.mk (below_step (by repeat (first | (with_reducible first | exact HB.out | apply below_alloc | apply pw_below_drewN | apply below_drew1 | refine below_set ?_ GE119.out | refine below_set ?_ GE132.out) | exact HB.out)) hb); clear BK119; clear BK132; clear HB; have BK119 := n0_; have BK132 := n1_; have HB := n2_; clear n0_ n1_ n2_; (try clear hb); (try clear hb2); (try clear hk); (try clear hi); have hnb104 := NB119_132.out; have hnc104 := NB132_119.out; have hcz105_0 : w103.cell? ⟨gb119, 0, none⟩ = some (.bool x120000_1) := (blk_cell BK119.out 0).trans rfl; have hcz105_1 : w103.cell? ⟨gb119, 1, none⟩ = some (.bool x120001_1) := (blk_cell BK119.out 1).trans rfl; have hcz105_2 : w103.cell? ⟨gb119, 2, none⟩ = some (.bool x120002_1) := (blk_cell BK119.out 2).trans rfl; have hcz105_3 : w103.cell? ⟨gb119, 3, none⟩ = some (.bool x120003_1) := (blk_cell BK119.out 3).trans rfl; have hcz105_4 : w103.cell? ⟨gb119, 4, none⟩ = some (.bool x120004_1) := (blk_cell BK119.out 4).trans rfl; have hfz105_0 := blk_frozen BK119.out 0; have hfz105_1 := blk_frozen BK119.out 1; have hfz105_2 := blk_frozen BK119.out 2; have hfz105_3 := blk_frozen BK119.out 3; have hfz105_4 := blk_frozen BK119.out 4) | ((with_reducible refine gate_callee (f := 38) rfl ?_); refine goesL_ (some 130) rfl rfl Try.func38 (by kernel_rfl) rfl #[.agg #[.bool x120000_1, .bool x120001_1, .bool x120002_1, .bool x120003_1, .bool x120004_1], .int .u8 (Int.tmod (rd l1 x7_1) 5)] rfl (by (try simp only [List.map_toArray, List.map_cons, List.map_nil]); first | done | rfl | (simp only [List.length_drop, List.length_take]; rfl)) ?_; (with_reducible refine (spec_Di_Does.calls x120000_1 x120001_1 x120002_1 x120003_1 x120004_1 (Int.tmod (rd l1 x7_1) 5) t153 t154 t155 t156 t157 _ A102.out).mono ?_); rintro e w106 ⟨rfl, hb⟩; refine ⟨_, rfl, ?_⟩; have n0_ := Aside0.mk (blk_below (g := gb119) (o := .cells #[.bool x120000_1, .bool x120001_1, .bool x120002_1, .bool x120003_1, .bool x120004_1] 62 (0, 0)) (by (with_reducible repeat (first | refine blk_drewN ?_ _ | refine blk_drew ?_ | refine blk_alloc ?_ _)); exact BK119.out) hb); have n1_ := Aside0.mk (blk_below (g := gb132) (o := .cells #[.bool t126, .bool t127, .bool t128, .bool t129, .bool t130, .int .i64 t131] 65 (0, 0)) (by (with_reducible repeat (first | refine blk_drewN ?_ _ | refine blk_drew ?_ | refine blk_alloc ?_ _)); exact BK132.out) hb); have n2_ := Aside0.mk (below_step (by repeat (first | (with_reducible first | exact HB.out | apply below_alloc | apply pw_below_drewN | apply below_drew1 | refine below_set ?_ GE119.out | refine below_set ?_ GE132.out) | exact HB.out)) hb); clear BK119; clear BK132; clear HB; have BK119 := n0_; have BK132 := n1_; have HB := n2_; clear n0_ n1_ n2_; (try clear hb); (try clear hb2); (try clear hk); (try clear hi); have hcz107_0 : w106.cell? ⟨gb119, 0, none⟩ = some (.bool x120000_1) := (blk_cell BK119.out 0).trans rfl; have hcz107_1 : w106.cell? ⟨gb119, 1, none⟩ = some (.bool x120001_1) := (blk_cell BK119.out 1).trans rfl; have hcz107_2 : w106.cell? ⟨gb119, 2, none⟩ = some (.bool x120002_1) := (blk_cell BK119.out 2).trans rfl; have hcz107_3 : w106.cell? ⟨gb119, 3, none⟩ = some (.bool x120003_1) := (blk_cell BK119.out 3).trans rfl; have hcz107_4 : w106.cell? ⟨gb119, 4, none⟩ = some (.bool x120004_1) := (blk_cell BK119.out 4).trans rfl; have hfz107_0 := blk_frozen BK119.out 0; have hfz107_1 := blk_frozen BK119.out 1; have hfz107_2 := blk_frozen BK119.out 2; have hfz107_3 := blk_frozen BK119.out 3; have hfz107_4 := blk_frozen BK119.out 4))
                                                  go_roundg kj90
                                                  case measure => have := HK1.out; have := HJ7.out; have := HJ11.out; have := HJ28.out; have := HJ61.out; have := HJ76.out; have := HJ90.out; omega
                                                  case rel => exact ⟨(t152), (wrap64 (x7_1 + 1)), (t153), (t154), (t155), (t156), (t157), (by first | rfl | (simp; done) | (simp [*]; done)), (by first | rfl | (simp; done) | (simp [*]; done)), H', ⟨by have := HK1.out; have := HJ7.out; have := HJ11.out; have := HJ28.out; have := HJ61.out; have := HJ76.out; have := HJ90.out; omega⟩, ⟨by (with_reducible repeat (first | refine blk_drewN ?_ _ | refine blk_drew ?_ | refine blk_alloc ?_ _)); refine blk_put (cs := #[.bool t153, .bool t154, .bool t155, .bool t156, .bool x120004_1]) ?_ 4 _ rfl; (with_reducible repeat (first | refine blk_drewN ?_ _ | refine blk_drew ?_ | refine blk_alloc ?_ _)); refine blk_put (cs := #[.bool t153, .bool t154, .bool t155, .bool x120003_1, .bool x120004_1]) ?_ 3 _ rfl; (with_reducible repeat (first | refine blk_drewN ?_ _ | refine blk_drew ?_ | refine blk_alloc ?_ _)); refine blk_put (cs := #[.bool t153, .bool t154, .bool x120002_1, .bool x120003_1, .bool x120004_1]) ?_ 2 _ rfl; (with_reducible repeat (first | refine blk_drewN ?_ _ | refine blk_drew ?_ | refine blk_alloc ?_ _)); refine blk_put (cs := #[.bool t153, .bool x120001_1, .bool x120002_1, .bool x120003_1, .bool x120004_1]) ?_ 1 _ rfl; (with_reducible repeat (first | refine blk_drewN ?_ _ | refine blk_drew ?_ | refine blk_alloc ?_ _)); refine blk_put (cs := #[.bool x120000_1, .bool x120001_1, .bool x120002_1, .bool x120003_1, .bool x120004_1]) ?_ 0 _ rfl; (with_reducible repeat (first | refine blk_drewN ?_ _ | refine blk_drew ?_ | refine blk_alloc ?_ _)); exact BK119.out⟩, ⟨by repeat (first | (with_reducible first | exact HB.out | apply below_alloc | apply pw_below_drewN | apply below_drew1 | refine below_set ?_ GE119.out | refine below_set ?_ GE132.out) | exact HB.out)⟩⟩
                                        · rw [if_neg c83] at H
                                          exact absurd H (by simp)
                                      · rw [if_neg c82] at H
                                        exact absurd H (by simp)
            · replace c10 := Bool.eq_false_iff.mpr c10
              subst c10
              have H1 : ((impl_DiTells.f 3).bind fun bt120 => (some bt120.2.1)) = some r := by rw [if_neg (show ¬ (false = true) by decide)] at H; exact H
              clear H
              have H := H1
              clear H1
              replace H := Option.bind_eq_some_iff.mp H
              obtain ⟨⟨t120, t121, t122, t123, t124, t125⟩, A1080, H⟩ := H
              replace H : (some t121) = some r := H
              have A108 := Aside0.mk A1080
              clear A1080
              obtain rfl := Option.some.inj H
              go_wp2_with (first | ((with_reducible refine gate_callee (f := 34) rfl ?_); refine goesL_ (some 131) rfl rfl Try.func34 (by kernel_rfl) rfl #[.int .u8 3] rfl (by (try simp only [List.map_toArray, List.map_cons, List.map_nil]); first | done | rfl | (simp only [List.length_drop, List.length_take]; rfl)) ?_; (with_reducible refine (impl_DiTells.calls 3 t120 t121 t122 t123 t124 t125 _ A108.out).mono ?_); rintro e w109 ⟨rfl, hb⟩; refine ⟨_, rfl, ?_⟩; have n0_ := Aside0.mk (blk_below (g := gb119) (o := .cells #[.bool x120000_1, .bool x120001_1, .bool x120002_1, .bool x120003_1, .bool x120004_1] 62 (0, 0)) (by (with_reducible repeat (first | refine blk_drewN ?_ _ | refine blk_drew ?_ | refine blk_alloc ?_ _)); exact BK119.out) hb); have n1_ := Aside0.mk (below_step (by repeat (first | (with_reducible first | exact HB.out | apply below_alloc | apply pw_below_drewN | apply below_drew1 | refine below_set ?_ GE119.out) | exact HB.out)) hb); clear BK119; clear HB; have BK119 := n0_; have HB := n1_; clear n0_ n1_; (try clear hb); (try clear hb2); (try clear hk); (try clear hi)))
              go_ret
              exact ⟨by first | rfl | (simp [errW_none, errW_some] <;> rfl) | (simp [*, errW_none, errW_some] <;> rfl), by repeat (first | (with_reducible first | exact HB.out | apply below_alloc | apply pw_below_drewN | apply below_drew1 | refine below_set ?_ GE119.out) | exact HB.out)⟩

/-- THE ONE PURE STATEMENT of laws_FnDi: yours. -/
def laws_FnDi.Pure : Prop := ∀ (a0 : Int) (l1 : List Int), (Lit.int .u8 a0).wf = true → l1.length ≤ maxLen → l1.length * 1 ≤ 140737488351232 → (∀ x ∈ l1, (Lit.int .u8 x).wf = true) → ∃ k, laws_FnDi.f k a0 l1 = some true
theorem laws_FnDi.walk (P : laws_FnDi.Pure) (a0 : Int) (a1 : Option Addr) (len1 cap1 : Nat) (z1 : List Int) (w : World) (w0 : (Lit.int .u8 a0).wf = true) (w1 : (a1 = none ∧ len1 = 0 ∧ cap1 = 0 ∧ z1 = []) ∨ ∃ x, a1 = some x ∧ len1 ≤ cap1 ∧ cap1 ≤ maxLen ∧ z1.length = cap1 ∧ (∀ i, i < z1.length → w.cell? (x.add i) = some (.int .u8 (z1.getD i 0))) ∧ ∀ n ∈ z1, (Lit.int .u8 n).wf = true) (y1 : len1 * 1 ≤ 140737488351232) :
    Calls Try.prog 13 #[.int .u8 a0, .slice a1 len1 cap1] w fun e w' => e = .returned (.bool true) ∧ Below w.heap.size w w' := by
  obtain ⟨l1, rfl, hr1, hm1, hw1, hc1⟩ := ReadsInt.ofRowC w1
  obtain ⟨k, h⟩ := P a0 l1 w0 hm1 y1 hw1
  refine (laws_FnDi.calls k a0 _ _ l1 true w (Kd.C_of_reads (d := (0 : Int)) (h1 := fun _ => rfl) hr1) hc1 h).mono ?_
  rintro e w' ⟨rfl, hd⟩
  exact ⟨rfl, hd⟩

end Go.Proofs.Ytkfphiccfnfkdaa.PFnDi
