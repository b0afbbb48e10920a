-- Written by a program of this session (xprint) out of the translation; Lean checks it.
import Derived.Test.YtlbmfnjhpojghaaPFnAdvanceDeltax0
import Derived.Test.YtlbmfnjhpojghaaPFnAdvanceDeltax1
import Derived.Test.YtlbmfnjhpojghaaPFnAdvanceDeltax2
namespace Go.Proofs.Ytlbmfnjhpojghaa.PFnAdvanceDelta
open Go.RowKit Go.Proofs.YtlbmfnjhpojghaaW.PrintWords Go.Proofs.YtlbmfnjhpojghaaW.PrintLast Go.Proofs.YtlbmfnjhpojghaaW.PrintMore
attribute [local go_sem] max2_int min2_int max_two min_two max_three min_three max_four min_four   -- for this text's walks alone
set_option linter.unusedVariables false
set_option linter.unusedSimpArgs false

attribute [local go_sem] f_add f_sub f_mul f_quo f_conv f_same f_int f_max
/-! ### spec_SomeStore: function 11 -/
mutual
def spec_SomeStore.j0 : Nat → List (List (S161)) → List (List Int) → List (List Int) → List Int → List (List (S36)) → List (S41) → List Int → Int → Bool → Option ((List (List (S36))) × (List (S41)) × List Int)
 | 0, _, _, _, _, _, _, _, _, _ => none
 | k + 1, x0, x1, x2, x3, x8, x9, x10, x11, x42 => if x42 = true then (some (([] : List (List (S36))), ([] : List (S41)), ([] : List Int))) else (spec_SomeStore.l0 k x0 x1 x2 x3 x8 x9 x10 x11 0)
def spec_SomeStore.l0 : Nat → List (List (S161)) → List (List Int) → List (List Int) → List Int → List (List (S36)) → List (S41) → List Int → Int → Int → Option ((List (List (S36))) × (List (S41)) × List Int)
 | 0, _, _, _, _, _, _, _, _, _ => none
 | k + 1, x0, x1, x2, x3, x8, x9, x10, x11, x12 => if x12 < (x0.length : Int) then (spec_SomeStore.j2 k x0 x1 x2 x3 x8 x9 x10 x11 x12 (decide (x12 < 6))) else (spec_SomeStore.j2 k x0 x1 x2 x3 x8 x9 x10 x11 x12 false)
def spec_SomeStore.j2 : Nat → List (List (S161)) → List (List Int) → List (List Int) → List Int → List (List (S36)) → List (S41) → List Int → Int → Int → Bool → Option ((List (List (S36))) × (List (S41)) × List Int)
 | 0, _, _, _, _, _, _, _, _, _, _ => none
 | k + 1, x0, x1, x2, x3, x8, x9, x10, x11, x12, x50 => if x50 = true then (spec_SomeStore.l1 k x0 x1 x2 x3 x8 x9 x10 x11 x12 ([] : List (S36)) x11 0) else (spec_SomeStore.l2 k x1 x2 x3 x8 x9 x10 x11 0)
def spec_SomeStore.l1 : Nat → List (List (S161)) → List (List Int) → List (List Int) → List Int → List (List (S36)) → List (S41) → List Int → Int → Int → List (S36) → Int → Int → Option ((List (List (S36))) × (List (S41)) × List Int)
 | 0, _, _, _, _, _, _, _, _, _, _, _, _ => none
 | k + 1, x0, x1, x2, x3, x8, x9, x10, x11, x12, x13, x53, x54 => if x54 < x53 then (if 0 ≤ x12 then (if x12 < (x0.length : Int) then ((spec_RegionAxis.f (rd_L2 x0 x12) x54).bind fun bt113 => (if x13.length < 5864062014805 then (spec_SomeStore.l1 k x0 x1 x2 x3 x8 x9 x10 x11 x12 (x13 ++ [(⟨bt113.1, bt113.2.1, bt113.2.2⟩ : S36)]) x53 (wrap64 (x54 + 1))) else (none))) else (none)) else (none)) else (if x8.length < 5864062014805 then (spec_SomeStore.l0 k x0 x1 x2 x3 (x8 ++ [x13]) x9 x10 x11 (wrap64 (x12 + 1))) else (none))
def spec_SomeStore.l2 : Nat → List (List Int) → List (List Int) → List Int → List (List (S36)) → List (S41) → List Int → Int → Int → Option ((List (List (S36))) × (List (S41)) × List Int)
 | 0, _, _, _, _, _, _, _, _ => none
 | k + 1, x1, x2, x3, x8, x9, x10, x11, x15 => if x15 < (x1.length : Int) then (spec_SomeStore.j5 k x1 x2 x3 x8 x9 x10 x11 x15 (decide (x15 < 4))) else (spec_SomeStore.j5 k x1 x2 x3 x8 x9 x10 x11 x15 false)
def spec_SomeStore.j5 : Nat → List (List Int) → List (List Int) → List Int → List (List (S36)) → List (S41) → List Int → Int → Int → Bool → Option ((List (List (S36))) × (List (S41)) × List Int)
 | 0, _, _, _, _, _, _, _, _, _ => none
 | k + 1, x1, x2, x3, x8, x9, x10, x11, x15, x78 => if x78 = true then (spec_SomeStore.l3 k x1 x2 x3 x8 x9 x10 x11 x15 0 ([] : List Int)) else (if 0 ≤ x11 then (if x11 ≤ (x3.length : Int) then (spec_SomeStore.l6 k x8 x9 x10 (x3.take (x11 : Int).toNat) ((x3.take (x11 : Int).toNat).length : Int) 0) else (none)) else (none))
def spec_SomeStore.j7 : Nat → List (List Int) → List (List Int) → List Int → List (List (S36)) → List (S41) → List Int → Int → Int → List Int → Option ((List (List (S36))) × (List (S41)) × List Int)
 | 0, _, _, _, _, _, _, _, _, _ => none
 | k + 1, x1, x2, x3, x8, x9, x10, x11, x15, x123000 => spec_SomeStore.l4 k x1 x2 x3 x8 x9 x10 x11 x15 0 x123000 ([] : List (List Int))
def spec_SomeStore.l4 : Nat → List (List Int) → List (List Int) → List Int → List (List (S36)) → List (S41) → List Int → Int → Int → Int → List Int → List (List Int) → Option ((List (List (S36))) × (List (S41)) × List Int)
 | 0, _, _, _, _, _, _, _, _, _, _, _ => none
 | k + 1, x1, x2, x3, x8, x9, x10, x11, x15, x18, x123000, x123001 => if x18 < (x2.length : Int) then (spec_SomeStore.j9 k x1 x2 x3 x8 x9 x10 x11 x15 x18 (decide (x18 < 5)) x123000 x123001) else (spec_SomeStore.j9 k x1 x2 x3 x8 x9 x10 x11 x15 x18 false x123000 x123001)
def spec_SomeStore.j9 : Nat → List (List Int) → List (List Int) → List Int → List (List (S36)) → List (S41) → List Int → Int → Int → Int → Bool → List Int → List (List Int) → Option ((List (List (S36))) × (List (S41)) × List Int)
 | 0, _, _, _, _, _, _, _, _, _, _, _, _ => none
 | k + 1, x1, x2, x3, x8, x9, x10, x11, x15, x18, x117, x123000, x123001 => if x117 = true then (spec_SomeStore.l5 k x1 x2 x3 x8 x9 x10 x11 x15 x18 ([] : List Int) (x123000.length : Int) 0 x123000 x123001) else (if x9.length < 2932031007402 then (spec_SomeStore.l2 k x1 x2 x3 x8 (x9 ++ [(⟨x123000, x123001⟩ : S41)]) x10 x11 (wrap64 (x15 + 1))) else (none))
def spec_SomeStore.l5 : Nat → List (List Int) → List (List Int) → List Int → List (List (S36)) → List (S41) → List Int → Int → Int → Int → List Int → Int → Int → List Int → List (List Int) → Option ((List (List (S36))) × (List (S41)) × List Int)
 | 0, _, _, _, _, _, _, _, _, _, _, _, _, _, _ => none
 | k + 1, x1, x2, x3, x8, x9, x10, x11, x15, x18, x19, x122, x123, x123000, x123001 => if x123 < x122 then (if 0 ≤ x18 then (if x18 < (x2.length : Int) then ((spec_Nth.f (rd_L5 x2 x18) (wrap64 (x123 + x15))).bind fun t133 => (if x19.length < 17592186044416 then (spec_SomeStore.l5 k x1 x2 x3 x8 x9 x10 x11 x15 x18 (x19 ++ [t133]) x122 (wrap64 (x123 + 1)) x123000 x123001) else (none))) else (none)) else (none)) else (if x123001.length < 5864062014805 then (spec_SomeStore.l4 k x1 x2 x3 x8 x9 x10 x11 x15 (wrap64 (x18 + 1)) x123000 (x123001 ++ [x19])) else (none))
def spec_SomeStore.l3 : Nat → List (List Int) → List (List Int) → List Int → List (List (S36)) → List (S41) → List Int → Int → Int → Int → List Int → Option ((List (List (S36))) × (List (S41)) × List Int)
 | 0, _, _, _, _, _, _, _, _, _, _ => none
 | k + 1, x1, x2, x3, x8, x9, x10, x11, x15, x17, x123000 => if 0 ≤ x15 then (if x15 < (x1.length : Int) then (if x17 < ((rd_L4 x1 x15).length : Int) then (if x17 < 5 then (if 0 ≤ x17 then (if (x8.length : Int) = 0 then (none) else (if x123000.length < 17592186044416 then (spec_SomeStore.l3 k x1 x2 x3 x8 x9 x10 x11 x15 (wrap64 (x17 + 1)) (x123000 ++ [Int.tmod (wrap64 (rd (rd_L4 x1 x15) x17)) (x8.length : Int)])) else (none))) else (none)) else (spec_SomeStore.j7 k x1 x2 x3 x8 x9 x10 x11 x15 x123000)) else (spec_SomeStore.j7 k x1 x2 x3 x8 x9 x10 x11 x15 x123000)) else (none)) else (none)
def spec_SomeStore.l6 : Nat → List (List (S36)) → List (S41) → List Int → List Int → Int → Int → Option ((List (List (S36))) × (List (S41)) × List Int)
 | 0, _, _, _, _, _, _ => none
 | k + 1, x8, x9, x10, x150, x151, x152 => if x152 < x151 then (if 0 ≤ x152 then (if x152 < (x150.length : Int) then ((spec_Coord.f (rd x150 x152)).bind fun t142 => (if x10.length < 17592186044416 then (spec_SomeStore.l6 k x8 x9 (x10 ++ [t142]) x150 x151 (wrap64 (x152 + 1))) else (none))) else (none)) else (none)) else (some (x8, x9, x10))
end
def spec_SomeStore.f (k : Nat) (l0 : List (List (S161))) (l1 : List (List Int)) (l2 : List (List Int)) (l3 : List Int) : Option ((List (List (S36))) × (List (S41)) × List Int) := if (l0.length : Int) = 0 then (spec_SomeStore.j0 k l0 l1 l2 l3 ([] : List (List (S36))) ([] : List (S41)) ([] : List Int) (mn (l3.length : Int) 3) true) else (if (mn (l3.length : Int) 3) = 0 then (spec_SomeStore.j0 k l0 l1 l2 l3 ([] : List (List (S36))) ([] : List (S41)) ([] : List Int) (mn (l3.length : Int) 3) true) else (if (l1.length : Int) = 0 then (spec_SomeStore.j0 k l0 l1 l2 l3 ([] : List (List (S36))) ([] : List (S41)) ([] : List Int) (mn (l3.length : Int) 3) true) else (spec_SomeStore.j0 k l0 l1 l2 l3 ([] : List (List (S36))) ([] : List (S41)) ([] : List Int) (mn (l3.length : Int) 3) ((l2.length : Int) == 0))))
theorem spec_SomeStore.mono_l : ∀ k, (∀ y0 y1 y2 y3 y4 y5 y6 y7 y8, LeO (spec_SomeStore.j0 k y0 y1 y2 y3 y4 y5 y6 y7 y8) (spec_SomeStore.j0 (k + 1) y0 y1 y2 y3 y4 y5 y6 y7 y8)) ∧ (∀ y0 y1 y2 y3 y4 y5 y6 y7 y8, LeO (spec_SomeStore.l0 k y0 y1 y2 y3 y4 y5 y6 y7 y8) (spec_SomeStore.l0 (k + 1) y0 y1 y2 y3 y4 y5 y6 y7 y8)) ∧ (∀ y0 y1 y2 y3 y4 y5 y6 y7 y8 y9, LeO (spec_SomeStore.j2 k y0 y1 y2 y3 y4 y5 y6 y7 y8 y9) (spec_SomeStore.j2 (k + 1) y0 y1 y2 y3 y4 y5 y6 y7 y8 y9)) ∧ (∀ y0 y1 y2 y3 y4 y5 y6 y7 y8 y9 y10 y11, LeO (spec_SomeStore.l1 k y0 y1 y2 y3 y4 y5 y6 y7 y8 y9 y10 y11) (spec_SomeStore.l1 (k + 1) y0 y1 y2 y3 y4 y5 y6 y7 y8 y9 y10 y11)) ∧ (∀ y0 y1 y2 y3 y4 y5 y6 y7, LeO (spec_SomeStore.l2 k y0 y1 y2 y3 y4 y5 y6 y7) (spec_SomeStore.l2 (k + 1) y0 y1 y2 y3 y4 y5 y6 y7)) ∧ (∀ y0 y1 y2 y3 y4 y5 y6 y7 y8, LeO (spec_SomeStore.j5 k y0 y1 y2 y3 y4 y5 y6 y7 y8) (spec_SomeStore.j5 (k + 1) y0 y1 y2 y3 y4 y5 y6 y7 y8)) ∧ (∀ y0 y1 y2 y3 y4 y5 y6 y7 y8, LeO (spec_SomeStore.j7 k y0 y1 y2 y3 y4 y5 y6 y7 y8) (spec_SomeStore.j7 (k + 1) y0 y1 y2 y3 y4 y5 y6 y7 y8)) ∧ (∀ y0 y1 y2 y3 y4 y5 y6 y7 y8 y9 y10, LeO (spec_SomeStore.l4 k y0 y1 y2 y3 y4 y5 y6 y7 y8 y9 y10) (spec_SomeStore.l4 (k + 1) y0 y1 y2 y3 y4 y5 y6 y7 y8 y9 y10)) ∧ (∀ y0 y1 y2 y3 y4 y5 y6 y7 y8 y9 y10 y11, LeO (spec_SomeStore.j9 k y0 y1 y2 y3 y4 y5 y6 y7 y8 y9 y10 y11) (spec_SomeStore.j9 (k + 1) y0 y1 y2 y3 y4 y5 y6 y7 y8 y9 y10 y11)) ∧ (∀ y0 y1 y2 y3 y4 y5 y6 y7 y8 y9 y10 y11 y12 y13, LeO (spec_SomeStore.l5 k y0 y1 y2 y3 y4 y5 y6 y7 y8 y9 y10 y11 y12 y13) (spec_SomeStore.l5 (k + 1) y0 y1 y2 y3 y4 y5 y6 y7 y8 y9 y10 y11 y12 y13)) ∧ (∀ y0 y1 y2 y3 y4 y5 y6 y7 y8 y9, LeO (spec_SomeStore.l3 k y0 y1 y2 y3 y4 y5 y6 y7 y8 y9) (spec_SomeStore.l3 (k + 1) y0 y1 y2 y3 y4 y5 y6 y7 y8 y9)) ∧ (∀ y0 y1 y2 y3 y4 y5, LeO (spec_SomeStore.l6 k y0 y1 y2 y3 y4 y5) (spec_SomeStore.l6 (k + 1) y0 y1 y2 y3 y4 y5))
 | 0 => ⟨fun _ _ _ _ _ _ _ _ _ r h => by simp [spec_SomeStore.j0] at h, fun _ _ _ _ _ _ _ _ _ r h => by simp [spec_SomeStore.l0] at h, fun _ _ _ _ _ _ _ _ _ _ r h => by simp [spec_SomeStore.j2] at h, fun _ _ _ _ _ _ _ _ _ _ _ _ r h => by simp [spec_SomeStore.l1] at h, fun _ _ _ _ _ _ _ _ r h => by simp [spec_SomeStore.l2] at h, fun _ _ _ _ _ _ _ _ _ r h => by simp [spec_SomeStore.j5] at h, fun _ _ _ _ _ _ _ _ _ r h => by simp [spec_SomeStore.j7] at h, fun _ _ _ _ _ _ _ _ _ _ _ r h => by simp [spec_SomeStore.l4] at h, fun _ _ _ _ _ _ _ _ _ _ _ _ r h => by simp [spec_SomeStore.j9] at h, fun _ _ _ _ _ _ _ _ _ _ _ _ _ _ r h => by simp [spec_SomeStore.l5] at h, fun _ _ _ _ _ _ _ _ _ _ r h => by simp [spec_SomeStore.l3] at h, fun _ _ _ _ _ _ r h => by simp [spec_SomeStore.l6] at h⟩
 | k + 1 => by
  obtain ⟨ih0, ih1, ih2, ih3, ih4, ih5, ih6, ih7, ih8, ih9, ih10, ih11⟩ := spec_SomeStore.mono_l k
  refine ⟨?_, ?_, ?_, ?_, ?_, ?_, ?_, ?_, ?_, ?_, ?_, ?_⟩
  ·intro y0 y1 y2 y3 y4 y5 y6 y7 y8
   unfold spec_SomeStore.j0
   repeat' first
   | (with_reducible exact ih0 _ _ _ _ _ _ _ _ _)
   | (with_reducible exact ih1 _ _ _ _ _ _ _ _ _)
   | (with_reducible exact ih2 _ _ _ _ _ _ _ _ _ _)
   | (with_reducible exact ih3 _ _ _ _ _ _ _ _ _ _ _ _)
   | (with_reducible exact ih4 _ _ _ _ _ _ _ _)
   | (with_reducible exact ih5 _ _ _ _ _ _ _ _ _)
   | (with_reducible exact ih6 _ _ _ _ _ _ _ _ _)
   | (with_reducible exact ih7 _ _ _ _ _ _ _ _ _ _ _)
   | (with_reducible exact ih8 _ _ _ _ _ _ _ _ _ _ _ _)
   | (with_reducible exact ih9 _ _ _ _ _ _ _ _ _ _ _ _ _ _)
   | (with_reducible exact ih10 _ _ _ _ _ _ _ _ _ _)
   | (with_reducible exact ih11 _ _ _ _ _ _)
   | (with_reducible exact LeO.refl _)
   | (with_reducible exact LeO.none _)
   | (with_reducible refine LeO.ite ?_ ?_)
   | (with_reducible refine LeO.bind ?_ (fun _ => ?_))
   | exact ih0 _ _ _ _ _ _ _ _ _
   | exact ih1 _ _ _ _ _ _ _ _ _
   | exact ih2 _ _ _ _ _ _ _ _ _ _
   | exact ih3 _ _ _ _ _ _ _ _ _ _ _ _
   | exact ih4 _ _ _ _ _ _ _ _
   | exact ih5 _ _ _ _ _ _ _ _ _
   | exact ih6 _ _ _ _ _ _ _ _ _
   | exact ih7 _ _ _ _ _ _ _ _ _ _ _
   | exact ih8 _ _ _ _ _ _ _ _ _ _ _ _
   | exact ih9 _ _ _ _ _ _ _ _ _ _ _ _ _ _
   | exact ih10 _ _ _ _ _ _ _ _ _ _
   | exact ih11 _ _ _ _ _ _
   | exact LeO.none _
   | refine LeO.ite ?_ ?_
   | refine LeO.bind ?_ (fun _ => ?_)
  ·intro y0 y1 y2 y3 y4 y5 y6 y7 y8
   unfold spec_SomeStore.l0
   repeat' first
   | (with_reducible exact ih0 _ _ _ _ _ _ _ _ _)
   | (with_reducible exact ih1 _ _ _ _ _ _ _ _ _)
   | (with_reducible exact ih2 _ _ _ _ _ _ _ _ _ _)
   | (with_reducible exact ih3 _ _ _ _ _ _ _ _ _ _ _ _)
   | (with_reducible exact ih4 _ _ _ _ _ _ _ _)
   | (with_reducible exact ih5 _ _ _ _ _ _ _ _ _)
   | (with_reducible exact ih6 _ _ _ _ _ _ _ _ _)
   | (with_reducible exact ih7 _ _ _ _ _ _ _ _ _ _ _)
   | (with_reducible exact ih8 _ _ _ _ _ _ _ _ _ _ _ _)
   | (with_reducible exact ih9 _ _ _ _ _ _ _ _ _ _ _ _ _ _)
   | (with_reducible exact ih10 _ _ _ _ _ _ _ _ _ _)
   | (with_reducible exact ih11 _ _ _ _ _ _)
   | (with_reducible exact LeO.refl _)
   | (with_reducible exact LeO.none _)
   | (with_reducible refine LeO.ite ?_ ?_)
   | (with_reducible refine LeO.bind ?_ (fun _ => ?_))
   | exact ih0 _ _ _ _ _ _ _ _ _
   | exact ih1 _ _ _ _ _ _ _ _ _
   | exact ih2 _ _ _ _ _ _ _ _ _ _
   | exact ih3 _ _ _ _ _ _ _ _ _ _ _ _
   | exact ih4 _ _ _ _ _ _ _ _
   | exact ih5 _ _ _ _ _ _ _ _ _
   | exact ih6 _ _ _ _ _ _ _ _ _
   | exact ih7 _ _ _ _ _ _ _ _ _ _ _
   | exact ih8 _ _ _ _ _ _ _ _ _ _ _ _
   | exact ih9 _ _ _ _ _ _ _ _ _ _ _ _ _ _
   | exact ih10 _ _ _ _ _ _ _ _ _ _
   | exact ih11 _ _ _ _ _ _
   | exact LeO.none _
   | refine LeO.ite ?_ ?_
   | refine LeO.bind ?_ (fun _ => ?_)
  ·intro y0 y1 y2 y3 y4 y5 y6 y7 y8 y9
   unfold spec_SomeStore.j2
   repeat' first
   | (with_reducible exact ih0 _ _ _ _ _ _ _ _ _)
   | (with_reducible exact ih1 _ _ _ _ _ _ _ _ _)
   | (with_reducible exact ih2 _ _ _ _ _ _ _ _ _ _)
   | (with_reducible exact ih3 _ _ _ _ _ _ _ _ _ _ _ _)
   | (with_reducible exact ih4 _ _ _ _ _ _ _ _)
   | (with_reducible exact ih5 _ _ _ _ _ _ _ _ _)
   | (with_reducible exact ih6 _ _ _ _ _ _ _ _ _)
   | (with_reducible exact ih7 _ _ _ _ _ _ _ _ _ _ _)
   | (with_reducible exact ih8 _ _ _ _ _ _ _ _ _ _ _ _)
   | (with_reducible exact ih9 _ _ _ _ _ _ _ _ _ _ _ _ _ _)
   | (with_reducible exact ih10 _ _ _ _ _ _ _ _ _ _)
   | (with_reducible exact ih11 _ _ _ _ _ _)
   | (with_reducible exact LeO.refl _)
   | (with_reducible exact LeO.none _)
   | (with_reducible refine LeO.ite ?_ ?_)
   | (with_reducible refine LeO.bind ?_ (fun _ => ?_))
   | exact ih0 _ _ _ _ _ _ _ _ _
   | exact ih1 _ _ _ _ _ _ _ _ _
   | exact ih2 _ _ _ _ _ _ _ _ _ _
   | exact ih3 _ _ _ _ _ _ _ _ _ _ _ _
   | exact ih4 _ _ _ _ _ _ _ _
   | exact ih5 _ _ _ _ _ _ _ _ _
   | exact ih6 _ _ _ _ _ _ _ _ _
   | exact ih7 _ _ _ _ _ _ _ _ _ _ _
   | exact ih8 _ _ _ _ _ _ _ _ _ _ _ _
   | exact ih9 _ _ _ _ _ _ _ _ _ _ _ _ _ _
   | exact ih10 _ _ _ _ _ _ _ _ _ _
   | exact ih11 _ _ _ _ _ _
   | exact LeO.none _
   | refine LeO.ite ?_ ?_
   | refine LeO.bind ?_ (fun _ => ?_)
  ·intro y0 y1 y2 y3 y4 y5 y6 y7 y8 y9 y10 y11
   unfold spec_SomeStore.l1
   repeat' first
   | (with_reducible exact ih0 _ _ _ _ _ _ _ _ _)
   | (with_reducible exact ih1 _ _ _ _ _ _ _ _ _)
   | (with_reducible exact ih2 _ _ _ _ _ _ _ _ _ _)
   | (with_reducible exact ih3 _ _ _ _ _ _ _ _ _ _ _ _)
   | (with_reducible exact ih4 _ _ _ _ _ _ _ _)
   | (with_reducible exact ih5 _ _ _ _ _ _ _ _ _)
   | (with_reducible exact ih6 _ _ _ _ _ _ _ _ _)
   | (with_reducible exact ih7 _ _ _ _ _ _ _ _ _ _ _)
   | (with_reducible exact ih8 _ _ _ _ _ _ _ _ _ _ _ _)
   | (with_reducible exact ih9 _ _ _ _ _ _ _ _ _ _ _ _ _ _)
   | (with_reducible exact ih10 _ _ _ _ _ _ _ _ _ _)
   | (with_reducible exact ih11 _ _ _ _ _ _)
   | (with_reducible exact LeO.refl _)
   | (with_reducible exact LeO.none _)
   | (with_reducible refine LeO.ite ?_ ?_)
   | (with_reducible refine LeO.bind ?_ (fun _ => ?_))
   | exact ih0 _ _ _ _ _ _ _ _ _
   | exact ih1 _ _ _ _ _ _ _ _ _
   | exact ih2 _ _ _ _ _ _ _ _ _ _
   | exact ih3 _ _ _ _ _ _ _ _ _ _ _ _
   | exact ih4 _ _ _ _ _ _ _ _
   | exact ih5 _ _ _ _ _ _ _ _ _
   | exact ih6 _ _ _ _ _ _ _ _ _
   | exact ih7 _ _ _ _ _ _ _ _ _ _ _
   | exact ih8 _ _ _ _ _ _ _ _ _ _ _ _
   | exact ih9 _ _ _ _ _ _ _ _ _ _ _ _ _ _
   | exact ih10 _ _ _ _ _ _ _ _ _ _
   | exact ih11 _ _ _ _ _ _
   | exact LeO.none _
   | refine LeO.ite ?_ ?_
   | refine LeO.bind ?_ (fun _ => ?_)
  ·intro y0 y1 y2 y3 y4 y5 y6 y7
   unfold spec_SomeStore.l2
   repeat' first
   | (with_reducible exact ih0 _ _ _ _ _ _ _ _ _)
   | (with_reducible exact ih1 _ _ _ _ _ _ _ _ _)
   | (with_reducible exact ih2 _ _ _ _ _ _ _ _ _ _)
   | (with_reducible exact ih3 _ _ _ _ _ _ _ _ _ _ _ _)
   | (with_reducible exact ih4 _ _ _ _ _ _ _ _)
   | (with_reducible exact ih5 _ _ _ _ _ _ _ _ _)
   | (with_reducible exact ih6 _ _ _ _ _ _ _ _ _)
   | (with_reducible exact ih7 _ _ _ _ _ _ _ _ _ _ _)
   | (with_reducible exact ih8 _ _ _ _ _ _ _ _ _ _ _ _)
   | (with_reducible exact ih9 _ _ _ _ _ _ _ _ _ _ _ _ _ _)
   | (with_reducible exact ih10 _ _ _ _ _ _ _ _ _ _)
   | (with_reducible exact ih11 _ _ _ _ _ _)
   | (with_reducible exact LeO.refl _)
   | (with_reducible exact LeO.none _)
   | (with_reducible refine LeO.ite ?_ ?_)
   | (with_reducible refine LeO.bind ?_ (fun _ => ?_))
   | exact ih0 _ _ _ _ _ _ _ _ _
   | exact ih1 _ _ _ _ _ _ _ _ _
   | exact ih2 _ _ _ _ _ _ _ _ _ _
   | exact ih3 _ _ _ _ _ _ _ _ _ _ _ _
   | exact ih4 _ _ _ _ _ _ _ _
   | exact ih5 _ _ _ _ _ _ _ _ _
   | exact ih6 _ _ _ _ _ _ _ _ _
   | exact ih7 _ _ _ _ _ _ _ _ _ _ _
   | exact ih8 _ _ _ _ _ _ _ _ _ _ _ _
   | exact ih9 _ _ _ _ _ _ _ _ _ _ _ _ _ _
   | exact ih10 _ _ _ _ _ _ _ _ _ _
   | exact ih11 _ _ _ _ _ _
   | exact LeO.none _
   | refine LeO.ite ?_ ?_
   | refine LeO.bind ?_ (fun _ => ?_)
  ·intro y0 y1 y2 y3 y4 y5 y6 y7 y8
   unfold spec_SomeStore.j5
   repeat' first
   | (with_reducible exact ih0 _ _ _ _ _ _ _ _ _)
   | (with_reducible exact ih1 _ _ _ _ _ _ _ _ _)
   | (with_reducible exact ih2 _ _ _ _ _ _ _ _ _ _)
   | (with_reducible exact ih3 _ _ _ _ _ _ _ _ _ _ _ _)
   | (with_reducible exact ih4 _ _ _ _ _ _ _ _)
   | (with_reducible exact ih5 _ _ _ _ _ _ _ _ _)
   | (with_reducible exact ih6 _ _ _ _ _ _ _ _ _)
   | (with_reducible exact ih7 _ _ _ _ _ _ _ _ _ _ _)
   | (with_reducible exact ih8 _ _ _ _ _ _ _ _ _ _ _ _)
   | (with_reducible exact ih9 _ _ _ _ _ _ _ _ _ _ _ _ _ _)
   | (with_reducible exact ih10 _ _ _ _ _ _ _ _ _ _)
   | (with_reducible exact ih11 _ _ _ _ _ _)
   | (with_reducible exact LeO.refl _)
   | (with_reducible exact LeO.none _)
   | (with_reducible refine LeO.ite ?_ ?_)
   | (with_reducible refine LeO.bind ?_ (fun _ => ?_))
   | exact ih0 _ _ _ _ _ _ _ _ _
   | exact ih1 _ _ _ _ _ _ _ _ _
   | exact ih2 _ _ _ _ _ _ _ _ _ _
   | exact ih3 _ _ _ _ _ _ _ _ _ _ _ _
   | exact ih4 _ _ _ _ _ _ _ _
   | exact ih5 _ _ _ _ _ _ _ _ _
   | exact ih6 _ _ _ _ _ _ _ _ _
   | exact ih7 _ _ _ _ _ _ _ _ _ _ _
   | exact ih8 _ _ _ _ _ _ _ _ _ _ _ _
   | exact ih9 _ _ _ _ _ _ _ _ _ _ _ _ _ _
   | exact ih10 _ _ _ _ _ _ _ _ _ _
   | exact ih11 _ _ _ _ _ _
   | exact LeO.none _
   | refine LeO.ite ?_ ?_
   | refine LeO.bind ?_ (fun _ => ?_)
  ·intro y0 y1 y2 y3 y4 y5 y6 y7 y8
   unfold spec_SomeStore.j7
   repeat' first
   | (with_reducible exact ih0 _ _ _ _ _ _ _ _ _)
   | (with_reducible exact ih1 _ _ _ _ _ _ _ _ _)
   | (with_reducible exact ih2 _ _ _ _ _ _ _ _ _ _)
   | (with_reducible exact ih3 _ _ _ _ _ _ _ _ _ _ _ _)
   | (with_reducible exact ih4 _ _ _ _ _ _ _ _)
   | (with_reducible exact ih5 _ _ _ _ _ _ _ _ _)
   | (with_reducible exact ih6 _ _ _ _ _ _ _ _ _)
   | (with_reducible exact ih7 _ _ _ _ _ _ _ _ _ _ _)
   | (with_reducible exact ih8 _ _ _ _ _ _ _ _ _ _ _ _)
   | (with_reducible exact ih9 _ _ _ _ _ _ _ _ _ _ _ _ _ _)
   | (with_reducible exact ih10 _ _ _ _ _ _ _ _ _ _)
   | (with_reducible exact ih11 _ _ _ _ _ _)
   | (with_reducible exact LeO.refl _)
   | (with_reducible exact LeO.none _)
   | (with_reducible refine LeO.ite ?_ ?_)
   | (with_reducible refine LeO.bind ?_ (fun _ => ?_))
   | exact ih0 _ _ _ _ _ _ _ _ _
   | exact ih1 _ _ _ _ _ _ _ _ _
   | exact ih2 _ _ _ _ _ _ _ _ _ _
   | exact ih3 _ _ _ _ _ _ _ _ _ _ _ _
   | exact ih4 _ _ _ _ _ _ _ _
   | exact ih5 _ _ _ _ _ _ _ _ _
   | exact ih6 _ _ _ _ _ _ _ _ _
   | exact ih7 _ _ _ _ _ _ _ _ _ _ _
   | exact ih8 _ _ _ _ _ _ _ _ _ _ _ _
   | exact ih9 _ _ _ _ _ _ _ _ _ _ _ _ _ _
   | exact ih10 _ _ _ _ _ _ _ _ _ _
   | exact ih11 _ _ _ _ _ _
   | exact LeO.none _
   | refine LeO.ite ?_ ?_
   | refine LeO.bind ?_ (fun _ => ?_)
  ·intro y0 y1 y2 y3 y4 y5 y6 y7 y8 y9 y10
   unfold spec_SomeStore.l4
   repeat' first
   | (with_reducible exact ih0 _ _ _ _ _ _ _ _ _)
   | (with_reducible exact ih1 _ _ _ _ _ _ _ _ _)
   | (with_reducible exact ih2 _ _ _ _ _ _ _ _ _ _)
   | (with_reducible exact ih3 _ _ _ _ _ _ _ _ _ _ _ _)
   | (with_reducible exact ih4 _ _ _ _ _ _ _ _)
   | (with_reducible exact ih5 _ _ _ _ _ _ _ _ _)
   | (with_reducible exact ih6 _ _ _ _ _ _ _ _ _)
   | (with_reducible exact ih7 _ _ _ _ _ _ _ _ _ _ _)
   | (with_reducible exact ih8 _ _ _ _ _ _ _ _ _ _ _ _)
   | (with_reducible exact ih9 _ _ _ _ _ _ _ _ _ _ _ _ _ _)
   | (with_reducible exact ih10 _ _ _ _ _ _ _ _ _ _)
   | (with_reducible exact ih11 _ _ _ _ _ _)
   | (with_reducible exact LeO.refl _)
   | (with_reducible exact LeO.none _)
   | (with_reducible refine LeO.ite ?_ ?_)
   | (with_reducible refine LeO.bind ?_ (fun _ => ?_))
   | exact ih0 _ _ _ _ _ _ _ _ _
   | exact ih1 _ _ _ _ _ _ _ _ _
   | exact ih2 _ _ _ _ _ _ _ _ _ _
   | exact ih3 _ _ _ _ _ _ _ _ _ _ _ _
   | exact ih4 _ _ _ _ _ _ _ _
   | exact ih5 _ _ _ _ _ _ _ _ _
   | exact ih6 _ _ _ _ _ _ _ _ _
   | exact ih7 _ _ _ _ _ _ _ _ _ _ _
   | exact ih8 _ _ _ _ _ _ _ _ _ _ _ _
   | exact ih9 _ _ _ _ _ _ _ _ _ _ _ _ _ _
   | exact ih10 _ _ _ _ _ _ _ _ _ _
   | exact ih11 _ _ _ _ _ _
   | exact LeO.none _
   | refine LeO.ite ?_ ?_
   | refine LeO.bind ?_ (fun _ => ?_)
  ·intro y0 y1 y2 y3 y4 y5 y6 y7 y8 y9 y10 y11
   unfold spec_SomeStore.j9
   repeat' first
   | (with_reducible exact ih0 _ _ _ _ _ _ _ _ _)
   | (with_reducible exact ih1 _ _ _ _ _ _ _ _ _)
   | (with_reducible exact ih2 _ _ _ _ _ _ _ _ _ _)
   | (with_reducible exact ih3 _ _ _ _ _ _ _ _ _ _ _ _)
   | (with_reducible exact ih4 _ _ _ _ _ _ _ _)
   | (with_reducible exact ih5 _ _ _ _ _ _ _ _ _)
   | (with_reducible exact ih6 _ _ _ _ _ _ _ _ _)
   | (with_reducible exact ih7 _ _ _ _ _ _ _ _ _ _ _)
   | (with_reducible exact ih8 _ _ _ _ _ _ _ _ _ _ _ _)
   | (with_reducible exact ih9 _ _ _ _ _ _ _ _ _ _ _ _ _ _)
   | (with_reducible exact ih10 _ _ _ _ _ _ _ _ _ _)
   | (with_reducible exact ih11 _ _ _ _ _ _)
   | (with_reducible exact LeO.refl _)
   | (with_reducible exact LeO.none _)
   | (with_reducible refine LeO.ite ?_ ?_)
   | (with_reducible refine LeO.bind ?_ (fun _ => ?_))
   | exact ih0 _ _ _ _ _ _ _ _ _
   | exact ih1 _ _ _ _ _ _ _ _ _
   | exact ih2 _ _ _ _ _ _ _ _ _ _
   | exact ih3 _ _ _ _ _ _ _ _ _ _ _ _
   | exact ih4 _ _ _ _ _ _ _ _
   | exact ih5 _ _ _ _ _ _ _ _ _
   | exact ih6 _ _ _ _ _ _ _ _ _
   | exact ih7 _ _ _ _ _ _ _ _ _ _ _
   | exact ih8 _ _ _ _ _ _ _ _ _ _ _ _
   | exact ih9 _ _ _ _ _ _ _ _ _ _ _ _ _ _
   | exact ih10 _ _ _ _ _ _ _ _ _ _
   | exact ih11 _ _ _ _ _ _
   | exact LeO.none _
   | refine LeO.ite ?_ ?_
   | refine LeO.bind ?_ (fun _ => ?_)
  ·intro y0 y1 y2 y3 y4 y5 y6 y7 y8 y9 y10 y11 y12 y13
   unfold spec_SomeStore.l5
   repeat' first
   | (with_reducible exact ih0 _ _ _ _ _ _ _ _ _)
   | (with_reducible exact ih1 _ _ _ _ _ _ _ _ _)
   | (with_reducible exact ih2 _ _ _ _ _ _ _ _ _ _)
   | (with_reducible exact ih3 _ _ _ _ _ _ _ _ _ _ _ _)
   | (with_reducible exact ih4 _ _ _ _ _ _ _ _)
   | (with_reducible exact ih5 _ _ _ _ _ _ _ _ _)
   | (with_reducible exact ih6 _ _ _ _ _ _ _ _ _)
   | (with_reducible exact ih7 _ _ _ _ _ _ _ _ _ _ _)
   | (with_reducible exact ih8 _ _ _ _ _ _ _ _ _ _ _ _)
   | (with_reducible exact ih9 _ _ _ _ _ _ _ _ _ _ _ _ _ _)
   | (with_reducible exact ih10 _ _ _ _ _ _ _ _ _ _)
   | (with_reducible exact ih11 _ _ _ _ _ _)
   | (with_reducible exact LeO.refl _)
   | (with_reducible exact LeO.none _)
   | (with_reducible refine LeO.ite ?_ ?_)
   | (with_reducible refine LeO.bind ?_ (fun _ => ?_))
   | exact ih0 _ _ _ _ _ _ _ _ _
   | exact ih1 _ _ _ _ _ _ _ _ _
   | exact ih2 _ _ _ _ _ _ _ _ _ _
   | exact ih3 _ _ _ _ _ _ _ _ _ _ _ _
   | exact ih4 _ _ _ _ _ _ _ _
   | exact ih5 _ _ _ _ _ _ _ _ _
   | exact ih6 _ _ _ _ _ _ _ _ _
   | exact ih7 _ _ _ _ _ _ _ _ _ _ _
   | exact ih8 _ _ _ _ _ _ _ _ _ _ _ _
   | exact ih9 _ _ _ _ _ _ _ _ _ _ _ _ _ _
   | exact ih10 _ _ _ _ _ _ _ _ _ _
   | exact ih11 _ _ _ _ _ _
   | exact LeO.none _
   | refine LeO.ite ?_ ?_
   | refine LeO.bind ?_ (fun _ => ?_)
  ·intro y0 y1 y2 y3 y4 y5 y6 y7 y8 y9
   unfold spec_SomeStore.l3
   repeat' first
   | (with_reducible exact ih0 _ _ _ _ _ _ _ _ _)
   | (with_reducible exact ih1 _ _ _ _ _ _ _ _ _)
   | (with_reducible exact ih2 _ _ _ _ _ _ _ _ _ _)
   | (with_reducible exact ih3 _ _ _ _ _ _ _ _ _ _ _ _)
   | (with_reducible exact ih4 _ _ _ _ _ _ _ _)
   | (with_reducible exact ih5 _ _ _ _ _ _ _ _ _)
   | (with_reducible exact ih6 _ _ _ _ _ _ _ _ _)
   | (with_reducible exact ih7 _ _ _ _ _ _ _ _ _ _ _)
   | (with_reducible exact ih8 _ _ _ _ _ _ _ _ _ _ _ _)
   | (with_reducible exact ih9 _ _ _ _ _ _ _ _ _ _ _ _ _ _)
   | (with_reducible exact ih10 _ _ _ _ _ _ _ _ _ _)
   | (with_reducible exact ih11 _ _ _ _ _ _)
   | (with_reducible exact LeO.refl _)
   | (with_reducible exact LeO.none _)
   | (with_reducible refine LeO.ite ?_ ?_)
   | (with_reducible refine LeO.bind ?_ (fun _ => ?_))
   | exact ih0 _ _ _ _ _ _ _ _ _
   | exact ih1 _ _ _ _ _ _ _ _ _
   | exact ih2 _ _ _ _ _ _ _ _ _ _
   | exact ih3 _ _ _ _ _ _ _ _ _ _ _ _
   | exact ih4 _ _ _ _ _ _ _ _
   | exact ih5 _ _ _ _ _ _ _ _ _
   | exact ih6 _ _ _ _ _ _ _ _ _
   | exact ih7 _ _ _ _ _ _ _ _ _ _ _
   | exact ih8 _ _ _ _ _ _ _ _ _ _ _ _
   | exact ih9 _ _ _ _ _ _ _ _ _ _ _ _ _ _
   | exact ih10 _ _ _ _ _ _ _ _ _ _
   | exact ih11 _ _ _ _ _ _
   | exact LeO.none _
   | refine LeO.ite ?_ ?_
   | refine LeO.bind ?_ (fun _ => ?_)
  ·intro y0 y1 y2 y3 y4 y5
   unfold spec_SomeStore.l6
   repeat' first
   | (with_reducible exact ih0 _ _ _ _ _ _ _ _ _)
   | (with_reducible exact ih1 _ _ _ _ _ _ _ _ _)
   | (with_reducible exact ih2 _ _ _ _ _ _ _ _ _ _)
   | (with_reducible exact ih3 _ _ _ _ _ _ _ _ _ _ _ _)
   | (with_reducible exact ih4 _ _ _ _ _ _ _ _)
   | (with_reducible exact ih5 _ _ _ _ _ _ _ _ _)
   | (with_reducible exact ih6 _ _ _ _ _ _ _ _ _)
   | (with_reducible exact ih7 _ _ _ _ _ _ _ _ _ _ _)
   | (with_reducible exact ih8 _ _ _ _ _ _ _ _ _ _ _ _)
   | (with_reducible exact ih9 _ _ _ _ _ _ _ _ _ _ _ _ _ _)
   | (with_reducible exact ih10 _ _ _ _ _ _ _ _ _ _)
   | (with_reducible exact ih11 _ _ _ _ _ _)
   | (with_reducible exact LeO.refl _)
   | (with_reducible exact LeO.none _)
   | (with_reducible refine LeO.ite ?_ ?_)
   | (with_reducible refine LeO.bind ?_ (fun _ => ?_))
   | exact ih0 _ _ _ _ _ _ _ _ _
   | exact ih1 _ _ _ _ _ _ _ _ _
   | exact ih2 _ _ _ _ _ _ _ _ _ _
   | exact ih3 _ _ _ _ _ _ _ _ _ _ _ _
   | exact ih4 _ _ _ _ _ _ _ _
   | exact ih5 _ _ _ _ _ _ _ _ _
   | exact ih6 _ _ _ _ _ _ _ _ _
   | exact ih7 _ _ _ _ _ _ _ _ _ _ _
   | exact ih8 _ _ _ _ _ _ _ _ _ _ _ _
   | exact ih9 _ _ _ _ _ _ _ _ _ _ _ _ _ _
   | exact ih10 _ _ _ _ _ _ _ _ _ _
   | exact ih11 _ _ _ _ _ _
   | exact LeO.none _
   | refine LeO.ite ?_ ?_
   | refine LeO.bind ?_ (fun _ => ?_)
theorem spec_SomeStore.mono : ∀ a0 a1 a2 a3 k, LeO (spec_SomeStore.f k a0 a1 a2 a3) (spec_SomeStore.f (k + 1) a0 a1 a2 a3) := by
 intro a0 a1 a2 a3 k
 obtain ⟨ih0, ih1, ih2, ih3, ih4, ih5, ih6, ih7, ih8, ih9, ih10, ih11⟩ := spec_SomeStore.mono_l k
 unfold spec_SomeStore.f
 repeat' first
   | (with_reducible exact ih0 _ _ _ _ _ _ _ _ _)
   | (with_reducible exact ih1 _ _ _ _ _ _ _ _ _)
   | (with_reducible exact ih2 _ _ _ _ _ _ _ _ _ _)
   | (with_reducible exact ih3 _ _ _ _ _ _ _ _ _ _ _ _)
   | (with_reducible exact ih4 _ _ _ _ _ _ _ _)
   | (with_reducible exact ih5 _ _ _ _ _ _ _ _ _)
   | (with_reducible exact ih6 _ _ _ _ _ _ _ _ _)
   | (with_reducible exact ih7 _ _ _ _ _ _ _ _ _ _ _)
   | (with_reducible exact ih8 _ _ _ _ _ _ _ _ _ _ _ _)
   | (with_reducible exact ih9 _ _ _ _ _ _ _ _ _ _ _ _ _ _)
   | (with_reducible exact ih10 _ _ _ _ _ _ _ _ _ _)
   | (with_reducible exact ih11 _ _ _ _ _ _)
   | (with_reducible exact LeO.refl _)
   | (with_reducible exact LeO.none _)
   | (with_reducible refine LeO.ite ?_ ?_)
   | (with_reducible refine LeO.bind ?_ (fun _ => ?_))
   | exact ih0 _ _ _ _ _ _ _ _ _
   | exact ih1 _ _ _ _ _ _ _ _ _
   | exact ih2 _ _ _ _ _ _ _ _ _ _
   | exact ih3 _ _ _ _ _ _ _ _ _ _ _ _
   | exact ih4 _ _ _ _ _ _ _ _
   | exact ih5 _ _ _ _ _ _ _ _ _
   | exact ih6 _ _ _ _ _ _ _ _ _
   | exact ih7 _ _ _ _ _ _ _ _ _ _ _
   | exact ih8 _ _ _ _ _ _ _ _ _ _ _ _
   | exact ih9 _ _ _ _ _ _ _ _ _ _ _ _ _ _
   | exact ih10 _ _ _ _ _ _ _ _ _ _
   | exact ih11 _ _ _ _ _ _
   | exact LeO.none _
   | refine LeO.ite ?_ ?_
   | refine LeO.bind ?_ (fun _ => ?_)
def spec_SomeStore.T21 : Bool × List (List Nat × List Nat) := (true, [([], []), ([0], [0]), ([], []), ([], []), ([2, 3], [2, 3]), ([4], [4]), ([], []), ([5, 6], [5, 6]), ([7], [7]), ([8], [8]), ([], []), ([10], [10]), ([9, 11], [9, 11]), ([12], [12]), ([1, 13], [1, 13]), ([0, 1, 2, 3, 4, 5, 6, 7, 8, 9, 10, 11, 12, 13, 14], []), ([15, 14, 14, 0, 1, 2, 3, 4, 5, 6, 7, 8, 9, 10, 11, 12, 13, 14], [14, 15])])
def spec_SomeStore.B21 : List Nat := [0, 1, 0, 0, 12, 28, 0, 124, 252, 508, 0, 1024, 4092, 8188, 16383, 32767, 65535]
theorem spec_SomeStore.tab21 : rtab .any (opsOf Try.f11 21) = spec_SomeStore.T21 := by kernel_rfl
theorem spec_SomeStore.bits21 : waitsOk spec_SomeStore.T21.2 spec_SomeStore.B21 = true := by kernel_rfl
set_option maxHeartbeats 8000000 in
set_option maxRecDepth 100000 in
theorem spec_SomeStore.calls (k : Nat) (A0 : Option Addr) (c0 : Nat) (l0 : List (List (S161))) (A1 : Option Addr) (c1 : Nat) (l1 : List (List Int)) (A2 : Option Addr) (c2 : Nat) (l2 : List (List Int)) (A3 : Option Addr) (c3 : Nat) (l3 : List Int) (r1 : List (List (S36))) (r2 : List (S41)) (r3 : List Int) (w : World) (hr0 : Kd.C (Kd.slice 161 k161) w A0 l0.length l0) (hc0 : l0.length ≤ c0) (hr1 : Kd.C (Kd.slice 5 (Kd.int .u8)) w A1 l1.length l1) (hc1 : l1.length ≤ c1) (hr2 : Kd.C (Kd.slice 98 (Kd.int .i16)) w A2 l2.length l2) (hc2 : l2.length ≤ c2) (hr3 : Kd.C (Kd.int .i16) w A3 l3.length l3) (hc3 : l3.length ≤ c3) (h : spec_SomeStore.f k l0 l1 l2 l3 = some (r1, r2, r3)) :
  Calls Try.prog 11 #[.slice A0 l0.length c0, .slice A1 l1.length c1, .slice A2 l2.length c2, .slice A3 l3.length c3] w fun e w' => ∃ v0_ v1_ v2_ : Value, e = .returned (.tuple #[v0_, v1_, v2_]) ∧ Kd.S (Kd.slice 36 k36) 38 w' w.heap.size (fun _ => True) v0_ r1 ∧ Kd.R k41 41 w' w.heap.size (fun k_ => some k_ ≠ (v2_ : Value).ownBlock) v1_ r2 ∧ Kd.R (Kd.int .i64) 3 w' w.heap.size (fun _ => True) v2_ r3 ∧ Below w.heap.size w w' := by
 have hu41 := Try.underlying41
 have HR0 := Aside0.mk hr0
 have HC0 := Aside0.mk hc0
 clear hr0 hc0
 have HR1 := Aside0.mk hr1
 have HC1 := Aside0.mk hc1
 clear hr1 hc1
 have HR2 := Aside0.mk hr2
 have HC2 := Aside0.mk hc2
 clear hr2 hc2
 have HR3 := Aside0.mk hr3
 have HC3 := Aside0.mk hc3
 clear hr3 hc3
 have HB := Aside0.mk (Below.refl w.heap.size w)
 have H : (if (l0.length : Int) = 0 then (spec_SomeStore.j0 k l0 l1 l2 l3 ([] : List (List (S36))) ([] : List (S41)) ([] : List Int) (mn (l3.length : Int) 3) true) else (if (mn (l3.length : Int) 3) = 0 then (spec_SomeStore.j0 k l0 l1 l2 l3 ([] : List (List (S36))) ([] : List (S41)) ([] : List Int) (mn (l3.length : Int) 3) true) else (if (l1.length : Int) = 0 then (spec_SomeStore.j0 k l0 l1 l2 l3 ([] : List (List (S36))) ([] : List (S41)) ([] : List Int) (mn (l3.length : Int) 3) true) else (spec_SomeStore.j0 k l0 l1 l2 l3 ([] : List (List (S36))) ([] : List (S41)) ([] : List Int) (mn (l3.length : Int) 3) ((l2.length : Int) == 0))))) = some (r1, r2, r3) := h
 clear h
 obtain ⟨ji5, hji5⟩ : ∃ j_ : Int, (mn (l3.length : Int) 3) = j_ := ⟨_, rfl⟩
 replace H : (if (l0.length : Int) = 0 then (spec_SomeStore.j0 k l0 l1 l2 l3 ([] : List (List (S36))) ([] : List (S41)) ([] : List Int) ji5 true) else (if (ji5) = 0 then (spec_SomeStore.j0 k l0 l1 l2 l3 ([] : List (List (S36))) ([] : List (S41)) ([] : List Int) ji5 true) else (if (l1.length : Int) = 0 then (spec_SomeStore.j0 k l0 l1 l2 l3 ([] : List (List (S36))) ([] : List (S41)) ([] : List Int) ji5 true) else (spec_SomeStore.j0 k l0 l1 l2 l3 ([] : List (List (S36))) ([] : List (S41)) ([] : List Int) ji5 ((l2.length : Int) == 0))))) = some (r1, r2, r3) := by first | (rw [hji5] at H; exact H) | (simp only [hji5] at H ⊢; exact H)
 (try (have hji5h : ji5 ≤ 3 := by (rw [← hji5]; unfold mn; (repeat' split) <;> omega)))
 (try (have hji5g : ji5 ≤ 64 := by omega))
 (try (have hji5l : 0 ≤ ji5 := by (rw [← hji5]; unfold mn; (repeat' split) <;> omega)))
 (try (have hji5m : 0 ≤ ji5 := by omega))
 have hji5_ : (if 3 < (l3.length : Int) then 3 else (l3.length : Int)) = ji5 := hji5
 have HC6 := Aside0.mk H
 clear H
 go_enter Try.func11, Try.ntmps11
 go_upto_region 2 with (fail)
 go_cut [42] (fun v42 wc => ∃ (kq : Nat) (x42_5 : Bool), v42 = .bool x42_5 ∧ Aside0 (spec_SomeStore.j0 kq l0 l1 l2 l3 ([] : List (List (S36))) ([] : List (S41)) ([] : List Int) ji5 x42_5 = some (r1, r2, r3)) ∧ Aside0 (kq ≤ k) ∧ Aside0 (Kd.S (Kd.slice 36 k36) 38 wc w.heap.size (fun _ => True) (.slice none 0 0) ([] : List (List (S36)))) ∧ Aside0 (Kd.R k41 41 wc w.heap.size (fun k_ => some k_ ≠ ((.slice none 0 0) : Value).ownBlock) (.slice none 0 0) ([] : List (S41))) ∧ Aside0 (Kd.R (Kd.int .i64) 3 wc w.heap.size (fun _ => True) (.slice none 0 0) ([] : List Int)) ∧ Aside0 (Below w.heap.size w wc))
 case first =>
  have H := HC6.out
  clear HC6
  by_cases c7 : (l0.length : Int) = 0
  ·rw [if_pos c7] at H
   have c7b0 : ((l0.length : Int) == 0) = true := beq_iff_eq.mpr c7
   have c7b1 : ((l0.length : Int) != 0) = false := bne_eq_false_iff_eq.mpr c7
   clear c7
   (first | rw [c7b0] | (simp only [i64_w, i32_w]; rw [c7b0]) | skip)
   have H' := Aside0.mk H
   clear H
   go_wp2
   go_meet
   case rel => exact ⟨_, (true), (by first | rfl | (simp; done) | (simp [*]; done)), H', ⟨by first | omega | exact Nat.le_refl _⟩, ⟨by first | exact Kd.S_nil _ _ _ _ _ | exact Kd.N_nil _ _ _ _ _ | exact Kd.V_nil _ _ _ _ _ | exact Kd.Q_nil _ _ _ _ _ | exact Kd.R_nil _ _ _ _ _⟩, ⟨by first | exact Kd.R_nil _ _ _ _ _ | exact Kd.N_nil _ _ _ _ _ | exact Kd.V_nil _ _ _ _ _ | exact Kd.Q_nil _ _ _ _ _ | exact Kd.S_nil _ _ _ _ _⟩, ⟨by first | exact Kd.R_nil _ _ _ _ _ | exact Kd.N_nil _ _ _ _ _ | exact Kd.V_nil _ _ _ _ _ | exact Kd.Q_nil _ _ _ _ _ | exact Kd.S_nil _ _ _ _ _⟩, ⟨by repeat (first | (with_reducible first | exact HB.out | apply below_alloc | apply pw_below_drewN | apply below_drew1) | exact HB.out)⟩⟩
  ·rw [if_neg c7] at H
   have c7b0 : ((l0.length : Int) == 0) = false := beq_eq_false_iff_ne.mpr c7
   have c7b1 : ((l0.length : Int) != 0) = true := bne_iff_ne.mpr c7
   have c7b2 : ¬ (l0 = []) := fun h_ => c7 (by rw [h_]; rfl)
   (first | rw [c7b0] | (simp only [i64_w, i32_w]; rw [c7b0]) | skip)
   by_cases c8 : (ji5) = 0
   ·rw [if_pos c8] at H
    have c8b0 : ((ji5) == 0) = true := beq_iff_eq.mpr c8
    have c8b1 : ((ji5) != 0) = false := bne_eq_false_iff_eq.mpr c8
    clear c8
    have H' := Aside0.mk H
    clear H
    go_wp2
    go_meet
    case rel => exact ⟨_, (true), (by first | rfl | (simp; done) | (simp [*]; done)), H', ⟨by first | omega | exact Nat.le_refl _⟩, ⟨by first | exact Kd.S_nil _ _ _ _ _ | exact Kd.N_nil _ _ _ _ _ | exact Kd.V_nil _ _ _ _ _ | exact Kd.Q_nil _ _ _ _ _ | exact Kd.R_nil _ _ _ _ _⟩, ⟨by first | exact Kd.R_nil _ _ _ _ _ | exact Kd.N_nil _ _ _ _ _ | exact Kd.V_nil _ _ _ _ _ | exact Kd.Q_nil _ _ _ _ _ | exact Kd.S_nil _ _ _ _ _⟩, ⟨by first | exact Kd.R_nil _ _ _ _ _ | exact Kd.N_nil _ _ _ _ _ | exact Kd.V_nil _ _ _ _ _ | exact Kd.Q_nil _ _ _ _ _ | exact Kd.S_nil _ _ _ _ _⟩, ⟨by repeat (first | (with_reducible first | exact HB.out | apply below_alloc | apply pw_below_drewN | apply below_drew1) | exact HB.out)⟩⟩
   ·rw [if_neg c8] at H
    have c8b0 : ((ji5) == 0) = false := beq_eq_false_iff_ne.mpr c8
    have c8b1 : ((ji5) != 0) = true := bne_iff_ne.mpr c8
    by_cases c9 : (l1.length : Int) = 0
    ·rw [if_pos c9] at H
     have c9b0 : ((l1.length : Int) == 0) = true := beq_iff_eq.mpr c9
     have c9b1 : ((l1.length : Int) != 0) = false := bne_eq_false_iff_eq.mpr c9
     clear c9
     have H' := Aside0.mk H
     clear H
     go_wp2
     go_meet
     case rel => exact ⟨_, (true), (by first | rfl | (simp; done) | (simp [*]; done)), H', ⟨by first | omega | exact Nat.le_refl _⟩, ⟨by first | exact Kd.S_nil _ _ _ _ _ | exact Kd.N_nil _ _ _ _ _ | exact Kd.V_nil _ _ _ _ _ | exact Kd.Q_nil _ _ _ _ _ | exact Kd.R_nil _ _ _ _ _⟩, ⟨by first | exact Kd.R_nil _ _ _ _ _ | exact Kd.N_nil _ _ _ _ _ | exact Kd.V_nil _ _ _ _ _ | exact Kd.Q_nil _ _ _ _ _ | exact Kd.S_nil _ _ _ _ _⟩, ⟨by first | exact Kd.R_nil _ _ _ _ _ | exact Kd.N_nil _ _ _ _ _ | exact Kd.V_nil _ _ _ _ _ | exact Kd.Q_nil _ _ _ _ _ | exact Kd.S_nil _ _ _ _ _⟩, ⟨by repeat (first | (with_reducible first | exact HB.out | apply below_alloc | apply pw_below_drewN | apply below_drew1) | exact HB.out)⟩⟩
    ·rw [if_neg c9] at H
     have c9b0 : ((l1.length : Int) == 0) = false := beq_eq_false_iff_ne.mpr c9
     have c9b1 : ((l1.length : Int) != 0) = true := bne_iff_ne.mpr c9
     have c9b2 : ¬ (l1 = []) := fun h_ => c9 (by rw [h_]; rfl)
     have H' := Aside0.mk H
     clear H
     go_wp2
     go_meet
     case rel => exact ⟨_, (((l2.length : Int) == 0)), (by first | rfl | (simp; done) | (simp [*]; done)), H', ⟨by first | omega | exact Nat.le_refl _⟩, ⟨by first | exact Kd.S_nil _ _ _ _ _ | exact Kd.N_nil _ _ _ _ _ | exact Kd.V_nil _ _ _ _ _ | exact Kd.Q_nil _ _ _ _ _ | exact Kd.R_nil _ _ _ _ _⟩, ⟨by first | exact Kd.R_nil _ _ _ _ _ | exact Kd.N_nil _ _ _ _ _ | exact Kd.V_nil _ _ _ _ _ | exact Kd.Q_nil _ _ _ _ _ | exact Kd.S_nil _ _ _ _ _⟩, ⟨by first | exact Kd.R_nil _ _ _ _ _ | exact Kd.N_nil _ _ _ _ _ | exact Kd.V_nil _ _ _ _ _ | exact Kd.Q_nil _ _ _ _ _ | exact Kd.S_nil _ _ _ _ _⟩, ⟨by repeat (first | (with_reducible first | exact HB.out | apply below_alloc | apply pw_below_drewN | apply below_drew1) | exact HB.out)⟩⟩
 case rest =>
  clear HC6
  try clear c1
  try clear c2
  try clear p2
  try clear c3
  try clear c7
  try clear c7b0
  try clear c7b1
  try clear c7b2
  try clear c8
  try clear c8b0
  try clear c8b1
  try clear c9
  try clear c9b0
  try clear c9b1
  try clear c9b2
  obtain ⟨kq, x42_5, rfl, HA, HJ5, HO_8, HO_9, HO_10, HB⟩ := hcut
  cases kq with
  | zero => exact absurd HA.out (by simp [spec_SomeStore.j0])
  | succ kj5 =>
   have H := HA.out
   clear HA
   simp only [spec_SomeStore.j0] at H
   by_cases c10 : x42_5 = true
   ·subst c10
    have H1 : (some (([] : List (List (S36))), ([] : List (S41)), ([] : List Int))) = some (r1, r2, r3) := by rw [if_pos rfl] at H; exact H
    clear H
    have H := H1
    clear H1
    simp only [Option.some.injEq, Prod.mk.injEq] at H
    obtain ⟨rfl, rfl, rfl⟩ := H
    go_wp2
    go_ret3
    exact ⟨_, _, _, by first | rfl | (simp [errW_none, errW_some] <;> rfl) | (simp only [← hji5]; first | rfl | (simp [errW_none, errW_some] <;> rfl)) | (simp [*, errW_none, errW_some] <;> rfl), by first | exact Kd.S_nil _ _ _ _ _ | exact Kd.N_nil _ _ _ _ _ | exact Kd.V_nil _ _ _ _ _ | exact Kd.Q_nil _ _ _ _ _ | exact Kd.R_nil _ _ _ _ _, by first | exact Kd.R_nil _ _ _ _ _ | exact Kd.N_nil _ _ _ _ _ | exact Kd.V_nil _ _ _ _ _ | exact Kd.Q_nil _ _ _ _ _ | exact Kd.S_nil _ _ _ _ _, by first | exact Kd.R_nil _ _ _ _ _ | exact Kd.N_nil _ _ _ _ _ | exact Kd.V_nil _ _ _ _ _ | exact Kd.Q_nil _ _ _ _ _ | exact Kd.S_nil _ _ _ _ _, by repeat (first | (with_reducible first | exact HB.out | apply below_alloc | apply pw_below_drewN | apply below_drew1) | exact HB.out)⟩
   ·replace c10 := Bool.eq_false_iff.mpr c10
    subst c10
    have H1 : (spec_SomeStore.l0 kj5 l0 l1 l2 l3 ([] : List (List (S36))) ([] : List (S41)) ([] : List Int) ji5 0) = some (r1, r2, r3) := by rw [if_neg (show ¬ (false = true) by decide)] at H; exact H
    clear H
    have H := H1
    clear H1
    have H' := Aside0.mk H
    clear H
    go_wp2
    go_loopg [8, 12] kj5 (fun kq v8 v12 w' => ∃ (x8_2 : List (List (S36))) (x12_2 : Int), v12 = .int .i64 x12_2 ∧ Aside0 (spec_SomeStore.l0 kq l0 l1 l2 l3 x8_2 ([] : List (S41)) ([] : List Int) ji5 x12_2 = some (r1, r2, r3)) ∧ Aside0 (kq ≤ kj5) ∧ Aside0 (Kd.S (Kd.slice 36 k36) 38 w' w.heap.size (fun _ => True) v8 x8_2) ∧ Aside0 (Kd.R k41 41 w' w.heap.size (fun k_ => some k_ ≠ ((.slice none 0 0) : Value).ownBlock) (.slice none 0 0) ([] : List (S41))) ∧ Aside0 (Kd.R (Kd.int .i64) 3 w' w.heap.size (fun _ => True) (.slice none 0 0) ([] : List Int)) ∧ Aside0 (Below w.heap.size w w'))
    case atStart => exact ⟨(([] : List (List (S36)))), (0), (by first | rfl | (simp; done) | (simp [*]; done)), H', ⟨Nat.le_refl _⟩, ⟨by (with_reducible repeat (first | apply Kd.S_alloc | apply Kd.S_drewN | apply Kd.S_drew)); exact HO_8.out⟩, ⟨by (with_reducible repeat (first | apply Kd.R_alloc | apply Kd.R_drewN | apply Kd.R_drew)); exact HO_9.out⟩, ⟨by (with_reducible repeat (first | apply Kd.R_alloc | apply Kd.R_drewN | apply Kd.R_drew)); exact HO_10.out⟩, ⟨by repeat (first | (with_reducible first | exact HB.out | apply below_alloc | apply pw_below_drewN | apply below_drew1) | exact HB.out)⟩⟩
    case round =>
     clear H'
     try clear c1
     try clear c2
     try clear p2
     try clear c3
     try clear c7
     try clear c7b0
     try clear c7b1
     try clear c7b2
     try clear c8
     try clear c8b0
     try clear c8b1
     try clear c9
     try clear c9b0
     try clear c9b1
     try clear c9b2
     try clear c10
     try clear p2
     obtain ⟨x8_2, x12_2, rfl, HA, HK2, HO_8, HO_9, HO_10, HB⟩ := hrel
     cases gk with
     | zero => exact absurd HA.out (by simp [spec_SomeStore.l0])
     | succ k2 =>
      have H := HA.out
      clear HA
      simp only [spec_SomeStore.l0] at H
      have HC11 := Aside0.mk H
      clear H
      go_upto_region 5 with (fail)
      go_cut [50] (fun v50 wc => ∃ (kq : Nat) (x50_10 : Bool), v50 = .bool x50_10 ∧ Aside0 (spec_SomeStore.j2 kq l0 l1 l2 l3 x8_2 ([] : List (S41)) ([] : List Int) ji5 x12_2 x50_10 = some (r1, r2, r3)) ∧ Aside0 (kq ≤ k2) ∧ Aside0 (Kd.S (Kd.slice 36 k36) 38 wc w.heap.size (fun _ => True) u8 x8_2) ∧ Aside0 (Kd.R k41 41 wc w.heap.size (fun k_ => some k_ ≠ ((.slice none 0 0) : Value).ownBlock) (.slice none 0 0) ([] : List (S41))) ∧ Aside0 (Kd.R (Kd.int .i64) 3 wc w.heap.size (fun _ => True) (.slice none 0 0) ([] : List Int)) ∧ Aside0 (Below w.heap.size w wc))
      case first =>
       have H := HC11.out
       clear HC11
       by_cases c12 : x12_2 < (l0.length : Int)
       ·rw [if_pos c12] at H
        have c12b0 : decide (x12_2 < (l0.length : Int)) = true := decide_eq_true c12
        clear c12
        (first | rw [c12b0] | (simp only [i64_w, i32_w]; rw [c12b0]) | skip)
        have H' := Aside0.mk H
        clear H
        go_wp2
        go_meet
        case rel => exact ⟨_, (decide (x12_2 < 6)), (by first | rfl | (simp; done) | (simp [*]; done)), H', ⟨by have := HJ5.out; have := HK2.out; first | omega | exact Nat.le_refl _⟩, ⟨by (with_reducible repeat (first | apply Kd.S_alloc | apply Kd.S_drewN | apply Kd.S_drew)); exact HO_8.out⟩, ⟨by (with_reducible repeat (first | apply Kd.R_alloc | apply Kd.R_drewN | apply Kd.R_drew)); exact HO_9.out⟩, ⟨by (with_reducible repeat (first | apply Kd.R_alloc | apply Kd.R_drewN | apply Kd.R_drew)); exact HO_10.out⟩, ⟨by repeat (first | (with_reducible first | exact HB.out | apply below_alloc | apply pw_below_drewN | apply below_drew1) | exact HB.out)⟩⟩
       ·rw [if_neg c12] at H
        have c12b0 : decide (x12_2 < (l0.length : Int)) = false := decide_eq_false c12
        clear c12
        (first | rw [c12b0] | (simp only [i64_w, i32_w]; rw [c12b0]) | skip)
        have H' := Aside0.mk H
        clear H
        go_wp2
        go_meet
        case rel => exact ⟨_, (false), (by first | rfl | (simp; done) | (simp [*]; done)), H', ⟨by have := HJ5.out; have := HK2.out; first | omega | exact Nat.le_refl _⟩, ⟨by (with_reducible repeat (first | apply Kd.S_alloc | apply Kd.S_drewN | apply Kd.S_drew)); exact HO_8.out⟩, ⟨by (with_reducible repeat (first | apply Kd.R_alloc | apply Kd.R_drewN | apply Kd.R_drew)); exact HO_9.out⟩, ⟨by (with_reducible repeat (first | apply Kd.R_alloc | apply Kd.R_drewN | apply Kd.R_drew)); exact HO_10.out⟩, ⟨by repeat (first | (with_reducible first | exact HB.out | apply below_alloc | apply pw_below_drewN | apply below_drew1) | exact HB.out)⟩⟩
      case rest =>
       clear HC11
       try clear c1
       try clear c2
       try clear p2
       try clear c3
       try clear c7
       try clear c7b0
       try clear c7b1
       try clear c7b2
       try clear c8
       try clear c8b0
       try clear c8b1
       try clear c9
       try clear c9b0
       try clear c9b1
       try clear c9b2
       try clear c10
       try clear c11
       try clear c12
       try clear c12b0
       try clear p2
       obtain ⟨kq, x50_10, rfl, HA, HJ10, HO_8, HO_9, HO_10, HB⟩ := hcut
       cases kq with
       | zero => exact absurd HA.out (by simp [spec_SomeStore.j2])
       | succ kj10 =>
        have H := HA.out
        clear HA
        simp only [spec_SomeStore.j2] at H
        by_cases c13 : x50_10 = true
        ·subst c13
         have H1 : (spec_SomeStore.l1 kj10 l0 l1 l2 l3 x8_2 ([] : List (S41)) ([] : List Int) ji5 x12_2 ([] : List (S36)) ji5 0) = some (r1, r2, r3) := by rw [if_pos rfl] at H; exact H
         clear H
         have H := H1
         clear H1
         have H' := Aside0.mk H
         clear H
         go_wp2
         go_loopg [13, 54] kj10 (fun kq v13 v54 w' => ∃ (x13_4 : List (S36)) (x54_4 : Int), v54 = .int .i64 x54_4 ∧ Aside0 (spec_SomeStore.l1 kq l0 l1 l2 l3 x8_2 ([] : List (S41)) ([] : List Int) ji5 x12_2 x13_4 ji5 x54_4 = some (r1, r2, r3)) ∧ Aside0 (kq ≤ kj10) ∧ Aside0 (Kd.S (Kd.slice 36 k36) 38 w' w.heap.size (fun k_ => some k_ ≠ (v13 : Value).ownBlock) u8 x8_2) ∧ Aside0 (Kd.R k41 41 w' w.heap.size (fun k_ => some k_ ≠ ((.slice none 0 0) : Value).ownBlock) (.slice none 0 0) ([] : List (S41))) ∧ Aside0 (Kd.R (Kd.int .i64) 3 w' w.heap.size (fun _ => True) (.slice none 0 0) ([] : List Int)) ∧ Aside0 (Kd.R k36 36 w' w.heap.size (fun _ => True) v13 x13_4) ∧ Aside0 (Below w.heap.size w w'))
         case atStart => exact ⟨(([] : List (S36))), (0), (by first | rfl | (simp; done) | (simp [*]; done)), H', ⟨Nat.le_refl _⟩, ⟨by (with_reducible repeat (first | apply Kd.S_alloc | apply Kd.S_drewN | apply Kd.S_drew)); exact Kd.S_mono HO_8.out (fun _ hk => (by simp [Value.ownBlock]))⟩, ⟨by (with_reducible repeat (first | apply Kd.R_alloc | apply Kd.R_drewN | apply Kd.R_drew)); exact HO_9.out⟩, ⟨by (with_reducible repeat (first | apply Kd.R_alloc | apply Kd.R_drewN | apply Kd.R_drew)); exact HO_10.out⟩, ⟨by first | exact Kd.R_nil _ _ _ _ _ | exact Kd.N_nil _ _ _ _ _ | exact Kd.V_nil _ _ _ _ _ | exact Kd.Q_nil _ _ _ _ _ | exact Kd.S_nil _ _ _ _ _⟩, ⟨by repeat (first | (with_reducible first | exact HB.out | apply below_alloc | apply pw_below_drewN | apply below_drew1) | exact HB.out)⟩⟩
         case round =>
          clear H'
          try clear c1
          try clear c2
          try clear p2
          try clear c3
          try clear c7
          try clear c7b0
          try clear c7b1
          try clear c7b2
          try clear c8
          try clear c8b0
          try clear c8b1
          try clear c9
          try clear c9b0
          try clear c9b1
          try clear c9b2
          try clear c10
          try clear c11
          try clear c12
          try clear c12b0
          try clear c13
          try clear p2
          obtain ⟨x13_4, x54_4, rfl, HA, HK4, HO_8, HO_9, HO_10, HO_13, HB⟩ := hrel
          cases gk with
          | zero => exact absurd HA.out (by simp [spec_SomeStore.l1])
          | succ k4 =>
           have H := HA.out
           clear HA
           simp only [spec_SomeStore.l1] at H
           by_cases c14 : x54_4 < ji5
           ·rw [if_pos c14] at H
            have c14b0 : decide (x54_4 < ji5) = true := decide_eq_true c14
            clear c14
            by_cases c15 : 0 ≤ x12_2
            ·rw [if_pos c15] at H
             have c15b0 : decide (0 ≤ x12_2) = true := decide_eq_true c15
             clear c15
             by_cases c16 : x12_2 < (l0.length : Int)
             ·rw [if_pos c16] at H
              have c16b0 : decide (x12_2 < (l0.length : Int)) = true := decide_eq_true c16
              clear c16
              replace H := Option.bind_eq_some_iff.mp H
              obtain ⟨⟨t113, t114, t115⟩, A170, H⟩ := H
              replace H : (if x13_4.length < 5864062014805 then (spec_SomeStore.l1 k4 l0 l1 l2 l3 x8_2 ([] : List (S41)) ([] : List Int) ji5 x12_2 (x13_4 ++ [(⟨t113, t114, t115⟩ : S36)]) ji5 (wrap64 (x54_4 + 1))) else (none)) = some (r1, r2, r3) := H
              have A17 := Aside0.mk A170
              clear A170
              by_cases c18 : x13_4.length < 5864062014805
              ·rw [if_pos c18] at H
               have LMc18 := Aside0.mk c18
               clear c18
               obtain ⟨y116, hy116⟩ : ∃ y_ : List (S36), y_ = (x13_4 ++ [(⟨t113, t114, t115⟩ : S36)]) := ⟨_, rfl⟩
               replace H : (spec_SomeStore.l1 k4 l0 l1 l2 l3 x8_2 ([] : List (S41)) ([] : List Int) ji5 x12_2 y116 ji5 (wrap64 (x54_4 + 1))) = some (r1, r2, r3) := by first | (rw [hy116]; with_reducible exact H) | (have H2_ := (Option.bind_some _ _).symm.trans H; rw [hy116]; with_reducible exact H2_) | (have H2_ := (Option.bind_some _ _).symm.trans H; with_reducible exact H2_) | with_reducible exact H | (rw [hy116]; exact H) | exact H
               have Ny116 := Aside0.mk hy116
               clear hy116
               have H' := Aside0.mk H
               clear H
               have p112 : 0 ≤ (x12_2 : Int) := of_decide_eq_true (by first | (with_reducible assumption) | assumption)
               have q112 : x12_2 < (l0.length : Int) := of_decide_eq_true (by first | (with_reducible assumption) | assumption)
               obtain ⟨ad112, A112_0, c112_0, e112, hx112_0, hl112_0, hi112_0⟩ := at_L2 HR0.out x12_2 p112 q112
               cases e112
               replace hx112_0 := (HB.out.cell (World.block_lt_of_cell? w _ hx112_0)).trans hx112_0
               have HR112_0 := Aside0.mk hi112_0
               have HC112_0 := Aside0.mk hl112_0
               clear hi112_0 hl112_0
               replace p112 := eq_true p112
               replace q112 := eq_true q112
               go_wp2_with (first | ((with_reducible refine gate_callee (f := 30) rfl ?_); refine goesL_ (some 63) rfl rfl Try.func30 (by kernel_rfl) rfl #[.slice A112_0 (rd_L2 l0 x12_2).length c112_0, .int .i64 x54_4] rfl (by (try simp only [List.map_toArray, List.map_cons, List.map_nil]); first | done | rfl | (simp only [List.length_drop, List.length_take]; rfl)) ?_; (with_reducible refine (spec_RegionAxis.calls _ _ (rd_L2 l0 x12_2) x54_4 t113 t114 t115 _ ?side1 ?side2 A17.out).mono ?_); (case side1 => repeat (first | exact (Kd.C_below HR112_0.out HB.out) | (with_reducible refine Kd.C_alloc ?_ _) | (with_reducible refine Kd.C_drewN ?_ _) | (with_reducible refine Kd.C_drew ?_))); (case side2 => exact HC112_0.out); rintro e w19 ⟨rfl, hb⟩; refine ⟨_, rfl, ?_⟩; have n0_ := Aside0.mk (Kd.S_below (by (with_reducible repeat (first | apply Kd.S_alloc | apply Kd.S_drewN | apply Kd.S_drew)); exact HO_8.out) hb); have n1_ := Aside0.mk (Kd.R_below (by (with_reducible repeat (first | apply Kd.R_alloc | apply Kd.R_drewN | apply Kd.R_drew)); exact HO_9.out) hb); have n2_ := Aside0.mk (Kd.R_below (by (with_reducible repeat (first | apply Kd.R_alloc | apply Kd.R_drewN | apply Kd.R_drew)); exact HO_10.out) hb); have n3_ := Aside0.mk (Kd.R_below (by (with_reducible repeat (first | apply Kd.R_alloc | apply Kd.R_drewN | apply Kd.R_drew)); exact HO_13.out) hb); have n4_ := Aside0.mk (below_step (by repeat (first | (with_reducible first | exact HB.out | apply below_alloc | apply pw_below_drewN | apply below_drew1) | exact HB.out)) hb); clear HO_8; clear HO_9; clear HO_10; clear HO_13; clear HB; have HO_8 := n0_; have HO_9 := n1_; have HO_10 := n2_; have HO_13 := n3_; have HB := n4_; clear n0_ n1_ n2_ n3_ n4_; (try clear hb); (try clear hb2); (try clear hk); (try clear hi)) | ((with_reducible refine gate_builtin (b := .append) (xs := #[.tmp 57, .tmp 64]) rfl ?_); (try (refine gate_guard (by rfl) ?_; dsimp only)); at_builtin; refine Kd.R_append k36 (w0 := w) w.heap.size rfl (.tmp 57) (.tmp 64) 38 36 (.agg #[(.int .i64 0), (.int .i64 0), (.int .i64 0)]) 24 rfl Try.underlying38 info36 rfl (by decide) (by omega) u13 x13_4 (⟨t113, t114, t115⟩ : S36) [.int .i64 t113, .int .i64 t114, .int .i64 t115] (fun _ => True) (fun _ => False) rfl rfl ?aP (fun _ hk => hk.elim) ?aF ?aO ?aB ?aS ?aL ?_; (case aP => exact k36_mkM _ _ _ (⟨t113, t114, t115⟩ : S36)); (case aB => exact (by repeat (first | (with_reducible first | exact HB.out | apply below_alloc | apply pw_below_drewN | apply below_drew1) | exact HB.out))); (case aF => exact (fun _ _ => trivial)); (case aO => exact (by (with_reducible repeat (first | apply Kd.R_alloc | apply Kd.R_drewN | apply Kd.R_drew)); exact HO_13.out)); (case aS => exact (below_size (by repeat (first | (with_reducible first | exact HB.out | apply below_alloc | apply pw_below_drewN | apply below_drew1) | exact HB.out)))); (case aL => have := LMc18.out; omega); intro v117 w20 ho hb hg hat; rw [← Ny116.out] at ho; have n0_ := Aside0.mk (Kd.S_after (ok := (fun _ => True)) (by (with_reducible repeat (first | apply Kd.S_alloc | apply Kd.S_drewN | apply Kd.S_drew)); exact Kd.S_mono HO_8.out (fun _ hk => ⟨trivial, hk⟩)) hg hat); have n1_ := Aside0.mk (Kd.R_over' (by (with_reducible repeat (first | apply Kd.R_alloc | apply Kd.R_drewN | apply Kd.R_drew)); exact HO_9.out) (Kd.R_typed (by (with_reducible repeat (first | apply Kd.R_alloc | apply Kd.R_drewN | apply Kd.R_drew)); exact HO_13.out)) (by decide) hg); have n2_ := Aside0.mk (Kd.R_over' (by (with_reducible repeat (first | apply Kd.R_alloc | apply Kd.R_drewN | apply Kd.R_drew)); exact HO_10.out) (Kd.R_typed (by (with_reducible repeat (first | apply Kd.R_alloc | apply Kd.R_drewN | apply Kd.R_drew)); exact HO_13.out)) (by decide) hg); have n3_ := Aside0.mk (hb); have n4_ := Aside0.mk (ho); clear HO_8; clear HO_9; clear HO_10; clear HB; clear HO_13; have HO_8 := n0_; have HO_9 := n1_; have HO_10 := n2_; have HB := n3_; have HO118 := n4_; clear n0_ n1_ n2_ n3_ n4_; clear ho hb hg hat))
               go_roundg k4
               case measure => have := HJ5.out; have := HK2.out; have := HJ10.out; have := HK4.out; omega
               case rel => exact ⟨(y116), (wrap64 (x54_4 + 1)), (by first | rfl | (simp; done) | (simp [*]; done)), H', ⟨by have := HJ5.out; have := HK2.out; have := HJ10.out; have := HK4.out; omega⟩, ⟨by (with_reducible repeat (first | apply Kd.S_alloc | apply Kd.S_drewN | apply Kd.S_drew)); exact Kd.S_mono HO_8.out (fun _ hk => hk.2)⟩, ⟨by (with_reducible repeat (first | apply Kd.R_alloc | apply Kd.R_drewN | apply Kd.R_drew)); exact HO_9.out⟩, ⟨by (with_reducible repeat (first | apply Kd.R_alloc | apply Kd.R_drewN | apply Kd.R_drew)); exact HO_10.out⟩, ⟨by (with_reducible repeat (first | apply Kd.R_alloc | apply Kd.R_drewN | apply Kd.R_drew)); exact HO118.out⟩, ⟨by repeat (first | (with_reducible first | exact HB.out | apply below_alloc | apply pw_below_drewN | apply below_drew1) | exact HB.out)⟩⟩
              ·rw [if_neg c18] at H
               exact absurd H (by simp)
             ·rw [if_neg c16] at H
              exact absurd H (by simp)
            ·rw [if_neg c15] at H
             exact absurd H (by simp)
           ·rw [if_neg c14] at H
            have c14b0 : decide (x54_4 < ji5) = false := decide_eq_false c14
            clear c14
            by_cases c21 : x8_2.length < 5864062014805
            ·rw [if_pos c21] at H
             have LMc21 := Aside0.mk c21
             clear c21
             obtain ⟨y119, hy119⟩ : ∃ y_ : List (List (S36)), y_ = (x8_2 ++ [x13_4]) := ⟨_, rfl⟩
             replace H : (spec_SomeStore.l0 k4 l0 l1 l2 l3 y119 ([] : List (S41)) ([] : List Int) ji5 (wrap64 (x12_2 + 1))) = some (r1, r2, r3) := by first | (rw [hy119]; with_reducible exact H) | (have H2_ := (Option.bind_some _ _).symm.trans H; rw [hy119]; with_reducible exact H2_) | (have H2_ := (Option.bind_some _ _).symm.trans H; with_reducible exact H2_) | with_reducible exact H | (rw [hy119]; exact H) | exact H
             have Ny119 := Aside0.mk hy119
             clear hy119
             have H' := Aside0.mk H
             clear H
             obtain ⟨Ao23, co23, eo23⟩ := Kd.R_slice HO_13.out
             subst eo23
             go_wp2_with (first | ((with_reducible refine gate_builtin (b := .append) (xs := #[.tmp 67, .tmp 69]) rfl ?_); (try (refine gate_guard (by rfl) ?_; dsimp only)); at_builtin; refine Kd.S_append (Kd.slice 36 k36) (w0 := w) w.heap.size rfl (.tmp 67) (.tmp 69) 29 38 (.slice none 0 0) 24 rfl Try.underlying29 info38 rfl (by decide) (by omega) u8 x8_2 x13_4 [.slice Ao23 x13_4.length co23] (fun _ => True) (fun k_ => some k_ = (.slice Ao23 x13_4.length co23 : Value).ownBlock) rfl rfl ?aP (fun k_ hk_ => ((Kd.R_mono (ok' := fun k_ => ((fun _ => True)) k_ ∧ some k_ ≠ (u8 : Value).ownBlock) (Kd.R_apart' (HO_13.out) (Kd.S_typed HO_8.out) (by decide)) (fun k_ hk => ⟨trivial, hk.2⟩))).1 k_ hk_.symm) ?aF ?aO ?aB ?aS ?aL ?_; (case aP => exact Kd.M_row (Kd.R_mono (Kd.R_tight rfl (Kd.R_mono (ok' := fun k_ => ((fun _ => True)) k_ ∧ some k_ ≠ (u8 : Value).ownBlock) (Kd.R_apart' (HO_13.out) (Kd.S_typed HO_8.out) (by decide)) (fun k_ hk => ⟨trivial, hk.2⟩))) (fun _ h_ => h_))); (case aB => exact (by repeat (first | (with_reducible first | exact HB.out | apply below_alloc | apply pw_below_drewN | apply below_drew1) | exact HB.out))); (case aF => exact (fun _ _ => trivial)); (case aO => exact (by (with_reducible repeat (first | apply Kd.S_alloc | apply Kd.S_drewN | apply Kd.S_drew)); exact Kd.S_mono HO_8.out (fun k_ hk => ⟨trivial, fun e_ => hk e_⟩))); (case aS => exact (below_size (by repeat (first | (with_reducible first | exact HB.out | apply below_alloc | apply pw_below_drewN | apply below_drew1) | exact HB.out)))); (case aL => have := LMc21.out; omega); intro v120 w22 ho hb hg hat; rw [← Ny119.out] at ho; have n0_ := Aside0.mk (Kd.R_over' (by (with_reducible repeat (first | apply Kd.R_alloc | apply Kd.R_drewN | apply Kd.R_drew)); exact HO_9.out) (Kd.S_typed (by (with_reducible repeat (first | apply Kd.S_alloc | apply Kd.S_drewN | apply Kd.S_drew)); exact HO_8.out)) (by decide) hg); have n1_ := Aside0.mk (Kd.R_over' (by (with_reducible repeat (first | apply Kd.R_alloc | apply Kd.R_drewN | apply Kd.R_drew)); exact HO_10.out) (Kd.S_typed (by (with_reducible repeat (first | apply Kd.S_alloc | apply Kd.S_drewN | apply Kd.S_drew)); exact HO_8.out)) (by decide) hg); have n2_ := Aside0.mk (hb); have n3_ := Aside0.mk (ho); clear HO_9; clear HO_10; clear HB; clear HO_8; clear HO_13; have HO_9 := n0_; have HO_10 := n1_; have HB := n2_; have HO121 := n3_; clear n0_ n1_ n2_ n3_; clear ho hb hg hat))
             go_roundg k4
             case measure => have := HJ5.out; have := HK2.out; have := HJ10.out; have := HK4.out; omega
             case rel => exact ⟨(y119), (wrap64 (x12_2 + 1)), (by first | rfl | (simp; done) | (simp [*]; done)), H', ⟨by have := HJ5.out; have := HK2.out; have := HJ10.out; have := HK4.out; omega⟩, ⟨by (with_reducible repeat (first | apply Kd.S_alloc | apply Kd.S_drewN | apply Kd.S_drew)); exact HO121.out⟩, ⟨by (with_reducible repeat (first | apply Kd.R_alloc | apply Kd.R_drewN | apply Kd.R_drew)); exact HO_9.out⟩, ⟨by (with_reducible repeat (first | apply Kd.R_alloc | apply Kd.R_drewN | apply Kd.R_drew)); exact HO_10.out⟩, ⟨by repeat (first | (with_reducible first | exact HB.out | apply below_alloc | apply pw_below_drewN | apply below_drew1) | exact HB.out)⟩⟩
            ·rw [if_neg c21] at H
             exact absurd H (by simp)
        ·replace c13 := Bool.eq_false_iff.mpr c13
         subst c13
         have H1 : (spec_SomeStore.l2 kj10 l1 l2 l3 x8_2 ([] : List (S41)) ([] : List Int) ji5 0) = some (r1, r2, r3) := by rw [if_neg (show ¬ (false = true) by decide)] at H; exact H
         clear H
         have H := H1
         clear H1
         have H' := Aside0.mk H
         clear H
         go_wp2
         go_loopg [9, 15] kj10 (fun kq v9 v15 w' => ∃ (x9_4 : List (S41)) (x15_4 : Int), v15 = .int .i64 x15_4 ∧ Aside0 (spec_SomeStore.l2 kq l1 l2 l3 x8_2 x9_4 ([] : List Int) ji5 x15_4 = some (r1, r2, r3)) ∧ Aside0 (kq ≤ kj10) ∧ Aside0 (Kd.S (Kd.slice 36 k36) 38 w' w.heap.size (fun _ => True) u8 x8_2) ∧ Aside0 (Kd.R k41 41 w' w.heap.size (fun k_ => some k_ ≠ ((.slice none 0 0) : Value).ownBlock) v9 x9_4) ∧ Aside0 (Kd.R (Kd.int .i64) 3 w' w.heap.size (fun _ => True) (.slice none 0 0) ([] : List Int)) ∧ Aside0 (Below w.heap.size w w'))
         case atStart => exact ⟨(([] : List (S41))), (0), (by first | rfl | (simp; done) | (simp [*]; done)), H', ⟨Nat.le_refl _⟩, ⟨by (with_reducible repeat (first | apply Kd.S_alloc | apply Kd.S_drewN | apply Kd.S_drew)); exact HO_8.out⟩, ⟨by (with_reducible repeat (first | apply Kd.R_alloc | apply Kd.R_drewN | apply Kd.R_drew)); exact HO_9.out⟩, ⟨by (with_reducible repeat (first | apply Kd.R_alloc | apply Kd.R_drewN | apply Kd.R_drew)); exact HO_10.out⟩, ⟨by repeat (first | (with_reducible first | exact HB.out | apply below_alloc | apply pw_below_drewN | apply below_drew1) | exact HB.out)⟩⟩
         case round =>
          clear H'
          try clear c1
          try clear p1
          try clear q1
          try clear hx1
          try clear c2
          try clear p2
          try clear c3
          try clear p6
          try clear c7
          try clear c7b0
          try clear c7b1
          try clear c7b2
          try clear c8
          try clear c8b0
          try clear c8b1
          try clear c9
          try clear c9b0
          try clear c9b1
          try clear c9b2
          try clear c10
          try clear c11
          try clear p11
          try clear q11
          try clear hx11
          try clear c12
          try clear c12b0
          try clear c13
          try clear c14
          try clear c14b0
          try clear c15
          try clear c15b0
          try clear c16
          try clear c16b0
          try clear c18
          try clear c21
          try clear hx112_0
          try clear p112
          try clear p2
          try clear q112
          obtain ⟨x9_4, x15_4, rfl, HA, HK4, HO_8, HO_9, HO_10, HB⟩ := hrel
          cases gk with
          | zero => exact absurd HA.out (by simp [spec_SomeStore.l2])
          | succ k4 =>
           have H := HA.out
           clear HA
           simp only [spec_SomeStore.l2] at H
           have HC24 := Aside0.mk H
           clear H
           go_upto_region 15 with (fail)
           go_cut [78] (fun v78 wc => ∃ (kq : Nat) (x78_23 : Bool), v78 = .bool x78_23 ∧ Aside0 (spec_SomeStore.j5 kq l1 l2 l3 x8_2 x9_4 ([] : List Int) ji5 x15_4 x78_23 = some (r1, r2, r3)) ∧ Aside0 (kq ≤ k4) ∧ Aside0 (Kd.S (Kd.slice 36 k36) 38 wc w.heap.size (fun _ => True) u8 x8_2) ∧ Aside0 (Kd.R k41 41 wc w.heap.size (fun k_ => some k_ ≠ ((.slice none 0 0) : Value).ownBlock) u9 x9_4) ∧ Aside0 (Kd.R (Kd.int .i64) 3 wc w.heap.size (fun _ => True) (.slice none 0 0) ([] : List Int)) ∧ Aside0 (Below w.heap.size w wc))
           case first =>
            have H := HC24.out
            clear HC24
            by_cases c25 : x15_4 < (l1.length : Int)
            ·rw [if_pos c25] at H
             have c25b0 : decide (x15_4 < (l1.length : Int)) = true := decide_eq_true c25
             clear c25
             (first | rw [c25b0] | (simp only [i64_w, i32_w]; rw [c25b0]) | skip)
             have H' := Aside0.mk H
             clear H
             go_wp2
             go_meet
             case rel => exact ⟨_, (decide (x15_4 < 4)), (by first | rfl | (simp; done) | (simp [*]; done)), H', ⟨by have := HJ5.out; have := HK2.out; have := HJ10.out; have := HK4.out; first | omega | exact Nat.le_refl _⟩, ⟨by (with_reducible repeat (first | apply Kd.S_alloc | apply Kd.S_drewN | apply Kd.S_drew)); exact HO_8.out⟩, ⟨by (with_reducible repeat (first | apply Kd.R_alloc | apply Kd.R_drewN | apply Kd.R_drew)); exact HO_9.out⟩, ⟨by (with_reducible repeat (first | apply Kd.R_alloc | apply Kd.R_drewN | apply Kd.R_drew)); exact HO_10.out⟩, ⟨by repeat (first | (with_reducible first | exact HB.out | apply below_alloc | apply pw_below_drewN | apply below_drew1) | exact HB.out)⟩⟩
            ·rw [if_neg c25] at H
             have c25b0 : decide (x15_4 < (l1.length : Int)) = false := decide_eq_false c25
             clear c25
             (first | rw [c25b0] | (simp only [i64_w, i32_w]; rw [c25b0]) | skip)
             have H' := Aside0.mk H
             clear H
             go_wp2
             go_meet
             case rel => exact ⟨_, (false), (by first | rfl | (simp; done) | (simp [*]; done)), H', ⟨by have := HJ5.out; have := HK2.out; have := HJ10.out; have := HK4.out; first | omega | exact Nat.le_refl _⟩, ⟨by (with_reducible repeat (first | apply Kd.S_alloc | apply Kd.S_drewN | apply Kd.S_drew)); exact HO_8.out⟩, ⟨by (with_reducible repeat (first | apply Kd.R_alloc | apply Kd.R_drewN | apply Kd.R_drew)); exact HO_9.out⟩, ⟨by (with_reducible repeat (first | apply Kd.R_alloc | apply Kd.R_drewN | apply Kd.R_drew)); exact HO_10.out⟩, ⟨by repeat (first | (with_reducible first | exact HB.out | apply below_alloc | apply pw_below_drewN | apply below_drew1) | exact HB.out)⟩⟩
           case rest =>
            clear HC24
            try clear c1
            try clear p1
            try clear q1
            try clear hx1
            try clear c2
            try clear p2
            try clear c3
            try clear p6
            try clear c7
            try clear c7b0
            try clear c7b1
            try clear c7b2
            try clear c8
            try clear c8b0
            try clear c8b1
            try clear c9
            try clear c9b0
            try clear c9b1
            try clear c9b2
            try clear c10
            try clear c11
            try clear p11
            try clear q11
            try clear hx11
            try clear c12
            try clear c12b0
            try clear c13
            try clear c14
            try clear c14b0
            try clear c15
            try clear c15b0
            try clear c16
            try clear c16b0
            try clear c18
            try clear c21
            try clear c25
            try clear c25b0
            try clear hx112_0
            try clear p1
            try clear p11
            try clear p112
            try clear p2
            try clear p6
            try clear q1
            try clear q11
            try clear q112
            obtain ⟨kq, x78_23, rfl, HA, HJ23, HO_8, HO_9, HO_10, HB⟩ := hcut
            cases kq with
            | zero => exact absurd HA.out (by simp [spec_SomeStore.j5])
            | succ kj23 =>
             have H := HA.out
             clear HA
             simp only [spec_SomeStore.j5] at H
             by_cases c26 : x78_23 = true
             ·subst c26
              have H1 : (spec_SomeStore.l3 kj23 l1 l2 l3 x8_2 x9_4 ([] : List Int) ji5 x15_4 0 ([] : List Int)) = some (r1, r2, r3) := by rw [if_pos rfl] at H; exact H
              clear H
              have H := H1
              clear H1
              have HC27 := Aside0.mk H
              clear H
              go_upto_block 6 with (first | ((with_reducible refine gate_dst (N := 16) rfl ?_); (try (refine gate_guard (by rfl) ?_; dsimp only)); refine box_event ?hg (N := 16) ?hd (cs := #[.slice none 0 0, .slice none 0 0]) (t := 41) ?hr ?_; (case hd => rfl); (case hg => rfl); (case hr => first | (go_simp; done) | (go_simp; rfl)); intro gb122 hg w28 hbox hb; have n0_ := Aside0.mk (Kd.S_below (by (with_reducible repeat (first | apply Kd.S_alloc | apply Kd.S_drewN | apply Kd.S_drew)); exact HO_8.out) hb); have n1_ := Aside0.mk (Kd.R_below (Kd.R_elderB (by (with_reducible repeat (first | apply Kd.R_alloc | apply Kd.R_drewN | apply Kd.R_drew)); exact HO_9.out) gb122 (Nat.le_of_eq hg.symm)) hb); have n2_ := Aside0.mk (Kd.R_below (by (with_reducible repeat (first | apply Kd.R_alloc | apply Kd.R_drewN | apply Kd.R_drew)); exact HO_10.out) hb); have n3_ := Aside0.mk (below_step (by repeat (first | (with_reducible first | exact HB.out | apply below_alloc | apply pw_below_drewN | apply below_drew1) | exact HB.out)) hb); have n4_ := Aside0.mk (hbox); have n5_ := Aside0.mk ((by rw [hg]; exact (below_size (by repeat (first | (with_reducible first | exact HB.out | apply below_alloc | apply pw_below_drewN | apply below_drew1) | exact HB.out))) : w.heap.size ≤ gb122)); have n6_ := Aside0.mk ((by rw [hg]; exact (below_size (by repeat (first | (with_reducible first | exact HB.out | apply below_alloc | apply pw_below_drewN | apply below_drew1) | exact HB.out))) : w.heap.size ≤ gb122)); clear HO_8; clear HO_9; clear HO_10; clear HB; have HO_8 := n0_; have HO_9 := n1_; have HO_10 := n2_; have HB := n3_; have BK122 := n4_; have GW122 := n5_; have GE122 := n6_; clear n0_ n1_ n2_ n3_ n4_ n5_ n6_; clear hb hbox hg))
              (try simp only [Act.put, L1_, L2_, L3_])
              go_cut [] (fun wc => ∃ (kq : Nat) (x123000_26 : List Int) (u123000 : Value), Aside0 (spec_SomeStore.j7 kq l1 l2 l3 x8_2 x9_4 ([] : List Int) ji5 x15_4 x123000_26 = some (r1, r2, r3)) ∧ Aside0 (kq ≤ kj23) ∧ Aside0 (Kd.S (Kd.slice 36 k36) 38 wc w.heap.size (fun _ => True) u8 x8_2) ∧ Aside0 (Kd.R k41 41 wc w.heap.size (fun k_ => some k_ ≠ ((.slice none 0 0) : Value).ownBlock ∧ some k_ ≠ (u123000 : Value).ownBlock ∧ k_ ≠ gb122) u9 x9_4) ∧ Aside0 (Kd.R (Kd.int .i64) 3 wc w.heap.size (fun k_ => some k_ ≠ (u123000 : Value).ownBlock) (.slice none 0 0) ([] : List Int)) ∧ Aside0 (Kd.R (Kd.int .i64) 3 wc w.heap.size (fun k_ => some k_ ≠ ((.slice none 0 0) : Value).ownBlock) u123000 x123000_26) ∧ Aside0 (wc.heap[gb122]? = some (.cells #[u123000, (.slice none 0 0)] 41 (0, 0))) ∧ Aside0 (Below w.heap.size w wc))
              case first =>
               have H := HC27.out
               clear HC27
               have H' := Aside0.mk H
               clear H
               go_wp2
               go_loopg [17] kj23 (fun kq v17 w' => ∃ (x17_6 : Int) (x123000_6 : List Int) (u123000 : Value), v17 = .int .i64 x17_6 ∧ Aside0 (spec_SomeStore.l3 kq l1 l2 l3 x8_2 x9_4 ([] : List Int) ji5 x15_4 x17_6 x123000_6 = some (r1, r2, r3)) ∧ Aside0 (kq ≤ kj23) ∧ Aside0 (Kd.S (Kd.slice 36 k36) 38 w' w.heap.size (fun _ => True) u8 x8_2) ∧ Aside0 (Kd.R k41 41 w' w.heap.size (fun k_ => some k_ ≠ ((.slice none 0 0) : Value).ownBlock ∧ some k_ ≠ (u123000 : Value).ownBlock ∧ k_ ≠ gb122) u9 x9_4) ∧ Aside0 (Kd.R (Kd.int .i64) 3 w' w.heap.size (fun k_ => some k_ ≠ (u123000 : Value).ownBlock) (.slice none 0 0) ([] : List Int)) ∧ Aside0 (Kd.R (Kd.int .i64) 3 w' w.heap.size (fun k_ => some k_ ≠ ((.slice none 0 0) : Value).ownBlock) u123000 x123000_6) ∧ Aside0 (w'.heap[gb122]? = some (.cells #[u123000, (.slice none 0 0)] 41 (0, 0))) ∧ Aside0 (Below w.heap.size w w'))
               case atStart => exact ⟨(0), (([] : List Int)), (.slice none 0 0), (by first | rfl | (simp; done) | (simp [*]; done)), H', ⟨Nat.le_refl _⟩, ⟨by (with_reducible repeat (first | apply Kd.S_alloc | apply Kd.S_drewN | apply Kd.S_drew)); exact HO_8.out⟩, ⟨by (with_reducible repeat (first | apply Kd.R_alloc | apply Kd.R_drewN | apply Kd.R_drew)); exact Kd.R_mono HO_9.out (fun _ hk => ⟨hk.1, ⟨(by simp [Value.ownBlock]), hk.2⟩⟩)⟩, ⟨by (with_reducible repeat (first | apply Kd.R_alloc | apply Kd.R_drewN | apply Kd.R_drew)); exact Kd.R_mono HO_10.out (fun _ hk => (by simp [Value.ownBlock]))⟩, ⟨by first | exact Kd.R_nil _ _ _ _ _ | exact Kd.N_nil _ _ _ _ _ | exact Kd.V_nil _ _ _ _ _ | exact Kd.Q_nil _ _ _ _ _ | exact Kd.S_nil _ _ _ _ _⟩, ⟨by (with_reducible repeat (first | refine b1_ ?_ _ | refine b2_ ?_ | refine b3_ ?_ _)); exact BK122.out⟩, ⟨by repeat (first | (with_reducible first | exact HB.out | apply below_alloc | apply pw_below_drewN | apply below_drew1 | refine below_set ?_ GE122.out) | exact HB.out)⟩⟩
               case round =>
                clear H'
                try clear c1
                try clear p1
                try clear q1
                try clear hx1
                try clear c2
                try clear p2
                try clear c3
                try clear p6
                try clear c7
                try clear c7b0
                try clear c7b1
                try clear c7b2
                try clear c8
                try clear c8b0
                try clear c8b1
                try clear c9
                try clear c9b0
                try clear c9b1
                try clear c9b2
                try clear c10
                try clear c11
                try clear p11
                try clear q11
                try clear hx11
                try clear c12
                try clear c12b0
                try clear c13
                try clear c14
                try clear c14b0
                try clear c15
                try clear c15b0
                try clear c16
                try clear c16b0
                try clear c18
                try clear c21
                try clear c25
                try clear c25b0
                try clear c26
                try clear hx112_0
                try clear p1
                try clear p11
                try clear p112
                try clear p2
                try clear p6
                try clear q1
                try clear q11
                try clear q112
                obtain ⟨x17_6, x123000_6, u123000, rfl, HA, HK6, HO_8, HO_9, HO_10, HO_123000, BK122, HB⟩ := hrel
                cases gk with
                | zero => exact absurd HA.out (by simp [spec_SomeStore.l3])
                | succ k6 =>
                 have H := HA.out
                 clear HA
                 simp only [spec_SomeStore.l3] at H
                 by_cases c29 : 0 ≤ x15_4
                 ·rw [if_pos c29] at H
                  have c29b0 : decide (0 ≤ x15_4) = true := decide_eq_true c29
                  clear c29
                  (first | rw [c29b0] | (simp only [i64_w, i32_w]; rw [c29b0]) | skip)
                  by_cases c30 : x15_4 < (l1.length : Int)
                  ·rw [if_pos c30] at H
                   have c30b0 : decide (x15_4 < (l1.length : Int)) = true := decide_eq_true c30
                   clear c30
                   by_cases c31 : x17_6 < ((rd_L4 l1 x15_4).length : Int)
                   ·rw [if_pos c31] at H
                    have c31b0 : decide (x17_6 < ((rd_L4 l1 x15_4).length : Int)) = true := decide_eq_true c31
                    clear c31
                    by_cases c32 : x17_6 < 5
                    ·rw [if_pos c32] at H
                     have c32b0 : decide (x17_6 < 5) = true := decide_eq_true c32
                     clear c32
                     by_cases c33 : 0 ≤ x17_6
                     ·rw [if_pos c33] at H
                      have c33b0 : decide (0 ≤ x17_6) = true := decide_eq_true c33
                      clear c33
                      by_cases c34 : (x8_2.length : Int) = 0
                      ·rw [if_pos c34] at H
                       exact absurd H (by simp)
                      ·rw [if_neg c34] at H
                       have c34b0 : ((x8_2.length : Int) == 0) = false := beq_eq_false_iff_ne.mpr c34
                       have c34b1 : ((x8_2.length : Int) != 0) = true := bne_iff_ne.mpr c34
                       have c34b2 : ¬ (x8_2 = []) := fun h_ => c34 (by rw [h_]; rfl)
                       by_cases c35 : x123000_6.length < 17592186044416
                       ·rw [if_pos c35] at H
                        have LMc35 := Aside0.mk c35
                        clear c35
                        obtain ⟨y126, hy126⟩ : ∃ y_ : List Int, y_ = (x123000_6 ++ [Int.tmod (wrap64 (rd (rd_L4 l1 x15_4) x17_6)) (x8_2.length : Int)]) := ⟨_, rfl⟩
                        replace H : (spec_SomeStore.l3 k6 l1 l2 l3 x8_2 x9_4 ([] : List Int) ji5 x15_4 (wrap64 (x17_6 + 1)) y126) = some (r1, r2, r3) := by first | (rw [hy126]; with_reducible exact H) | (have H2_ := (Option.bind_some _ _).symm.trans H; rw [hy126]; with_reducible exact H2_) | (have H2_ := (Option.bind_some _ _).symm.trans H; with_reducible exact H2_) | with_reducible exact H | (rw [hy126]; exact H) | exact H
                        have Ny126 := Aside0.mk hy126
                        clear hy126
                        have H' := Aside0.mk H
                        clear H
                        have p123 : 0 ≤ (x15_4 : Int) := of_decide_eq_true (by first | (with_reducible assumption) | assumption)
                        have q123 : x15_4 < (l1.length : Int) := of_decide_eq_true (by first | (with_reducible assumption) | assumption)
                        obtain ⟨ad123, A123_0, c123_0, e123, hx123_0, hl123_0, hi123_0⟩ := at_L4 HR1.out x15_4 p123 q123
                        cases e123
                        replace hx123_0 := (HB.out.cell (World.block_lt_of_cell? w _ hx123_0)).trans hx123_0
                        have HR123_0 := Aside0.mk hi123_0
                        have HC123_0 := Aside0.mk hl123_0
                        clear hi123_0 hl123_0
                        replace p123 := eq_true p123
                        replace q123 := eq_true q123
                        try go_wp2
                        have n0_ := Aside0.mk (Kd.S_drew HO_8.out)
                        have n1_ := Aside0.mk (Kd.R_drew HO_9.out)
                        have n2_ := Aside0.mk (Kd.R_drew HO_10.out)
                        have n3_ := Aside0.mk (Kd.R_drew HO_123000.out)
                        have n4_ := Aside0.mk (blk_drew BK122.out)
                        have n5_ := Aside0.mk (below_drew1 HB.out)
                        clear HO_8
                        clear HO_9
                        clear HO_10
                        clear HO_123000
                        clear BK122
                        clear HB
                        have HO_8 := n0_
                        have HO_9 := n1_
                        have HO_10 := n2_
                        have HO_123000 := n3_
                        have BK122 := n4_
                        have HB := n5_
                        clear n0_ n1_ n2_ n3_ n4_ n5_
                        have p124 : 0 ≤ (x15_4 : Int) := of_decide_eq_true (by first | (with_reducible assumption) | assumption)
                        have q124 : x15_4 < (l1.length : Int) := of_decide_eq_true (by first | (with_reducible assumption) | assumption)
                        obtain ⟨ad124, A124_0, c124_0, e124, hx124_0, hl124_0, hi124_0⟩ := at_L4 HR1.out x15_4 p124 q124
                        have hw124_0 := hx124_0
                        obtain rfl : ad123 = ad124 := (by injection e124)
                        replace hx124_0 := (HB.out.cell (World.block_lt_of_cell? w _ hx124_0)).trans hx124_0
                        have HR124_0 := Aside0.mk hi124_0
                        have HC124_0 := Aside0.mk hl124_0
                        clear hi124_0 hl124_0
                        replace p124 := eq_true p124
                        replace q124 := eq_true q124
                        have p125 : 0 ≤ (x17_6 : Int) := of_decide_eq_true (by first | (with_reducible assumption) | assumption)
                        have q125 : x17_6 < ((rd_L4 l1 x15_4).length : Int) := of_decide_eq_true (by first | (with_reducible assumption) | assumption)
                        obtain ⟨ad125, e125, hx125_0⟩ := Kd.at_int HR124_0.out x17_6 p125 q125
                        have hw125_0 := hx125_0
                        cases e125
                        replace hx125_0 := (HB.out.cell (World.block_lt_of_cell? w _ hx125_0)).trans hx125_0
                        replace p125 := eq_true p125
                        replace q125 := eq_true q125
                        obtain ⟨Ao37, co37, eo37⟩ := Kd.S_slice HO_8.out
                        (first | subst eo37 | (injection eo37 with f1_ f2_ f3_; have f4_ := f1_.symm; have f5_ := f3_.symm; clear f1_ f2_ f3_; subst f4_; subst f5_))
                        refine start_ (n := 17) (S := fun w' => w'.cell? ⟨gb122, 0, none⟩ = some (u123000) ∧ w'.cell? ⟨gb122, 1, none⟩ = some (.slice none 0 0) ∧ w'.cell? (ad123.add (x15_4).toNat) = some (.slice (some ad125) (rd_L4 l1 x15_4).length c124_0) ∧ w'.cell? (ad125.add (x17_6).toNat) = some (.int .u8 (rd (rd_L4 l1 x15_4) x17_6))) (ds := [16]) #[ff,ff,ff,ff,ff,ff,ff,ff,ff,ff,ff,ff,ff,ff,ff,ff,ff] (by kernel_rfl) rfl rfl ⟨(blk_cell BK122.out 0).trans rfl, (blk_cell BK122.out 1).trans rfl, ((HB.out.cell (World.block_lt_of_cell? w _ hw124_0)).trans hw124_0), ((HB.out.cell (World.block_lt_of_cell? w _ hw125_0)).trans hw125_0)⟩ (fun hHeld => ?_); refine with_tabW spec_SomeStore.tab21 spec_SomeStore.bits21 (fun HT_ HW_ => ?_)
                        generalize wr.drew = w36 at HO_8 HO_9 HO_10 HO_123000 BK122 HB HR124_0 hx124_0 hx125_0 hHeld ⊢
                        refine pure_ (i := 0) (N := some 94) (v := ?_) (a' := ?_) #[tt,ff,ff,ff,ff,ff,ff,ff,ff,ff,ff,ff,ff,ff,ff,ff,ff] rfl rfl (any_of HT_.out (by kernel_rfl)) (fun _ _ _ h => h) (Or.inl ⟨by rfl, ?_⟩) ?_ ?_
                        rotate_left
                        ·intro w'
                         go_simp
                         with_reducible rfl
                        rotate_left
                        ·simp only [Act.put, L1_, L2_, L3_, i64_w, i32_w]
                         rfl
                        refine pure_ (i := 2) (N := some 96) (v := ?_) (a' := ?_) #[tt,ff,tt,ff,ff,ff,ff,ff,ff,ff,ff,ff,ff,ff,ff,ff,ff] rfl rfl (any_of HT_.out (by kernel_rfl)) (fun _ _ _ h => h) (Or.inl ⟨by rfl, ?_⟩) ?_ ?_
                        rotate_left
                        ·intro w'
                         go_simp
                         with_reducible rfl
                        rotate_left
                        ·simp only [Act.put, L1_, L2_, L3_, i64_w, i32_w]
                         rfl
                        refine pure_ (i := 3) (N := some 97) (v := ?_) (a' := ?_) #[tt,ff,tt,tt,ff,ff,ff,ff,ff,ff,ff,ff,ff,ff,ff,ff,ff] rfl rfl (any_of HT_.out (by kernel_rfl)) (fun _ _ _ h => h) (Or.inl ⟨by rfl, ?_⟩) ?_ ?_
                        rotate_left
                        ·intro w'
                         go_simp
                         with_reducible rfl
                        rotate_left
                        ·simp only [Act.put, L1_, L2_, L3_, i64_w, i32_w]
                         rfl
                        refine pure_ (i := 4) (N := some 98) (v := ?_) (a' := ?_) #[tt,ff,tt,tt,tt,ff,ff,ff,ff,ff,ff,ff,ff,ff,ff,ff,ff] rfl rfl (any_of HT_.out (by kernel_rfl)) (fun _ _ _ h => h) (Or.inl ⟨by rfl, ?_⟩) ?_ ?_
                        rotate_left
                        ·intro w'
                         go_simp
                         with_reducible rfl
                        rotate_left
                        ·simp only [Act.put, L1_, L2_, L3_, i64_w, i32_w]
                         rfl
                        refine pure_ (i := 6) (N := some 100) (v := ?_) (a' := ?_) #[tt,ff,tt,tt,tt,ff,tt,ff,ff,ff,ff,ff,ff,ff,ff,ff,ff] rfl rfl (any_of HT_.out (by kernel_rfl)) (fun _ _ _ h => h) (Or.inl ⟨by rfl, ?_⟩) ?_ ?_
                        rotate_left
                        ·intro w'
                         go_simp
                         with_reducible rfl
                        rotate_left
                        ·simp only [Act.put, L1_, L2_, L3_, i64_w, i32_w]
                         rfl
                        refine pure_ (i := 10) (N := some 104) (v := ?_) (a' := ?_) #[tt,ff,tt,tt,tt,ff,tt,ff,ff,ff,tt,ff,ff,ff,ff,ff,ff] rfl rfl (any_of HT_.out (by kernel_rfl)) (fun _ _ _ h => h) (Or.inl ⟨by rfl, ?_⟩) ?_ ?_
                        rotate_left
                        ·intro w'
                         go_simp
                         with_reducible rfl
                        rotate_left
                        ·simp only [Act.put, L1_, L2_, L3_, i64_w, i32_w]
                         rfl
                        refine pure_ (i := 11) (N := some 105) (v := ?_) (a' := ?_) #[tt,ff,tt,tt,tt,ff,tt,ff,ff,ff,tt,tt,ff,ff,ff,ff,ff] rfl rfl (any_of HT_.out (by kernel_rfl)) (fun _ _ _ h => h) (Or.inl ⟨by rfl, ?_⟩) ?_ ?_
                        rotate_left
                        ·intro w'
                         go_simp
                         with_reducible rfl
                        rotate_left
                        ·simp only [Act.put, L1_, L2_, L3_, i64_w, i32_w]
                         rfl
                        refine take_ (i := 1) (N := some 95) (v := ?_) (a' := ?_) #[tt,tt,tt,tt,tt,ff,tt,ff,ff,ff,tt,tt,ff,ff,ff,ff,ff] rfl rfl (take_ofW HT_.out HW_.out (by kernel_rfl)) (fun _ _ _ h => h) (Or.inl ⟨by rfl, ?_⟩) hHeld ?_ ?_
                        rotate_left
                        ·rintro w' ⟨s0, s1, s2, s3⟩
                         go_simp
                         with_reducible rfl
                        rotate_left
                        ·simp only [Act.put, L1_, L2_, L3_, i64_w, i32_w]
                         rfl
                        refine take_ (i := 5) (N := some 99) (v := ?_) (a' := ?_) #[tt,tt,tt,tt,tt,tt,tt,ff,ff,ff,tt,tt,ff,ff,ff,ff,ff] rfl rfl (take_ofW HT_.out HW_.out (by kernel_rfl)) (fun _ _ _ h => h) (Or.inl ⟨by rfl, ?_⟩) hHeld ?_ ?_
                        rotate_left
                        ·rintro w' ⟨s0, s1, s2, s3⟩
                         go_simp
                         with_reducible rfl
                        rotate_left
                        ·simp only [Act.put, L1_, L2_, L3_, i64_w, i32_w]
                         rfl
                        refine pure_ (i := 7) (N := some 101) (v := ?_) (a' := ?_) #[tt,tt,tt,tt,tt,tt,tt,tt,ff,ff,tt,tt,ff,ff,ff,ff,ff] rfl rfl (any_of HT_.out (by kernel_rfl)) (fun _ _ _ h => h) (Or.inl ⟨by rfl, ?_⟩) ?_ ?_
                        rotate_left
                        ·intro w'
                         go_simp
                         with_reducible rfl
                        rotate_left
                        ·simp only [Act.put, L1_, L2_, L3_, i64_w, i32_w]
                         rfl
                        refine take_ (i := 8) (N := some 102) (v := ?_) (a' := ?_) #[tt,tt,tt,tt,tt,tt,tt,tt,tt,ff,tt,tt,ff,ff,ff,ff,ff] rfl rfl (take_ofW HT_.out HW_.out (by kernel_rfl)) (fun _ _ _ h => h) (Or.inl ⟨by rfl, ?_⟩) hHeld ?_ ?_
                        rotate_left
                        ·rintro w' ⟨s0, s1, s2, s3⟩
                         go_simp
                         with_reducible rfl
                        rotate_left
                        ·simp only [Act.put, L1_, L2_, L3_, i64_w, i32_w]
                         rfl
                        refine pure_ (i := 9) (N := some 103) (v := ?_) (a' := ?_) #[tt,tt,tt,tt,tt,tt,tt,tt,tt,tt,tt,tt,ff,ff,ff,ff,ff] rfl rfl (any_of HT_.out (by kernel_rfl)) (fun _ _ _ h => h) (Or.inl ⟨by rfl, ?_⟩) ?_ ?_
                        rotate_left
                        ·intro w'
                         go_simp
                         with_reducible rfl
                        rotate_left
                        ·(try go_ints); (try simp (disch := omega) only [n3_]); simp only [Act.put, L1_, L2_, L3_, i64_w, i32_w]
                         rfl
                        refine pure_ (i := 12) (N := some 106) (v := ?_) (a' := ?_) #[tt,tt,tt,tt,tt,tt,tt,tt,tt,tt,tt,tt,tt,ff,ff,ff,ff] rfl rfl (any_of HT_.out (by kernel_rfl)) (fun _ _ _ h => h) (Or.inl ⟨by rfl, ?_⟩) ?_ ?_
                        rotate_left
                        ·intro w'
                         go_simp
                         with_reducible rfl
                        rotate_left
                        ·(try go_ints); (try simp (disch := omega) only [n3_]); simp only [Act.put, L1_, L2_, L3_, i64_w, i32_w]
                         rfl
                        refine one_ (i := 13) (N := some 107) #[tt,tt,tt,tt,tt,tt,tt,tt,tt,tt,tt,tt,tt,tt,ff,ff,ff] rfl rfl (one_of HT_.out (by kernel_rfl)) (by decide) (fun K hK => ?_)
                        refine value_ (w1 := ?_) (v := ?_) (by rfl) rfl ?_ ?_
                        rotate_left 2
                        ·go_simp
                         constructor
                         ·rfl
                         ·rfl
                        refine hK.out _ _ ⟨(blk_cell (blk_alloc BK122.out _) 0).trans rfl, (blk_cell (blk_alloc BK122.out _) 1).trans rfl, (World.cell?_alloc_lt _ _ _ (World.block_lt_of_cell? _ _ (((HB.out.cell (World.block_lt_of_cell? w _ hw124_0)).trans hw124_0)))).trans (((HB.out.cell (World.block_lt_of_cell? w _ hw124_0)).trans hw124_0)), (World.cell?_alloc_lt _ _ _ (World.block_lt_of_cell? _ _ (((HB.out.cell (World.block_lt_of_cell? w _ hw125_0)).trans hw125_0)))).trans (((HB.out.cell (World.block_lt_of_cell? w _ hw125_0)).trans hw125_0))⟩ (fun hHeld => ?_)
                        clear hK K
                        refine norm_ (a' := ?_) ?_ ?_
                        rotate_left
                        ·show Act.put _ (some 107) _ = _
                         simp only [Act.put, L1_, L2_, L3_, i64_w, i32_w]
                         rfl
                        refine one_ (i := 14) (N := some 108) #[tt,tt,tt,tt,tt,tt,tt,tt,tt,tt,tt,tt,tt,tt,tt,ff,ff] rfl rfl (one_of HT_.out (by kernel_rfl)) (by decide) (fun K hK => ?_)
                        refine Kd.R_append_step (Kd.int .i64) (w0 := w) w.heap.size (by rfl) (.tmp 95) (.tmp 107) 31 3 (.int .i64 0) 8 rfl Try.underlying31 info3 rfl (by decide) (by omega) u123000 x123000_6 (Int.tmod (wrap64 (rd (rd_L4 l1 x15_4) x17_6)) (x8_2.length : Int)) [.int .i64 (Int.tmod (wrap64 (rd (rd_L4 l1 x15_4) x17_6)) (x8_2.length : Int))] (fun k_ => some k_ ≠ (.slice none 0 0 : Value).ownBlock) (fun _ => False) rfl rfl ?aP (fun _ hk => hk.elim) ?aF ?aO ?aB ?aS ?aL ?_
                        (case aP => exact rfl)
                        (case aB => exact (by repeat (first | (with_reducible first | exact HB.out | apply below_alloc | apply pw_below_drewN | apply below_drew1 | refine below_set ?_ GE122.out) | exact HB.out)))
                        (case aF => exact (fun k_ hk => Kd.fresh' (Kd.R_lt (by (with_reducible repeat (first | apply Kd.R_alloc | apply Kd.R_drewN | apply Kd.R_drew)); exact HO_10.out)) k_ hk))
                        (case aO => exact (by (with_reducible repeat (first | apply Kd.R_alloc | apply Kd.R_drewN | apply Kd.R_drew)); exact HO_123000.out))
                        (case aS => exact (below_size (by repeat (first | (with_reducible first | exact HB.out | apply below_alloc | apply pw_below_drewN | apply below_drew1 | refine below_set ?_ GE122.out) | exact HB.out))))
                        (case aL => have := LMc35.out; omega)
                        intro v127 w38 ho hb hg hat
                        rw [← Ny126.out] at ho
                        have n0_ := Aside0.mk (Kd.S_over' (by (with_reducible repeat (first | apply Kd.S_alloc | apply Kd.S_drewN | apply Kd.S_drew)); exact HO_8.out) (Kd.R_typed (by (with_reducible repeat (first | apply Kd.R_alloc | apply Kd.R_drewN | apply Kd.R_drew)); exact HO_123000.out)) (by decide) hg)
                        have n1_ := Aside0.mk (Kd.R_after (ok := (fun k_ => some k_ ≠ (.slice none 0 0 : Value).ownBlock ∧ k_ ≠ gb122)) (by (with_reducible repeat (first | apply Kd.R_alloc | apply Kd.R_drewN | apply Kd.R_drew)); exact Kd.R_mono HO_9.out (fun _ hk => ⟨⟨hk.1, hk.2.2⟩, hk.2.1⟩)) hg hat)
                        have n2_ := Aside0.mk (Kd.R_after (ok := (fun _ => True)) (by (with_reducible repeat (first | apply Kd.R_alloc | apply Kd.R_drewN | apply Kd.R_drew)); exact Kd.R_mono HO_10.out (fun _ hk => ⟨trivial, hk⟩)) hg hat)
                        have n3_ := Aside0.mk (blk_grown (g := gb122) (o := .cells #[u123000, .slice none 0 0] 41 (0, 0)) (by (with_reducible repeat (first | refine b1_ ?_ _ | refine b2_ ?_ | refine b3_ ?_ _)); exact BK122.out) hg (Kd.R_ne HO_123000.out BK122.out (by decide)))
                        have n4_ := Aside0.mk (hb)
                        have n5_ := Aside0.mk (ho)
                        clear HO_8
                        clear HO_9
                        clear HO_10
                        clear BK122
                        clear HB
                        clear HO_123000
                        have HO_8 := n0_
                        have HO_9 := n1_
                        have HO_10 := n2_
                        have BK122 := n3_
                        have HB := n4_
                        have HO128 := n5_
                        clear n0_ n1_ n2_ n3_ n4_ n5_
                        clear ho hb hg hat
                        obtain ⟨Ao39, co39, eo39⟩ := Kd.R_slice HO128.out
                        (first | subst eo39 | (injection eo39 with f1_ f2_ f3_; have f4_ := f1_.symm; have f5_ := f3_.symm; clear f1_ f2_ f3_; subst f4_; subst f5_))
                        refine hK.out _ _ ⟨(blk_cell BK122.out 0).trans rfl, (blk_cell BK122.out 1).trans rfl, ((HB.out.cell (World.block_lt_of_cell? w _ hw124_0)).trans hw124_0), ((HB.out.cell (World.block_lt_of_cell? w _ hw125_0)).trans hw125_0)⟩ (fun hHeld => ?_)
                        clear hK K
                        refine norm_ (a' := ?_) ?_ ?_
                        rotate_left
                        ·show Act.put _ (some 108) _ = _
                         simp only [Act.put, L1_, L2_, L3_, i64_w, i32_w]
                         rfl
                        refine pure_ (i := 15) (N := some 109) (v := ?_) (a' := ?_) #[tt,tt,tt,tt,tt,tt,tt,tt,tt,tt,tt,tt,tt,tt,tt,tt,ff] rfl rfl (any_of HT_.out (by kernel_rfl)) (fun _ _ _ h => h) (Or.inl ⟨by rfl, ?_⟩) ?_ ?_
                        rotate_left
                        ·intro w'
                         go_simp
                         with_reducible rfl
                        rotate_left
                        ·simp only [Act.put, L1_, L2_, L3_, i64_w, i32_w]
                         rfl
                        refine last_ (i := 16) (N := none) #[tt,tt,tt,tt,tt,tt,tt,tt,tt,tt,tt,tt,tt,tt,tt,tt,tt] rfl rfl (one_of HT_.out (by kernel_rfl)) (by decide) (fun K hK => ?_)
                        have hs40 : w38.cell? ⟨gb122, 0, none⟩ = some (u123000) := (blk_cell BK122.out 0).trans rfl
                        have hfs40 := blk_frozen BK122.out 0
                        refine skip_ (w1 := ?_) (by rfl) rfl ?_ ?_
                        rotate_left
                        ·go_simp
                         rfl
                        refine hK.out _ _ ?_
                        clear hK K
                        refine done_ (done_of HT_.out (by kernel_rfl)) ?_
                        try go_wp2
                        go_roundg k6
                        case measure => have := HJ5.out; have := HK2.out; have := HJ10.out; have := HK4.out; have := HJ23.out; have := HK6.out; omega
                        case rel => exact ⟨(wrap64 (x17_6 + 1)), (y126), (.slice Ao39 y126.length co39), (by first | rfl | (simp; done) | (simp [*]; done)), H', ⟨by have := HJ5.out; have := HK2.out; have := HJ10.out; have := HK4.out; have := HJ23.out; have := HK6.out; omega⟩, ⟨by (with_reducible repeat (first | apply Kd.S_alloc | apply Kd.S_drewN | apply Kd.S_drew)); exact Kd.S_mono (Kd.S_far (p := ⟨gb122, 0, none⟩) (Kd.S_types HO_8.out BK122.out (by decide)) (fun _ hk => hk.2) (.slice Ao39 y126.length co39)) (fun _ hk => trivial)⟩, ⟨by (with_reducible repeat (first | apply Kd.R_alloc | apply Kd.R_drewN | apply Kd.R_drew)); exact Kd.R_mono (Kd.R_far (p := ⟨gb122, 0, none⟩) (Kd.R_mono HO_9.out (fun k_ hk => (⟨hk, hk.1.2⟩ : _ ∧ k_ ≠ gb122))) (fun _ hk => hk.2) (.slice Ao39 y126.length co39)) (fun _ hk => ⟨hk.1.1.1, ⟨hk.1.2, hk.1.1.2⟩⟩)⟩, ⟨by (with_reducible repeat (first | apply Kd.R_alloc | apply Kd.R_drewN | apply Kd.R_drew)); exact Kd.R_mono (Kd.R_far (p := ⟨gb122, 0, none⟩) (Kd.R_types HO_10.out BK122.out (by decide)) (fun _ hk => hk.2) (.slice Ao39 y126.length co39)) (fun _ hk => hk.1.2)⟩, ⟨by (with_reducible repeat (first | apply Kd.R_alloc | apply Kd.R_drewN | apply Kd.R_drew)); exact Kd.R_mono (Kd.R_far (p := ⟨gb122, 0, none⟩) (Kd.R_types HO128.out BK122.out (by decide)) (fun _ hk => hk.2) (.slice Ao39 y126.length co39)) (fun _ hk => hk.1)⟩, ⟨by (with_reducible repeat (first | refine b1_ ?_ _ | refine b2_ ?_ | refine b3_ ?_ _)); refine blk_put (cs := #[u123000, .slice none 0 0]) ?_ 0 _ rfl; (with_reducible repeat (first | refine b1_ ?_ _ | refine b2_ ?_ | refine b3_ ?_ _)); exact BK122.out⟩, ⟨by repeat (first | (with_reducible first | exact HB.out | apply below_alloc | apply pw_below_drewN | apply below_drew1 | refine below_set ?_ GE122.out) | exact HB.out)⟩⟩
                       ·rw [if_neg c35] at H
                        exact absurd H (by simp)
                     ·rw [if_neg c33] at H
                      exact absurd H (by simp)
                    ·rw [if_neg c32] at H
                     have c32b0 : decide (x17_6 < 5) = false := decide_eq_false c32
                     clear c32
                     have H' := Aside0.mk H
                     clear H
                     have p123 : 0 ≤ (x15_4 : Int) := of_decide_eq_true (by first | (with_reducible assumption) | assumption)
                     have q123 : x15_4 < (l1.length : Int) := of_decide_eq_true (by first | (with_reducible assumption) | assumption)
                     obtain ⟨ad123, A123_0, c123_0, e123, hx123_0, hl123_0, hi123_0⟩ := at_L4 HR1.out x15_4 p123 q123
                     cases e123
                     replace hx123_0 := (HB.out.cell (World.block_lt_of_cell? w _ hx123_0)).trans hx123_0
                     have HR123_0 := Aside0.mk hi123_0
                     have HC123_0 := Aside0.mk hl123_0
                     clear hi123_0 hl123_0
                     replace p123 := eq_true p123
                     replace q123 := eq_true q123
                     go_wp2
                     go_meet
                     case rel => exact ⟨_, (x123000_6), (u123000), H', ⟨by have := HJ5.out; have := HK2.out; have := HJ10.out; have := HK4.out; have := HJ23.out; have := HK6.out; first | omega | exact Nat.le_refl _⟩, ⟨by (with_reducible repeat (first | apply Kd.S_alloc | apply Kd.S_drewN | apply Kd.S_drew)); exact HO_8.out⟩, ⟨by (with_reducible repeat (first | apply Kd.R_alloc | apply Kd.R_drewN | apply Kd.R_drew)); exact HO_9.out⟩, ⟨by (with_reducible repeat (first | apply Kd.R_alloc | apply Kd.R_drewN | apply Kd.R_drew)); exact HO_10.out⟩, ⟨by (with_reducible repeat (first | apply Kd.R_alloc | apply Kd.R_drewN | apply Kd.R_drew)); exact HO_123000.out⟩, ⟨by (with_reducible repeat (first | refine b1_ ?_ _ | refine b2_ ?_ | refine b3_ ?_ _)); exact BK122.out⟩, ⟨by repeat (first | (with_reducible first | exact HB.out | apply below_alloc | apply pw_below_drewN | apply below_drew1 | refine below_set ?_ GE122.out) | exact HB.out)⟩⟩
                   ·rw [if_neg c31] at H
                    have c31b0 : decide (x17_6 < ((rd_L4 l1 x15_4).length : Int)) = false := decide_eq_false c31
                    clear c31
                    have H' := Aside0.mk H
                    clear H
                    have p123 : 0 ≤ (x15_4 : Int) := of_decide_eq_true (by first | (with_reducible assumption) | assumption)
                    have q123 : x15_4 < (l1.length : Int) := of_decide_eq_true (by first | (with_reducible assumption) | assumption)
                    obtain ⟨ad123, A123_0, c123_0, e123, hx123_0, hl123_0, hi123_0⟩ := at_L4 HR1.out x15_4 p123 q123
                    cases e123
                    replace hx123_0 := (HB.out.cell (World.block_lt_of_cell? w _ hx123_0)).trans hx123_0
                    have HR123_0 := Aside0.mk hi123_0
                    have HC123_0 := Aside0.mk hl123_0
                    clear hi123_0 hl123_0
                    replace p123 := eq_true p123
                    replace q123 := eq_true q123
                    go_wp2
                    go_meet
                    case rel => exact ⟨_, (x123000_6), (u123000), H', ⟨by have := HJ5.out; have := HK2.out; have := HJ10.out; have := HK4.out; have := HJ23.out; have := HK6.out; first | omega | exact Nat.le_refl _⟩, ⟨by (with_reducible repeat (first | apply Kd.S_alloc | apply Kd.S_drewN | apply Kd.S_drew)); exact HO_8.out⟩, ⟨by (with_reducible repeat (first | apply Kd.R_alloc | apply Kd.R_drewN | apply Kd.R_drew)); exact HO_9.out⟩, ⟨by (with_reducible repeat (first | apply Kd.R_alloc | apply Kd.R_drewN | apply Kd.R_drew)); exact HO_10.out⟩, ⟨by (with_reducible repeat (first | apply Kd.R_alloc | apply Kd.R_drewN | apply Kd.R_drew)); exact HO_123000.out⟩, ⟨by (with_reducible repeat (first | refine b1_ ?_ _ | refine b2_ ?_ | refine b3_ ?_ _)); exact BK122.out⟩, ⟨by repeat (first | (with_reducible first | exact HB.out | apply below_alloc | apply pw_below_drewN | apply below_drew1 | refine below_set ?_ GE122.out) | exact HB.out)⟩⟩
                  ·rw [if_neg c30] at H
                   exact absurd H (by simp)
                 ·rw [if_neg c29] at H
                  exact absurd H (by simp)
              case rest =>
               clear HC27
               try clear c1
               try clear p1
               try clear q1
               try clear hx1
               try clear c2
               try clear p2
               try clear c3
               try clear p6
               try clear c7
               try clear c7b0
               try clear c7b1
               try clear c7b2
               try clear c8
               try clear c8b0
               try clear c8b1
               try clear c9
               try clear c9b0
               try clear c9b1
               try clear c9b2
               try clear c10
               try clear c11
               try clear p11
               try clear q11
               try clear hx11
               try clear c12
               try clear c12b0
               try clear p12
               try clear q12
               try clear hx12
               try clear c13
               try clear c14
               try clear c14b0
               try clear c15
               try clear c15b0
               try clear c16
               try clear c16b0
               try clear c18
               try clear c21
               try clear c25
               try clear c25b0
               try clear c26
               try clear c29
               try clear c29b0
               try clear c30
               try clear c30b0
               try clear c31
               try clear c31b0
               try clear c32
               try clear c32b0
               try clear c33
               try clear c33b0
               try clear c34
               try clear c34b0
               try clear c34b1
               try clear c34b2
               try clear c35
               try clear hx112_0
               try clear hx123_0
               try clear hx124_0
               try clear hx125_0
               try clear p1
               try clear p11
               try clear p112
               try clear p123
               try clear p124
               try clear p125
               try clear p2
               try clear p6
               try clear q1
               try clear q11
               try clear q112
               try clear q123
               try clear q124
               try clear q125
               obtain ⟨kq, x123000_26, u123000, HA, HJ26, HO_8, HO_9, HO_10, HO_123000, BK122, HB⟩ := hcut
               cases kq with
               | zero => exact absurd HA.out (by simp [spec_SomeStore.j7])
               | succ kj26 =>
                have H := HA.out
                clear HA
                simp only [spec_SomeStore.j7] at H
                have H' := Aside0.mk H
                clear H
                go_wp2
                go_loopg [18] kj26 (fun kq v18 w' => ∃ (x18_7 : Int) (x123001_7 : List (List Int)) (u123001 : Value), v18 = .int .i64 x18_7 ∧ Aside0 (spec_SomeStore.l4 kq l1 l2 l3 x8_2 x9_4 ([] : List Int) ji5 x15_4 x18_7 x123000_26 x123001_7 = some (r1, r2, r3)) ∧ Aside0 (kq ≤ kj26) ∧ Aside0 (Kd.S (Kd.slice 36 k36) 38 w' w.heap.size (fun _ => True) u8 x8_2) ∧ Aside0 (Kd.R k41 41 w' w.heap.size (fun k_ => some k_ ≠ ((.slice none 0 0) : Value).ownBlock ∧ some k_ ≠ (u123000 : Value).ownBlock ∧ some k_ ≠ (u123001 : Value).ownBlock ∧ k_ ≠ gb122) u9 x9_4) ∧ Aside0 (Kd.R (Kd.int .i64) 3 w' w.heap.size (fun k_ => some k_ ≠ (u123000 : Value).ownBlock) (.slice none 0 0) ([] : List Int)) ∧ Aside0 (Kd.R (Kd.int .i64) 3 w' w.heap.size (fun k_ => some k_ ≠ ((.slice none 0 0) : Value).ownBlock) u123000 x123000_26) ∧ Aside0 (Kd.S (Kd.slice 3 (Kd.int .i64)) 31 w' w.heap.size (fun k_ => some k_ ≠ ((.slice none 0 0) : Value).ownBlock ∧ some k_ ≠ (u123000 : Value).ownBlock) u123001 x123001_7) ∧ Aside0 (w'.heap[gb122]? = some (.cells #[u123000, u123001] 41 (0, 0))) ∧ Aside0 (Below w.heap.size w w'))
                case atStart => exact ⟨(0), (([] : List (List Int))), (.slice none 0 0), (by first | rfl | (simp; done) | (simp [*]; done)), H', ⟨Nat.le_refl _⟩, ⟨by (with_reducible repeat (first | apply Kd.S_alloc | apply Kd.S_drewN | apply Kd.S_drew)); exact HO_8.out⟩, ⟨by (with_reducible repeat (first | apply Kd.R_alloc | apply Kd.R_drewN | apply Kd.R_drew)); exact Kd.R_mono HO_9.out (fun _ hk => ⟨hk.1, ⟨hk.2.1, ⟨(by simp [Value.ownBlock]), hk.2.2⟩⟩⟩)⟩, ⟨by (with_reducible repeat (first | apply Kd.R_alloc | apply Kd.R_drewN | apply Kd.R_drew)); exact HO_10.out⟩, ⟨by (with_reducible repeat (first | apply Kd.R_alloc | apply Kd.R_drewN | apply Kd.R_drew)); exact HO_123000.out⟩, ⟨by first | exact Kd.S_nil _ _ _ _ _ | exact Kd.N_nil _ _ _ _ _ | exact Kd.V_nil _ _ _ _ _ | exact Kd.Q_nil _ _ _ _ _ | exact Kd.R_nil _ _ _ _ _⟩, ⟨by (with_reducible repeat (first | refine b1_ ?_ _ | refine b2_ ?_ | refine b3_ ?_ _)); exact BK122.out⟩, ⟨by repeat (first | (with_reducible first | exact HB.out | apply below_alloc | apply pw_below_drewN | apply below_drew1 | refine below_set ?_ GE122.out) | exact HB.out)⟩⟩
                case round =>
                 clear H'
                 try clear c1
                 try clear p1
                 try clear q1
                 try clear hx1
                 try clear c2
                 try clear p2
                 try clear c3
                 try clear p6
                 try clear c7
                 try clear c7b0
                 try clear c7b1
                 try clear c7b2
                 try clear c8
                 try clear c8b0
                 try clear c8b1
                 try clear c9
                 try clear c9b0
                 try clear c9b1
                 try clear c9b2
                 try clear c10
                 try clear c11
                 try clear p11
                 try clear q11
                 try clear hx11
                 try clear c12
                 try clear c12b0
                 try clear p12
                 try clear q12
                 try clear hx12
                 try clear c13
                 try clear c14
                 try clear c14b0
                 try clear c15
                 try clear c15b0
                 try clear c16
                 try clear c16b0
                 try clear c18
                 try clear c21
                 try clear c25
                 try clear c25b0
                 try clear c26
                 try clear c29
                 try clear c29b0
                 try clear c30
                 try clear c30b0
                 try clear c31
                 try clear c31b0
                 try clear c32
                 try clear c32b0
                 try clear c33
                 try clear c33b0
                 try clear c34
                 try clear c34b0
                 try clear c34b1
                 try clear c34b2
                 try clear c35
                 try clear hx112_0
                 try clear hx123_0
                 try clear hx124_0
                 try clear hx125_0
                 try clear p1
                 try clear p11
                 try clear p112
                 try clear p12
                 try clear p123
                 try clear p124
                 try clear p125
                 try clear p2
                 try clear p6
                 try clear q1
                 try clear q11
                 try clear q112
                 try clear q12
                 try clear q123
                 try clear q124
                 try clear q125
                 obtain ⟨x18_7, x123001_7, u123001, rfl, HA, HK7, HO_8, HO_9, HO_10, HO_123000, HO_123001, BK122, HB⟩ := hrel
                 cases gk with
                 | zero => exact absurd HA.out (by simp [spec_SomeStore.l4])
                 | succ k7 =>
                  have H := HA.out
                  clear HA
                  simp only [spec_SomeStore.l4] at H
                  have HC41 := Aside0.mk H
                  clear H
                  go_upto_region 23 with (fail)
                  go_cut [117] (fun v117 wc => ∃ (kq : Nat) (x117_40 : Bool), v117 = .bool x117_40 ∧ Aside0 (spec_SomeStore.j9 kq l1 l2 l3 x8_2 x9_4 ([] : List Int) ji5 x15_4 x18_7 x117_40 x123000_26 x123001_7 = some (r1, r2, r3)) ∧ Aside0 (kq ≤ k7) ∧ Aside0 (Kd.S (Kd.slice 36 k36) 38 wc w.heap.size (fun _ => True) u8 x8_2) ∧ Aside0 (Kd.R k41 41 wc w.heap.size (fun k_ => some k_ ≠ ((.slice none 0 0) : Value).ownBlock ∧ some k_ ≠ (u123000 : Value).ownBlock ∧ some k_ ≠ (u123001 : Value).ownBlock ∧ k_ ≠ gb122) u9 x9_4) ∧ Aside0 (Kd.R (Kd.int .i64) 3 wc w.heap.size (fun k_ => some k_ ≠ (u123000 : Value).ownBlock) (.slice none 0 0) ([] : List Int)) ∧ Aside0 (Kd.R (Kd.int .i64) 3 wc w.heap.size (fun k_ => some k_ ≠ ((.slice none 0 0) : Value).ownBlock) u123000 x123000_26) ∧ Aside0 (Kd.S (Kd.slice 3 (Kd.int .i64)) 31 wc w.heap.size (fun k_ => some k_ ≠ ((.slice none 0 0) : Value).ownBlock ∧ some k_ ≠ (u123000 : Value).ownBlock) u123001 x123001_7) ∧ Aside0 (wc.heap[gb122]? = some (.cells #[u123000, u123001] 41 (0, 0))) ∧ Aside0 (Below w.heap.size w wc))
                  case first =>
                   have H := HC41.out
                   clear HC41
                   by_cases c42 : x18_7 < (l2.length : Int)
                   ·rw [if_pos c42] at H
                    have c42b0 : decide (x18_7 < (l2.length : Int)) = true := decide_eq_true c42
                    clear c42
                    (first | rw [c42b0] | (simp only [i64_w, i32_w]; rw [c42b0]) | skip)
                    have H' := Aside0.mk H
                    clear H
                    go_wp2
                    go_meet
                    case rel => exact ⟨_, (decide (x18_7 < 5)), (by first | rfl | (simp; done) | (simp [*]; done)), H', ⟨by have := HJ5.out; have := HK2.out; have := HJ10.out; have := HK4.out; have := HJ23.out; have := HJ26.out; have := HK7.out; first | omega | exact Nat.le_refl _⟩, ⟨by (with_reducible repeat (first | apply Kd.S_alloc | apply Kd.S_drewN | apply Kd.S_drew)); exact HO_8.out⟩, ⟨by (with_reducible repeat (first | apply Kd.R_alloc | apply Kd.R_drewN | apply Kd.R_drew)); exact HO_9.out⟩, ⟨by (with_reducible repeat (first | apply Kd.R_alloc | apply Kd.R_drewN | apply Kd.R_drew)); exact HO_10.out⟩, ⟨by (with_reducible repeat (first | apply Kd.R_alloc | apply Kd.R_drewN | apply Kd.R_drew)); exact HO_123000.out⟩, ⟨by (with_reducible repeat (first | apply Kd.S_alloc | apply Kd.S_drewN | apply Kd.S_drew)); exact HO_123001.out⟩, ⟨by (with_reducible repeat (first | refine b1_ ?_ _ | refine b2_ ?_ | refine b3_ ?_ _)); exact BK122.out⟩, ⟨by repeat (first | (with_reducible first | exact HB.out | apply below_alloc | apply pw_below_drewN | apply below_drew1 | refine below_set ?_ GE122.out) | exact HB.out)⟩⟩
                   ·rw [if_neg c42] at H
                    have c42b0 : decide (x18_7 < (l2.length : Int)) = false := decide_eq_false c42
                    clear c42
                    (first | rw [c42b0] | (simp only [i64_w, i32_w]; rw [c42b0]) | skip)
                    have H' := Aside0.mk H
                    clear H
                    go_wp2
                    go_meet
                    case rel => exact ⟨_, (false), (by first | rfl | (simp; done) | (simp [*]; done)), H', ⟨by have := HJ5.out; have := HK2.out; have := HJ10.out; have := HK4.out; have := HJ23.out; have := HJ26.out; have := HK7.out; first | omega | exact Nat.le_refl _⟩, ⟨by (with_reducible repeat (first | apply Kd.S_alloc | apply Kd.S_drewN | apply Kd.S_drew)); exact HO_8.out⟩, ⟨by (with_reducible repeat (first | apply Kd.R_alloc | apply Kd.R_drewN | apply Kd.R_drew)); exact HO_9.out⟩, ⟨by (with_reducible repeat (first | apply Kd.R_alloc | apply Kd.R_drewN | apply Kd.R_drew)); exact HO_10.out⟩, ⟨by (with_reducible repeat (first | apply Kd.R_alloc | apply Kd.R_drewN | apply Kd.R_drew)); exact HO_123000.out⟩, ⟨by (with_reducible repeat (first | apply Kd.S_alloc | apply Kd.S_drewN | apply Kd.S_drew)); exact HO_123001.out⟩, ⟨by (with_reducible repeat (first | refine b1_ ?_ _ | refine b2_ ?_ | refine b3_ ?_ _)); exact BK122.out⟩, ⟨by repeat (first | (with_reducible first | exact HB.out | apply below_alloc | apply pw_below_drewN | apply below_drew1 | refine below_set ?_ GE122.out) | exact HB.out)⟩⟩
                  case rest =>
                   clear HC41
                   try clear c1
                   try clear p1
                   try clear q1
                   try clear hx1
                   try clear c2
                   try clear p2
                   try clear c3
                   try clear c4
                   try clear p6
                   try clear c7
                   try clear c7b0
                   try clear c7b1
                   try clear c7b2
                   try clear c8
                   try clear c8b0
                   try clear c8b1
                   try clear c9
                   try clear c9b0
                   try clear c9b1
                   try clear c9b2
                   try clear c10
                   try clear c11
                   try clear p11
                   try clear q11
                   try clear hx11
                   try clear c12
                   try clear c12b0
                   try clear p12
                   try clear q12
                   try clear hx12
                   try clear c13
                   try clear c14
                   try clear c14b0
                   try clear c15
                   try clear c15b0
                   try clear c16
                   try clear c16b0
                   try clear c18
                   try clear c21
                   try clear c25
                   try clear c25b0
                   try clear c26
                   try clear c29
                   try clear c29b0
                   try clear c30
                   try clear c30b0
                   try clear c31
                   try clear c31b0
                   try clear c32
                   try clear c32b0
                   try clear c33
                   try clear c33b0
                   try clear c34
                   try clear c34b0
                   try clear c34b1
                   try clear c34b2
                   try clear c35
                   try clear c42
                   try clear c42b0
                   try clear hx112_0
                   try clear hx123_0
                   try clear hx124_0
                   try clear hx125_0
                   try clear p1
                   try clear p11
                   try clear p112
                   try clear p12
                   try clear p123
                   try clear p124
                   try clear p125
                   try clear p2
                   try clear p6
                   try clear q1
                   try clear q11
                   try clear q112
                   try clear q12
                   try clear q123
                   try clear q124
                   try clear q125
                   obtain ⟨kq, x117_40, rfl, HA, HJ40, HO_8, HO_9, HO_10, HO_123000, HO_123001, BK122, HB⟩ := hcut
                   cases kq with
                   | zero => exact absurd HA.out (by simp [spec_SomeStore.j9])
                   | succ kj40 =>
                    have H := HA.out
                    clear HA
                    simp only [spec_SomeStore.j9] at H
                    by_cases c43 : x117_40 = true
                    ·subst c43
                     have H1 : (spec_SomeStore.l5 kj40 l1 l2 l3 x8_2 x9_4 ([] : List Int) ji5 x15_4 x18_7 ([] : List Int) (x123000_26.length : Int) 0 x123000_26 x123001_7) = some (r1, r2, r3) := by rw [if_pos rfl] at H; exact H
                     clear H
                     have H := H1
                     clear H1
                     have H' := Aside0.mk H
                     clear H
                     have hcz44_0 : wc.cell? ⟨gb122, 0, none⟩ = some (u123000) := (blk_cell BK122.out 0).trans rfl
                     have hcz44_1 : wc.cell? ⟨gb122, 1, none⟩ = some (u123001) := (blk_cell BK122.out 1).trans rfl
                     have hfz44_0 := blk_frozen BK122.out 0
                     have hfz44_1 := blk_frozen BK122.out 1
                     obtain ⟨Ao45, co45, eo45⟩ := Kd.R_slice HO_123000.out
                     subst eo45
                     go_wp2
                     go_loopg [19, 123] kj40 (fun kq v19 v123 w' => ∃ (x19_9 : List Int) (x123_9 : Int), v123 = .int .i64 x123_9 ∧ Aside0 (spec_SomeStore.l5 kq l1 l2 l3 x8_2 x9_4 ([] : List Int) ji5 x15_4 x18_7 x19_9 (x123000_26.length : Int) x123_9 x123000_26 x123001_7 = some (r1, r2, r3)) ∧ Aside0 (kq ≤ kj40) ∧ Aside0 (Kd.S (Kd.slice 36 k36) 38 w' w.heap.size (fun _ => True) u8 x8_2) ∧ Aside0 (Kd.R k41 41 w' w.heap.size (fun k_ => some k_ ≠ ((.slice none 0 0) : Value).ownBlock ∧ some k_ ≠ (v19 : Value).ownBlock ∧ some k_ ≠ ((.slice Ao45 x123000_26.length co45) : Value).ownBlock ∧ some k_ ≠ (u123001 : Value).ownBlock ∧ k_ ≠ gb122) u9 x9_4) ∧ Aside0 (Kd.R (Kd.int .i64) 3 w' w.heap.size (fun k_ => some k_ ≠ (v19 : Value).ownBlock ∧ some k_ ≠ ((.slice Ao45 x123000_26.length co45) : Value).ownBlock) (.slice none 0 0) ([] : List Int)) ∧ Aside0 (Kd.R (Kd.int .i64) 3 w' w.heap.size (fun k_ => some k_ ≠ ((.slice none 0 0) : Value).ownBlock ∧ some k_ ≠ ((.slice Ao45 x123000_26.length co45) : Value).ownBlock) v19 x19_9) ∧ Aside0 (Kd.R (Kd.int .i64) 3 w' w.heap.size (fun k_ => some k_ ≠ ((.slice none 0 0) : Value).ownBlock ∧ some k_ ≠ (v19 : Value).ownBlock) (.slice Ao45 x123000_26.length co45) x123000_26) ∧ Aside0 (Kd.S (Kd.slice 3 (Kd.int .i64)) 31 w' w.heap.size (fun k_ => some k_ ≠ ((.slice none 0 0) : Value).ownBlock ∧ some k_ ≠ (v19 : Value).ownBlock ∧ some k_ ≠ ((.slice Ao45 x123000_26.length co45) : Value).ownBlock) u123001 x123001_7) ∧ Aside0 (w'.heap[gb122]? = some (.cells #[(.slice Ao45 x123000_26.length co45), u123001] 41 (0, 0))) ∧ Aside0 (Below w.heap.size w w'))
                     case atStart => exact ⟨(([] : List Int)), (0), (by first | rfl | (simp; done) | (simp [*]; done)), H', ⟨Nat.le_refl _⟩, ⟨by (with_reducible repeat (first | apply Kd.S_alloc | apply Kd.S_drewN | apply Kd.S_drew)); exact HO_8.out⟩, ⟨by (with_reducible repeat (first | apply Kd.R_alloc | apply Kd.R_drewN | apply Kd.R_drew)); exact Kd.R_mono HO_9.out (fun _ hk => ⟨hk.1, ⟨(by simp [Value.ownBlock]), ⟨hk.2.1, ⟨hk.2.2.1, hk.2.2.2⟩⟩⟩⟩)⟩, ⟨by (with_reducible repeat (first | apply Kd.R_alloc | apply Kd.R_drewN | apply Kd.R_drew)); exact Kd.R_mono HO_10.out (fun _ hk => ⟨(by simp [Value.ownBlock]), hk⟩)⟩, ⟨by first | exact Kd.R_nil _ _ _ _ _ | exact Kd.N_nil _ _ _ _ _ | exact Kd.V_nil _ _ _ _ _ | exact Kd.Q_nil _ _ _ _ _ | exact Kd.S_nil _ _ _ _ _⟩, ⟨by (with_reducible repeat (first | apply Kd.R_alloc | apply Kd.R_drewN | apply Kd.R_drew)); exact Kd.R_mono HO_123000.out (fun _ hk => ⟨hk, (by simp [Value.ownBlock])⟩)⟩, ⟨by (with_reducible repeat (first | apply Kd.S_alloc | apply Kd.S_drewN | apply Kd.S_drew)); exact Kd.S_mono HO_123001.out (fun _ hk => ⟨hk.1, ⟨(by simp [Value.ownBlock]), hk.2⟩⟩)⟩, ⟨by (with_reducible repeat (first | refine b1_ ?_ _ | refine b2_ ?_ | refine b3_ ?_ _)); exact BK122.out⟩, ⟨by repeat (first | (with_reducible first | exact HB.out | apply below_alloc | apply pw_below_drewN | apply below_drew1 | refine below_set ?_ GE122.out) | exact HB.out)⟩⟩
                     case round =>
                      clear H'
                      try clear c1
                      try clear p1
                      try clear q1
                      try clear hx1
                      try clear c2
                      try clear p2
                      try clear c3
                      try clear c4
                      try clear p6
                      try clear c7
                      try clear c7b0
                      try clear c7b1
                      try clear c7b2
                      try clear c8
                      try clear c8b0
                      try clear c8b1
                      try clear c9
                      try clear c9b0
                      try clear c9b1
                      try clear c9b2
                      try clear c10
                      try clear c11
                      try clear p11
                      try clear q11
                      try clear hx11
                      try clear c12
                      try clear c12b0
                      try clear p12
                      try clear q12
                      try clear hx12
                      try clear c13
                      try clear c14
                      try clear c14b0
                      try clear c15
                      try clear c15b0
                      try clear c16
                      try clear c16b0
                      try clear c18
                      try clear c21
                      try clear c25
                      try clear c25b0
                      try clear c26
                      try clear c29
                      try clear c29b0
                      try clear c30
                      try clear c30b0
                      try clear c31
                      try clear c31b0
                      try clear c32
                      try clear c32b0
                      try clear c33
                      try clear c33b0
                      try clear c34
                      try clear c34b0
                      try clear c34b1
                      try clear c34b2
                      try clear c35
                      try clear c42
                      try clear c42b0
                      try clear c43
                      try clear hcz44_0
                      try clear hcz44_1
                      try clear hfz44_0
                      try clear hfz44_1
                      try clear hx112_0
                      try clear hx123_0
                      try clear hx124_0
                      try clear hx125_0
                      try clear p1
                      try clear p11
                      try clear p112
                      try clear p12
                      try clear p123
                      try clear p124
                      try clear p125
                      try clear p2
                      try clear p6
                      try clear q1
                      try clear q11
                      try clear q112
                      try clear q12
                      try clear q123
                      try clear q124
                      try clear q125
                      obtain ⟨x19_9, x123_9, rfl, HA, HK9, HO_8, HO_9, HO_10, HO_19, HO_123000, HO_123001, BK122, HB⟩ := hrel
                      cases gk with
                      | zero => exact absurd HA.out (by simp [spec_SomeStore.l5])
                      | succ k9 =>
                       have H := HA.out
                       clear HA
                       simp only [spec_SomeStore.l5] at H
                       by_cases c46 : x123_9 < (x123000_26.length : Int)
                       ·rw [if_pos c46] at H
                        have c46b0 : decide (x123_9 < (x123000_26.length : Int)) = true := decide_eq_true c46
                        clear c46
                        by_cases c47 : 0 ≤ x18_7
                        ·rw [if_pos c47] at H
                         have c47b0 : decide (0 ≤ x18_7) = true := decide_eq_true c47
                         clear c47
                         by_cases c48 : x18_7 < (l2.length : Int)
                         ·rw [if_pos c48] at H
                          have c48b0 : decide (x18_7 < (l2.length : Int)) = true := decide_eq_true c48
                          clear c48
                          replace H := Option.bind_eq_some_iff.mp H
                          obtain ⟨t133, A490, H⟩ := H
                          replace H : (if x19_9.length < 17592186044416 then (spec_SomeStore.l5 k9 l1 l2 l3 x8_2 x9_4 ([] : List Int) ji5 x15_4 x18_7 (x19_9 ++ [t133]) (x123000_26.length : Int) (wrap64 (x123_9 + 1)) x123000_26 x123001_7) else (none)) = some (r1, r2, r3) := H
                          have A49 := Aside0.mk A490
                          clear A490
                          by_cases c50 : x19_9.length < 17592186044416
                          ·rw [if_pos c50] at H
                           have LMc50 := Aside0.mk c50
                           clear c50
                           obtain ⟨y134, hy134⟩ : ∃ y_ : List Int, y_ = (x19_9 ++ [t133]) := ⟨_, rfl⟩
                           replace H : (spec_SomeStore.l5 k9 l1 l2 l3 x8_2 x9_4 ([] : List Int) ji5 x15_4 x18_7 y134 (x123000_26.length : Int) (wrap64 (x123_9 + 1)) x123000_26 x123001_7) = some (r1, r2, r3) := by first | (rw [hy134]; with_reducible exact H) | (have H2_ := (Option.bind_some _ _).symm.trans H; rw [hy134]; with_reducible exact H2_) | (have H2_ := (Option.bind_some _ _).symm.trans H; with_reducible exact H2_) | with_reducible exact H | (rw [hy134]; exact H) | exact H
                           have Ny134 := Aside0.mk hy134
                           clear hy134
                           have H' := Aside0.mk H
                           clear H
                           have p132 : 0 ≤ (x18_7 : Int) := of_decide_eq_true (by first | (with_reducible assumption) | assumption)
                           have q132 : x18_7 < (l2.length : Int) := of_decide_eq_true (by first | (with_reducible assumption) | assumption)
                           obtain ⟨ad132, A132_0, c132_0, e132, hx132_0, hl132_0, hi132_0⟩ := at_L5 HR2.out x18_7 p132 q132
                           cases e132
                           replace hx132_0 := (HB.out.cell (World.block_lt_of_cell? w _ hx132_0)).trans hx132_0
                           have HR132_0 := Aside0.mk hi132_0
                           have HC132_0 := Aside0.mk hl132_0
                           clear hi132_0 hl132_0
                           replace p132 := eq_true p132
                           replace q132 := eq_true q132
                           go_wp2_with (first | ((with_reducible refine gate_callee (f := 31) rfl ?_); refine goesL_ (some 134) rfl rfl Try.func31 (by kernel_rfl) rfl #[.slice A132_0 (rd_L5 l2 x18_7).length c132_0, .int .i64 (wrap64 (x123_9 + x15_4))] rfl (by (try simp only [List.map_toArray, List.map_cons, List.map_nil]); first | done | rfl | (simp only [List.length_drop, List.length_take]; rfl)) ?_; (with_reducible refine (spec_Nth.calls _ _ (rd_L5 l2 x18_7) (wrap64 (x123_9 + x15_4)) t133 _ ?side1 ?side2 A49.out).mono ?_); (case side1 => repeat (first | exact (Kd.C_below HR132_0.out HB.out) | (with_reducible refine Kd.C_alloc ?_ _) | (with_reducible refine Kd.C_drewN ?_ _) | (with_reducible refine Kd.C_drew ?_))); (case side2 => exact HC132_0.out); rintro e w' ⟨rfl, ⟨nd, rfl⟩⟩; refine ⟨_, rfl, ?_⟩) | ((with_reducible refine gate_builtin (b := .append) (xs := #[.tmp 126, .tmp 135]) rfl ?_); (try (refine gate_guard (by rfl) ?_; dsimp only)); at_builtin; refine Kd.R_append (Kd.int .i64) (w0 := w) w.heap.size rfl (.tmp 126) (.tmp 135) 31 3 (.int .i64 0) 8 rfl Try.underlying31 info3 rfl (by decide) (by omega) u19 x19_9 t133 [.int .i64 t133] (fun k_ => some k_ ≠ (.slice none 0 0 : Value).ownBlock ∧ some k_ ≠ (.slice Ao45 x123000_26.length co45 : Value).ownBlock) (fun _ => False) rfl rfl ?aP (fun _ hk => hk.elim) ?aF ?aO ?aB ?aS ?aL ?_; (case aP => exact rfl); (case aB => exact (by repeat (first | (with_reducible first | exact HB.out | apply below_alloc | apply pw_below_drewN | apply below_drew1 | refine below_set ?_ GE122.out) | exact HB.out))); (case aF => exact (fun k_ hk => ⟨Kd.fresh' (Kd.R_lt (by (with_reducible repeat (first | apply Kd.R_alloc | apply Kd.R_drewN | apply Kd.R_drew)); exact HO_10.out)) k_ hk, Kd.fresh' (Kd.R_lt (by (with_reducible repeat (first | apply Kd.R_alloc | apply Kd.R_drewN | apply Kd.R_drew)); exact HO_123000.out)) k_ hk⟩)); (case aO => exact (by (with_reducible repeat (first | apply Kd.R_alloc | apply Kd.R_drewN | apply Kd.R_drew)); exact HO_19.out)); (case aS => exact (below_size (by repeat (first | (with_reducible first | exact HB.out | apply below_alloc | apply pw_below_drewN | apply below_drew1 | refine below_set ?_ GE122.out) | exact HB.out)))); (case aL => have := LMc50.out; omega); intro v135 w51 ho hb hg hat; rw [← Ny134.out] at ho; have n0_ := Aside0.mk (Kd.S_over' (by (with_reducible repeat (first | apply Kd.S_alloc | apply Kd.S_drewN | apply Kd.S_drew)); exact HO_8.out) (Kd.R_typed (by (with_reducible repeat (first | apply Kd.R_alloc | apply Kd.R_drewN | apply Kd.R_drew)); exact HO_19.out)) (by decide) hg); have n1_ := Aside0.mk (Kd.R_after (ok := (fun k_ => some k_ ≠ (.slice none 0 0 : Value).ownBlock ∧ some k_ ≠ (.slice Ao45 x123000_26.length co45 : Value).ownBlock ∧ some k_ ≠ (u123001 : Value).ownBlock ∧ k_ ≠ gb122)) (by (with_reducible repeat (first | apply Kd.R_alloc | apply Kd.R_drewN | apply Kd.R_drew)); exact Kd.R_mono HO_9.out (fun _ hk => ⟨⟨hk.1, ⟨hk.2.2.1, ⟨hk.2.2.2.1, hk.2.2.2.2⟩⟩⟩, hk.2.1⟩)) hg hat); have n2_ := Aside0.mk (Kd.R_after (ok := (fun k_ => some k_ ≠ (.slice Ao45 x123000_26.length co45 : Value).ownBlock)) (by (with_reducible repeat (first | apply Kd.R_alloc | apply Kd.R_drewN | apply Kd.R_drew)); exact Kd.R_mono HO_10.out (fun _ hk => ⟨hk.2, hk.1⟩)) hg hat); have n3_ := Aside0.mk (Kd.R_after (ok := (fun k_ => some k_ ≠ (.slice none 0 0 : Value).ownBlock)) (by (with_reducible repeat (first | apply Kd.R_alloc | apply Kd.R_drewN | apply Kd.R_drew)); exact HO_123000.out) hg hat); have n4_ := Aside0.mk (Kd.S_after (ok := (fun k_ => some k_ ≠ (.slice none 0 0 : Value).ownBlock ∧ some k_ ≠ (.slice Ao45 x123000_26.length co45 : Value).ownBlock)) (by (with_reducible repeat (first | apply Kd.S_alloc | apply Kd.S_drewN | apply Kd.S_drew)); exact Kd.S_mono HO_123001.out (fun _ hk => ⟨⟨hk.1, hk.2.2⟩, hk.2.1⟩)) hg hat); have n5_ := Aside0.mk (blk_grown (g := gb122) (o := .cells #[.slice Ao45 x123000_26.length co45, u123001] 41 (0, 0)) (by (with_reducible repeat (first | refine b1_ ?_ _ | refine b2_ ?_ | refine b3_ ?_ _)); exact BK122.out) hg (Kd.R_ne HO_19.out BK122.out (by decide))); have n6_ := Aside0.mk (hb); have n7_ := Aside0.mk (ho); clear HO_8; clear HO_9; clear HO_10; clear HO_123000; clear HO_123001; clear BK122; clear HB; clear HO_19; have HO_8 := n0_; have HO_9 := n1_; have HO_10 := n2_; have HO_123000 := n3_; have HO_123001 := n4_; have BK122 := n5_; have HB := n6_; have HO136 := n7_; clear n0_ n1_ n2_ n3_ n4_ n5_ n6_ n7_; clear ho hb hg hat))
                           go_roundg k9
                           case measure => have := HJ5.out; have := HK2.out; have := HJ10.out; have := HK4.out; have := HJ23.out; have := HJ26.out; have := HK7.out; have := HJ40.out; have := HK9.out; omega
                           case rel => exact ⟨(y134), (wrap64 (x123_9 + 1)), (by first | rfl | (simp; done) | (simp [*]; done)), H', ⟨by have := HJ5.out; have := HK2.out; have := HJ10.out; have := HK4.out; have := HJ23.out; have := HJ26.out; have := HK7.out; have := HJ40.out; have := HK9.out; omega⟩, ⟨by (with_reducible repeat (first | apply Kd.S_alloc | apply Kd.S_drewN | apply Kd.S_drew)); exact HO_8.out⟩, ⟨by (with_reducible repeat (first | apply Kd.R_alloc | apply Kd.R_drewN | apply Kd.R_drew)); exact Kd.R_mono HO_9.out (fun _ hk => ⟨hk.1.1, ⟨hk.2, ⟨hk.1.2.1, ⟨hk.1.2.2.1, hk.1.2.2.2⟩⟩⟩⟩)⟩, ⟨by (with_reducible repeat (first | apply Kd.R_alloc | apply Kd.R_drewN | apply Kd.R_drew)); exact Kd.R_mono HO_10.out (fun _ hk => ⟨hk.2, hk.1⟩)⟩, ⟨by (with_reducible repeat (first | apply Kd.R_alloc | apply Kd.R_drewN | apply Kd.R_drew)); exact HO136.out⟩, ⟨by (with_reducible repeat (first | apply Kd.R_alloc | apply Kd.R_drewN | apply Kd.R_drew)); exact HO_123000.out⟩, ⟨by (with_reducible repeat (first | apply Kd.S_alloc | apply Kd.S_drewN | apply Kd.S_drew)); exact Kd.S_mono HO_123001.out (fun _ hk => ⟨hk.1.1, ⟨hk.2, hk.1.2⟩⟩)⟩, ⟨by (with_reducible repeat (first | refine b1_ ?_ _ | refine b2_ ?_ | refine b3_ ?_ _)); exact BK122.out⟩, ⟨by repeat (first | (with_reducible first | exact HB.out | apply below_alloc | apply pw_below_drewN | apply below_drew1 | refine below_set ?_ GE122.out) | exact HB.out)⟩⟩
                          ·rw [if_neg c50] at H
                           exact absurd H (by simp)
                         ·rw [if_neg c48] at H
                          exact absurd H (by simp)
                        ·rw [if_neg c47] at H
                         exact absurd H (by simp)
                       ·rw [if_neg c46] at H
                        have c46b0 : decide (x123_9 < (x123000_26.length : Int)) = false := decide_eq_false c46
                        clear c46
                        by_cases c52 : x123001_7.length < 5864062014805
                        ·rw [if_pos c52] at H
                         have LMc52 := Aside0.mk c52
                         clear c52
                         obtain ⟨y137, hy137⟩ : ∃ y_ : List (List Int), y_ = (x123001_7 ++ [x19_9]) := ⟨_, rfl⟩
                         replace H : (spec_SomeStore.l4 k9 l1 l2 l3 x8_2 x9_4 ([] : List Int) ji5 x15_4 (wrap64 (x18_7 + 1)) x123000_26 y137) = some (r1, r2, r3) := by first | (rw [hy137]; with_reducible exact H) | (have H2_ := (Option.bind_some _ _).symm.trans H; rw [hy137]; with_reducible exact H2_) | (have H2_ := (Option.bind_some _ _).symm.trans H; with_reducible exact H2_) | with_reducible exact H | (rw [hy137]; exact H) | exact H
                         have Ny137 := Aside0.mk hy137
                         clear hy137
                         have H' := Aside0.mk H
                         clear H
                         have hcz53_0 : wr.cell? ⟨gb122, 0, none⟩ = some (.slice Ao45 x123000_26.length co45) := (blk_cell BK122.out 0).trans rfl
                         have hcz53_1 : wr.cell? ⟨gb122, 1, none⟩ = some (u123001) := (blk_cell BK122.out 1).trans rfl
                         have hfz53_0 := blk_frozen BK122.out 0
                         have hfz53_1 := blk_frozen BK122.out 1
                         obtain ⟨Ao55, co55, eo55⟩ := Kd.R_slice HO_19.out
                         subst eo55
                         go_wp2_with (first | ((with_reducible refine gate_builtin (b := .append) (xs := #[.tmp 139, .tmp 141]) rfl ?_); (try (refine gate_guard (by rfl) ?_; dsimp only)); at_builtin; refine Kd.S_append (Kd.slice 3 (Kd.int .i64)) (w0 := w) w.heap.size rfl (.tmp 139) (.tmp 141) 39 31 (.slice none 0 0) 24 rfl Try.underlying39 info31 rfl (by decide) (by omega) u123001 x123001_7 x19_9 [.slice Ao55 x19_9.length co55] (fun k_ => some k_ ≠ (.slice none 0 0 : Value).ownBlock ∧ some k_ ≠ (.slice Ao45 x123000_26.length co45 : Value).ownBlock) (fun k_ => some k_ = (.slice Ao55 x19_9.length co55 : Value).ownBlock) rfl rfl ?aP (fun k_ hk_ => ((Kd.R_mono (ok' := fun k_ => ((fun k_ => some k_ ≠ (.slice none 0 0 : Value).ownBlock ∧ some k_ ≠ (.slice Ao45 x123000_26.length co45 : Value).ownBlock)) k_ ∧ some k_ ≠ (u123001 : Value).ownBlock) (Kd.R_apart' (HO_19.out) (Kd.S_typed HO_123001.out) (by decide)) (fun k_ hk => ⟨⟨hk.1.1, hk.1.2⟩, hk.2⟩))).1 k_ hk_.symm) ?aF ?aO ?aB ?aS ?aL ?_; (case aP => exact Kd.M_row (Kd.R_mono (Kd.R_tight rfl (Kd.R_mono (ok' := fun k_ => ((fun k_ => some k_ ≠ (.slice none 0 0 : Value).ownBlock ∧ some k_ ≠ (.slice Ao45 x123000_26.length co45 : Value).ownBlock)) k_ ∧ some k_ ≠ (u123001 : Value).ownBlock) (Kd.R_apart' (HO_19.out) (Kd.S_typed HO_123001.out) (by decide)) (fun k_ hk => ⟨⟨hk.1.1, hk.1.2⟩, hk.2⟩))) (fun _ h_ => h_))); (case aB => exact (by repeat (first | (with_reducible first | exact HB.out | apply below_alloc | apply pw_below_drewN | apply below_drew1 | refine below_set ?_ GE122.out) | exact HB.out))); (case aF => exact (fun k_ hk => ⟨Kd.fresh' (Kd.R_lt (by (with_reducible repeat (first | apply Kd.R_alloc | apply Kd.R_drewN | apply Kd.R_drew)); exact HO_10.out)) k_ hk, Kd.fresh' (Kd.R_lt (by (with_reducible repeat (first | apply Kd.R_alloc | apply Kd.R_drewN | apply Kd.R_drew)); exact HO_123000.out)) k_ hk⟩)); (case aO => exact (by (with_reducible repeat (first | apply Kd.S_alloc | apply Kd.S_drewN | apply Kd.S_drew)); exact Kd.S_mono HO_123001.out (fun k_ hk => ⟨⟨hk.1, hk.2.2⟩, fun e_ => hk.2.1 e_⟩))); (case aS => exact (below_size (by repeat (first | (with_reducible first | exact HB.out | apply below_alloc | apply pw_below_drewN | apply below_drew1 | refine below_set ?_ GE122.out) | exact HB.out)))); (case aL => have := LMc52.out; omega); intro v138 w54 ho hb hg hat; rw [← Ny137.out] at ho; have n0_ := Aside0.mk (Kd.S_over' (by (with_reducible repeat (first | apply Kd.S_alloc | apply Kd.S_drewN | apply Kd.S_drew)); exact HO_8.out) (Kd.S_typed (by (with_reducible repeat (first | apply Kd.S_alloc | apply Kd.S_drewN | apply Kd.S_drew)); exact HO_123001.out)) (by decide) hg); have n1_ := Aside0.mk (Kd.R_after (ok := (fun k_ => some k_ ≠ (.slice none 0 0 : Value).ownBlock ∧ some k_ ≠ (.slice Ao55 x19_9.length co55 : Value).ownBlock ∧ some k_ ≠ (.slice Ao45 x123000_26.length co45 : Value).ownBlock ∧ k_ ≠ gb122)) (by (with_reducible repeat (first | apply Kd.R_alloc | apply Kd.R_drewN | apply Kd.R_drew)); exact Kd.R_mono HO_9.out (fun _ hk => ⟨⟨hk.1, ⟨hk.2.1, ⟨hk.2.2.1, hk.2.2.2.2⟩⟩⟩, hk.2.2.2.1⟩)) hg hat); have n2_ := Aside0.mk (Kd.R_over' (by (with_reducible repeat (first | apply Kd.R_alloc | apply Kd.R_drewN | apply Kd.R_drew)); exact HO_10.out) (Kd.S_typed (by (with_reducible repeat (first | apply Kd.S_alloc | apply Kd.S_drewN | apply Kd.S_drew)); exact HO_123001.out)) (by decide) hg); have n3_ := Aside0.mk (Kd.R_over' (by (with_reducible repeat (first | apply Kd.R_alloc | apply Kd.R_drewN | apply Kd.R_drew)); exact HO_123000.out) (Kd.S_typed (by (with_reducible repeat (first | apply Kd.S_alloc | apply Kd.S_drewN | apply Kd.S_drew)); exact HO_123001.out)) (by decide) hg); have n4_ := Aside0.mk (blk_grown (g := gb122) (o := .cells #[.slice Ao45 x123000_26.length co45, u123001] 41 (0, 0)) (by (with_reducible repeat (first | refine b1_ ?_ _ | refine b2_ ?_ | refine b3_ ?_ _)); exact BK122.out) hg (Kd.S_ne HO_123001.out BK122.out (by decide))); have n5_ := Aside0.mk (hb); have n6_ := Aside0.mk (ho); clear HO_8; clear HO_9; clear HO_10; clear HO_123000; clear BK122; clear HB; clear HO_123001; clear HO_19; have HO_8 := n0_; have HO_9 := n1_; have HO_10 := n2_; have HO_123000 := n3_; have BK122 := n4_; have HB := n5_; have HO139 := n6_; clear n0_ n1_ n2_ n3_ n4_ n5_ n6_; clear ho hb hg hat; obtain ⟨Ao56, co56, eo56⟩ := Kd.S_slice HO139.out; subst eo56; have hcz57_0 : w54.cell? ⟨gb122, 0, none⟩ = some (.slice Ao45 x123000_26.length co45) := (blk_cell BK122.out 0).trans rfl; have hcz57_1 : w54.cell? ⟨gb122, 1, none⟩ = some (u123001) := (blk_cell BK122.out 1).trans rfl; have hfz57_0 := blk_frozen BK122.out 0; have hfz57_1 := blk_frozen BK122.out 1))
                         go_roundg k9
                         case measure => have := HJ5.out; have := HK2.out; have := HJ10.out; have := HK4.out; have := HJ23.out; have := HJ26.out; have := HK7.out; have := HJ40.out; have := HK9.out; omega
                         case rel => exact ⟨(wrap64 (x18_7 + 1)), (y137), (.slice Ao56 y137.length co56), (by first | rfl | (simp; done) | (simp [*]; done)), H', ⟨by have := HJ5.out; have := HK2.out; have := HJ10.out; have := HK4.out; have := HJ23.out; have := HJ26.out; have := HK7.out; have := HJ40.out; have := HK9.out; omega⟩, ⟨by (with_reducible repeat (first | apply Kd.S_alloc | apply Kd.S_drewN | apply Kd.S_drew)); exact Kd.S_mono (Kd.S_far (p := ⟨gb122, 1, none⟩) (Kd.S_types HO_8.out BK122.out (by decide)) (fun _ hk => hk.2) (.slice Ao56 y137.length co56)) (fun _ hk => trivial)⟩, ⟨by (with_reducible repeat (first | apply Kd.R_alloc | apply Kd.R_drewN | apply Kd.R_drew)); exact Kd.R_mono (Kd.R_far (p := ⟨gb122, 1, none⟩) (Kd.R_mono HO_9.out (fun k_ hk => (⟨hk, hk.1.2.2.2⟩ : _ ∧ k_ ≠ gb122))) (fun _ hk => hk.2) (.slice Ao56 y137.length co56)) (fun _ hk => ⟨hk.1.1.1, ⟨hk.1.1.2.2.1, ⟨hk.1.2, hk.1.1.2.2.2⟩⟩⟩)⟩, ⟨by (with_reducible repeat (first | apply Kd.R_alloc | apply Kd.R_drewN | apply Kd.R_drew)); exact Kd.R_mono (Kd.R_far (p := ⟨gb122, 1, none⟩) (Kd.R_types HO_10.out BK122.out (by decide)) (fun _ hk => hk.2) (.slice Ao56 y137.length co56)) (fun _ hk => hk.1.2)⟩, ⟨by (with_reducible repeat (first | apply Kd.R_alloc | apply Kd.R_drewN | apply Kd.R_drew)); exact Kd.R_mono (Kd.R_far (p := ⟨gb122, 1, none⟩) (Kd.R_types HO_123000.out BK122.out (by decide)) (fun _ hk => hk.2) (.slice Ao56 y137.length co56)) (fun _ hk => hk.1.1)⟩, ⟨by (with_reducible repeat (first | apply Kd.S_alloc | apply Kd.S_drewN | apply Kd.S_drew)); exact Kd.S_mono (Kd.S_far (p := ⟨gb122, 1, none⟩) (Kd.S_types HO139.out BK122.out (by decide)) (fun _ hk => hk.2) (.slice Ao56 y137.length co56)) (fun _ hk => ⟨hk.1.1, hk.1.2⟩)⟩, ⟨by (with_reducible repeat (first | refine b1_ ?_ _ | refine b2_ ?_ | refine b3_ ?_ _)); refine blk_put (cs := #[.slice Ao45 x123000_26.length co45, u123001]) ?_ 1 _ rfl; (with_reducible repeat (first | refine b1_ ?_ _ | refine b2_ ?_ | refine b3_ ?_ _)); exact BK122.out⟩, ⟨by repeat (first | (with_reducible first | exact HB.out | apply below_alloc | apply pw_below_drewN | apply below_drew1 | refine below_set ?_ GE122.out) | exact HB.out)⟩⟩
                        ·rw [if_neg c52] at H
                         exact absurd H (by simp)
                    ·replace c43 := Bool.eq_false_iff.mpr c43
                     subst c43
                     have H1 : (if x9_4.length < 2932031007402 then (spec_SomeStore.l2 kj40 l1 l2 l3 x8_2 (x9_4 ++ [(⟨x123000_26, x123001_7⟩ : S41)]) ([] : List Int) ji5 (wrap64 (x15_4 + 1))) else (none)) = some (r1, r2, r3) := by rw [if_neg (show ¬ (false = true) by decide)] at H; exact H
                     clear H
                     have H := H1
                     clear H1
                     by_cases c58 : x9_4.length < 2932031007402
                     ·rw [if_pos c58] at H
                      have LMc58 := Aside0.mk c58
                      clear c58
                      obtain ⟨y129, hy129⟩ : ∃ y_ : List (S41), y_ = (x9_4 ++ [(⟨x123000_26, x123001_7⟩ : S41)]) := ⟨_, rfl⟩
                      replace H : (spec_SomeStore.l2 kj40 l1 l2 l3 x8_2 y129 ([] : List Int) ji5 (wrap64 (x15_4 + 1))) = some (r1, r2, r3) := by first | (rw [hy129]; with_reducible exact H) | (have H2_ := (Option.bind_some _ _).symm.trans H; rw [hy129]; with_reducible exact H2_) | (have H2_ := (Option.bind_some _ _).symm.trans H; with_reducible exact H2_) | with_reducible exact H | (rw [hy129]; exact H) | exact H
                      have Ny129 := Aside0.mk hy129
                      clear hy129
                      have H' := Aside0.mk H
                      clear H
                      have hcz59_0 : wc.cell? ⟨gb122, 0, none⟩ = some (u123000) := (blk_cell BK122.out 0).trans rfl
                      have hcz59_1 : wc.cell? ⟨gb122, 1, none⟩ = some (u123001) := (blk_cell BK122.out 1).trans rfl
                      have hfz59_0 := blk_frozen BK122.out 0
                      have hfz59_1 := blk_frozen BK122.out 1
                      obtain ⟨Ao61, co61, eo61⟩ := Kd.R_slice HO_123000.out
                      subst eo61
                      obtain ⟨Ao62, co62, eo62⟩ := Kd.S_slice HO_123001.out
                      subst eo62
                      go_wp2_with (first | ((with_reducible refine gate_builtin (b := .append) (xs := #[.tmp 144, .tmp 146]) rfl ?_); (try (refine gate_guard (by rfl) ?_; dsimp only)); at_builtin; refine Kd.R_append k41 (w0 := w) w.heap.size rfl (.tmp 144) (.tmp 146) 30 41 (.agg #[(.slice none 0 0), (.slice none 0 0)]) 48 rfl Try.underlying30 info41 rfl (by decide) (by omega) u9 x9_4 (⟨x123000_26, x123001_7⟩ : S41) [.slice Ao61 x123000_26.length co61, .slice Ao62 x123001_7.length co62] (fun k_ => some k_ ≠ (.slice none 0 0 : Value).ownBlock ∧ k_ ≠ gb122) (fun k_ => ((fun k_ => some k_ ≠ (.slice none 0 0 : Value).ownBlock ∧ k_ ≠ gb122)) k_ ∧ some k_ ≠ (u9 : Value).ownBlock) rfl rfl ?aP (fun _ hk => hk) ?aF ?aO ?aB ?aS ?aL ?_; (case aP => exact k41_mkM _ _ _ (⟨x123000_26, x123001_7⟩ : S41) (Kd.R_mono (Kd.R_types (Kd.R_apart' (HO_123000.out) (Kd.R_typed HO_9.out) (by decide)) BK122.out (by decide)) (fun k_ hk => ⟨⟨hk.1.1, hk.2⟩, hk.1.2⟩)) (Kd.R_mono (Kd.R_types (Kd.R_apart' ((Kd.S_R HO_123001.out)) (Kd.R_typed HO_9.out) (by decide)) BK122.out (by decide)) (fun k_ hk => ⟨⟨hk.1.1.1, hk.2⟩, hk.1.2⟩))); (case aB => exact (by repeat (first | (with_reducible first | exact HB.out | apply below_alloc | apply pw_below_drewN | apply below_drew1 | refine below_set ?_ GE122.out) | exact HB.out))); (case aF => exact (fun k_ hk => ⟨Kd.fresh' (Kd.R_lt (by (with_reducible repeat (first | apply Kd.R_alloc | apply Kd.R_drewN | apply Kd.R_drew)); exact HO_10.out)) k_ hk, Kd.freshB (g := gb122) (o := .cells #[.slice Ao61 x123000_26.length co61, .slice Ao62 x123001_7.length co62] 41 (0, 0)) (by (with_reducible repeat (first | refine b1_ ?_ _ | refine b2_ ?_ | refine b3_ ?_ _)); exact BK122.out) k_ hk⟩)); (case aO => exact (by (with_reducible repeat (first | apply Kd.R_alloc | apply Kd.R_drewN | apply Kd.R_drew)); exact Kd.R_mono HO_9.out (fun _ hk => ⟨hk.1, hk.2.2.2⟩))); (case aS => exact (below_size (by repeat (first | (with_reducible first | exact HB.out | apply below_alloc | apply pw_below_drewN | apply below_drew1 | refine below_set ?_ GE122.out) | exact HB.out)))); (case aL => have := LMc58.out; omega); intro v130 w60 ho hb hg hat; rw [← Ny129.out] at ho; have n0_ := Aside0.mk (Kd.S_over' (by (with_reducible repeat (first | apply Kd.S_alloc | apply Kd.S_drewN | apply Kd.S_drew)); exact HO_8.out) (Kd.R_typed (by (with_reducible repeat (first | apply Kd.R_alloc | apply Kd.R_drewN | apply Kd.R_drew)); exact HO_9.out)) (by decide) hg); have n1_ := Aside0.mk (Kd.R_over' (by (with_reducible repeat (first | apply Kd.R_alloc | apply Kd.R_drewN | apply Kd.R_drew)); exact HO_10.out) (Kd.R_typed (by (with_reducible repeat (first | apply Kd.R_alloc | apply Kd.R_drewN | apply Kd.R_drew)); exact HO_9.out)) (by decide) hg); have n2_ := Aside0.mk (blk_grown (g := gb122) (o := .cells #[.slice Ao61 x123000_26.length co61, .slice Ao62 x123001_7.length co62] 41 (0, 0)) (by (with_reducible repeat (first | refine b1_ ?_ _ | refine b2_ ?_ | refine b3_ ?_ _)); exact BK122.out) hg (Kd.R_away HO_9.out (fun _ hk => hk.2.2.2))); have n3_ := Aside0.mk (hb); have n4_ := Aside0.mk (ho); clear HO_8; clear HO_10; clear BK122; clear HB; clear HO_9; clear HO_123000; clear HO_123001; have HO_8 := n0_; have HO_10 := n1_; have BK122 := n2_; have HB := n3_; have HO131 := n4_; clear n0_ n1_ n2_ n3_ n4_; clear ho hb hg hat))
                      go_roundg kj40
                      case measure => have := HJ5.out; have := HK2.out; have := HJ10.out; have := HK4.out; have := HJ23.out; have := HJ26.out; have := HK7.out; have := HJ40.out; omega
                      case rel => exact ⟨(y129), (wrap64 (x15_4 + 1)), (by first | rfl | (simp; done) | (simp [*]; done)), H', ⟨by have := HJ5.out; have := HK2.out; have := HJ10.out; have := HK4.out; have := HJ23.out; have := HJ26.out; have := HK7.out; have := HJ40.out; omega⟩, ⟨by (with_reducible repeat (first | apply Kd.S_alloc | apply Kd.S_drewN | apply Kd.S_drew)); exact HO_8.out⟩, ⟨by (with_reducible repeat (first | apply Kd.R_alloc | apply Kd.R_drewN | apply Kd.R_drew)); exact Kd.R_mono HO131.out (fun _ hk => hk.1)⟩, ⟨by (with_reducible repeat (first | apply Kd.R_alloc | apply Kd.R_drewN | apply Kd.R_drew)); exact Kd.R_mono HO_10.out (fun _ hk => trivial)⟩, ⟨by repeat (first | (with_reducible first | exact HB.out | apply below_alloc | apply pw_below_drewN | apply below_drew1 | refine below_set ?_ GE122.out) | exact HB.out)⟩⟩
                     ·rw [if_neg c58] at H
                      exact absurd H (by simp)
             ·replace c26 := Bool.eq_false_iff.mpr c26
              subst c26
              have H1 : (if 0 ≤ ji5 then (if ji5 ≤ (l3.length : Int) then (spec_SomeStore.l6 kj23 x8_2 x9_4 ([] : List Int) (l3.take (ji5 : Int).toNat) ((l3.take (ji5 : Int).toNat).length : Int) 0) else (none)) else (none)) = some (r1, r2, r3) := by rw [if_neg (show ¬ (false = true) by decide)] at H; exact H
              clear H
              have H := H1
              clear H1
              by_cases c63 : 0 ≤ ji5
              ·rw [if_pos c63] at H
               have c63b0 := eq_true c63
               have c63b1 : decide (0 ≤ ji5) = true := decide_eq_true c63
               clear c63
               by_cases c64 : ji5 ≤ (l3.length : Int)
               ·rw [if_pos c64] at H
                have c64b0 := eq_true c64
                have c64b1 : decide (ji5 ≤ (l3.length : Int)) = true := decide_eq_true c64
                have HT_ji5_l3 := Aside0.mk (show ji5 ≤ (l3.length : Int) from c64)
                clear c64
                have H' := Aside0.mk H
                clear H
                obtain ⟨i065, hi065, _, hsz65, _⟩ := info_parts info98
                obtain ⟨hcut65, hA65, hC65⟩ := print_take_of (P := Try.prog) (Value.int .i16) 0 25 98 .i64 Try.underlying25 hi065 hsz65 A3 c3 l3 ji5 (of_decide_eq_true (by first | (with_reducible assumption) | assumption)) (of_decide_eq_true (by first | (with_reducible assumption) | assumption)) HC3.out
                have HR140 := Aside0.mk (Kd.C_of_reads (h1 := fun _ => rfl) (hA65 _ (Kd.reads_of_C HR3.out)))
                have HC140 := Aside0.mk hC65
                clear hA65 hC65 hi065 hsz65
                go_wp2
                go_loopg [10, 152] kj23 (fun kq v10 v152 w' => ∃ (x10_6 : List Int) (x152_6 : Int), v152 = .int .i64 x152_6 ∧ Aside0 (spec_SomeStore.l6 kq x8_2 x9_4 x10_6 (l3.take (ji5 : Int).toNat) ((l3.take (ji5 : Int).toNat).length : Int) x152_6 = some (r1, r2, r3)) ∧ Aside0 (kq ≤ kj23) ∧ Aside0 (Kd.S (Kd.slice 36 k36) 38 w' w.heap.size (fun _ => True) u8 x8_2) ∧ Aside0 (Kd.R k41 41 w' w.heap.size (fun k_ => some k_ ≠ (v10 : Value).ownBlock) u9 x9_4) ∧ Aside0 (Kd.R (Kd.int .i64) 3 w' w.heap.size (fun _ => True) v10 x10_6) ∧ Aside0 (Below w.heap.size w w'))
                case atStart => exact ⟨(([] : List Int)), (0), (by first | rfl | (simp; done) | (simp [*]; done)), H', ⟨Nat.le_refl _⟩, ⟨by (with_reducible repeat (first | apply Kd.S_alloc | apply Kd.S_drewN | apply Kd.S_drew)); exact HO_8.out⟩, ⟨by (with_reducible repeat (first | apply Kd.R_alloc | apply Kd.R_drewN | apply Kd.R_drew)); exact HO_9.out⟩, ⟨by (with_reducible repeat (first | apply Kd.R_alloc | apply Kd.R_drewN | apply Kd.R_drew)); exact HO_10.out⟩, ⟨by repeat (first | (with_reducible first | exact HB.out | apply below_alloc | apply pw_below_drewN | apply below_drew1) | exact HB.out)⟩⟩
                case round =>
                 clear H'
                 try clear c1
                 try clear p1
                 try clear q1
                 try clear hx1
                 try clear c2
                 try clear p2
                 try clear c3
                 try clear c4
                 try clear c5
                 try clear c6
                 try clear p6
                 try clear c7
                 try clear c7b0
                 try clear c7b1
                 try clear c7b2
                 try clear c8
                 try clear c8b0
                 try clear c8b1
                 try clear c9
                 try clear c9b0
                 try clear c9b1
                 try clear c9b2
                 try clear c10
                 try clear c11
                 try clear p11
                 try clear q11
                 try clear hx11
                 try clear c12
                 try clear c12b0
                 try clear p12
                 try clear q12
                 try clear hx12
                 try clear c13
                 try clear p13
                 try clear q13
                 try clear hx13
                 try clear c14
                 try clear c14b0
                 try clear c15
                 try clear c15b0
                 try clear c16
                 try clear c16b0
                 try clear c18
                 try clear c21
                 try clear c25
                 try clear c25b0
                 try clear c26
                 try clear c29
                 try clear c29b0
                 try clear c30
                 try clear c30b0
                 try clear c31
                 try clear c31b0
                 try clear c32
                 try clear c32b0
                 try clear c33
                 try clear c33b0
                 try clear c34
                 try clear c34b0
                 try clear c34b1
                 try clear c34b2
                 try clear c35
                 try clear c42
                 try clear c42b0
                 try clear c43
                 try clear c46
                 try clear c46b0
                 try clear c47
                 try clear c47b0
                 try clear c48
                 try clear c48b0
                 try clear c50
                 try clear c52
                 try clear c58
                 try clear c63
                 try clear c63b0
                 try clear c63b1
                 try clear c64
                 try clear c64b0
                 try clear c64b1
                 try clear p64
                 try clear hcz44_0
                 try clear hcz44_1
                 try clear hcz53_0
                 try clear hcz53_1
                 try clear hcz57_0
                 try clear hcz57_1
                 try clear hcz59_0
                 try clear hcz59_1
                 try clear hfz44_0
                 try clear hfz44_1
                 try clear hfz53_0
                 try clear hfz53_1
                 try clear hfz57_0
                 try clear hfz57_1
                 try clear hfz59_0
                 try clear hfz59_1
                 try clear hx112_0
                 try clear hx123_0
                 try clear hx124_0
                 try clear hx125_0
                 try clear hx132_0
                 try clear p1
                 try clear p11
                 try clear p112
                 try clear p12
                 try clear p123
                 try clear p124
                 try clear p125
                 try clear p132
                 try clear p2
                 try clear p6
                 try clear q1
                 try clear q11
                 try clear q112
                 try clear q12
                 try clear q123
                 try clear q124
                 try clear q125
                 try clear q132
                 obtain ⟨x10_6, x152_6, rfl, HA, HK6, HO_8, HO_9, HO_10, HB⟩ := hrel
                 cases gk with
                 | zero => exact absurd HA.out (by simp [spec_SomeStore.l6])
                 | succ k6 =>
                  have H := HA.out
                  clear HA
                  simp only [spec_SomeStore.l6] at H
                  by_cases c66 : x152_6 < ((l3.take (ji5 : Int).toNat).length : Int)
                  ·rw [if_pos c66] at H
                   have c66b0 : decide (x152_6 < ((l3.take (ji5 : Int).toNat).length : Int)) = true := decide_eq_true c66
                   have c66m_ : decide (x152_6 < max ji5 0) = true := by have q1 := of_decide_eq_true c66b0; have q2 := HT_ji5_l3.out; rw [List.length_take] at q1; exact decide_eq_true (by omega)
                   have c66n_ := eq_true (of_decide_eq_true c66m_)
                   clear c66
                   by_cases c67 : 0 ≤ x152_6
                   ·rw [if_pos c67] at H
                    have c67b0 : decide (0 ≤ x152_6) = true := decide_eq_true c67
                    clear c67
                    by_cases c68 : x152_6 < ((l3.take (ji5 : Int).toNat).length : Int)
                    ·rw [if_pos c68] at H
                     have c68b0 : decide (x152_6 < ((l3.take (ji5 : Int).toNat).length : Int)) = true := decide_eq_true c68
                     have c68m_ : decide (x152_6 < max ji5 0) = true := by have q1 := of_decide_eq_true c68b0; have q2 := HT_ji5_l3.out; rw [List.length_take] at q1; exact decide_eq_true (by omega)
                     have c68n_ := eq_true (of_decide_eq_true c68m_)
                     clear c68
                     replace H := Option.bind_eq_some_iff.mp H
                     obtain ⟨t142, A690, H⟩ := H
                     replace H : (if x10_6.length < 17592186044416 then (spec_SomeStore.l6 k6 x8_2 x9_4 (x10_6 ++ [t142]) (l3.take (ji5 : Int).toNat) ((l3.take (ji5 : Int).toNat).length : Int) (wrap64 (x152_6 + 1))) else (none)) = some (r1, r2, r3) := H
                     have A69 := Aside0.mk A690
                     clear A690
                     by_cases c70 : x10_6.length < 17592186044416
                     ·rw [if_pos c70] at H
                      have LMc70 := Aside0.mk c70
                      clear c70
                      obtain ⟨y143, hy143⟩ : ∃ y_ : List Int, y_ = (x10_6 ++ [t142]) := ⟨_, rfl⟩
                      replace H : (spec_SomeStore.l6 k6 x8_2 x9_4 y143 (l3.take (ji5 : Int).toNat) ((l3.take (ji5 : Int).toNat).length : Int) (wrap64 (x152_6 + 1))) = some (r1, r2, r3) := by first | (rw [hy143]; with_reducible exact H) | (have H2_ := (Option.bind_some _ _).symm.trans H; rw [hy143]; with_reducible exact H2_) | (have H2_ := (Option.bind_some _ _).symm.trans H; with_reducible exact H2_) | with_reducible exact H | (rw [hy143]; exact H) | exact H
                      have Ny143 := Aside0.mk hy143
                      clear hy143
                      have H' := Aside0.mk H
                      clear H
                      have p141 : 0 ≤ (x152_6 : Int) := of_decide_eq_true (by first | (with_reducible assumption) | assumption)
                      have q141 : x152_6 < ((l3.take (ji5 : Int).toNat).length : Int) := of_decide_eq_true (by first | (with_reducible assumption) | assumption)
                      obtain ⟨ad141, e141, hx141_0⟩ := Kd.at_int HR140.out x152_6 p141 q141
                      cases e141
                      replace hx141_0 := (HB.out.cell (World.block_lt_of_cell? w _ hx141_0)).trans hx141_0
                      replace p141 := eq_true p141
                      replace q141 := eq_true q141
                      go_wp2_with (first | ((with_reducible refine gate_callee (f := 32) rfl ?_); refine goesL_ (some 158) rfl rfl Try.func32 (by kernel_rfl) rfl #[.int .i16 (rd (l3.take (ji5 : Int).toNat) x152_6)] rfl (by (try simp only [List.map_toArray, List.map_cons, List.map_nil]); first | done | (simp only [hji5]; rfl) | rfl | (simp only [List.length_drop, List.length_take]; rfl)) ?_; (with_reducible refine (spec_Coord.calls (rd (l3.take (ji5 : Int).toNat) x152_6) t142 _ A69.out).mono ?_); rintro e w71 ⟨rfl, hb⟩; refine ⟨_, rfl, ?_⟩; have n0_ := Aside0.mk (Kd.S_below (by (with_reducible repeat (first | apply Kd.S_alloc | apply Kd.S_drewN | apply Kd.S_drew)); exact HO_8.out) hb); have n1_ := Aside0.mk (Kd.R_below (by (with_reducible repeat (first | apply Kd.R_alloc | apply Kd.R_drewN | apply Kd.R_drew)); exact HO_9.out) hb); have n2_ := Aside0.mk (Kd.R_below (by (with_reducible repeat (first | apply Kd.R_alloc | apply Kd.R_drewN | apply Kd.R_drew)); exact HO_10.out) hb); have n3_ := Aside0.mk (below_step (by repeat (first | (with_reducible first | exact HB.out | apply below_alloc | apply pw_below_drewN | apply below_drew1) | exact HB.out)) hb); clear HO_8; clear HO_9; clear HO_10; clear HB; have HO_8 := n0_; have HO_9 := n1_; have HO_10 := n2_; have HB := n3_; clear n0_ n1_ n2_ n3_; (try clear hb); (try clear hb2); (try clear hk); (try clear hi)) | ((with_reducible refine gate_builtin (b := .append) (xs := #[.tmp 156, .tmp 159]) rfl ?_); (try (refine gate_guard (by rfl) ?_; dsimp only)); at_builtin; refine Kd.R_append (Kd.int .i64) (w0 := w) w.heap.size rfl (.tmp 156) (.tmp 159) 31 3 (.int .i64 0) 8 rfl Try.underlying31 info3 rfl (by decide) (by omega) u10 x10_6 t142 [.int .i64 t142] (fun _ => True) (fun _ => False) rfl rfl ?aP (fun _ hk => hk.elim) ?aF ?aO ?aB ?aS ?aL ?_; (case aP => exact rfl); (case aB => exact (by repeat (first | (with_reducible first | exact HB.out | apply below_alloc | apply pw_below_drewN | apply below_drew1) | exact HB.out))); (case aF => exact (fun _ _ => trivial)); (case aO => exact (by (with_reducible repeat (first | apply Kd.R_alloc | apply Kd.R_drewN | apply Kd.R_drew)); exact HO_10.out)); (case aS => exact (below_size (by repeat (first | (with_reducible first | exact HB.out | apply below_alloc | apply pw_below_drewN | apply below_drew1) | exact HB.out)))); (case aL => have := LMc70.out; omega); intro v144 w72 ho hb hg hat; rw [← Ny143.out] at ho; have n0_ := Aside0.mk (Kd.S_over' (by (with_reducible repeat (first | apply Kd.S_alloc | apply Kd.S_drewN | apply Kd.S_drew)); exact HO_8.out) (Kd.R_typed (by (with_reducible repeat (first | apply Kd.R_alloc | apply Kd.R_drewN | apply Kd.R_drew)); exact HO_10.out)) (by decide) hg); have n1_ := Aside0.mk (Kd.R_after (ok := (fun _ => True)) (by (with_reducible repeat (first | apply Kd.R_alloc | apply Kd.R_drewN | apply Kd.R_drew)); exact Kd.R_mono HO_9.out (fun _ hk => ⟨trivial, hk⟩)) hg hat); have n2_ := Aside0.mk (hb); have n3_ := Aside0.mk (ho); clear HO_8; clear HO_9; clear HB; clear HO_10; have HO_8 := n0_; have HO_9 := n1_; have HB := n2_; have HO145 := n3_; clear n0_ n1_ n2_ n3_; clear ho hb hg hat))
                      go_roundg k6
                      case measure => have := HJ5.out; have := HK2.out; have := HJ10.out; have := HK4.out; have := HJ23.out; have := HK6.out; omega
                      case rel => exact ⟨(y143), (wrap64 (x152_6 + 1)), (by first | rfl | (simp; done) | (simp [*]; done)), H', ⟨by have := HJ5.out; have := HK2.out; have := HJ10.out; have := HK4.out; have := HJ23.out; have := HK6.out; omega⟩, ⟨by (with_reducible repeat (first | apply Kd.S_alloc | apply Kd.S_drewN | apply Kd.S_drew)); exact HO_8.out⟩, ⟨by (with_reducible repeat (first | apply Kd.R_alloc | apply Kd.R_drewN | apply Kd.R_drew)); exact Kd.R_mono HO_9.out (fun _ hk => hk.2)⟩, ⟨by (with_reducible repeat (first | apply Kd.R_alloc | apply Kd.R_drewN | apply Kd.R_drew)); exact HO145.out⟩, ⟨by repeat (first | (with_reducible first | exact HB.out | apply below_alloc | apply pw_below_drewN | apply below_drew1) | exact HB.out)⟩⟩
                     ·rw [if_neg c70] at H
                      exact absurd H (by simp)
                    ·rw [if_neg c68] at H
                     exact absurd H (by simp)
                   ·rw [if_neg c67] at H
                    exact absurd H (by simp)
                  ·rw [if_neg c66] at H
                   have c66b0 : decide (x152_6 < ((l3.take (ji5 : Int).toNat).length : Int)) = false := decide_eq_false c66
                   have c66m_ : decide (x152_6 < max ji5 0) = false := by have q1 := of_decide_eq_false c66b0; have q2 := HT_ji5_l3.out; rw [List.length_take] at q1; exact decide_eq_false (by omega)
                   have c66n_ := eq_false (of_decide_eq_false c66m_)
                   clear c66
                   simp only [Option.some.injEq, Prod.mk.injEq] at H
                   obtain ⟨rfl, rfl, rfl⟩ := H
                   go_wp2
                   go_ret3
                   exact ⟨_, _, _, by first | rfl | (simp [errW_none, errW_some] <;> rfl) | (simp only [← hji5]; first | rfl | (simp [errW_none, errW_some] <;> rfl)) | (simp [*, errW_none, errW_some] <;> rfl), by (with_reducible repeat (first | apply Kd.S_alloc | apply Kd.S_drewN | apply Kd.S_drew)); exact HO_8.out, by (with_reducible repeat (first | apply Kd.R_alloc | apply Kd.R_drewN | apply Kd.R_drew)); exact HO_9.out, by (with_reducible repeat (first | apply Kd.R_alloc | apply Kd.R_drewN | apply Kd.R_drew)); exact HO_10.out, by repeat (first | (with_reducible first | exact HB.out | apply below_alloc | apply pw_below_drewN | apply below_drew1) | exact HB.out)⟩
               ·rw [if_neg c64] at H
                exact absurd H (by simp)
              ·rw [if_neg c63] at H
               exact absurd H (by simp)

end Go.Proofs.Ytlbmfnjhpojghaa.PFnAdvanceDelta
