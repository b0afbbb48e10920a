-- Written by a program of this session (xprint) out of the translation; Lean checks it.
import Derived.Test.YtlbmfnjhpojghaaPFnAdvanceDeltax0
import Derived.Test.YtlbmfnjhpojghaaPFnAdvanceDeltax4
namespace Go.Proofs.Ytlbmfnjhpojghaa.PFnAdvanceDelta
open Go.RowKit Go.Proofs.YtlbmfnjhpojghaaW.PrintWords Go.Proofs.YtlbmfnjhpojghaaW.PrintLast Go.Proofs.YtlbmfnjhpojghaaW.PrintMore
attribute [local go_sem] max2_int min2_int max_two min_two max_three min_three max_four min_four   -- for this text's walks alone
set_option linter.unusedVariables false
set_option linter.unusedSimpArgs false

attribute [local go_sem] f_add f_sub f_mul f_quo f_conv f_same f_int f_max
/-! ### impl_builder_store: function 33 -/
mutual
def impl_builder_store.l0 : Nat → List (List (S36)) → List (S41) → Int → List (List (S36)) → Int → Int → Int → Int → Bool → Int → Int → List (S182) → Option (Int × Int × (List (S182)) × (List (S186)) × Int × Int × Bool)
 | 0, _, _, _, _, _, _, _, _, _, _, _, _ => none
 | k + 1, x1, x2, x3, x24, x25, x26, x1000, x1001, x1002, x167000, x167001, x167002 => if x26 < x25 then (if 0 ≤ x26 then (if x26 < (x24.length : Int) then ((impl_builder_must.f x1000 x1001 x1002 (((rd_L8 x24 x26).length : Int) == x3)).bind fun bt168 => (impl_builder_store.l1 k x1 x2 x3 x24 x25 x26 (rd_L8 x24 x26) ((rd_L8 x24 x26).length : Int) 0 bt168.1 bt168.2.1 bt168.2.2 x167000 x167001 x167002 ([] : List (S184)))) else (none)) else (none)) else (impl_builder_store.l2 k x1 x2 (x2.length : Int) 0 x1000 x1001 x1002 x167000 x167001 x167002 ([] : List (S186)))
def impl_builder_store.l1 : Nat → List (List (S36)) → List (S41) → Int → List (List (S36)) → Int → Int → List (S36) → Int → Int → Int → Int → Bool → Int → Int → List (S182) → List (S184) → Option (Int × Int × (List (S182)) × (List (S186)) × Int × Int × Bool)
 | 0, _, _, _, _, _, _, _, _, _, _, _, _, _, _, _, _ => none
 | k + 1, x1, x2, x3, x24, x25, x26, x36, x37, x38, x1000, x1001, x1002, x167000, x167001, x167002, x172000 => if x38 < x37 then (if 0 ≤ x38 then (if x38 < (x36.length : Int) then ((impl_builder_signed.f x1000 x1001 x1002 ((rd_T36 x36 x38).f0)).bind fun bt174 => ((impl_builder_signed.f bt174.2.1 bt174.2.2.1 bt174.2.2.2 ((rd_T36 x36 x38).f1)).bind fun bt178 => ((impl_builder_signed.f bt178.2.1 bt178.2.2.1 bt178.2.2.2 ((rd_T36 x36 x38).f2)).bind fun bt182 => (if x172000.length < 23456248059221 then (impl_builder_store.l1 k x1 x2 x3 x24 x25 x26 x36 x37 (wrap64 (x38 + 1)) bt182.2.1 bt182.2.2.1 bt182.2.2.2 x167000 x167001 x167002 (x172000 ++ [(⟨bt174.1, bt178.1, bt182.1⟩ : S184)])) else (none))))) else (none)) else (none)) else (if x167002.length < 5864062014805 then (impl_builder_store.l0 k x1 x2 x3 x24 x25 (wrap64 (x26 + 1)) x1000 x1001 x1002 x167000 x167001 (x167002 ++ [(⟨x172000⟩ : S182)])) else (none))
def impl_builder_store.l2 : Nat → List (List (S36)) → List (S41) → Int → Int → Int → Int → Bool → Int → Int → List (S182) → List (S186) → Option (Int × Int × (List (S182)) × (List (S186)) × Int × Int × Bool)
 | 0, _, _, _, _, _, _, _, _, _, _, _ => none
 | k + 1, x1, x70, x71, x72, x1000, x1001, x1002, x167000, x167001, x167002, x167003 => if x72 < x71 then (if 0 ≤ x72 then (if x72 < (x70.length : Int) then (impl_builder_store.l3 k x1 x70 x71 x72 ((rd_T41 x70 x72).f0) (((rd_T41 x70 x72).f0).length : Int) 0 x1000 x1001 x1002 x167000 x167001 x167002 x167003 ((rd_T41 x70 x72).f0) ((rd_T41 x70 x72).f1) 0 0 0 ([] : List Int)) else (none)) else (none)) else (some (x167000, x167001, x167002, x167003, x1000, x1001, x1002))
def impl_builder_store.l3 : Nat → List (List (S36)) → List (S41) → Int → Int → List Int → Int → Int → Int → Int → Bool → Int → Int → List (S182) → List (S186) → List Int → List (List Int) → Int → Int → Int → List Int → Option (Int × Int × (List (S182)) × (List (S186)) × Int × Int × Bool)
 | 0, _, _, _, _, _, _, _, _, _, _, _, _, _, _, _, _, _, _, _, _ => none
 | k + 1, x1, x70, x71, x72, x77, x78, x79, x1000, x1001, x1002, x167000, x167001, x167002, x167003, x194000, x194001, x195000, x195001, x195002, x195003 => if x79 < x78 then (if 0 ≤ x79 then (if x79 < (x77.length : Int) then (if (rd x77 x79) ≥ 0 then ((impl_builder_must.f x1000 x1001 x1002 (decide ((rd x77 x79) < (x1.length : Int)))).bind fun bt196 => ((impl_builder_small.f bt196.1 bt196.2.1 bt196.2.2 (rd x77 x79)).bind fun bt199 => (if x195003.length < 70368744177664 then (impl_builder_store.l3 k x1 x70 x71 x72 x77 x78 (wrap64 (x79 + 1)) bt199.2.1 bt199.2.2.1 bt199.2.2.2 x167000 x167001 x167002 x167003 x194000 x194001 x195000 x195001 x195002 (x195003 ++ [bt199.1])) else (none)))) else ((impl_builder_must.f x1000 x1001 x1002 false).bind fun bt206 => ((impl_builder_small.f bt206.1 bt206.2.1 bt206.2.2 (rd x77 x79)).bind fun bt209 => (if x195003.length < 70368744177664 then (impl_builder_store.l3 k x1 x70 x71 x72 x77 x78 (wrap64 (x79 + 1)) bt209.2.1 bt209.2.2.1 bt209.2.2.2 x167000 x167001 x167002 x167003 x194000 x194001 x195000 x195001 x195002 (x195003 ++ [bt209.1])) else (none))))) else (none)) else (none)) else (impl_builder_store.l4 k x1 x70 x71 x72 x194001 (x194001.length : Int) 0 x1000 x1001 x1002 x167000 x167001 x167002 x167003 x194000 x194001 x195000 x195001 x195002 x195003 ([] : List (List Int)))
def impl_builder_store.l4 : Nat → List (List (S36)) → List (S41) → Int → Int → List (List Int) → Int → Int → Int → Int → Bool → Int → Int → List (S182) → List (S186) → List Int → List (List Int) → Int → Int → Int → List Int → List (List Int) → Option (Int × Int × (List (S182)) × (List (S186)) × Int × Int × Bool)
 | 0, _, _, _, _, _, _, _, _, _, _, _, _, _, _, _, _, _, _, _, _, _ => none
 | k + 1, x1, x70, x71, x72, x103, x104, x105, x1000, x1001, x1002, x167000, x167001, x167002, x167003, x194000, x194001, x195000, x195001, x195002, x195003, x195004 => if x105 < x104 then (if 0 ≤ x105 then (if x105 < (x103.length : Int) then ((impl_builder_must.f x1000 x1001 x1002 (((rd_L9 x103 x105).length : Int) == (x194000.length : Int))).bind fun bt220 => (impl_builder_store.l5 k x1 ([] : List Int) x70 x71 x72 x103 x104 x105 (rd_L9 x103 x105) ((rd_L9 x103 x105).length : Int) 0 bt220.1 bt220.2.1 bt220.2.2 x167000 x167001 x167002 x167003 x194000 x194001 x195000 x195001 x195002 x195003 x195004)) else (none)) else (none)) else (if x167003.length < 2513169434916 then (impl_builder_store.l2 k x1 x70 x71 (wrap64 (x72 + 1)) x1000 x1001 x1002 x167000 x167001 x167002 (x167003 ++ [(⟨x195000, x195001, x195002, x195003, x195004⟩ : S186)])) else (none))
def impl_builder_store.l5 : Nat → List (List (S36)) → List Int → List (S41) → Int → Int → List (List Int) → Int → Int → List Int → Int → Int → Int → Int → Bool → Int → Int → List (S182) → List (S186) → List Int → List (List Int) → Int → Int → Int → List Int → List (List Int) → Option (Int × Int × (List (S182)) × (List (S186)) × Int × Int × Bool)
 | 0, _, _, _, _, _, _, _, _, _, _, _, _, _, _, _, _, _, _, _, _, _, _, _, _, _ => none
 | k + 1, x1, x21, x70, x71, x72, x103, x104, x105, x117, x118, x119, x1000, x1001, x1002, x167000, x167001, x167002, x167003, x194000, x194001, x195000, x195001, x195002, x195003, x195004 => if x119 < x118 then (if 0 ≤ x119 then (if x119 < (x117.length : Int) then ((impl_builder_signed.f x1000 x1001 x1002 (rd x117 x119)).bind fun bt224 => (if x21.length < 70368744177664 then (impl_builder_store.l5 k x1 (x21 ++ [bt224.1]) x70 x71 x72 x103 x104 x105 x117 x118 (wrap64 (x119 + 1)) bt224.2.1 bt224.2.2.1 bt224.2.2.2 x167000 x167001 x167002 x167003 x194000 x194001 x195000 x195001 x195002 x195003 x195004) else (none))) else (none)) else (none)) else (if x195004.length < 5864062014805 then (impl_builder_store.l4 k x1 x70 x71 x72 x103 x104 (wrap64 (x105 + 1)) x1000 x1001 x1002 x167000 x167001 x167002 x167003 x194000 x194001 x195000 x195001 x195002 x195003 (x195004 ++ [x21])) else (none))
end
def impl_builder_store.f (k : Nat) (s0_0 : Int) (s0_1 : Int) (s0_2 : Bool) (l1 : List (List (S36))) (l2 : List (S41)) (a3 : Int) : Option (Int × Int × (List (S182)) × (List (S186)) × Int × Int × Bool) := impl_builder_store.l0 k l1 l2 a3 l1 (l1.length : Int) 0 s0_0 s0_1 s0_2 0 0 ([] : List (S182))
theorem impl_builder_store.mono_l : ∀ k, (∀ y0 y1 y2 y3 y4 y5 y6 y7 y8 y9 y10 y11, LeO (impl_builder_store.l0 k y0 y1 y2 y3 y4 y5 y6 y7 y8 y9 y10 y11) (impl_builder_store.l0 (k + 1) y0 y1 y2 y3 y4 y5 y6 y7 y8 y9 y10 y11)) ∧ (∀ y0 y1 y2 y3 y4 y5 y6 y7 y8 y9 y10 y11 y12 y13 y14 y15, LeO (impl_builder_store.l1 k y0 y1 y2 y3 y4 y5 y6 y7 y8 y9 y10 y11 y12 y13 y14 y15) (impl_builder_store.l1 (k + 1) y0 y1 y2 y3 y4 y5 y6 y7 y8 y9 y10 y11 y12 y13 y14 y15)) ∧ (∀ y0 y1 y2 y3 y4 y5 y6 y7 y8 y9 y10, LeO (impl_builder_store.l2 k y0 y1 y2 y3 y4 y5 y6 y7 y8 y9 y10) (impl_builder_store.l2 (k + 1) y0 y1 y2 y3 y4 y5 y6 y7 y8 y9 y10)) ∧ (∀ y0 y1 y2 y3 y4 y5 y6 y7 y8 y9 y10 y11 y12 y13 y14 y15 y16 y17 y18 y19, LeO (impl_builder_store.l3 k y0 y1 y2 y3 y4 y5 y6 y7 y8 y9 y10 y11 y12 y13 y14 y15 y16 y17 y18 y19) (impl_builder_store.l3 (k + 1) y0 y1 y2 y3 y4 y5 y6 y7 y8 y9 y10 y11 y12 y13 y14 y15 y16 y17 y18 y19)) ∧ (∀ y0 y1 y2 y3 y4 y5 y6 y7 y8 y9 y10 y11 y12 y13 y14 y15 y16 y17 y18 y19 y20, LeO (impl_builder_store.l4 k y0 y1 y2 y3 y4 y5 y6 y7 y8 y9 y10 y11 y12 y13 y14 y15 y16 y17 y18 y19 y20) (impl_builder_store.l4 (k + 1) y0 y1 y2 y3 y4 y5 y6 y7 y8 y9 y10 y11 y12 y13 y14 y15 y16 y17 y18 y19 y20)) ∧ (∀ y0 y1 y2 y3 y4 y5 y6 y7 y8 y9 y10 y11 y12 y13 y14 y15 y16 y17 y18 y19 y20 y21 y22 y23 y24, LeO (impl_builder_store.l5 k y0 y1 y2 y3 y4 y5 y6 y7 y8 y9 y10 y11 y12 y13 y14 y15 y16 y17 y18 y19 y20 y21 y22 y23 y24) (impl_builder_store.l5 (k + 1) y0 y1 y2 y3 y4 y5 y6 y7 y8 y9 y10 y11 y12 y13 y14 y15 y16 y17 y18 y19 y20 y21 y22 y23 y24))
 | 0 => ⟨fun _ _ _ _ _ _ _ _ _ _ _ _ r h => by simp [impl_builder_store.l0] at h, fun _ _ _ _ _ _ _ _ _ _ _ _ _ _ _ _ r h => by simp [impl_builder_store.l1] at h, fun _ _ _ _ _ _ _ _ _ _ _ r h => by simp [impl_builder_store.l2] at h, fun _ _ _ _ _ _ _ _ _ _ _ _ _ _ _ _ _ _ _ _ r h => by simp [impl_builder_store.l3] at h, fun _ _ _ _ _ _ _ _ _ _ _ _ _ _ _ _ _ _ _ _ _ r h => by simp [impl_builder_store.l4] at h, fun _ _ _ _ _ _ _ _ _ _ _ _ _ _ _ _ _ _ _ _ _ _ _ _ _ r h => by simp [impl_builder_store.l5] at h⟩
 | k + 1 => by
  obtain ⟨ih0, ih1, ih2, ih3, ih4, ih5⟩ := impl_builder_store.mono_l k
  refine ⟨?_, ?_, ?_, ?_, ?_, ?_⟩
  ·intro y0 y1 y2 y3 y4 y5 y6 y7 y8 y9 y10 y11
   unfold impl_builder_store.l0
   repeat' first
   | (with_reducible exact ih0 _ _ _ _ _ _ _ _ _ _ _ _)
   | (with_reducible exact ih1 _ _ _ _ _ _ _ _ _ _ _ _ _ _ _ _)
   | (with_reducible exact ih2 _ _ _ _ _ _ _ _ _ _ _)
   | (with_reducible exact ih3 _ _ _ _ _ _ _ _ _ _ _ _ _ _ _ _ _ _ _ _)
   | (with_reducible exact ih4 _ _ _ _ _ _ _ _ _ _ _ _ _ _ _ _ _ _ _ _ _)
   | (with_reducible exact ih5 _ _ _ _ _ _ _ _ _ _ _ _ _ _ _ _ _ _ _ _ _ _ _ _ _)
   | (with_reducible exact LeO.refl _)
   | (with_reducible exact LeO.none _)
   | (with_reducible refine LeO.ite ?_ ?_)
   | (with_reducible refine LeO.bind ?_ (fun _ => ?_))
   | exact ih0 _ _ _ _ _ _ _ _ _ _ _ _
   | exact ih1 _ _ _ _ _ _ _ _ _ _ _ _ _ _ _ _
   | exact ih2 _ _ _ _ _ _ _ _ _ _ _
   | exact ih3 _ _ _ _ _ _ _ _ _ _ _ _ _ _ _ _ _ _ _ _
   | exact ih4 _ _ _ _ _ _ _ _ _ _ _ _ _ _ _ _ _ _ _ _ _
   | exact ih5 _ _ _ _ _ _ _ _ _ _ _ _ _ _ _ _ _ _ _ _ _ _ _ _ _
   | exact LeO.none _
   | refine LeO.ite ?_ ?_
   | refine LeO.bind ?_ (fun _ => ?_)
  ·intro y0 y1 y2 y3 y4 y5 y6 y7 y8 y9 y10 y11 y12 y13 y14 y15
   unfold impl_builder_store.l1
   repeat' first
   | (with_reducible exact ih0 _ _ _ _ _ _ _ _ _ _ _ _)
   | (with_reducible exact ih1 _ _ _ _ _ _ _ _ _ _ _ _ _ _ _ _)
   | (with_reducible exact ih2 _ _ _ _ _ _ _ _ _ _ _)
   | (with_reducible exact ih3 _ _ _ _ _ _ _ _ _ _ _ _ _ _ _ _ _ _ _ _)
   | (with_reducible exact ih4 _ _ _ _ _ _ _ _ _ _ _ _ _ _ _ _ _ _ _ _ _)
   | (with_reducible exact ih5 _ _ _ _ _ _ _ _ _ _ _ _ _ _ _ _ _ _ _ _ _ _ _ _ _)
   | (with_reducible exact LeO.refl _)
   | (with_reducible exact LeO.none _)
   | (with_reducible refine LeO.ite ?_ ?_)
   | (with_reducible refine LeO.bind ?_ (fun _ => ?_))
   | exact ih0 _ _ _ _ _ _ _ _ _ _ _ _
   | exact ih1 _ _ _ _ _ _ _ _ _ _ _ _ _ _ _ _
   | exact ih2 _ _ _ _ _ _ _ _ _ _ _
   | exact ih3 _ _ _ _ _ _ _ _ _ _ _ _ _ _ _ _ _ _ _ _
   | exact ih4 _ _ _ _ _ _ _ _ _ _ _ _ _ _ _ _ _ _ _ _ _
   | exact ih5 _ _ _ _ _ _ _ _ _ _ _ _ _ _ _ _ _ _ _ _ _ _ _ _ _
   | exact LeO.none _
   | refine LeO.ite ?_ ?_
   | refine LeO.bind ?_ (fun _ => ?_)
  ·intro y0 y1 y2 y3 y4 y5 y6 y7 y8 y9 y10
   unfold impl_builder_store.l2
   repeat' first
   | (with_reducible exact ih0 _ _ _ _ _ _ _ _ _ _ _ _)
   | (with_reducible exact ih1 _ _ _ _ _ _ _ _ _ _ _ _ _ _ _ _)
   | (with_reducible exact ih2 _ _ _ _ _ _ _ _ _ _ _)
   | (with_reducible exact ih3 _ _ _ _ _ _ _ _ _ _ _ _ _ _ _ _ _ _ _ _)
   | (with_reducible exact ih4 _ _ _ _ _ _ _ _ _ _ _ _ _ _ _ _ _ _ _ _ _)
   | (with_reducible exact ih5 _ _ _ _ _ _ _ _ _ _ _ _ _ _ _ _ _ _ _ _ _ _ _ _ _)
   | (with_reducible exact LeO.refl _)
   | (with_reducible exact LeO.none _)
   | (with_reducible refine LeO.ite ?_ ?_)
   | (with_reducible refine LeO.bind ?_ (fun _ => ?_))
   | exact ih0 _ _ _ _ _ _ _ _ _ _ _ _
   | exact ih1 _ _ _ _ _ _ _ _ _ _ _ _ _ _ _ _
   | exact ih2 _ _ _ _ _ _ _ _ _ _ _
   | exact ih3 _ _ _ _ _ _ _ _ _ _ _ _ _ _ _ _ _ _ _ _
   | exact ih4 _ _ _ _ _ _ _ _ _ _ _ _ _ _ _ _ _ _ _ _ _
   | exact ih5 _ _ _ _ _ _ _ _ _ _ _ _ _ _ _ _ _ _ _ _ _ _ _ _ _
   | exact LeO.none _
   | refine LeO.ite ?_ ?_
   | refine LeO.bind ?_ (fun _ => ?_)
  ·intro y0 y1 y2 y3 y4 y5 y6 y7 y8 y9 y10 y11 y12 y13 y14 y15 y16 y17 y18 y19
   unfold impl_builder_store.l3
   repeat' first
   | (with_reducible exact ih0 _ _ _ _ _ _ _ _ _ _ _ _)
   | (with_reducible exact ih1 _ _ _ _ _ _ _ _ _ _ _ _ _ _ _ _)
   | (with_reducible exact ih2 _ _ _ _ _ _ _ _ _ _ _)
   | (with_reducible exact ih3 _ _ _ _ _ _ _ _ _ _ _ _ _ _ _ _ _ _ _ _)
   | (with_reducible exact ih4 _ _ _ _ _ _ _ _ _ _ _ _ _ _ _ _ _ _ _ _ _)
   | (with_reducible exact ih5 _ _ _ _ _ _ _ _ _ _ _ _ _ _ _ _ _ _ _ _ _ _ _ _ _)
   | (with_reducible exact LeO.refl _)
   | (with_reducible exact LeO.none _)
   | (with_reducible refine LeO.ite ?_ ?_)
   | (with_reducible refine LeO.bind ?_ (fun _ => ?_))
   | exact ih0 _ _ _ _ _ _ _ _ _ _ _ _
   | exact ih1 _ _ _ _ _ _ _ _ _ _ _ _ _ _ _ _
   | exact ih2 _ _ _ _ _ _ _ _ _ _ _
   | exact ih3 _ _ _ _ _ _ _ _ _ _ _ _ _ _ _ _ _ _ _ _
   | exact ih4 _ _ _ _ _ _ _ _ _ _ _ _ _ _ _ _ _ _ _ _ _
   | exact ih5 _ _ _ _ _ _ _ _ _ _ _ _ _ _ _ _ _ _ _ _ _ _ _ _ _
   | exact LeO.none _
   | refine LeO.ite ?_ ?_
   | refine LeO.bind ?_ (fun _ => ?_)
  ·intro y0 y1 y2 y3 y4 y5 y6 y7 y8 y9 y10 y11 y12 y13 y14 y15 y16 y17 y18 y19 y20
   unfold impl_builder_store.l4
   repeat' first
   | (with_reducible exact ih0 _ _ _ _ _ _ _ _ _ _ _ _)
   | (with_reducible exact ih1 _ _ _ _ _ _ _ _ _ _ _ _ _ _ _ _)
   | (with_reducible exact ih2 _ _ _ _ _ _ _ _ _ _ _)
   | (with_reducible exact ih3 _ _ _ _ _ _ _ _ _ _ _ _ _ _ _ _ _ _ _ _)
   | (with_reducible exact ih4 _ _ _ _ _ _ _ _ _ _ _ _ _ _ _ _ _ _ _ _ _)
   | (with_reducible exact ih5 _ _ _ _ _ _ _ _ _ _ _ _ _ _ _ _ _ _ _ _ _ _ _ _ _)
   | (with_reducible exact LeO.refl _)
   | (with_reducible exact LeO.none _)
   | (with_reducible refine LeO.ite ?_ ?_)
   | (with_reducible refine LeO.bind ?_ (fun _ => ?_))
   | exact ih0 _ _ _ _ _ _ _ _ _ _ _ _
   | exact ih1 _ _ _ _ _ _ _ _ _ _ _ _ _ _ _ _
   | exact ih2 _ _ _ _ _ _ _ _ _ _ _
   | exact ih3 _ _ _ _ _ _ _ _ _ _ _ _ _ _ _ _ _ _ _ _
   | exact ih4 _ _ _ _ _ _ _ _ _ _ _ _ _ _ _ _ _ _ _ _ _
   | exact ih5 _ _ _ _ _ _ _ _ _ _ _ _ _ _ _ _ _ _ _ _ _ _ _ _ _
   | exact LeO.none _
   | refine LeO.ite ?_ ?_
   | refine LeO.bind ?_ (fun _ => ?_)
  ·intro y0 y1 y2 y3 y4 y5 y6 y7 y8 y9 y10 y11 y12 y13 y14 y15 y16 y17 y18 y19 y20 y21 y22 y23 y24
   unfold impl_builder_store.l5
   repeat' first
   | (with_reducible exact ih0 _ _ _ _ _ _ _ _ _ _ _ _)
   | (with_reducible exact ih1 _ _ _ _ _ _ _ _ _ _ _ _ _ _ _ _)
   | (with_reducible exact ih2 _ _ _ _ _ _ _ _ _ _ _)
   | (with_reducible exact ih3 _ _ _ _ _ _ _ _ _ _ _ _ _ _ _ _ _ _ _ _)
   | (with_reducible exact ih4 _ _ _ _ _ _ _ _ _ _ _ _ _ _ _ _ _ _ _ _ _)
   | (with_reducible exact ih5 _ _ _ _ _ _ _ _ _ _ _ _ _ _ _ _ _ _ _ _ _ _ _ _ _)
   | (with_reducible exact LeO.refl _)
   | (with_reducible exact LeO.none _)
   | (with_reducible refine LeO.ite ?_ ?_)
   | (with_reducible refine LeO.bind ?_ (fun _ => ?_))
   | exact ih0 _ _ _ _ _ _ _ _ _ _ _ _
   | exact ih1 _ _ _ _ _ _ _ _ _ _ _ _ _ _ _ _
   | exact ih2 _ _ _ _ _ _ _ _ _ _ _
   | exact ih3 _ _ _ _ _ _ _ _ _ _ _ _ _ _ _ _ _ _ _ _
   | exact ih4 _ _ _ _ _ _ _ _ _ _ _ _ _ _ _ _ _ _ _ _ _
   | exact ih5 _ _ _ _ _ _ _ _ _ _ _ _ _ _ _ _ _ _ _ _ _ _ _ _ _
   | exact LeO.none _
   | refine LeO.ite ?_ ?_
   | refine LeO.bind ?_ (fun _ => ?_)
theorem impl_builder_store.mono : ∀ a0 a1 a2 a3 a4 a5 k, LeO (impl_builder_store.f k a0 a1 a2 a3 a4 a5) (impl_builder_store.f (k + 1) a0 a1 a2 a3 a4 a5) := by
 intro a0 a1 a2 a3 a4 a5 k
 obtain ⟨ih0, ih1, ih2, ih3, ih4, ih5⟩ := impl_builder_store.mono_l k
 unfold impl_builder_store.f
 repeat' first
   | (with_reducible exact ih0 _ _ _ _ _ _ _ _ _ _ _ _)
   | (with_reducible exact ih1 _ _ _ _ _ _ _ _ _ _ _ _ _ _ _ _)
   | (with_reducible exact ih2 _ _ _ _ _ _ _ _ _ _ _)
   | (with_reducible exact ih3 _ _ _ _ _ _ _ _ _ _ _ _ _ _ _ _ _ _ _ _)
   | (with_reducible exact ih4 _ _ _ _ _ _ _ _ _ _ _ _ _ _ _ _ _ _ _ _ _)
   | (with_reducible exact ih5 _ _ _ _ _ _ _ _ _ _ _ _ _ _ _ _ _ _ _ _ _ _ _ _ _)
   | (with_reducible exact LeO.refl _)
   | (with_reducible exact LeO.none _)
   | (with_reducible refine LeO.ite ?_ ?_)
   | (with_reducible refine LeO.bind ?_ (fun _ => ?_))
   | exact ih0 _ _ _ _ _ _ _ _ _ _ _ _
   | exact ih1 _ _ _ _ _ _ _ _ _ _ _ _ _ _ _ _
   | exact ih2 _ _ _ _ _ _ _ _ _ _ _
   | exact ih3 _ _ _ _ _ _ _ _ _ _ _ _ _ _ _ _ _ _ _ _
   | exact ih4 _ _ _ _ _ _ _ _ _ _ _ _ _ _ _ _ _ _ _ _ _
   | exact ih5 _ _ _ _ _ _ _ _ _ _ _ _ _ _ _ _ _ _ _ _ _ _ _ _ _
   | exact LeO.none _
   | refine LeO.ite ?_ ?_
   | refine LeO.bind ?_ (fun _ => ?_)

end Go.Proofs.Ytlbmfnjhpojghaa.PFnAdvanceDelta
