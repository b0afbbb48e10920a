-- Written by a program of this session (xprint) out of the translation; Lean checks it.
import Derived.Test.YtchkmmbedgolbaaPFnKernClassesx0
namespace Go.Proofs.Ytchkmmbedgolbaa.PFnKernClasses
open Go.RowKit Go.Proofs.YtchkmmbedgolbaaW.PrintWords Go.Proofs.YtchkmmbedgolbaaW.PrintLast Go.Proofs.YtchkmmbedgolbaaW.PrintMore
attribute [local go_sem] max2_int min2_int max_two min_two max_three min_three max_four min_four   -- for this text's walks alone
set_option linter.unusedVariables false
set_option linter.unusedSimpArgs false

/-! ### tables_ZzLookup: function 53 -/
mutual
def tables_ZzLookup.l0 : Nat → Int → List Int → List Int → Int → Int → Int → Int → Int → Int → Int → Int → List (S188) → Int → Int → Int → Int → Int → Int → List (S186) → Int → Int → Int → Int → Int → Int → List (S184) → Option (Int × Int × Int × Int × Int × Int × (List (S184)))
 | 0, _, _, _, _, _, _, _, _, _, _, _, _, _, _, _, _, _, _, _, _, _, _, _, _, _, _ => none
 | k + 1, x0, x2, x15, x16, x17, x115000, x115001, x115002, x115003, x115004, x115005, x115006, x116000, x116001, x116002, x116003, x116004, x116005, x116006, x117000, x117001, x117002, x117003, x117004, x117005, x117006 => if x17 < x16 then (if 0 ≤ x17 then (if x17 < (x15.length : Int) then (if x17 < (x2.length : Int) then (if x117006.length < 35184372088832 then ((some (x117006 ++ [(⟨rd x15 x17, rd x2 x17⟩ : S184)] : List (S184))).bind fun y119 => (if (wrap64 ((x116006.length : Int) - 1)) ≥ 0 then (if 0 ≤ (wrap64 ((x116006.length : Int) - 1)) then (if (wrap64 ((x116006.length : Int) - 1)) < (x116006.length : Int) then (tables_ZzLookup.j1 k x0 x2 (rd x15 x17) (rd x2 x17) (wrap64 ((x116006.length : Int) - 1)) x15 x16 x17 ((IntKind.u16.wrap (((rd_T186 x116006 (wrap64 ((x116006.length : Int) - 1))).f0) + 1)) == (rd x15 x17)) x115000 x115001 x115002 x115003 x115004 x115005 x115006 x116000 x116001 x116002 x116003 x116004 x116005 x116006 x117000 x117001 x117002 x117003 x117004 x117005 y119) else (none)) else (none)) else (tables_ZzLookup.j1 k x0 x2 (rd x15 x17) (rd x2 x17) (wrap64 ((x116006.length : Int) - 1)) x15 x16 x17 false x115000 x115001 x115002 x115003 x115004 x115005 x115006 x116000 x116001 x116002 x116003 x116004 x116005 x116006 x117000 x117001 x117002 x117003 x117004 x117005 y119))) else (none)) else (none)) else (none)) else (none)) else (if x0 = 4 then (none) else (if x0 = 6 then (some (x117000, x117001, x117002, x117003, x117004, x117005, x117006)) else (none)))
def tables_ZzLookup.j1 : Nat → Int → List Int → Int → Int → Int → List Int → Int → Int → Bool → Int → Int → Int → Int → Int → Int → List (S188) → Int → Int → Int → Int → Int → Int → List (S186) → Int → Int → Int → Int → Int → Int → List (S184) → Option (Int × Int × Int × Int × Int × Int × (List (S184)))
 | 0, _, _, _, _, _, _, _, _, _, _, _, _, _, _, _, _, _, _, _, _, _, _, _, _, _, _, _, _, _, _ => none
 | k + 1, x0, x2, x11, x12, x13, x15, x16, x17, x50, x115000, x115001, x115002, x115003, x115004, x115005, x115006, x116000, x116001, x116002, x116003, x116004, x116005, x116006, x117000, x117001, x117002, x117003, x117004, x117005, x117006 => if x50 = true then (if 0 ≤ x13 then (if x13 < (x116006.length : Int) then ((some (x116006.set (x13 : Int).toNat (⟨x11, (rd_T186 x116006 x13).f1, (rd_T186 x116006 x13).f2⟩ : S186) : List (S186))).bind fun y123 => (if ((rd_T186 y123 x13).f2).length < 70368744177664 then (tables_ZzLookup.j2 k x0 x2 x11 x12 x15 x16 x17 x115000 x115001 x115002 x115003 x115004 x115005 x115006 x116000 x116001 x116002 x116003 x116004 x116005 (y123.set (x13 : Int).toNat (⟨(rd_T186 y123 x13).f0, (rd_T186 y123 x13).f1, (((rd_T186 y123 x13).f2) ++ [x12])⟩ : S186)) x117000 x117001 x117002 x117003 x117004 x117005 x117006) else (none))) else (none)) else (none)) else (if x116006.length < 4398046511104 then (tables_ZzLookup.j2 k x0 x2 x11 x12 x15 x16 x17 x115000 x115001 x115002 x115003 x115004 x115005 x115006 x116000 x116001 x116002 x116003 x116004 x116005 (x116006 ++ [(⟨x11, x11, (([x12] : List Int))⟩ : S186)]) x117000 x117001 x117002 x117003 x117004 x117005 x117006) else (none))
def tables_ZzLookup.j2 : Nat → Int → List Int → Int → Int → List Int → Int → Int → Int → Int → Int → Int → Int → Int → List (S188) → Int → Int → Int → Int → Int → Int → List (S186) → Int → Int → Int → Int → Int → Int → List (S184) → Option (Int × Int × Int × Int × Int × Int × (List (S184)))
 | 0, _, _, _, _, _, _, _, _, _, _, _, _, _, _, _, _, _, _, _, _, _, _, _, _, _, _, _, _ => none
 | k + 1, x0, x2, x11, x12, x15, x16, x17, x115000, x115001, x115002, x115003, x115004, x115005, x115006, x116000, x116001, x116002, x116003, x116004, x116005, x116006, x117000, x117001, x117002, x117003, x117004, x117005, x117006 => if (wrap64 ((x115006.length : Int) - 1)) ≥ 0 then (if 0 ≤ (wrap64 ((x115006.length : Int) - 1)) then (if (wrap64 ((x115006.length : Int) - 1)) < (x115006.length : Int) then (if (IntKind.u16.wrap (((rd_T188 x115006 (wrap64 ((x115006.length : Int) - 1))).f0) + 1)) = x11 then (tables_ZzLookup.j3 k x0 x2 x11 x12 (wrap64 ((x115006.length : Int) - 1)) x15 x16 x17 (((rd_T188 x115006 (wrap64 ((x115006.length : Int) - 1))).f2) == x12) x115000 x115001 x115002 x115003 x115004 x115005 x115006 x116000 x116001 x116002 x116003 x116004 x116005 x116006 x117000 x117001 x117002 x117003 x117004 x117005 x117006) else (tables_ZzLookup.j3 k x0 x2 x11 x12 (wrap64 ((x115006.length : Int) - 1)) x15 x16 x17 false x115000 x115001 x115002 x115003 x115004 x115005 x115006 x116000 x116001 x116002 x116003 x116004 x116005 x116006 x117000 x117001 x117002 x117003 x117004 x117005 x117006)) else (none)) else (none)) else (tables_ZzLookup.j3 k x0 x2 x11 x12 (wrap64 ((x115006.length : Int) - 1)) x15 x16 x17 false x115000 x115001 x115002 x115003 x115004 x115005 x115006 x116000 x116001 x116002 x116003 x116004 x116005 x116006 x117000 x117001 x117002 x117003 x117004 x117005 x117006)
def tables_ZzLookup.j3 : Nat → Int → List Int → Int → Int → Int → List Int → Int → Int → Bool → Int → Int → Int → Int → Int → Int → List (S188) → Int → Int → Int → Int → Int → Int → List (S186) → Int → Int → Int → Int → Int → Int → List (S184) → Option (Int × Int × Int × Int × Int × Int × (List (S184)))
 | 0, _, _, _, _, _, _, _, _, _, _, _, _, _, _, _, _, _, _, _, _, _, _, _, _, _, _, _, _, _, _ => none
 | k + 1, x0, x2, x11, x12, x14, x15, x16, x17, x107, x115000, x115001, x115002, x115003, x115004, x115005, x115006, x116000, x116001, x116002, x116003, x116004, x116005, x116006, x117000, x117001, x117002, x117003, x117004, x117005, x117006 => if x107 = true then (if 0 ≤ x14 then (if x14 < (x115006.length : Int) then (tables_ZzLookup.l0 k x0 x2 x15 x16 (wrap64 (x17 + 1)) x115000 x115001 x115002 x115003 x115004 x115005 (x115006.set (x14 : Int).toNat (⟨x11, (rd_T188 x115006 x14).f1, (rd_T188 x115006 x14).f2⟩ : S188)) x116000 x116001 x116002 x116003 x116004 x116005 x116006 x117000 x117001 x117002 x117003 x117004 x117005 x117006) else (none)) else (none)) else (if x115006.length < 23456248059221 then (tables_ZzLookup.l0 k x0 x2 x15 x16 (wrap64 (x17 + 1)) x115000 x115001 x115002 x115003 x115004 x115005 (x115006 ++ [(⟨x11, x11, x12⟩ : S188)]) x116000 x116001 x116002 x116003 x116004 x116005 x116006 x117000 x117001 x117002 x117003 x117004 x117005 x117006) else (none))
end
def tables_ZzLookup.f (k : Nat) (a0 : Int) (l1 : List Int) (l2 : List Int) : Option (Int × Int × Int × Int × Int × Int × (List (S184))) := tables_ZzLookup.l0 k a0 l2 l1 (l1.length : Int) 0 0 0 0 0 0 0 ([] : List (S188)) 0 0 0 0 0 0 ([] : List (S186)) 0 0 0 0 0 0 ([] : List (S184))
theorem tables_ZzLookup.mono_l : ∀ k, (∀ y0 y1 y2 y3 y4 y5 y6 y7 y8 y9 y10 y11 y12 y13 y14 y15 y16 y17 y18 y19 y20 y21 y22 y23 y24 y25, LeO (tables_ZzLookup.l0 k y0 y1 y2 y3 y4 y5 y6 y7 y8 y9 y10 y11 y12 y13 y14 y15 y16 y17 y18 y19 y20 y21 y22 y23 y24 y25) (tables_ZzLookup.l0 (k + 1) y0 y1 y2 y3 y4 y5 y6 y7 y8 y9 y10 y11 y12 y13 y14 y15 y16 y17 y18 y19 y20 y21 y22 y23 y24 y25)) ∧ (∀ y0 y1 y2 y3 y4 y5 y6 y7 y8 y9 y10 y11 y12 y13 y14 y15 y16 y17 y18 y19 y20 y21 y22 y23 y24 y25 y26 y27 y28 y29, LeO (tables_ZzLookup.j1 k y0 y1 y2 y3 y4 y5 y6 y7 y8 y9 y10 y11 y12 y13 y14 y15 y16 y17 y18 y19 y20 y21 y22 y23 y24 y25 y26 y27 y28 y29) (tables_ZzLookup.j1 (k + 1) y0 y1 y2 y3 y4 y5 y6 y7 y8 y9 y10 y11 y12 y13 y14 y15 y16 y17 y18 y19 y20 y21 y22 y23 y24 y25 y26 y27 y28 y29)) ∧ (∀ y0 y1 y2 y3 y4 y5 y6 y7 y8 y9 y10 y11 y12 y13 y14 y15 y16 y17 y18 y19 y20 y21 y22 y23 y24 y25 y26 y27, LeO (tables_ZzLookup.j2 k y0 y1 y2 y3 y4 y5 y6 y7 y8 y9 y10 y11 y12 y13 y14 y15 y16 y17 y18 y19 y20 y21 y22 y23 y24 y25 y26 y27) (tables_ZzLookup.j2 (k + 1) y0 y1 y2 y3 y4 y5 y6 y7 y8 y9 y10 y11 y12 y13 y14 y15 y16 y17 y18 y19 y20 y21 y22 y23 y24 y25 y26 y27)) ∧ (∀ y0 y1 y2 y3 y4 y5 y6 y7 y8 y9 y10 y11 y12 y13 y14 y15 y16 y17 y18 y19 y20 y21 y22 y23 y24 y25 y26 y27 y28 y29, LeO (tables_ZzLookup.j3 k y0 y1 y2 y3 y4 y5 y6 y7 y8 y9 y10 y11 y12 y13 y14 y15 y16 y17 y18 y19 y20 y21 y22 y23 y24 y25 y26 y27 y28 y29) (tables_ZzLookup.j3 (k + 1) y0 y1 y2 y3 y4 y5 y6 y7 y8 y9 y10 y11 y12 y13 y14 y15 y16 y17 y18 y19 y20 y21 y22 y23 y24 y25 y26 y27 y28 y29))
 | 0 => ⟨fun _ _ _ _ _ _ _ _ _ _ _ _ _ _ _ _ _ _ _ _ _ _ _ _ _ _ r h => by simp [tables_ZzLookup.l0] at h, fun _ _ _ _ _ _ _ _ _ _ _ _ _ _ _ _ _ _ _ _ _ _ _ _ _ _ _ _ _ _ r h => by simp [tables_ZzLookup.j1] at h, fun _ _ _ _ _ _ _ _ _ _ _ _ _ _ _ _ _ _ _ _ _ _ _ _ _ _ _ _ r h => by simp [tables_ZzLookup.j2] at h, fun _ _ _ _ _ _ _ _ _ _ _ _ _ _ _ _ _ _ _ _ _ _ _ _ _ _ _ _ _ _ r h => by simp [tables_ZzLookup.j3] at h⟩
 | k + 1 => by
  obtain ⟨ih0, ih1, ih2, ih3⟩ := tables_ZzLookup.mono_l k
  refine ⟨?_, ?_, ?_, ?_⟩
  ·intro y0 y1 y2 y3 y4 y5 y6 y7 y8 y9 y10 y11 y12 y13 y14 y15 y16 y17 y18 y19 y20 y21 y22 y23 y24 y25
   unfold tables_ZzLookup.l0
   repeat' first
   | (with_reducible exact ih0 _ _ _ _ _ _ _ _ _ _ _ _ _ _ _ _ _ _ _ _ _ _ _ _ _ _)
   | (with_reducible exact ih1 _ _ _ _ _ _ _ _ _ _ _ _ _ _ _ _ _ _ _ _ _ _ _ _ _ _ _ _ _ _)
   | (with_reducible exact ih2 _ _ _ _ _ _ _ _ _ _ _ _ _ _ _ _ _ _ _ _ _ _ _ _ _ _ _ _)
   | (with_reducible exact ih3 _ _ _ _ _ _ _ _ _ _ _ _ _ _ _ _ _ _ _ _ _ _ _ _ _ _ _ _ _ _)
   | (with_reducible exact LeO.refl _)
   | (with_reducible exact LeO.none _)
   | (with_reducible refine LeO.ite ?_ ?_)
   | (with_reducible refine LeO.bind ?_ (fun _ => ?_))
   | exact ih0 _ _ _ _ _ _ _ _ _ _ _ _ _ _ _ _ _ _ _ _ _ _ _ _ _ _
   | exact ih1 _ _ _ _ _ _ _ _ _ _ _ _ _ _ _ _ _ _ _ _ _ _ _ _ _ _ _ _ _ _
   | exact ih2 _ _ _ _ _ _ _ _ _ _ _ _ _ _ _ _ _ _ _ _ _ _ _ _ _ _ _ _
   | exact ih3 _ _ _ _ _ _ _ _ _ _ _ _ _ _ _ _ _ _ _ _ _ _ _ _ _ _ _ _ _ _
   | exact LeO.none _
   | refine LeO.ite ?_ ?_
   | refine LeO.bind ?_ (fun _ => ?_)
  ·intro y0 y1 y2 y3 y4 y5 y6 y7 y8 y9 y10 y11 y12 y13 y14 y15 y16 y17 y18 y19 y20 y21 y22 y23 y24 y25 y26 y27 y28 y29
   unfold tables_ZzLookup.j1
   repeat' first
   | (with_reducible exact ih0 _ _ _ _ _ _ _ _ _ _ _ _ _ _ _ _ _ _ _ _ _ _ _ _ _ _)
   | (with_reducible exact ih1 _ _ _ _ _ _ _ _ _ _ _ _ _ _ _ _ _ _ _ _ _ _ _ _ _ _ _ _ _ _)
   | (with_reducible exact ih2 _ _ _ _ _ _ _ _ _ _ _ _ _ _ _ _ _ _ _ _ _ _ _ _ _ _ _ _)
   | (with_reducible exact ih3 _ _ _ _ _ _ _ _ _ _ _ _ _ _ _ _ _ _ _ _ _ _ _ _ _ _ _ _ _ _)
   | (with_reducible exact LeO.refl _)
   | (with_reducible exact LeO.none _)
   | (with_reducible refine LeO.ite ?_ ?_)
   | (with_reducible refine LeO.bind ?_ (fun _ => ?_))
   | exact ih0 _ _ _ _ _ _ _ _ _ _ _ _ _ _ _ _ _ _ _ _ _ _ _ _ _ _
   | exact ih1 _ _ _ _ _ _ _ _ _ _ _ _ _ _ _ _ _ _ _ _ _ _ _ _ _ _ _ _ _ _
   | exact ih2 _ _ _ _ _ _ _ _ _ _ _ _ _ _ _ _ _ _ _ _ _ _ _ _ _ _ _ _
   | exact ih3 _ _ _ _ _ _ _ _ _ _ _ _ _ _ _ _ _ _ _ _ _ _ _ _ _ _ _ _ _ _
   | exact LeO.none _
   | refine LeO.ite ?_ ?_
   | refine LeO.bind ?_ (fun _ => ?_)
  ·intro y0 y1 y2 y3 y4 y5 y6 y7 y8 y9 y10 y11 y12 y13 y14 y15 y16 y17 y18 y19 y20 y21 y22 y23 y24 y25 y26 y27
   unfold tables_ZzLookup.j2
   repeat' first
   | (with_reducible exact ih0 _ _ _ _ _ _ _ _ _ _ _ _ _ _ _ _ _ _ _ _ _ _ _ _ _ _)
   | (with_reducible exact ih1 _ _ _ _ _ _ _ _ _ _ _ _ _ _ _ _ _ _ _ _ _ _ _ _ _ _ _ _ _ _)
   | (with_reducible exact ih2 _ _ _ _ _ _ _ _ _ _ _ _ _ _ _ _ _ _ _ _ _ _ _ _ _ _ _ _)
   | (with_reducible exact ih3 _ _ _ _ _ _ _ _ _ _ _ _ _ _ _ _ _ _ _ _ _ _ _ _ _ _ _ _ _ _)
   | (with_reducible exact LeO.refl _)
   | (with_reducible exact LeO.none _)
   | (with_reducible refine LeO.ite ?_ ?_)
   | (with_reducible refine LeO.bind ?_ (fun _ => ?_))
   | exact ih0 _ _ _ _ _ _ _ _ _ _ _ _ _ _ _ _ _ _ _ _ _ _ _ _ _ _
   | exact ih1 _ _ _ _ _ _ _ _ _ _ _ _ _ _ _ _ _ _ _ _ _ _ _ _ _ _ _ _ _ _
   | exact ih2 _ _ _ _ _ _ _ _ _ _ _ _ _ _ _ _ _ _ _ _ _ _ _ _ _ _ _ _
   | exact ih3 _ _ _ _ _ _ _ _ _ _ _ _ _ _ _ _ _ _ _ _ _ _ _ _ _ _ _ _ _ _
   | exact LeO.none _
   | refine LeO.ite ?_ ?_
   | refine LeO.bind ?_ (fun _ => ?_)
  ·intro y0 y1 y2 y3 y4 y5 y6 y7 y8 y9 y10 y11 y12 y13 y14 y15 y16 y17 y18 y19 y20 y21 y22 y23 y24 y25 y26 y27 y28 y29
   unfold tables_ZzLookup.j3
   repeat' first
   | (with_reducible exact ih0 _ _ _ _ _ _ _ _ _ _ _ _ _ _ _ _ _ _ _ _ _ _ _ _ _ _)
   | (with_reducible exact ih1 _ _ _ _ _ _ _ _ _ _ _ _ _ _ _ _ _ _ _ _ _ _ _ _ _ _ _ _ _ _)
   | (with_reducible exact ih2 _ _ _ _ _ _ _ _ _ _ _ _ _ _ _ _ _ _ _ _ _ _ _ _ _ _ _ _)
   | (with_reducible exact ih3 _ _ _ _ _ _ _ _ _ _ _ _ _ _ _ _ _ _ _ _ _ _ _ _ _ _ _ _ _ _)
   | (with_reducible exact LeO.refl _)
   | (with_reducible exact LeO.none _)
   | (with_reducible refine LeO.ite ?_ ?_)
   | (with_reducible refine LeO.bind ?_ (fun _ => ?_))
   | exact ih0 _ _ _ _ _ _ _ _ _ _ _ _ _ _ _ _ _ _ _ _ _ _ _ _ _ _
   | exact ih1 _ _ _ _ _ _ _ _ _ _ _ _ _ _ _ _ _ _ _ _ _ _ _ _ _ _ _ _ _ _
   | exact ih2 _ _ _ _ _ _ _ _ _ _ _ _ _ _ _ _ _ _ _ _ _ _ _ _ _ _ _ _
   | exact ih3 _ _ _ _ _ _ _ _ _ _ _ _ _ _ _ _ _ _ _ _ _ _ _ _ _ _ _ _ _ _
   | exact LeO.none _
   | refine LeO.ite ?_ ?_
   | refine LeO.bind ?_ (fun _ => ?_)
theorem tables_ZzLookup.mono : ∀ a0 a1 a2 k, LeO (tables_ZzLookup.f k a0 a1 a2) (tables_ZzLookup.f (k + 1) a0 a1 a2) := by
 intro a0 a1 a2 k
 obtain ⟨ih0, ih1, ih2, ih3⟩ := tables_ZzLookup.mono_l k
 unfold tables_ZzLookup.f
 repeat' first
   | (with_reducible exact ih0 _ _ _ _ _ _ _ _ _ _ _ _ _ _ _ _ _ _ _ _ _ _ _ _ _ _)
   | (with_reducible exact ih1 _ _ _ _ _ _ _ _ _ _ _ _ _ _ _ _ _ _ _ _ _ _ _ _ _ _ _ _ _ _)
   | (with_reducible exact ih2 _ _ _ _ _ _ _ _ _ _ _ _ _ _ _ _ _ _ _ _ _ _ _ _ _ _ _ _)
   | (with_reducible exact ih3 _ _ _ _ _ _ _ _ _ _ _ _ _ _ _ _ _ _ _ _ _ _ _ _ _ _ _ _ _ _)
   | (with_reducible exact LeO.refl _)
   | (with_reducible exact LeO.none _)
   | (with_reducible refine LeO.ite ?_ ?_)
   | (with_reducible refine LeO.bind ?_ (fun _ => ?_))
   | exact ih0 _ _ _ _ _ _ _ _ _ _ _ _ _ _ _ _ _ _ _ _ _ _ _ _ _ _
   | exact ih1 _ _ _ _ _ _ _ _ _ _ _ _ _ _ _ _ _ _ _ _ _ _ _ _ _ _ _ _ _ _
   | exact ih2 _ _ _ _ _ _ _ _ _ _ _ _ _ _ _ _ _ _ _ _ _ _ _ _ _ _ _ _
   | exact ih3 _ _ _ _ _ _ _ _ _ _ _ _ _ _ _ _ _ _ _ _ _ _ _ _ _ _ _ _ _ _
   | exact LeO.none _
   | refine LeO.ite ?_ ?_
   | refine LeO.bind ?_ (fun _ => ?_)
def tables_ZzLookup.T12 : Bool × List (List Nat × List Nat) := (true, [([], []), ([0], [0]), ([], []), ([], []), ([3], [3]), ([], []), ([4, 5], [4, 5]), ([6], [6]), ([7], [7]), ([], []), ([9], [9]), ([8, 10], [8, 10]), ([1, 2, 0, 1, 2, 3, 4, 5, 6, 7, 8, 9, 10, 11], [1, 2]), ([12, 0, 1, 2, 3, 4, 5, 6, 7, 8, 9, 10, 11], [12]), ([13, 11, 11, 0, 1, 2, 3, 4, 5, 6, 7, 8, 9, 10, 11], [11, 13])])
def tables_ZzLookup.B12 : List Nat := [0, 1, 0, 0, 8, 0, 56, 120, 248, 0, 512, 2040, 4095, 8191, 16383]
theorem tables_ZzLookup.tab12 : rtab .any (opsOf Try.f53 12) = tables_ZzLookup.T12 := by kernel_rfl
theorem tables_ZzLookup.bits12 : waitsOk tables_ZzLookup.T12.2 tables_ZzLookup.B12 = true := by kernel_rfl
set_option maxHeartbeats 8000000 in
set_option maxRecDepth 100000 in
theorem tables_ZzLookup.calls (k : Nat) (a0 : Int) (A1 : Option Addr) (c1 : Nat) (l1 : List Int) (A2 : Option Addr) (c2 : Nat) (l2 : List Int) (r1 : Int) (r2 : Int) (r3 : Int) (r4 : Int) (r5 : Int) (r6 : Int) (r7 : List (S184)) (w : World) (hr1 : Kd.C (Kd.int .u16) w A1 l1.length l1) (hc1 : l1.length ≤ c1) (hr2 : Kd.C (Kd.int .u16) w A2 l2.length l2) (hc2 : l2.length ≤ c2) (h : tables_ZzLookup.f k a0 l1 l2 = some (r1, r2, r3, r4, r5, r6, r7)) :
  Calls Try.prog 53 #[.int .i64 a0, .slice A1 l1.length c1, .slice A2 l2.length c2] w fun e w' => ∃ v6_ : Value, e = .returned (.iface 182 (.agg #[.int .u16 r1, .int .u16 r2, .int .u16 r3, .int .u16 r4, .int .u16 r5, .int .u16 r6, v6_])) ∧ Kd.R k184 184 w' w.heap.size (fun _ => True) v6_ r7 ∧ Below w.heap.size w w' := by
 have hu176 := Try.underlying176
 have hu179 := Try.underlying179
 have hu182 := Try.underlying182
 have hu184 := Try.underlying184
 have hu186 := Try.underlying186
 have hu188 := Try.underlying188
 have HR1 := Aside0.mk hr1
 have HC1 := Aside0.mk hc1
 clear hr1 hc1
 have HR2 := Aside0.mk hr2
 have HC2 := Aside0.mk hc2
 clear hr2 hc2
 have HB := Aside0.mk (Below.refl w.heap.size w)
 have H : (tables_ZzLookup.l0 k a0 l2 l1 (l1.length : Int) 0 0 0 0 0 0 0 ([] : List (S188)) 0 0 0 0 0 0 ([] : List (S186)) 0 0 0 0 0 0 ([] : List (S184))) = some (r1, r2, r3, r4, r5, r6, r7) := h
 clear h
 have H' := Aside0.mk H
 clear H
 go_enter Try.func53, Try.ntmps53
 go_wp2_with (first | ((with_reducible refine gate_dst (N := 7) rfl ?_); refine box_event ?hg (N := 7) ?hd (cs := #[.int .u16 0, .int .u16 0, .int .u16 0, .int .u16 0, .int .u16 0, .int .u16 0, .slice none 0 0]) (t := 176) ?hr ?_; (case hd => rfl); (case hg => rfl); (case hr => first | (go_simp; done) | (go_simp; rfl)); intro gb114 hg w4 hbox hb; have n0_ := Aside0.mk (below_step (by repeat (first | (with_reducible first | exact HB.out | apply below_alloc | apply pw_below_drewN | apply below_drew1) | exact HB.out)) hb); have n1_ := Aside0.mk (hbox); have n2_ := Aside0.mk ((by rw [hg]; exact (below_size (by repeat (first | (with_reducible first | exact HB.out | apply below_alloc | apply pw_below_drewN | apply below_drew1) | exact HB.out))) : w.heap.size ≤ gb114)); have n3_ := Aside0.mk ((by rw [hg]; exact (below_size (by repeat (first | (with_reducible first | exact HB.out | apply below_alloc | apply pw_below_drewN | apply below_drew1) | exact HB.out))) : w.heap.size ≤ gb114)); clear HB; have HB := n0_; have BK114 := n1_; have GW114 := n2_; have GE114 := n3_; clear n0_ n1_ n2_ n3_; clear hb hbox hg) | ((with_reducible refine gate_dst (N := 8) rfl ?_); refine box_event ?hg (N := 8) ?hd (cs := #[.int .u16 0, .int .u16 0, .int .u16 0, .int .u16 0, .int .u16 0, .int .u16 0, .slice none 0 0]) (t := 179) ?hr ?_; (case hd => rfl); (case hg => rfl); (case hr => first | (go_simp; done) | (go_simp; rfl)); intro gb115 hg w5 hbox hb; have n0_ := Aside0.mk (blk_below (g := gb114) (o := .cells #[.int .u16 0, .int .u16 0, .int .u16 0, .int .u16 0, .int .u16 0, .int .u16 0, .slice none 0 0] 176 (0, 0)) (by (with_reducible repeat (first | refine b1_ ?_ _ | refine b2_ ?_ | refine b3_ ?_ _)); exact BK114.out) hb); have n1_ := Aside0.mk (below_step (by repeat (first | (with_reducible first | exact HB.out | apply below_alloc | apply pw_below_drewN | apply below_drew1 | refine below_set ?_ GE114.out) | exact HB.out)) hb); have n2_ := Aside0.mk (hbox); have n3_ := Aside0.mk ((by rw [hg]; exact (below_size (by repeat (first | (with_reducible first | exact HB.out | apply below_alloc | apply pw_below_drewN | apply below_drew1 | refine below_set ?_ GE114.out) | exact HB.out))) : w.heap.size ≤ gb115)); have n4_ := Aside0.mk ((by rw [hg]; exact (below_size (by repeat (first | (with_reducible first | exact HB.out | apply below_alloc | apply pw_below_drewN | apply below_drew1 | refine below_set ?_ GE114.out) | exact HB.out))) : w.heap.size ≤ gb115)); have n5_ := Aside0.mk ((by rw [hg]; exact Nat.ne_of_lt (blk_lt (g := gb114) (o := .cells #[.int .u16 0, .int .u16 0, .int .u16 0, .int .u16 0, .int .u16 0, .int .u16 0, .slice none 0 0] 176 (0, 0)) (by (with_reducible repeat (first | refine b1_ ?_ _ | refine b2_ ?_ | refine b3_ ?_ _)); exact BK114.out)) : gb114 ≠ gb115)); have n6_ := Aside0.mk ((by rw [hg]; exact Nat.ne_of_gt (blk_lt (g := gb114) (o := .cells #[.int .u16 0, .int .u16 0, .int .u16 0, .int .u16 0, .int .u16 0, .int .u16 0, .slice none 0 0] 176 (0, 0)) (by (with_reducible repeat (first | refine b1_ ?_ _ | refine b2_ ?_ | refine b3_ ?_ _)); exact BK114.out)) : gb115 ≠ gb114)); clear BK114; clear HB; have BK114 := n0_; have HB := n1_; have BK115 := n2_; have GW115 := n3_; have GE115 := n4_; have NB114_115 := n5_; have NB115_114 := n6_; clear n0_ n1_ n2_ n3_ n4_ n5_ n6_; clear hb hbox hg) | ((with_reducible refine gate_dst (N := 9) rfl ?_); refine box_event ?hg (N := 9) ?hd (cs := #[.int .u16 0, .int .u16 0, .int .u16 0, .int .u16 0, .int .u16 0, .int .u16 0, .slice none 0 0]) (t := 182) ?hr ?_; (case hd => rfl); (case hg => rfl); (case hr => first | (go_simp; done) | (go_simp; rfl)); intro gb116 hg w6 hbox hb; have n0_ := Aside0.mk (blk_below (g := gb114) (o := .cells #[.int .u16 0, .int .u16 0, .int .u16 0, .int .u16 0, .int .u16 0, .int .u16 0, .slice none 0 0] 176 (0, 0)) (by (with_reducible repeat (first | refine b1_ ?_ _ | refine b2_ ?_ | refine b3_ ?_ _)); exact BK114.out) hb); have n1_ := Aside0.mk (blk_below (g := gb115) (o := .cells #[.int .u16 0, .int .u16 0, .int .u16 0, .int .u16 0, .int .u16 0, .int .u16 0, .slice none 0 0] 179 (0, 0)) (by (with_reducible repeat (first | refine b1_ ?_ _ | refine b2_ ?_ | refine b3_ ?_ _)); exact BK115.out) hb); have n2_ := Aside0.mk (below_step (by repeat (first | (with_reducible first | exact HB.out | apply below_alloc | apply pw_below_drewN | apply below_drew1 | refine below_set ?_ GE114.out | refine below_set ?_ GE115.out) | exact HB.out)) hb); have n3_ := Aside0.mk (hbox); have n4_ := Aside0.mk ((by rw [hg]; exact (below_size (by repeat (first | (with_reducible first | exact HB.out | apply below_alloc | apply pw_below_drewN | apply below_drew1 | refine below_set ?_ GE114.out | refine below_set ?_ GE115.out) | exact HB.out))) : w.heap.size ≤ gb116)); have n5_ := Aside0.mk ((by rw [hg]; exact (below_size (by repeat (first | (with_reducible first | exact HB.out | apply below_alloc | apply pw_below_drewN | apply below_drew1 | refine below_set ?_ GE114.out | refine below_set ?_ GE115.out) | exact HB.out))) : w.heap.size ≤ gb116)); have n6_ := Aside0.mk ((by rw [hg]; exact Nat.ne_of_lt (blk_lt (g := gb114) (o := .cells #[.int .u16 0, .int .u16 0, .int .u16 0, .int .u16 0, .int .u16 0, .int .u16 0, .slice none 0 0] 176 (0, 0)) (by (with_reducible repeat (first | refine b1_ ?_ _ | refine b2_ ?_ | refine b3_ ?_ _)); exact BK114.out)) : gb114 ≠ gb116)); have n7_ := Aside0.mk ((by rw [hg]; exact Nat.ne_of_gt (blk_lt (g := gb114) (o := .cells #[.int .u16 0, .int .u16 0, .int .u16 0, .int .u16 0, .int .u16 0, .int .u16 0, .slice none 0 0] 176 (0, 0)) (by (with_reducible repeat (first | refine b1_ ?_ _ | refine b2_ ?_ | refine b3_ ?_ _)); exact BK114.out)) : gb116 ≠ gb114)); have n8_ := Aside0.mk ((by rw [hg]; exact Nat.ne_of_lt (blk_lt (g := gb115) (o := .cells #[.int .u16 0, .int .u16 0, .int .u16 0, .int .u16 0, .int .u16 0, .int .u16 0, .slice none 0 0] 179 (0, 0)) (by (with_reducible repeat (first | refine b1_ ?_ _ | refine b2_ ?_ | refine b3_ ?_ _)); exact BK115.out)) : gb115 ≠ gb116)); have n9_ := Aside0.mk ((by rw [hg]; exact Nat.ne_of_gt (blk_lt (g := gb115) (o := .cells #[.int .u16 0, .int .u16 0, .int .u16 0, .int .u16 0, .int .u16 0, .int .u16 0, .slice none 0 0] 179 (0, 0)) (by (with_reducible repeat (first | refine b1_ ?_ _ | refine b2_ ?_ | refine b3_ ?_ _)); exact BK115.out)) : gb116 ≠ gb115)); clear BK114; clear BK115; clear HB; have BK114 := n0_; have BK115 := n1_; have HB := n2_; have BK116 := n3_; have GW116 := n4_; have GE116 := n5_; have NB114_116 := n6_; have NB116_114 := n7_; have NB115_116 := n8_; have NB116_115 := n9_; clear n0_ n1_ n2_ n3_ n4_ n5_ n6_ n7_ n8_ n9_; clear hb hbox hg))
 go_loopg [17] k (fun kq v17 w' => ∃ (x17_1 : Int) (x115006_1 : List (S188)) (x116006_1 : List (S186)) (x117006_1 : List (S184)) (u115006 : Value) (u116006 : Value) (u117006 : Value), v17 = .int .i64 x17_1 ∧ Aside0 (tables_ZzLookup.l0 kq a0 l2 l1 (l1.length : Int) x17_1 0 0 0 0 0 0 x115006_1 0 0 0 0 0 0 x116006_1 0 0 0 0 0 0 x117006_1 = some (r1, r2, r3, r4, r5, r6, r7)) ∧ Aside0 (kq ≤ k) ∧ Aside0 (Kd.R k188 188 w' w.heap.size (fun _ => True) u115006 x115006_1) ∧ Aside0 (Kd.S k186 186 w' w.heap.size (fun _ => True) u116006 x116006_1) ∧ Aside0 (Kd.R k184 184 w' w.heap.size (fun _ => True) u117006 x117006_1) ∧ Aside0 (w'.heap[gb114]? = some (.cells #[.int .u16 0, .int .u16 0, .int .u16 0, .int .u16 0, .int .u16 0, .int .u16 0, u115006] 176 (0, 0))) ∧ Aside0 (w'.heap[gb115]? = some (.cells #[.int .u16 0, .int .u16 0, .int .u16 0, .int .u16 0, .int .u16 0, .int .u16 0, u116006] 179 (0, 0))) ∧ Aside0 (w'.heap[gb116]? = some (.cells #[.int .u16 0, .int .u16 0, .int .u16 0, .int .u16 0, .int .u16 0, .int .u16 0, u117006] 182 (0, 0))) ∧ Aside0 (Below w.heap.size w w'))
 case atStart => exact ⟨(0), (([] : List (S188))), (([] : List (S186))), (([] : List (S184))), (.slice none 0 0), (.slice none 0 0), (.slice none 0 0), (by first | rfl | (simp; done) | (simp [*]; done)), H', ⟨Nat.le_refl _⟩, ⟨by first | exact Kd.R_nil _ _ _ _ _ | exact Kd.N_nil _ _ _ _ _ | exact Kd.V_nil _ _ _ _ _ | exact Kd.Q_nil _ _ _ _ _ | exact Kd.S_nil _ _ _ _ _⟩, ⟨by first | exact Kd.S_nil _ _ _ _ _ | exact Kd.N_nil _ _ _ _ _ | exact Kd.V_nil _ _ _ _ _ | exact Kd.Q_nil _ _ _ _ _ | exact Kd.R_nil _ _ _ _ _⟩, ⟨by first | exact Kd.R_nil _ _ _ _ _ | exact Kd.N_nil _ _ _ _ _ | exact Kd.V_nil _ _ _ _ _ | exact Kd.Q_nil _ _ _ _ _ | exact Kd.S_nil _ _ _ _ _⟩, ⟨by (with_reducible repeat (first | refine b1_ ?_ _ | refine b2_ ?_ | refine b3_ ?_ _)); exact BK114.out⟩, ⟨by (with_reducible repeat (first | refine b1_ ?_ _ | refine b2_ ?_ | refine b3_ ?_ _)); exact BK115.out⟩, ⟨by (with_reducible repeat (first | refine b1_ ?_ _ | refine b2_ ?_ | refine b3_ ?_ _)); exact BK116.out⟩, ⟨by repeat (first | (with_reducible first | exact HB.out | apply below_alloc | apply pw_below_drewN | apply below_drew1 | refine below_set ?_ GE114.out | refine below_set ?_ GE115.out | refine below_set ?_ GE116.out) | exact HB.out)⟩⟩
 case round =>
  clear H'
  try clear c1
  try clear c2
  try clear p2
  try clear c5
  obtain ⟨x17_1, x115006_1, x116006_1, x117006_1, u115006, u116006, u117006, rfl, HA, HK1, HO_115006, HO_116006, HO_117006, BK114, BK115, BK116, HB⟩ := hrel
  cases gk with
  | zero => exact absurd HA.out (by simp [tables_ZzLookup.l0])
  | succ k1 =>
   have H := HA.out
   clear HA
   simp only [tables_ZzLookup.l0] at H
   by_cases c7 : x17_1 < (l1.length : Int)
   ·rw [if_pos c7] at H
    have c7b0 : decide (x17_1 < (l1.length : Int)) = true := decide_eq_true c7
    clear c7
    by_cases c8 : 0 ≤ x17_1
    ·rw [if_pos c8] at H
     have c8b0 : decide (0 ≤ x17_1) = true := decide_eq_true c8
     clear c8
     by_cases c9 : x17_1 < (l1.length : Int)
     ·rw [if_pos c9] at H
      have c9b0 : decide (x17_1 < (l1.length : Int)) = true := decide_eq_true c9
      clear c9
      by_cases c10 : x17_1 < (l2.length : Int)
      ·rw [if_pos c10] at H
       have c10b0 : decide (x17_1 < (l2.length : Int)) = true := decide_eq_true c10
       clear c10
       by_cases c11 : x117006_1.length < 35184372088832
       ·rw [if_pos c11] at H
        have LMc11 := Aside0.mk c11
        clear c11
        obtain ⟨y119, hy119⟩ : ∃ y_ : List (S184), y_ = (x117006_1 ++ [(⟨rd l1 x17_1, rd l2 x17_1⟩ : S184)]) := ⟨_, rfl⟩
        replace H : (if (wrap64 ((x116006_1.length : Int) - 1)) ≥ 0 then (if 0 ≤ (wrap64 ((x116006_1.length : Int) - 1)) then (if (wrap64 ((x116006_1.length : Int) - 1)) < (x116006_1.length : Int) then (tables_ZzLookup.j1 k1 a0 l2 (rd l1 x17_1) (rd l2 x17_1) (wrap64 ((x116006_1.length : Int) - 1)) l1 (l1.length : Int) x17_1 ((IntKind.u16.wrap (((rd_T186 x116006_1 (wrap64 ((x116006_1.length : Int) - 1))).f0) + 1)) == (rd l1 x17_1)) 0 0 0 0 0 0 x115006_1 0 0 0 0 0 0 x116006_1 0 0 0 0 0 0 y119) else (none)) else (none)) else (tables_ZzLookup.j1 k1 a0 l2 (rd l1 x17_1) (rd l2 x17_1) (wrap64 ((x116006_1.length : Int) - 1)) l1 (l1.length : Int) x17_1 false 0 0 0 0 0 0 x115006_1 0 0 0 0 0 0 x116006_1 0 0 0 0 0 0 y119)) = some (r1, r2, r3, r4, r5, r6, r7) := by first | (rw [hy119]; with_reducible exact H) | (have H2_ := (Option.bind_some _ _).symm.trans H; rw [hy119]; with_reducible exact H2_) | (have H2_ := (Option.bind_some _ _).symm.trans H; with_reducible exact H2_) | with_reducible exact H | (rw [hy119]; exact H) | exact H
        have Ny119 := Aside0.mk hy119
        clear hy119
        have HC12 := Aside0.mk H
        clear H
        have p117 : 0 ≤ (x17_1 : Int) := of_decide_eq_true (by first | (with_reducible assumption) | assumption)
        have q117 : x17_1 < (l1.length : Int) := of_decide_eq_true (by first | (with_reducible assumption) | assumption)
        obtain ⟨ad117, e117, hx117_0⟩ := Kd.at_int HR1.out x17_1 p117 q117
        cases e117
        replace hx117_0 := (HB.out.cell (World.block_lt_of_cell? w _ hx117_0)).trans hx117_0
        replace p117 := eq_true p117
        replace q117 := eq_true q117
        have p118 : 0 ≤ (x17_1 : Int) := of_decide_eq_true (by first | (with_reducible assumption) | assumption)
        have q118 : x17_1 < (l2.length : Int) := of_decide_eq_true (by first | (with_reducible assumption) | assumption)
        obtain ⟨ad118, e118, hx118_0⟩ := Kd.at_int HR2.out x17_1 p118 q118
        cases e118
        replace hx118_0 := (HB.out.cell (World.block_lt_of_cell? w _ hx118_0)).trans hx118_0
        replace p118 := eq_true p118
        replace q118 := eq_true q118
        have hnb13 := NB116_114.out
        have hnc13 := NB114_116.out
        have hnb14 := NB116_115.out
        have hnc14 := NB115_116.out
        have hcz15_0 : wr.cell? ⟨gb116, 0, none⟩ = some (.int .u16 0) := (blk_cell BK116.out 0).trans rfl
        have hcz15_1 : wr.cell? ⟨gb116, 1, none⟩ = some (.int .u16 0) := (blk_cell BK116.out 1).trans rfl
        have hcz15_2 : wr.cell? ⟨gb116, 2, none⟩ = some (.int .u16 0) := (blk_cell BK116.out 2).trans rfl
        have hcz15_3 : wr.cell? ⟨gb116, 3, none⟩ = some (.int .u16 0) := (blk_cell BK116.out 3).trans rfl
        have hcz15_4 : wr.cell? ⟨gb116, 4, none⟩ = some (.int .u16 0) := (blk_cell BK116.out 4).trans rfl
        have hcz15_5 : wr.cell? ⟨gb116, 5, none⟩ = some (.int .u16 0) := (blk_cell BK116.out 5).trans rfl
        have hcz15_6 : wr.cell? ⟨gb116, 6, none⟩ = some (u117006) := (blk_cell BK116.out 6).trans rfl
        have hfz15_0 := blk_frozen BK116.out 0
        have hfz15_1 := blk_frozen BK116.out 1
        have hfz15_2 := blk_frozen BK116.out 2
        have hfz15_3 := blk_frozen BK116.out 3
        have hfz15_4 := blk_frozen BK116.out 4
        have hfz15_5 := blk_frozen BK116.out 5
        have hfz15_6 := blk_frozen BK116.out 6
        go_upto_region 10 with (first | ((with_reducible refine gate_builtin (b := .append) (xs := #[.tmp 27, .tmp 31]) rfl ?_); at_builtin; refine Kd.R_append k184 (w0 := w) w.heap.size rfl (.tmp 27) (.tmp 31) 180 184 (.agg #[(.int .u16 0), (.int .u16 0)]) 4 rfl Try.underlying180 info184 rfl (by decide) (by omega) u117006 x117006_1 (⟨rd l1 x17_1, rd l2 x17_1⟩ : S184) [.int .u16 (rd l1 x17_1), .int .u16 (rd l2 x17_1)] (fun _ => True) (fun _ => False) rfl rfl ?aP (fun _ hk => hk.elim) ?aF ?aO ?aB ?aS ?aL ?_; (case aP => exact k184_mkM _ _ _ (⟨rd l1 x17_1, rd l2 x17_1⟩ : S184)); (case aB => exact (by repeat (first | (with_reducible first | exact HB.out | apply below_alloc | apply pw_below_drewN | apply below_drew1 | refine below_set ?_ GE114.out | refine below_set ?_ GE115.out | refine below_set ?_ GE116.out) | exact HB.out))); (case aF => exact (fun _ _ => trivial)); (case aO => exact (by (with_reducible repeat (first | apply Kd.R_alloc | apply Kd.R_drewN | apply Kd.R_drew)); exact HO_117006.out)); (case aS => exact (below_size (by repeat (first | (with_reducible first | exact HB.out | apply below_alloc | apply pw_below_drewN | apply below_drew1 | refine below_set ?_ GE114.out | refine below_set ?_ GE115.out | refine below_set ?_ GE116.out) | exact HB.out)))); (case aL => have := LMc11.out; omega); intro v120 w16 ho hb hg hat; rw [← Ny119.out] at ho; have n0_ := Aside0.mk (Kd.R_over' (by (with_reducible repeat (first | apply Kd.R_alloc | apply Kd.R_drewN | apply Kd.R_drew)); exact HO_115006.out) (Kd.R_typed (by (with_reducible repeat (first | apply Kd.R_alloc | apply Kd.R_drewN | apply Kd.R_drew)); exact HO_117006.out)) (by decide) hg); have n1_ := Aside0.mk (Kd.S_over' (by (with_reducible repeat (first | apply Kd.S_alloc | apply Kd.S_drewN | apply Kd.S_drew)); exact HO_116006.out) (Kd.R_typed (by (with_reducible repeat (first | apply Kd.R_alloc | apply Kd.R_drewN | apply Kd.R_drew)); exact HO_117006.out)) (by decide) hg); have n2_ := Aside0.mk (blk_grown (g := gb114) (o := .cells #[.int .u16 0, .int .u16 0, .int .u16 0, .int .u16 0, .int .u16 0, .int .u16 0, u115006] 176 (0, 0)) (by (with_reducible repeat (first | refine b1_ ?_ _ | refine b2_ ?_ | refine b3_ ?_ _)); exact BK114.out) hg (Kd.R_ne HO_117006.out BK114.out (by decide))); have n3_ := Aside0.mk (blk_grown (g := gb115) (o := .cells #[.int .u16 0, .int .u16 0, .int .u16 0, .int .u16 0, .int .u16 0, .int .u16 0, u116006] 179 (0, 0)) (by (with_reducible repeat (first | refine b1_ ?_ _ | refine b2_ ?_ | refine b3_ ?_ _)); exact BK115.out) hg (Kd.R_ne HO_117006.out BK115.out (by decide))); have n4_ := Aside0.mk (blk_grown (g := gb116) (o := .cells #[.int .u16 0, .int .u16 0, .int .u16 0, .int .u16 0, .int .u16 0, .int .u16 0, u117006] 182 (0, 0)) (by (with_reducible repeat (first | refine b1_ ?_ _ | refine b2_ ?_ | refine b3_ ?_ _)); exact BK116.out) hg (Kd.R_ne HO_117006.out BK116.out (by decide))); have n5_ := Aside0.mk (hb); have n6_ := Aside0.mk (ho); clear HO_115006; clear HO_116006; clear BK114; clear BK115; clear BK116; clear HB; clear HO_117006; have HO_115006 := n0_; have HO_116006 := n1_; have BK114 := n2_; have BK115 := n3_; have BK116 := n4_; have HB := n5_; have HO121 := n6_; clear n0_ n1_ n2_ n3_ n4_ n5_ n6_; clear ho hb hg hat; obtain ⟨Ao17, co17, eo17⟩ := Kd.R_slice HO121.out; subst eo17; have hcz18_0 : w16.cell? ⟨gb116, 0, none⟩ = some (.int .u16 0) := (blk_cell BK116.out 0).trans rfl; have hcz18_1 : w16.cell? ⟨gb116, 1, none⟩ = some (.int .u16 0) := (blk_cell BK116.out 1).trans rfl; have hcz18_2 : w16.cell? ⟨gb116, 2, none⟩ = some (.int .u16 0) := (blk_cell BK116.out 2).trans rfl; have hcz18_3 : w16.cell? ⟨gb116, 3, none⟩ = some (.int .u16 0) := (blk_cell BK116.out 3).trans rfl; have hcz18_4 : w16.cell? ⟨gb116, 4, none⟩ = some (.int .u16 0) := (blk_cell BK116.out 4).trans rfl; have hcz18_5 : w16.cell? ⟨gb116, 5, none⟩ = some (.int .u16 0) := (blk_cell BK116.out 5).trans rfl; have hcz18_6 : w16.cell? ⟨gb116, 6, none⟩ = some (u117006) := (blk_cell BK116.out 6).trans rfl; have hfz18_0 := blk_frozen BK116.out 0; have hfz18_1 := blk_frozen BK116.out 1; have hfz18_2 := blk_frozen BK116.out 2; have hfz18_3 := blk_frozen BK116.out 3; have hfz18_4 := blk_frozen BK116.out 4; have hfz18_5 := blk_frozen BK116.out 5; have hfz18_6 := blk_frozen BK116.out 6; have hnb19 := NB115_114.out; have hnc19 := NB114_115.out; have hcz20_0 : w16.cell? ⟨gb115, 0, none⟩ = some (.int .u16 0) := (blk_cell BK115.out 0).trans rfl; have hcz20_1 : w16.cell? ⟨gb115, 1, none⟩ = some (.int .u16 0) := (blk_cell BK115.out 1).trans rfl; have hcz20_2 : w16.cell? ⟨gb115, 2, none⟩ = some (.int .u16 0) := (blk_cell BK115.out 2).trans rfl; have hcz20_3 : w16.cell? ⟨gb115, 3, none⟩ = some (.int .u16 0) := (blk_cell BK115.out 3).trans rfl; have hcz20_4 : w16.cell? ⟨gb115, 4, none⟩ = some (.int .u16 0) := (blk_cell BK115.out 4).trans rfl; have hcz20_5 : w16.cell? ⟨gb115, 5, none⟩ = some (.int .u16 0) := (blk_cell BK115.out 5).trans rfl; have hcz20_6 : w16.cell? ⟨gb115, 6, none⟩ = some (u116006) := (blk_cell BK115.out 6).trans rfl; have hfz20_0 := blk_frozen BK115.out 0; have hfz20_1 := blk_frozen BK115.out 1; have hfz20_2 := blk_frozen BK115.out 2; have hfz20_3 := blk_frozen BK115.out 3; have hfz20_4 := blk_frozen BK115.out 4; have hfz20_5 := blk_frozen BK115.out 5; have hfz20_6 := blk_frozen BK115.out 6; obtain ⟨Ao21, co21, eo21⟩ := Kd.S_slice HO_116006.out; subst eo21))
        (try simp only [Act.put, L1_, L2_, L3_])
        go_cut [50] (fun v50 wc => ∃ (kq : Nat) (x50_11 : Bool), v50 = .bool x50_11 ∧ Aside0 (tables_ZzLookup.j1 kq a0 l2 (rd l1 x17_1) (rd l2 x17_1) (wrap64 ((x116006_1.length : Int) - 1)) l1 (l1.length : Int) x17_1 x50_11 0 0 0 0 0 0 x115006_1 0 0 0 0 0 0 x116006_1 0 0 0 0 0 0 y119 = some (r1, r2, r3, r4, r5, r6, r7)) ∧ Aside0 (kq ≤ k1) ∧ Aside0 (Kd.R k188 188 wc w.heap.size (fun _ => True) u115006 x115006_1) ∧ Aside0 (Kd.S k186 186 wc w.heap.size (fun _ => True) (.slice Ao21 x116006_1.length co21) x116006_1) ∧ Aside0 (Kd.R k184 184 wc w.heap.size (fun _ => True) (.slice Ao17 y119.length co17) y119) ∧ Aside0 (wc.heap[gb114]? = some (.cells #[.int .u16 0, .int .u16 0, .int .u16 0, .int .u16 0, .int .u16 0, .int .u16 0, u115006] 176 (0, 0))) ∧ Aside0 (wc.heap[gb115]? = some (.cells #[.int .u16 0, .int .u16 0, .int .u16 0, .int .u16 0, .int .u16 0, .int .u16 0, (.slice Ao21 x116006_1.length co21)] 179 (0, 0))) ∧ Aside0 (wc.heap[gb116]? = some (.cells #[.int .u16 0, .int .u16 0, .int .u16 0, .int .u16 0, .int .u16 0, .int .u16 0, (.slice Ao17 y119.length co17)] 182 (0, 0))) ∧ Aside0 (Below w.heap.size w wc))
        case first =>
         have H := HC12.out
         clear HC12
         by_cases c22 : (wrap64 ((x116006_1.length : Int) - 1)) ≥ 0
         ·rw [if_pos c22] at H
          have c22b0 : decide (0 ≤ (wrap64 ((x116006_1.length : Int) - 1))) = true := decide_eq_true c22
          clear c22
          (first | rw [c22b0] | (simp only [i64_w, i32_w]; rw [c22b0]) | skip)
          obtain ⟨ji23, hji23⟩ : ∃ j_ : Int, (wrap64 ((x116006_1.length : Int) - 1)) = j_ := ⟨_, rfl⟩
          replace H : (if 0 ≤ (ji23) then (if (ji23) < (x116006_1.length : Int) then (tables_ZzLookup.j1 k1 a0 l2 (rd l1 x17_1) (rd l2 x17_1) ji23 l1 (l1.length : Int) x17_1 ((IntKind.u16.wrap (((rd_T186 x116006_1 (ji23)).f0) + 1)) == (rd l1 x17_1)) 0 0 0 0 0 0 x115006_1 0 0 0 0 0 0 x116006_1 0 0 0 0 0 0 y119) else (none)) else (none)) = some (r1, r2, r3, r4, r5, r6, r7) := by first | (rw [hji23] at H; exact H) | (simp only [hji23] at H ⊢; exact H)
          (try rw [hji23] at c22b0)
          have hji23w : (IntKind.i64.wrap ((x116006_1.length : Int) - 1)) = ji23 := (i64_w _).trans hji23
          by_cases c24 : 0 ≤ (ji23)
          ·rw [if_pos c24] at H
           have c24b0 : decide (0 ≤ (ji23)) = true := decide_eq_true c24
           clear c24
           by_cases c25 : (ji23) < (x116006_1.length : Int)
           ·rw [if_pos c25] at H
            have c25b0 : decide ((ji23) < (x116006_1.length : Int)) = true := decide_eq_true c25
            clear c25
            have H' := Aside0.mk H
            clear H
            have hnb26 := NB115_114.out
            have hnc26 := NB114_115.out
            have hnb27 := NB115_116.out
            have hnc27 := NB116_115.out
            have hcz28_0 : w16.cell? ⟨gb115, 0, none⟩ = some (.int .u16 0) := (blk_cell BK115.out 0).trans rfl
            have hcz28_1 : w16.cell? ⟨gb115, 1, none⟩ = some (.int .u16 0) := (blk_cell BK115.out 1).trans rfl
            have hcz28_2 : w16.cell? ⟨gb115, 2, none⟩ = some (.int .u16 0) := (blk_cell BK115.out 2).trans rfl
            have hcz28_3 : w16.cell? ⟨gb115, 3, none⟩ = some (.int .u16 0) := (blk_cell BK115.out 3).trans rfl
            have hcz28_4 : w16.cell? ⟨gb115, 4, none⟩ = some (.int .u16 0) := (blk_cell BK115.out 4).trans rfl
            have hcz28_5 : w16.cell? ⟨gb115, 5, none⟩ = some (.int .u16 0) := (blk_cell BK115.out 5).trans rfl
            have hcz28_6 : w16.cell? ⟨gb115, 6, none⟩ = some (.slice Ao21 x116006_1.length co21) := (blk_cell BK115.out 6).trans rfl
            have hfz28_0 := blk_frozen BK115.out 0
            have hfz28_1 := blk_frozen BK115.out 1
            have hfz28_2 := blk_frozen BK115.out 2
            have hfz28_3 := blk_frozen BK115.out 3
            have hfz28_4 := blk_frozen BK115.out 4
            have hfz28_5 := blk_frozen BK115.out 5
            have hfz28_6 := blk_frozen BK115.out 6
            have p122 : 0 ≤ ((ji23) : Int) := of_decide_eq_true (by first | (with_reducible assumption) | assumption)
            have q122 : (ji23) < (x116006_1.length : Int) := of_decide_eq_true (by first | (with_reducible assumption) | assumption)
            obtain ⟨ad122, A122_2, c122_2, e122, hx122_0, hx122_1, hx122_2, hl122_2, hi122_2⟩ := at_T186 (Kd.S_reads' HO_116006.out).2.2 (ji23) p122 q122
            cases e122
            have hn122_0 : ad122.block ≠ gb116 := Kd.own_blk (Kd.S_ne HO_116006.out BK116.out (by decide))
            have HR122_2 := Aside0.mk hi122_2
            have HC122_2 := Aside0.mk hl122_2
            clear hi122_2 hl122_2
            replace hx122_0 := (cell_far (p := ⟨gb116, 6, none⟩) (by first | (rw [add_block]; exact hn122_0) | (show (Addr.add _ _).block ≠ _; rw [add_block]; exact hn122_0) | exact hn122_0) (.slice Ao17 y119.length co17)).trans hx122_0
            replace hx122_1 := (cell_far (p := ⟨gb116, 6, none⟩) (by first | (rw [add_block]; exact hn122_0) | (show (Addr.add _ _).block ≠ _; rw [add_block]; exact hn122_0) | exact hn122_0) (.slice Ao17 y119.length co17)).trans hx122_1
            replace hx122_2 := (cell_far (p := ⟨gb116, 6, none⟩) (by first | (rw [add_block]; exact hn122_0) | (show (Addr.add _ _).block ≠ _; rw [add_block]; exact hn122_0) | exact hn122_0) (.slice Ao17 y119.length co17)).trans hx122_2
            clear hn122_0
            replace p122 := eq_true p122
            replace q122 := eq_true q122
            go_wp2
            (try rw [← hji23])
            go_meet
            case rel => exact ⟨_, (((IntKind.u16.wrap (((rd_T186 x116006_1 (ji23)).f0) + 1)) == (rd l1 x17_1))), (by first | rfl | (simp; done) | (simp only [← hji23] <;> (first | rfl | simp)) | (simp [*]; done)), (by first | (with_reducible exact H') | (rw [hji23]; with_reducible exact H')), ⟨by have := HK1.out; first | omega | exact Nat.le_refl _⟩, ⟨by (try rw [hji23]); (with_reducible repeat (first | apply Kd.R_alloc | apply Kd.R_drewN | apply Kd.R_drew)); exact Kd.R_mono (Kd.R_far (p := ⟨gb116, 6, none⟩) (Kd.R_types HO_115006.out BK116.out (by decide)) (fun _ hk => hk.2) (.slice Ao17 y119.length co17)) (fun _ hk => trivial)⟩, ⟨by (try rw [hji23]); (with_reducible repeat (first | apply Kd.S_alloc | apply Kd.S_drewN | apply Kd.S_drew)); exact Kd.S_mono (Kd.S_far (p := ⟨gb116, 6, none⟩) (Kd.S_types HO_116006.out BK116.out (by decide)) (fun _ hk => hk.2) (.slice Ao17 y119.length co17)) (fun _ hk => trivial)⟩, ⟨by (try rw [hji23]); (with_reducible repeat (first | apply Kd.R_alloc | apply Kd.R_drewN | apply Kd.R_drew)); exact Kd.R_mono (Kd.R_far (p := ⟨gb116, 6, none⟩) (Kd.R_types HO121.out BK116.out (by decide)) (fun _ hk => hk.2) (.slice Ao17 y119.length co17)) (fun _ hk => trivial)⟩, ⟨by (try rw [hji23]); (with_reducible repeat (first | refine b1_ ?_ _ | refine b2_ ?_ | refine b3_ ?_ _)); refine blk_far ?_ NB114_116.out _; (with_reducible repeat (first | refine b1_ ?_ _ | refine b2_ ?_ | refine b3_ ?_ _)); exact BK114.out⟩, ⟨by (try rw [hji23]); (with_reducible repeat (first | refine b1_ ?_ _ | refine b2_ ?_ | refine b3_ ?_ _)); refine blk_far ?_ NB115_116.out _; (with_reducible repeat (first | refine b1_ ?_ _ | refine b2_ ?_ | refine b3_ ?_ _)); exact BK115.out⟩, ⟨by (try rw [hji23]); (with_reducible repeat (first | refine b1_ ?_ _ | refine b2_ ?_ | refine b3_ ?_ _)); refine blk_put (cs := #[.int .u16 0, .int .u16 0, .int .u16 0, .int .u16 0, .int .u16 0, .int .u16 0, u117006]) ?_ 6 _ rfl; (with_reducible repeat (first | refine b1_ ?_ _ | refine b2_ ?_ | refine b3_ ?_ _)); exact BK116.out⟩, ⟨by repeat (first | (with_reducible first | exact HB.out | apply below_alloc | apply pw_below_drewN | apply below_drew1 | refine below_set ?_ GE114.out | refine below_set ?_ GE115.out | refine below_set ?_ GE116.out) | exact HB.out)⟩⟩
           ·rw [if_neg c25] at H
            exact absurd H (by simp)
          ·rw [if_neg c24] at H
           exact absurd H (by simp)
         ·rw [if_neg c22] at H
          have c22b0 : decide (0 ≤ (wrap64 ((x116006_1.length : Int) - 1))) = false := decide_eq_false c22
          clear c22
          (first | rw [c22b0] | (simp only [i64_w, i32_w]; rw [c22b0]) | skip)
          have H' := Aside0.mk H
          clear H
          go_wp2
          go_meet
          case rel => exact ⟨_, (false), (by first | rfl | (simp; done) | (simp [*]; done)), H', ⟨by have := HK1.out; first | omega | exact Nat.le_refl _⟩, ⟨by (with_reducible repeat (first | apply Kd.R_alloc | apply Kd.R_drewN | apply Kd.R_drew)); exact Kd.R_mono (Kd.R_far (p := ⟨gb116, 6, none⟩) (Kd.R_types HO_115006.out BK116.out (by decide)) (fun _ hk => hk.2) (.slice Ao17 y119.length co17)) (fun _ hk => trivial)⟩, ⟨by (with_reducible repeat (first | apply Kd.S_alloc | apply Kd.S_drewN | apply Kd.S_drew)); exact Kd.S_mono (Kd.S_far (p := ⟨gb116, 6, none⟩) (Kd.S_types HO_116006.out BK116.out (by decide)) (fun _ hk => hk.2) (.slice Ao17 y119.length co17)) (fun _ hk => trivial)⟩, ⟨by (with_reducible repeat (first | apply Kd.R_alloc | apply Kd.R_drewN | apply Kd.R_drew)); exact Kd.R_mono (Kd.R_far (p := ⟨gb116, 6, none⟩) (Kd.R_types HO121.out BK116.out (by decide)) (fun _ hk => hk.2) (.slice Ao17 y119.length co17)) (fun _ hk => trivial)⟩, ⟨by (with_reducible repeat (first | refine b1_ ?_ _ | refine b2_ ?_ | refine b3_ ?_ _)); refine blk_far ?_ NB114_116.out _; (with_reducible repeat (first | refine b1_ ?_ _ | refine b2_ ?_ | refine b3_ ?_ _)); exact BK114.out⟩, ⟨by (with_reducible repeat (first | refine b1_ ?_ _ | refine b2_ ?_ | refine b3_ ?_ _)); refine blk_far ?_ NB115_116.out _; (with_reducible repeat (first | refine b1_ ?_ _ | refine b2_ ?_ | refine b3_ ?_ _)); exact BK115.out⟩, ⟨by (with_reducible repeat (first | refine b1_ ?_ _ | refine b2_ ?_ | refine b3_ ?_ _)); refine blk_put (cs := #[.int .u16 0, .int .u16 0, .int .u16 0, .int .u16 0, .int .u16 0, .int .u16 0, u117006]) ?_ 6 _ rfl; (with_reducible repeat (first | refine b1_ ?_ _ | refine b2_ ?_ | refine b3_ ?_ _)); exact BK116.out⟩, ⟨by repeat (first | (with_reducible first | exact HB.out | apply below_alloc | apply pw_below_drewN | apply below_drew1 | refine below_set ?_ GE114.out | refine below_set ?_ GE115.out | refine below_set ?_ GE116.out) | exact HB.out)⟩⟩
        case rest =>
         clear HC12
         try clear c1
         try clear p1
         try clear q1
         try clear hx1
         try clear c2
         try clear p2
         try clear c5
         try clear p6
         try clear c7
         try clear c7b0
         try clear c8
         try clear c8b0
         try clear c9
         try clear c9b0
         try clear c10
         try clear c10b0
         try clear c11
         try clear p11
         try clear q11
         try clear hx11
         try clear c12
         try clear p12
         try clear q12
         try clear hx12
         try clear c13
         try clear c14
         try clear c19
         try clear c22
         try clear c22b0
         try clear c24
         try clear c24b0
         try clear c25
         try clear c25b0
         try clear c26
         try clear c27
         try clear hcz15_0
         try clear hcz15_1
         try clear hcz15_2
         try clear hcz15_3
         try clear hcz15_4
         try clear hcz15_5
         try clear hcz15_6
         try clear hcz18_0
         try clear hcz18_1
         try clear hcz18_2
         try clear hcz18_3
         try clear hcz18_4
         try clear hcz18_5
         try clear hcz18_6
         try clear hcz20_0
         try clear hcz20_1
         try clear hcz20_2
         try clear hcz20_3
         try clear hcz20_4
         try clear hcz20_5
         try clear hcz20_6
         try clear hcz28_0
         try clear hcz28_1
         try clear hcz28_2
         try clear hcz28_3
         try clear hcz28_4
         try clear hcz28_5
         try clear hcz28_6
         try clear hfz15_0
         try clear hfz15_1
         try clear hfz15_2
         try clear hfz15_3
         try clear hfz15_4
         try clear hfz15_5
         try clear hfz15_6
         try clear hfz18_0
         try clear hfz18_1
         try clear hfz18_2
         try clear hfz18_3
         try clear hfz18_4
         try clear hfz18_5
         try clear hfz18_6
         try clear hfz20_0
         try clear hfz20_1
         try clear hfz20_2
         try clear hfz20_3
         try clear hfz20_4
         try clear hfz20_5
         try clear hfz20_6
         try clear hfz28_0
         try clear hfz28_1
         try clear hfz28_2
         try clear hfz28_3
         try clear hfz28_4
         try clear hfz28_5
         try clear hfz28_6
         try clear hx117_0
         try clear hx118_0
         try clear hx122_0
         try clear hx122_1
         try clear hx122_2
         try clear p117
         try clear p118
         try clear p122
         try clear p2
         try clear q117
         try clear q118
         try clear q122
         obtain ⟨kq, x50_11, rfl, HA, HJ11, HO_115006, HO_116006, HO_117006, BK114, BK115, BK116, HB⟩ := hcut
         cases kq with
         | zero => exact absurd HA.out (by simp [tables_ZzLookup.j1])
         | succ kj11 =>
          have H := HA.out
          clear HA
          simp only [tables_ZzLookup.j1] at H
          have HC29 := Aside0.mk H
          clear H
          go_upto_if 50 with (fail)
          go_cut [] (fun wc => ∃ (kq : Nat) (x116006_28 : List (S186)) (u116006 : Value), Aside0 (tables_ZzLookup.j2 kq a0 l2 (rd l1 x17_1) (rd l2 x17_1) l1 (l1.length : Int) x17_1 0 0 0 0 0 0 x115006_1 0 0 0 0 0 0 x116006_28 0 0 0 0 0 0 y119 = some (r1, r2, r3, r4, r5, r6, r7)) ∧ Aside0 (kq ≤ kj11) ∧ Aside0 (Kd.R k188 188 wc w.heap.size (fun _ => True) u115006 x115006_1) ∧ Aside0 (Kd.S k186 186 wc w.heap.size (fun _ => True) u116006 x116006_28) ∧ Aside0 (Kd.R k184 184 wc w.heap.size (fun _ => True) (.slice Ao17 y119.length co17) y119) ∧ Aside0 (wc.heap[gb114]? = some (.cells #[.int .u16 0, .int .u16 0, .int .u16 0, .int .u16 0, .int .u16 0, .int .u16 0, u115006] 176 (0, 0))) ∧ Aside0 (wc.heap[gb115]? = some (.cells #[.int .u16 0, .int .u16 0, .int .u16 0, .int .u16 0, .int .u16 0, .int .u16 0, u116006] 179 (0, 0))) ∧ Aside0 (wc.heap[gb116]? = some (.cells #[.int .u16 0, .int .u16 0, .int .u16 0, .int .u16 0, .int .u16 0, .int .u16 0, (.slice Ao17 y119.length co17)] 182 (0, 0))) ∧ Aside0 (Below w.heap.size w wc))
          case first =>
           have H := HC29.out
           clear HC29
           by_cases c30 : x50_11 = true
           ·subst c30
            have H1 : (if 0 ≤ (wrap64 ((x116006_1.length : Int) - 1)) then (if (wrap64 ((x116006_1.length : Int) - 1)) < (x116006_1.length : Int) then ((some (x116006_1.set ((wrap64 ((x116006_1.length : Int) - 1)) : Int).toNat (⟨(rd l1 x17_1), (rd_T186 x116006_1 (wrap64 ((x116006_1.length : Int) - 1))).f1, (rd_T186 x116006_1 (wrap64 ((x116006_1.length : Int) - 1))).f2⟩ : S186) : List (S186))).bind fun y123 => (if ((rd_T186 y123 (wrap64 ((x116006_1.length : Int) - 1))).f2).length < 70368744177664 then (tables_ZzLookup.j2 kj11 a0 l2 (rd l1 x17_1) (rd l2 x17_1) l1 (l1.length : Int) x17_1 0 0 0 0 0 0 x115006_1 0 0 0 0 0 0 (y123.set ((wrap64 ((x116006_1.length : Int) - 1)) : Int).toNat (⟨(rd_T186 y123 (wrap64 ((x116006_1.length : Int) - 1))).f0, (rd_T186 y123 (wrap64 ((x116006_1.length : Int) - 1))).f1, (((rd_T186 y123 (wrap64 ((x116006_1.length : Int) - 1))).f2) ++ [(rd l2 x17_1)])⟩ : S186)) 0 0 0 0 0 0 y119) else (none))) else (none)) else (none)) = some (r1, r2, r3, r4, r5, r6, r7) := by rw [if_pos rfl] at H; exact H
            clear H
            have H := H1
            clear H1
            obtain ⟨ji31, hji31⟩ : ∃ j_ : Int, (wrap64 ((x116006_1.length : Int) - 1)) = j_ := ⟨_, rfl⟩
            replace H : (if 0 ≤ (ji31) then (if (ji31) < (x116006_1.length : Int) then ((some (x116006_1.set ((ji31) : Int).toNat (⟨(rd l1 x17_1), (rd_T186 x116006_1 (ji31)).f1, (rd_T186 x116006_1 (ji31)).f2⟩ : S186) : List (S186))).bind fun y123 => (if ((rd_T186 y123 (ji31)).f2).length < 70368744177664 then (tables_ZzLookup.j2 kj11 a0 l2 (rd l1 x17_1) (rd l2 x17_1) l1 (l1.length : Int) x17_1 0 0 0 0 0 0 x115006_1 0 0 0 0 0 0 (y123.set ((ji31) : Int).toNat (⟨(rd_T186 y123 (ji31)).f0, (rd_T186 y123 (ji31)).f1, (((rd_T186 y123 (ji31)).f2) ++ [(rd l2 x17_1)])⟩ : S186)) 0 0 0 0 0 0 y119) else (none))) else (none)) else (none)) = some (r1, r2, r3, r4, r5, r6, r7) := by first | (rw [hji31] at H; exact H) | (simp only [hji31] at H ⊢; exact H)
            have hji31w : (IntKind.i64.wrap ((x116006_1.length : Int) - 1)) = ji31 := (i64_w _).trans hji31
            by_cases c32 : 0 ≤ (ji31)
            ·rw [if_pos c32] at H
             have c32b0 : decide (0 ≤ (ji31)) = true := decide_eq_true c32
             clear c32
             (first | rw [c32b0] | (simp only [i64_w, i32_w]; rw [c32b0]) | skip)
             by_cases c33 : (ji31) < (x116006_1.length : Int)
             ·rw [if_pos c33] at H
              have c33b0 : decide ((ji31) < (x116006_1.length : Int)) = true := decide_eq_true c33
              clear c33
              obtain ⟨y123, hy123⟩ : ∃ y_ : List (S186), y_ = (x116006_1.set ((ji31) : Int).toNat (⟨(rd l1 x17_1), (rd_T186 x116006_1 (ji31)).f1, (rd_T186 x116006_1 (ji31)).f2⟩ : S186)) := ⟨_, rfl⟩
              replace H : (if ((rd_T186 y123 (ji31)).f2).length < 70368744177664 then (tables_ZzLookup.j2 kj11 a0 l2 (rd l1 x17_1) (rd l2 x17_1) l1 (l1.length : Int) x17_1 0 0 0 0 0 0 x115006_1 0 0 0 0 0 0 (y123.set ((ji31) : Int).toNat (⟨(rd_T186 y123 (ji31)).f0, (rd_T186 y123 (ji31)).f1, (((rd_T186 y123 (ji31)).f2) ++ [(rd l2 x17_1)])⟩ : S186)) 0 0 0 0 0 0 y119) else (none)) = some (r1, r2, r3, r4, r5, r6, r7) := by first | (rw [hy123]; with_reducible exact H) | (have H2_ := (Option.bind_some _ _).symm.trans H; rw [hy123]; with_reducible exact H2_) | (have H2_ := (Option.bind_some _ _).symm.trans H; with_reducible exact H2_) | with_reducible exact H | (rw [hy123]; exact H) | exact H
              have Ny123 := Aside0.mk hy123
              clear hy123
              by_cases c35 : ((rd_T186 y123 (ji31)).f2).length < 70368744177664
              ·rw [if_pos c35] at H
               have LMc35 := Aside0.mk c35
               clear c35
               obtain ⟨y125, hy125⟩ : ∃ y_ : List Int, y_ = (((rd_T186 y123 (ji31)).f2) ++ [(rd l2 x17_1)]) := ⟨_, rfl⟩
               replace H : (tables_ZzLookup.j2 kj11 a0 l2 (rd l1 x17_1) (rd l2 x17_1) l1 (l1.length : Int) x17_1 0 0 0 0 0 0 x115006_1 0 0 0 0 0 0 (y123.set ((ji31) : Int).toNat (⟨(rd_T186 y123 (ji31)).f0, (rd_T186 y123 (ji31)).f1, y125⟩ : S186)) 0 0 0 0 0 0 y119) = some (r1, r2, r3, r4, r5, r6, r7) := by first | (rw [hy125]; with_reducible exact H) | (have H2_ := (Option.bind_some _ _).symm.trans H; rw [hy125]; with_reducible exact H2_) | (have H2_ := (Option.bind_some _ _).symm.trans H; with_reducible exact H2_) | with_reducible exact H | (rw [hy125]; exact H) | exact H
               have Ny125 := Aside0.mk hy125
               clear hy125
               obtain ⟨y128, hy128⟩ : ∃ y_ : List (S186), y_ = (y123.set ((ji31) : Int).toNat (⟨(rd_T186 y123 (ji31)).f0, (rd_T186 y123 (ji31)).f1, y125⟩ : S186)) := ⟨_, rfl⟩
               replace H : (tables_ZzLookup.j2 kj11 a0 l2 (rd l1 x17_1) (rd l2 x17_1) l1 (l1.length : Int) x17_1 0 0 0 0 0 0 x115006_1 0 0 0 0 0 0 y128 0 0 0 0 0 0 y119) = some (r1, r2, r3, r4, r5, r6, r7) := by first | (rw [hy128]; with_reducible exact H) | (have H2_ := (Option.bind_some _ _).symm.trans H; rw [hy128]; with_reducible exact H2_) | (have H2_ := (Option.bind_some _ _).symm.trans H; with_reducible exact H2_) | with_reducible exact H | (rw [hy128]; exact H) | exact H
               have Ny128 := Aside0.mk hy128
               clear hy128
               have H' := Aside0.mk H
               clear H
               have hnb37 := NB115_114.out
               have hnc37 := NB114_115.out
               have hnb38 := NB115_116.out
               have hnc38 := NB116_115.out
               have hcz39_0 : wc.cell? ⟨gb115, 0, none⟩ = some (.int .u16 0) := (blk_cell BK115.out 0).trans rfl
               have hcz39_1 : wc.cell? ⟨gb115, 1, none⟩ = some (.int .u16 0) := (blk_cell BK115.out 1).trans rfl
               have hcz39_2 : wc.cell? ⟨gb115, 2, none⟩ = some (.int .u16 0) := (blk_cell BK115.out 2).trans rfl
               have hcz39_3 : wc.cell? ⟨gb115, 3, none⟩ = some (.int .u16 0) := (blk_cell BK115.out 3).trans rfl
               have hcz39_4 : wc.cell? ⟨gb115, 4, none⟩ = some (.int .u16 0) := (blk_cell BK115.out 4).trans rfl
               have hcz39_5 : wc.cell? ⟨gb115, 5, none⟩ = some (.int .u16 0) := (blk_cell BK115.out 5).trans rfl
               have hcz39_6 : wc.cell? ⟨gb115, 6, none⟩ = some (.slice Ao21 x116006_1.length co21) := (blk_cell BK115.out 6).trans rfl
               have hfz39_0 := blk_frozen BK115.out 0
               have hfz39_1 := blk_frozen BK115.out 1
               have hfz39_2 := blk_frozen BK115.out 2
               have hfz39_3 := blk_frozen BK115.out 3
               have hfz39_4 := blk_frozen BK115.out 4
               have hfz39_5 := blk_frozen BK115.out 5
               have hfz39_6 := blk_frozen BK115.out 6
               have p34 : 0 ≤ ((ji31) : Int) := of_decide_eq_true (by first | (with_reducible assumption) | assumption)
               have q34 : ((ji31) : Int) < ((x116006_1.length : Int) : Int) := of_decide_eq_true (by first | (with_reducible assumption) | assumption)
               obtain ⟨go34, co34, eo34, gb34, gl34, cl34, HG34⟩ := Kd.S_form HO_116006.out (by omega)
               (first | cases eo34 | (injection eo34 with ea_ en_ ec_; (first | subst ea_ | (injection ea_ with ea_; subst ea_)); subst ec_; clear en_))
               have GB34 := Aside0.mk gb34
               have GG34 := Aside0.mk HG34
               clear gb34 gl34 HG34
               obtain ⟨_, ce34, hcl34, hM34, hcc34, hfr34, _, _⟩ := Kd.S_elem HO_116006.out z186 ((ji31) : Int) p34 q34
               obtain ⟨ve34_2, rfl, ge34_2⟩ := k186_openM hM34
               have hx34_0 : wc.cell? ⟨go34, ((ji31) : Int).toNat * 3, none⟩ = some (.int .u16 ((rd_T186 x116006_1 (ji31)).f0)) := hcc34 0 _ rfl
               have hx34_1 : wc.cell? ⟨go34, ((ji31) : Int).toNat * 3 + 1, none⟩ = some (.int .u16 ((rd_T186 x116006_1 (ji31)).f1)) := hcc34 1 _ rfl
               have hx34_2 : wc.cell? ⟨go34, ((ji31) : Int).toNat * 3 + 2, none⟩ = some (ve34_2) := hcc34 2 _ rfl
               have hf34_0 : wc.frozen? ⟨go34, ((ji31) : Int).toNat * 3, none⟩ = false := hfr34 0
               have hf34_1 : wc.frozen? ⟨go34, ((ji31) : Int).toNat * 3 + 1, none⟩ = false := hfr34 1
               have hf34_2 : wc.frozen? ⟨go34, ((ji31) : Int).toNat * 3 + 2, none⟩ = false := hfr34 2
               clear hcl34 hcc34 hfr34 hM34
               replace p34 := eq_true p34
               replace q34 := eq_true q34
               have HX40 := Aside0.mk (show Kd.S k186 186 wc w.heap.size (fun k_ => ((fun _ => True)) k_ ∧ ¬ ((fun _ => False)) k_) (.slice (some ⟨go34, 0, none⟩) x116006_1.length co21) x116006_1 from (by (with_reducible repeat (first | apply Kd.S_alloc | apply Kd.S_drewN | apply Kd.S_drew)); exact Kd.S_mono HO_116006.out (fun k_ hk => ⟨trivial, fun e_ => e_⟩)))
               obtain ⟨oki40, ce40, hcl40, hM40, hcc40, hfr40, hoki40, hH40⟩ := Kd.S_elem HX40.out z186 ((ji31) : Int) (of_decide_eq_true (by first | (with_reducible assumption) | assumption)) (by have h_ : ((ji31) : Int) < ((x116006_1.length : Int) : Int) := of_decide_eq_true (by first | (with_reducible assumption) | assumption); first | exact h_ | (have e_ := (Kd.S_reads' HO_116006.out).1; omega) | simpa using h_)
               obtain ⟨ve40_2, rfl, ge40_2⟩ := k186_openM hM40
               have HP40 := Kd.S_seg hH40 (of_decide_eq_true (by first | (with_reducible assumption) | assumption)) (by have h_ : ((ji31) : Int) < ((x116006_1.length : Int) : Int) := of_decide_eq_true (by first | (with_reducible assumption) | assumption); first | exact h_ | (have e_ := (Kd.S_reads' HO_116006.out).1; omega) | simpa using h_) (seg := [.int .u16 (rd l1 x17_1)]) (j := 0) (show 1 ≤ 3 from by decide) (x' := (⟨(rd l1 x17_1), (rd_T186 x116006_1 (ji31)).f1, (rd_T186 x116006_1 (ji31)).f2⟩ : S186)) (k186_mkM _ _ _ (⟨(rd l1 x17_1), (rd_T186 x116006_1 (ji31)).f1, (rd_T186 x116006_1 (ji31)).f2⟩ : S186) (Kd.R_mono ge40_2 (fun _ h_ => Or.inl h_))) (fun _ hk => hk) (fun k_ hk_ => hk_.elim)
               have hx40_0 := hcc40 0 _ rfl
               (try simp only [show (k186).sz = 3 from rfl, Nat.mul_one, Nat.add_zero] at hx40_0)
               have hf40_0 := hfr40 0
               (try simp only [show (k186).sz = 3 from rfl, Nat.mul_one, Nat.add_zero] at hf40_0)
               clear hcl40 hcc40 hfr40 hM40 hoki40 hH40
               try go_wp2_with (first | ((with_reducible refine gate_store (t := 35) (p := 56) rfl ?_); refine store_event (t := 35) (p := 56) (v := ?vo_w41) (w1 := (wc.setCell ⟨go34, ((ji31) : Int).toNat * 3, none⟩ (.int .u16 (rd l1 x17_1)))) ?hg ?ho ?hn ?hr ?_; (case ho => rfl); (case hg => rfl); (case hn => rfl); (case hr => first | (go_simp; done) | (go_simp; rfl)); intro w41 hw; have hg : wc.grownBy w41 (some go34) := (by rw [hw]; exact HP40.2); have hp_ : Kd.S k186 186 w41 w.heap.size (fun _ => True) (.slice (some ⟨go34, 0, none⟩) x116006_1.length co21) y123 := (by rw [hw, Ny123.out]; exact HP40.1); clear HP40; have n0_ := Aside0.mk (Kd.R_over' (v := (.slice (some ⟨go34, 0, none⟩) x116006_1.length co21)) (by (with_reducible repeat (first | apply Kd.R_alloc | apply Kd.R_drewN | apply Kd.R_drew)); exact HO_115006.out) (Kd.S_typed HO_116006.out) (by decide) hg); have n1_ := Aside0.mk (hp_); have n2_ := Aside0.mk (Kd.R_over' (v := (.slice (some ⟨go34, 0, none⟩) x116006_1.length co21)) (by (with_reducible repeat (first | apply Kd.R_alloc | apply Kd.R_drewN | apply Kd.R_drew)); exact HO_117006.out) (Kd.S_typed HO_116006.out) (by decide) hg); have n3_ := Aside0.mk (blk_grown (g := gb114) (o := .cells #[.int .u16 0, .int .u16 0, .int .u16 0, .int .u16 0, .int .u16 0, .int .u16 0, u115006] 176 (0, 0)) (by (with_reducible repeat (first | refine b1_ ?_ _ | refine b2_ ?_ | refine b3_ ?_ _)); exact BK114.out) hg (Kd.S_ne HO_116006.out BK114.out (by decide))); have n4_ := Aside0.mk (blk_grown (g := gb115) (o := .cells #[.int .u16 0, .int .u16 0, .int .u16 0, .int .u16 0, .int .u16 0, .int .u16 0, .slice (some ⟨go34, 0, none⟩) x116006_1.length co21] 179 (0, 0)) (by (with_reducible repeat (first | refine b1_ ?_ _ | refine b2_ ?_ | refine b3_ ?_ _)); exact BK115.out) hg (Kd.S_ne HO_116006.out BK115.out (by decide))); have n5_ := Aside0.mk (blk_grown (g := gb116) (o := .cells #[.int .u16 0, .int .u16 0, .int .u16 0, .int .u16 0, .int .u16 0, .int .u16 0, .slice Ao17 y119.length co17] 182 (0, 0)) (by (with_reducible repeat (first | refine b1_ ?_ _ | refine b2_ ?_ | refine b3_ ?_ _)); exact BK116.out) hg (Kd.S_ne HO_116006.out BK116.out (by decide))); have n6_ := Aside0.mk ((by rw [hw]; exact below_set (HB.out) GB34.out : Below w.heap.size w w41)); clear HO_115006; clear HO_116006; clear HO_117006; clear BK114; clear BK115; clear BK116; clear HB; have HO_115006 := n0_; have HO_116006 := n1_; have HO_117006 := n2_; have BK114 := n3_; have BK115 := n4_; have BK116 := n5_; have HB := n6_; clear n0_ n1_ n2_ n3_ n4_ n5_ n6_; clear hg hw hp_))
               have n0_ := Aside0.mk (Kd.R_drew HO_115006.out)
               have n1_ := Aside0.mk (Kd.S_drew HO_116006.out)
               have n2_ := Aside0.mk (Kd.R_drew HO_117006.out)
               have n3_ := Aside0.mk (blk_drew BK114.out)
               have n4_ := Aside0.mk (blk_drew BK115.out)
               have n5_ := Aside0.mk (blk_drew BK116.out)
               have n6_ := Aside0.mk (below_drew1 HB.out)
               clear HO_115006
               clear HO_116006
               clear HO_117006
               clear BK114
               clear BK115
               clear BK116
               clear HB
               have HO_115006 := n0_
               have HO_116006 := n1_
               have HO_117006 := n2_
               have BK114 := n3_
               have BK115 := n4_
               have BK116 := n5_
               have HB := n6_
               clear n0_ n1_ n2_ n3_ n4_ n5_ n6_
               have p124 : 0 ≤ ((ji31) : Int) := of_decide_eq_true (by first | (with_reducible assumption) | assumption)
               have q124 : (ji31) < (y123.length : Int) := (by have h_ : ((ji31) : Int) < ((x116006_1.length : Int) : Int) := of_decide_eq_true (by first | (with_reducible assumption) | assumption); first | (have e_ := (Kd.S_reads' HO_116006.out).1; omega) | simpa only [Ny123.out, List.length_set] using h_)
               have ql124 : (((ji31) : Int) < ((x116006_1.length : Int) : Int)) = True := eq_true (of_decide_eq_true (by first | (with_reducible assumption) | assumption))
               obtain ⟨ad124, A124_2, c124_2, e124, hx124_0, hx124_1, hx124_2, hl124_2, hi124_2⟩ := at_T186 (Kd.S_reads' HO_116006.out).2.2 (ji31) p124 q124
               obtain rfl : (⟨go34, 0, none⟩ : Addr) = ad124 := (by injection e124)
               obtain ⟨ce124, hce124, hMe124, hcc124⟩ := Kd.S_get HO_116006.out z186 (ji31) p124 (by first | exact q124 | exact of_decide_eq_true (by first | (with_reducible assumption) | assumption) | (have e_ := (Kd.S_reads' HO_116006.out).1; omega))
               obtain ⟨ve124_2, rfl, ge124_2⟩ := k186_openM hMe124
               have hv124_2 := hcc124 2 _ rfl
               rw [add_field _ _ 2 (by omega)] at hv124_2
               replace hv124_2 := Option.some.inj (hv124_2.symm.trans hx124_2)
               rw [hv124_2] at ge124_2
               have HL124_2 := Aside0.mk (show Kd.R (Kd.int .u16) 35 _ _ _ _ ((rd_T186 y123 (ji31)).f2) from ge124_2)
               clear hv124_2 ge124_2
               have HX124_2 := Aside0.mk hx124_2
               clear hcc124 hce124
               (first | simp only [add_plain] at hx124_0 | simp only [add_at] at hx124_0 | simp only [Addr.add, Nat.zero_add] at hx124_0 | skip)
               (first | simp only [add_plain] at hx124_1 | simp only [add_at] at hx124_1 | simp only [Addr.add, Nat.zero_add] at hx124_1 | skip)
               (first | simp only [add_plain] at hx124_2 | simp only [add_at] at hx124_2 | simp only [Addr.add, Nat.zero_add] at hx124_2 | skip)
               have HR124_2 := Aside0.mk hi124_2
               have HC124_2 := Aside0.mk hl124_2
               clear hi124_2 hl124_2
               replace p124 := eq_true p124
               replace q124 := eq_true q124
               obtain ⟨oki43, ce43, hcl43, hM43, hcc43, _, _, hH43⟩ := Kd.S_elem HO_116006.out z186 ((ji31) : Int) (of_decide_eq_true (by first | (with_reducible assumption) | assumption)) (by have h_ : ((ji31) : Int) < ((x116006_1.length : Int) : Int) := of_decide_eq_true (by first | (with_reducible assumption) | assumption); first | exact h_ | (have e_ := (Kd.S_reads' HO_116006.out).1; omega) | simpa using h_)
               obtain ⟨ve43_2, rfl, ge43_2⟩ := k186_openM hM43
               have hv43 := hcc43 2 _ rfl
               have hX43 := HX124_2.out
               (try simp only [add_plain] at hX43)
               (try simp only [Nat.add_zero] at hv43)
               replace hv43 := Option.some.inj (hv43.symm.trans hX43)
               subst hv43
               clear hX43 hcc43 hcl43
               have UU43 := Aside0.mk (show Kd.R (Kd.int .u16) 35 _ w.heap.size oki43 (.slice A124_2 ((rd_T186 y123 (ji31)).f2).length c124_2) ((rd_T186 y123 (ji31)).f2) from ge43_2)
               have HH43 := Aside0.mk hH43
               have HN43 := Aside0.mk (Kd.S_reads' HO_116006.out).1
               clear hH43 ge43_2
               refine start_ (n := 15) (S := fun w' => w'.cell? ⟨gb115, 0, none⟩ = some (.int .u16 0) ∧ w'.cell? ⟨gb115, 1, none⟩ = some (.int .u16 0) ∧ w'.cell? ⟨gb115, 2, none⟩ = some (.int .u16 0) ∧ w'.cell? ⟨gb115, 3, none⟩ = some (.int .u16 0) ∧ w'.cell? ⟨gb115, 4, none⟩ = some (.int .u16 0) ∧ w'.cell? ⟨gb115, 5, none⟩ = some (.int .u16 0) ∧ w'.cell? ⟨gb115, 6, none⟩ = some (.slice (some ⟨go34, 0, none⟩) x116006_1.length co21) ∧ w'.cell? ⟨go34, ((ji31)).toNat * 3, none⟩ = some (.int .u16 ((rd_T186 y123 (ji31)).f0)) ∧ w'.cell? ⟨go34, ((ji31)).toNat * 3 + 1, none⟩ = some (.int .u16 ((rd_T186 y123 (ji31)).f1)) ∧ w'.cell? ⟨go34, ((ji31)).toNat * 3 + 2, none⟩ = some (.slice A124_2 ((rd_T186 y123 (ji31)).f2).length c124_2)) (ds := [14]) #[ff,ff,ff,ff,ff,ff,ff,ff,ff,ff,ff,ff,ff,ff,ff] (by kernel_rfl) rfl rfl ⟨(blk_cell BK115.out 0).trans rfl, (blk_cell BK115.out 1).trans rfl, (blk_cell BK115.out 2).trans rfl, (blk_cell BK115.out 3).trans rfl, (blk_cell BK115.out 4).trans rfl, (blk_cell BK115.out 5).trans rfl, (blk_cell BK115.out 6).trans rfl, hx124_0, hx124_1, hx124_2⟩ (fun hHeld => ?_); refine with_tabW tables_ZzLookup.tab12 tables_ZzLookup.bits12 (fun HT_ HW_ => ?_)
               generalize w41.drew = w42 at HO_115006 HO_116006 HO_117006 BK114 BK115 BK116 HB HH43 HL124_2 HR124_2 HX124_2 UU43 hx124_0 hx124_1 hx124_2 hHeld ⊢
               refine pure_ (i := 0) (N := some 57) (v := ?_) (a' := ?_) #[tt,ff,ff,ff,ff,ff,ff,ff,ff,ff,ff,ff,ff,ff,ff] rfl rfl (any_of HT_.out (by kernel_rfl)) (fun _ _ _ h => h) (Or.inl ⟨by rfl, ?_⟩) ?_ ?_
               rotate_left
               ·intro w'
                go_simp
                with_reducible rfl
               rotate_left
               ·simp only [Act.put, L1_, L2_, L3_, i64_w, i32_w]
                rfl
               refine pure_ (i := 2) (N := some 59) (v := ?_) (a' := ?_) #[tt,ff,tt,ff,ff,ff,ff,ff,ff,ff,ff,ff,ff,ff,ff] rfl rfl (any_of HT_.out (by kernel_rfl)) (fun _ _ _ h => h) (Or.inl ⟨by rfl, ?_⟩) ?_ ?_
               rotate_left
               ·intro w'
                go_simp
                with_reducible rfl
               rotate_left
               ·simp only [Act.put, L1_, L2_, L3_, i64_w, i32_w]
                rfl
               refine pure_ (i := 3) (N := some 60) (v := ?_) (a' := ?_) #[tt,ff,tt,tt,ff,ff,ff,ff,ff,ff,ff,ff,ff,ff,ff] rfl rfl (any_of HT_.out (by kernel_rfl)) (fun _ _ _ h => h) (Or.inl ⟨by rfl, ?_⟩) ?_ ?_
               rotate_left
               ·intro w'
                go_simp
                with_reducible rfl
               rotate_left
               ·simp only [Act.put, L1_, L2_, L3_, i64_w, i32_w]
                rfl
               refine pure_ (i := 5) (N := some 62) (v := ?_) (a' := ?_) #[tt,ff,tt,tt,ff,tt,ff,ff,ff,ff,ff,ff,ff,ff,ff] rfl rfl (any_of HT_.out (by kernel_rfl)) (fun _ _ _ h => h) (Or.inl ⟨by rfl, ?_⟩) ?_ ?_
               rotate_left
               ·intro w'
                go_simp
                with_reducible rfl
               rotate_left
               ·simp only [Act.put, L1_, L2_, L3_, i64_w, i32_w]
                rfl
               refine pure_ (i := 9) (N := some 66) (v := ?_) (a' := ?_) #[tt,ff,tt,tt,ff,tt,ff,ff,ff,tt,ff,ff,ff,ff,ff] rfl rfl (any_of HT_.out (by kernel_rfl)) (fun _ _ _ h => h) (Or.inl ⟨by rfl, ?_⟩) ?_ ?_
               rotate_left
               ·intro w'
                go_simp
                with_reducible rfl
               rotate_left
               ·simp only [Act.put, L1_, L2_, L3_, i64_w, i32_w]
                rfl
               refine take_ (i := 1) (N := some 58) (v := ?_) (a' := ?_) #[tt,tt,tt,tt,ff,tt,ff,ff,ff,tt,ff,ff,ff,ff,ff] rfl rfl (take_ofW HT_.out HW_.out (by kernel_rfl)) (fun _ _ _ h => h) (Or.inl ⟨by rfl, ?_⟩) hHeld ?_ ?_
               rotate_left
               ·rintro w' ⟨s0, s1, s2, s3, s4, s5, s6, s7, s8, s9⟩
                go_simp
                with_reducible rfl
               rotate_left
               ·simp only [Act.put, L1_, L2_, L3_, i64_w, i32_w]
                rfl
               refine take_ (i := 4) (N := some 61) (v := ?_) (a' := ?_) #[tt,tt,tt,tt,tt,tt,ff,ff,ff,tt,ff,ff,ff,ff,ff] rfl rfl (take_ofW HT_.out HW_.out (by kernel_rfl)) (fun _ _ _ h => h) (Or.inl ⟨by rfl, ?_⟩) hHeld ?_ ?_
               rotate_left
               ·rintro w' ⟨s0, s1, s2, s3, s4, s5, s6, s7, s8, s9⟩
                go_simp
                with_reducible rfl
               rotate_left
               ·simp only [Act.put, L1_, L2_, L3_, i64_w, i32_w]
                rfl
               refine pure_ (i := 6) (N := some 63) (v := ?_) (a' := ?_) #[tt,tt,tt,tt,tt,tt,tt,ff,ff,tt,ff,ff,ff,ff,ff] rfl rfl (any_of HT_.out (by kernel_rfl)) (fun _ _ _ h => h) (Or.inl ⟨by rfl, ?_⟩) ?_ ?_
               rotate_left
               ·intro w'
                go_simp
                with_reducible rfl
               rotate_left
               ·simp only [Act.put, L1_, L2_, L3_, i64_w, i32_w]
                rfl
               refine pure_ (i := 7) (N := some 64) (v := ?_) (a' := ?_) #[tt,tt,tt,tt,tt,tt,tt,tt,ff,tt,ff,ff,ff,ff,ff] rfl rfl (any_of HT_.out (by kernel_rfl)) (fun _ _ _ h => h) (Or.inl ⟨by rfl, ?_⟩) ?_ ?_
               rotate_left
               ·intro w'
                go_simp
                with_reducible rfl
               rotate_left
               ·simp only [Act.put, L1_, L2_, L3_, i64_w, i32_w]
                rfl
               refine take_ (i := 8) (N := some 65) (v := ?_) (a' := ?_) #[tt,tt,tt,tt,tt,tt,tt,tt,tt,tt,ff,ff,ff,ff,ff] rfl rfl (take_ofW HT_.out HW_.out (by kernel_rfl)) (fun _ _ _ h => h) (Or.inl ⟨by rfl, ?_⟩) hHeld ?_ ?_
               rotate_left
               ·rintro w' ⟨s0, s1, s2, s3, s4, s5, s6, s7, s8, s9⟩
                go_simp
                with_reducible rfl
               rotate_left
               ·simp only [Act.put, L1_, L2_, L3_, i64_w, i32_w]
                rfl
               refine one_ (i := 10) (N := some 67) #[tt,tt,tt,tt,tt,tt,tt,tt,tt,tt,tt,ff,ff,ff,ff] rfl rfl (one_of HT_.out (by kernel_rfl)) (by decide) (fun K hK => ?_)
               refine value_ (w1 := ?_) (v := ?_) (by rfl) rfl ?_ ?_
               rotate_left 2
               ·go_simp
                constructor
                ·rfl
                ·rfl
               refine hK.out _ _ ⟨(blk_cell (blk_alloc BK115.out _) 0).trans rfl, (blk_cell (blk_alloc BK115.out _) 1).trans rfl, (blk_cell (blk_alloc BK115.out _) 2).trans rfl, (blk_cell (blk_alloc BK115.out _) 3).trans rfl, (blk_cell (blk_alloc BK115.out _) 4).trans rfl, (blk_cell (blk_alloc BK115.out _) 5).trans rfl, (blk_cell (blk_alloc BK115.out _) 6).trans rfl, (World.cell?_alloc_lt _ _ _ (World.block_lt_of_cell? _ _ (hHeld.2.2.2.2.2.2.2.1))).trans (hHeld.2.2.2.2.2.2.2.1), (World.cell?_alloc_lt _ _ _ (World.block_lt_of_cell? _ _ (hHeld.2.2.2.2.2.2.2.2.1))).trans (hHeld.2.2.2.2.2.2.2.2.1), (World.cell?_alloc_lt _ _ _ (World.block_lt_of_cell? _ _ (hHeld.2.2.2.2.2.2.2.2.2))).trans (hHeld.2.2.2.2.2.2.2.2.2)⟩ (fun hHeld => ?_)
               clear hK K
               refine norm_ (a' := ?_) ?_ ?_
               rotate_left
               ·show Act.put _ (some 67) _ = _
                simp only [Act.put, L1_, L2_, L3_, i64_w, i32_w]
                rfl
               refine one_ (i := 11) (N := some 68) #[tt,tt,tt,tt,tt,tt,tt,tt,tt,tt,tt,tt,ff,ff,ff] rfl rfl (one_of HT_.out (by kernel_rfl)) (by decide) (fun K hK => ?_)
               refine Kd.R_append_step (Kd.int .u16) (w0 := w) w.heap.size (by rfl) (.tmp 65) (.tmp 67) 34 35 (.int .u16 0) 2 rfl Try.underlying34 info35 rfl (by decide) (by omega) (.slice A124_2 ((rd_T186 y123 (ji31)).f2).length c124_2) ((rd_T186 y123 (ji31)).f2) (rd l2 x17_1) [.int .u16 (rd l2 x17_1)] (fun k_ => oki43 k_ ∨ ((fun _ => True)) k_ ∧ w42.heap.size ≤ k_) (fun _ => False) rfl rfl ?aP (fun _ hk => hk.elim) ?aF ?aO ?aB ?aS ?aL ?_
               (case aP => exact rfl)
               (case aB => exact (by repeat (first | (with_reducible first | exact HB.out | apply below_alloc | apply pw_below_drewN | apply below_drew1 | refine below_set ?_ GE114.out | refine below_set ?_ GE115.out | refine below_set ?_ GE116.out) | exact HB.out)))
               (case aF => exact (fun k_ hk => .inr ⟨trivial, hk⟩))
               (case aO => exact (by (with_reducible repeat (first | apply Kd.R_alloc | apply Kd.R_drewN | apply Kd.R_drew)); exact Kd.R_mono UU43.out (fun _ hk => .inl hk)))
               (case aS => exact (below_size (by repeat (first | (with_reducible first | exact HB.out | apply below_alloc | apply pw_below_drewN | apply below_drew1 | refine below_set ?_ GE114.out | refine below_set ?_ GE115.out | refine below_set ?_ GE116.out) | exact HB.out))))
               (case aL => have := LMc35.out; omega)
               intro v126 w44 ho hb hg hat
               (first | have HS7_ := cell_grown hg (hHeld.2.2.2.2.2.2.2.1) (by first | (rw [add_block]; exact (fun e_ => ((HL124_2.out.1 _ e_.symm).2) rfl)) | (show some (Addr.add _ _).block ≠ _; rw [add_block]; exact (fun e_ => ((HL124_2.out.1 _ e_.symm).2) rfl)) | exact (fun e_ => ((HL124_2.out.1 _ e_.symm).2) rfl)) | have HS7_ := cell_grown hg (cell_unalloc (hHeld.2.2.2.2.2.2.2.1) (by first | (rw [add_block]; exact Kd.S_lt HO_116006.out _ rfl) | (show (Addr.add _ _).block < _; rw [add_block]; exact Kd.S_lt HO_116006.out _ rfl) | exact Kd.S_lt HO_116006.out _ rfl)) (by first | (rw [add_block]; exact (fun e_ => ((HL124_2.out.1 _ e_.symm).2) rfl)) | (show some (Addr.add _ _).block ≠ _; rw [add_block]; exact (fun e_ => ((HL124_2.out.1 _ e_.symm).2) rfl)) | exact (fun e_ => ((HL124_2.out.1 _ e_.symm).2) rfl)))
               (first | have HS8_ := cell_grown hg (hHeld.2.2.2.2.2.2.2.2.1) (by first | (rw [add_block]; exact (fun e_ => ((HL124_2.out.1 _ e_.symm).2) rfl)) | (show some (Addr.add _ _).block ≠ _; rw [add_block]; exact (fun e_ => ((HL124_2.out.1 _ e_.symm).2) rfl)) | exact (fun e_ => ((HL124_2.out.1 _ e_.symm).2) rfl)) | have HS8_ := cell_grown hg (cell_unalloc (hHeld.2.2.2.2.2.2.2.2.1) (by first | (rw [add_block]; exact Kd.S_lt HO_116006.out _ rfl) | (show (Addr.add _ _).block < _; rw [add_block]; exact Kd.S_lt HO_116006.out _ rfl) | exact Kd.S_lt HO_116006.out _ rfl)) (by first | (rw [add_block]; exact (fun e_ => ((HL124_2.out.1 _ e_.symm).2) rfl)) | (show some (Addr.add _ _).block ≠ _; rw [add_block]; exact (fun e_ => ((HL124_2.out.1 _ e_.symm).2) rfl)) | exact (fun e_ => ((HL124_2.out.1 _ e_.symm).2) rfl)))
               (first | have HS9_ := cell_grown hg (hHeld.2.2.2.2.2.2.2.2.2) (by first | (rw [add_block]; exact (fun e_ => ((HL124_2.out.1 _ e_.symm).2) rfl)) | (show some (Addr.add _ _).block ≠ _; rw [add_block]; exact (fun e_ => ((HL124_2.out.1 _ e_.symm).2) rfl)) | exact (fun e_ => ((HL124_2.out.1 _ e_.symm).2) rfl)) | have HS9_ := cell_grown hg (cell_unalloc (hHeld.2.2.2.2.2.2.2.2.2) (by first | (rw [add_block]; exact Kd.S_lt HO_116006.out _ rfl) | (show (Addr.add _ _).block < _; rw [add_block]; exact Kd.S_lt HO_116006.out _ rfl) | exact Kd.S_lt HO_116006.out _ rfl)) (by first | (rw [add_block]; exact (fun e_ => ((HL124_2.out.1 _ e_.symm).2) rfl)) | (show some (Addr.add _ _).block ≠ _; rw [add_block]; exact (fun e_ => ((HL124_2.out.1 _ e_.symm).2) rfl)) | exact (fun e_ => ((HL124_2.out.1 _ e_.symm).2) rfl)))
               rw [← Ny125.out] at ho
               have n0_ := Aside0.mk (Kd.R_over' (v := (.slice A124_2 ((rd_T186 y123 (ji31)).f2).length c124_2)) (by (with_reducible repeat (first | apply Kd.R_alloc | apply Kd.R_drewN | apply Kd.R_drew)); exact HO_115006.out) (Kd.R_typed HL124_2.out) (by decide) hg)
               have n1_ := Aside0.mk (Kd.R_over' (v := (.slice A124_2 ((rd_T186 y123 (ji31)).f2).length c124_2)) (by (with_reducible repeat (first | apply Kd.R_alloc | apply Kd.R_drewN | apply Kd.R_drew)); exact HO_117006.out) (Kd.R_typed HL124_2.out) (by decide) hg)
               have n2_ := Aside0.mk (blk_grown (g := gb114) (o := .cells #[.int .u16 0, .int .u16 0, .int .u16 0, .int .u16 0, .int .u16 0, .int .u16 0, u115006] 176 (0, 0)) (by (with_reducible repeat (first | refine b1_ ?_ _ | refine b2_ ?_ | refine b3_ ?_ _)); exact BK114.out) hg (Kd.R_ne HL124_2.out BK114.out (by decide)))
               have n3_ := Aside0.mk (blk_grown (g := gb115) (o := .cells #[.int .u16 0, .int .u16 0, .int .u16 0, .int .u16 0, .int .u16 0, .int .u16 0, .slice (some ⟨go34, 0, none⟩) x116006_1.length co21] 179 (0, 0)) (by (with_reducible repeat (first | refine b1_ ?_ _ | refine b2_ ?_ | refine b3_ ?_ _)); exact BK115.out) hg (Kd.R_ne HL124_2.out BK115.out (by decide)))
               have n4_ := Aside0.mk (blk_grown (g := gb116) (o := .cells #[.int .u16 0, .int .u16 0, .int .u16 0, .int .u16 0, .int .u16 0, .int .u16 0, .slice Ao17 y119.length co17] 182 (0, 0)) (by (with_reducible repeat (first | refine b1_ ?_ _ | refine b2_ ?_ | refine b3_ ?_ _)); exact BK116.out) hg (Kd.R_ne HL124_2.out BK116.out (by decide)))
               have n5_ := Aside0.mk (hb)
               have n6_ := Aside0.mk (Kd.H_grown (Kd.H_widen (by repeat (first | exact HH43.out | refine Kd.H_alloc ?_ _ | refine Kd.H_drewN ?_ _ | refine Kd.H_drew ?_))) hg (fun k_ e_ => .inl (UU43.out.1 k_ e_)))
               have n7_ := Aside0.mk (ho)
               clear HO_115006
               clear HO_117006
               clear BK114
               clear BK115
               clear BK116
               clear HB
               clear HH43
               clear HO_116006
               clear UU43
               clear HL124_2
               have HO_115006 := n0_
               have HO_117006 := n1_
               have BK114 := n2_
               have BK115 := n3_
               have BK116 := n4_
               have HB := n5_
               have HH43 := n6_
               have HO127 := n7_
               clear n0_ n1_ n2_ n3_ n4_ n5_ n6_ n7_
               clear ho hb hg hat
               have p36 : 0 ≤ ((ji31) : Int) := of_decide_eq_true (by first | (with_reducible assumption) | assumption)
               have q36 : ((ji31) : Int) < ((x116006_1.length : Int) : Int) := of_decide_eq_true (by first | (with_reducible assumption) | assumption)
               replace p36 := eq_true p36
               replace q36 := eq_true q36
               obtain ⟨Ao47, co47, eo47⟩ := Kd.R_slice HO127.out
               (first | subst eo47 | (injection eo47 with f1_ f2_ f3_; have f4_ := f1_.symm; have f5_ := f3_.symm; clear f1_ f2_ f3_; subst f4_; subst f5_))
               obtain ⟨_, _, hraw45, _, _, hcc45, _⟩ := Kd.H_raw HH43.out (of_decide_eq_true (by first | (with_reducible assumption) | assumption)) (by have h_ : ((ji31) : Int) < ((x116006_1.length : Int) : Int) := of_decide_eq_true (by first | (with_reducible assumption) | assumption); first | exact h_ | (have e_ := (HN43.out); omega) | simpa using h_)
               obtain ⟨_, hfr45⟩ := Kd.H_at HH43.out (of_decide_eq_true (by first | (with_reducible assumption) | assumption)) (by have h_ : ((ji31) : Int) < ((x116006_1.length : Int) : Int) := of_decide_eq_true (by first | (with_reducible assumption) | assumption); first | exact h_ | (have e_ := (HN43.out); omega) | simpa using h_)
               have hx45_0 := hcc45 2 _ rfl
               have hf45_0 := hfr45 2
               (try rw [show (k186).sz = 3 from rfl] at hx45_0)
               (try rw [show (k186).sz = 3 from rfl] at hf45_0)
               have HP45 := Kd.S_seg0 HH43.out (of_decide_eq_true (by first | (with_reducible assumption) | assumption)) (by have h_ : ((ji31) : Int) < ((x116006_1.length : Int) : Int) := of_decide_eq_true (by first | (with_reducible assumption) | assumption); first | exact h_ | (have e_ := (HN43.out); omega) | simpa using h_) (seg := [.slice Ao47 y125.length co47]) (j := 2) (show 3 ≤ 3 from by decide) (x' := (⟨(rd_T186 y123 (ji31)).f0, (rd_T186 y123 (ji31)).f1, y125⟩ : S186)) (k186_mkM _ _ _ (⟨(rd_T186 y123 (ji31)).f0, (rd_T186 y123 (ji31)).f1, y125⟩ : S186) HO127.out) (fun _ hk => hk)
               clear hcc45 hfr45
               have HNB114_go34 := Aside0.mk (show gb114 ≠ go34 from by have h_ := Kd.R_ne hraw45 BK114.out (by decide); intro e_; exact h_ (by rw [e_]; rfl))
               have HNB115_go34 := Aside0.mk (show gb115 ≠ go34 from by have h_ := Kd.R_ne hraw45 BK115.out (by decide); intro e_; exact h_ (by rw [e_]; rfl))
               have HNB116_go34 := Aside0.mk (show gb116 ≠ go34 from by have h_ := Kd.R_ne hraw45 BK116.out (by decide); intro e_; exact h_ (by rw [e_]; rfl))
               have HS45 := HP45.1
               rw [← Ny128.out] at HS45
               have HQ45 := Aside0.mk HS45
               obtain ⟨_, hgg45⟩ := Kd.R_typed hraw45 go34 rfl
               have GG45_ := Aside0.mk hgg45
               clear HP45 HS45 hgg45
               refine hK.out _ _ ⟨(blk_cell BK115.out 0).trans rfl, (blk_cell BK115.out 1).trans rfl, (blk_cell BK115.out 2).trans rfl, (blk_cell BK115.out 3).trans rfl, (blk_cell BK115.out 4).trans rfl, (blk_cell BK115.out 5).trans rfl, (blk_cell BK115.out 6).trans rfl, HS7_, HS8_, HS9_⟩ (fun hHeld => ?_)
               clear hK K
               refine norm_ (a' := ?_) ?_ ?_
               rotate_left
               ·show Act.put _ (some 68) _ = _
                simp only [Act.put, L1_, L2_, L3_, i64_w, i32_w]
                rfl
               refine pure_ (i := 12) (N := some 69) (v := ?_) (a' := ?_) #[tt,tt,tt,tt,tt,tt,tt,tt,tt,tt,tt,tt,tt,ff,ff] rfl rfl (any_of HT_.out (by kernel_rfl)) (fun _ _ _ h => h) (Or.inl ⟨by rfl, ?_⟩) ?_ ?_
               rotate_left
               ·intro w'
                go_simp
                with_reducible rfl
               rotate_left
               ·simp only [Act.put, L1_, L2_, L3_, i64_w, i32_w]
                rfl
               refine pure_ (i := 13) (N := some 70) (v := ?_) (a' := ?_) #[tt,tt,tt,tt,tt,tt,tt,tt,tt,tt,tt,tt,tt,tt,ff] rfl rfl (any_of HT_.out (by kernel_rfl)) (fun _ _ _ h => h) (Or.inl ⟨by rfl, ?_⟩) ?_ ?_
               rotate_left
               ·intro w'
                go_simp
                with_reducible rfl
               rotate_left
               ·simp only [Act.put, L1_, L2_, L3_, i64_w, i32_w]
                rfl
               refine last_ (i := 14) (N := none) #[tt,tt,tt,tt,tt,tt,tt,tt,tt,tt,tt,tt,tt,tt,tt] rfl rfl (one_of HT_.out (by kernel_rfl)) (by decide) (fun K hK => ?_)
               refine skip_ (w1 := ?_) (by rfl) rfl ?_ ?_
               rotate_left
               ·go_simp
                rfl
               refine hK.out _ _ ?_
               clear hK K
               refine done_ (done_of HT_.out (by kernel_rfl)) ?_
               try go_wp2
               (try rw [← hji31])
               go_meet
               case rel => exact ⟨_, (y128), (.slice (some ⟨go34, 0, none⟩) x116006_1.length co21), (by first | (with_reducible exact H') | (rw [hji31]; with_reducible exact H')), ⟨by have := HK1.out; have := HJ11.out; first | omega | exact Nat.le_refl _⟩, ⟨by (try rw [hji31]); (with_reducible repeat (first | apply Kd.R_alloc | apply Kd.R_drewN | apply Kd.R_drew)); exact Kd.R_mono (Kd.R_far (p := ⟨go34, ((ji31) : Int).toNat * 3 + 2, none⟩) (Kd.R_types HO_115006.out GG45_.out (by decide)) (fun _ hk => hk.2) (.slice Ao47 y125.length co47)) (fun _ hk => trivial)⟩, ⟨by (try rw [hji31]); (with_reducible repeat (first | apply Kd.S_alloc | apply Kd.S_drewN | apply Kd.S_drew)); exact HQ45.out⟩, ⟨by (try rw [hji31]); (with_reducible repeat (first | apply Kd.R_alloc | apply Kd.R_drewN | apply Kd.R_drew)); exact Kd.R_mono (Kd.R_far (p := ⟨go34, ((ji31) : Int).toNat * 3 + 2, none⟩) (Kd.R_types HO_117006.out GG45_.out (by decide)) (fun _ hk => hk.2) (.slice Ao47 y125.length co47)) (fun _ hk => trivial)⟩, ⟨by (try rw [hji31]); (with_reducible repeat (first | refine b1_ ?_ _ | refine b2_ ?_ | refine b3_ ?_ _)); refine blk_far ?_ HNB114_go34.out _; (with_reducible repeat (first | refine b1_ ?_ _ | refine b2_ ?_ | refine b3_ ?_ _)); exact BK114.out⟩, ⟨by (try rw [hji31]); (with_reducible repeat (first | refine b1_ ?_ _ | refine b2_ ?_ | refine b3_ ?_ _)); refine blk_far ?_ HNB115_go34.out _; (with_reducible repeat (first | refine b1_ ?_ _ | refine b2_ ?_ | refine b3_ ?_ _)); exact BK115.out⟩, ⟨by (try rw [hji31]); (with_reducible repeat (first | refine b1_ ?_ _ | refine b2_ ?_ | refine b3_ ?_ _)); refine blk_far ?_ HNB116_go34.out _; (with_reducible repeat (first | refine b1_ ?_ _ | refine b2_ ?_ | refine b3_ ?_ _)); exact BK116.out⟩, ⟨by repeat (first | (with_reducible first | exact HB.out | apply below_alloc | apply pw_below_drewN | apply below_drew1 | refine below_set ?_ GB34.out | refine below_set ?_ GE114.out | refine below_set ?_ GE115.out | refine below_set ?_ GE116.out) | exact HB.out)⟩⟩
              ·rw [if_neg c35] at H
               exact absurd H (by simp)
             ·rw [if_neg c33] at H
              exact absurd H (by simp)
            ·rw [if_neg c32] at H
             exact absurd H (by simp)
           ·replace c30 := Bool.eq_false_iff.mpr c30
            subst c30
            have H1 : (if x116006_1.length < 4398046511104 then (tables_ZzLookup.j2 kj11 a0 l2 (rd l1 x17_1) (rd l2 x17_1) l1 (l1.length : Int) x17_1 0 0 0 0 0 0 x115006_1 0 0 0 0 0 0 (x116006_1 ++ [(⟨(rd l1 x17_1), (rd l1 x17_1), (([(rd l2 x17_1)] : List Int))⟩ : S186)]) 0 0 0 0 0 0 y119) else (none)) = some (r1, r2, r3, r4, r5, r6, r7) := by rw [if_neg (show ¬ (false = true) by decide)] at H; exact H
            clear H
            have H := H1
            clear H1
            obtain ⟨y129, hy129⟩ : ∃ y_ : List Int, y_ = (([(rd l2 x17_1)] : List Int)) := ⟨_, rfl⟩
            replace H : (if x116006_1.length < 4398046511104 then (tables_ZzLookup.j2 kj11 a0 l2 (rd l1 x17_1) (rd l2 x17_1) l1 (l1.length : Int) x17_1 0 0 0 0 0 0 x115006_1 0 0 0 0 0 0 (x116006_1 ++ [(⟨(rd l1 x17_1), (rd l1 x17_1), y129⟩ : S186)]) 0 0 0 0 0 0 y119) else (none)) = some (r1, r2, r3, r4, r5, r6, r7) := by first | (rw [hy129]; with_reducible exact H) | (have H2_ := (Option.bind_some _ _).symm.trans H; rw [hy129]; with_reducible exact H2_) | (have H2_ := (Option.bind_some _ _).symm.trans H; with_reducible exact H2_) | with_reducible exact H | (rw [hy129]; exact H) | exact H
            have Ny129 := Aside0.mk hy129
            clear hy129
            by_cases c48 : x116006_1.length < 4398046511104
            ·rw [if_pos c48] at H
             have LMc48 := Aside0.mk c48
             clear c48
             obtain ⟨y132, hy132⟩ : ∃ y_ : List (S186), y_ = (x116006_1 ++ [(⟨(rd l1 x17_1), (rd l1 x17_1), y129⟩ : S186)]) := ⟨_, rfl⟩
             replace H : (tables_ZzLookup.j2 kj11 a0 l2 (rd l1 x17_1) (rd l2 x17_1) l1 (l1.length : Int) x17_1 0 0 0 0 0 0 x115006_1 0 0 0 0 0 0 y132 0 0 0 0 0 0 y119) = some (r1, r2, r3, r4, r5, r6, r7) := by first | (rw [hy132]; with_reducible exact H) | (have H2_ := (Option.bind_some _ _).symm.trans H; rw [hy132]; with_reducible exact H2_) | (have H2_ := (Option.bind_some _ _).symm.trans H; with_reducible exact H2_) | with_reducible exact H | (rw [hy132]; exact H) | exact H
             have Ny132 := Aside0.mk hy132
             clear hy132
             have H' := Aside0.mk H
             clear H
             have hnb49 := NB115_114.out
             have hnc49 := NB114_115.out
             have hnb50 := NB115_116.out
             have hnc50 := NB116_115.out
             have hcz51_0 : wc.cell? ⟨gb115, 0, none⟩ = some (.int .u16 0) := (blk_cell BK115.out 0).trans rfl
             have hcz51_1 : wc.cell? ⟨gb115, 1, none⟩ = some (.int .u16 0) := (blk_cell BK115.out 1).trans rfl
             have hcz51_2 : wc.cell? ⟨gb115, 2, none⟩ = some (.int .u16 0) := (blk_cell BK115.out 2).trans rfl
             have hcz51_3 : wc.cell? ⟨gb115, 3, none⟩ = some (.int .u16 0) := (blk_cell BK115.out 3).trans rfl
             have hcz51_4 : wc.cell? ⟨gb115, 4, none⟩ = some (.int .u16 0) := (blk_cell BK115.out 4).trans rfl
             have hcz51_5 : wc.cell? ⟨gb115, 5, none⟩ = some (.int .u16 0) := (blk_cell BK115.out 5).trans rfl
             have hcz51_6 : wc.cell? ⟨gb115, 6, none⟩ = some (.slice Ao21 x116006_1.length co21) := (blk_cell BK115.out 6).trans rfl
             have hfz51_0 := blk_frozen BK115.out 0
             have hfz51_1 := blk_frozen BK115.out 1
             have hfz51_2 := blk_frozen BK115.out 2
             have hfz51_3 := blk_frozen BK115.out 3
             have hfz51_4 := blk_frozen BK115.out 4
             have hfz51_5 := blk_frozen BK115.out 5
             have hfz51_6 := blk_frozen BK115.out 6
             go_wp2_with (first | ((with_reducible refine gate_dst (N := 76) rfl ?_); refine Kd.R_lit (Kd.int .u16) _ 35 ?hg (N := 76) ?hd (xs := ([(rd l2 x17_1)] : List Int)) (inner := [.int .u16 (rd l2 x17_1)]) (ok := fun _ => True) (okp := fun _ => True) ?hr ?hp (fun _ hk => hk) trivial (Below.refl _ _) (Nat.le_refl _) (by simp) ?_; (case hd => rfl); (case hg => rfl); (case hr => first | (go_simp; done) | (go_simp; rfl)); (case hp => exact (Reps.one (show Kd.M (Kd.int .u16) _ _ _ (rd l2 x17_1) [.int .u16 (rd l2 x17_1)] from rfl) (Reps.none _ _))); intro v130 w52 ho53 hb hg_ hnew_; clear hg_ hnew_; (first | rw [← Ny129.out] at ho53 | (simp only [Int.reduceToNat] at ho53; rw [← Ny129.out] at ho53)); have n0_ := Aside0.mk (Kd.R_below (by (with_reducible repeat (first | apply Kd.R_alloc | apply Kd.R_drewN | apply Kd.R_drew)); exact HO_115006.out) hb); have n1_ := Aside0.mk (Kd.S_elder' (by (with_reducible repeat (first | apply Kd.S_alloc | apply Kd.S_drewN | apply Kd.S_drew)); exact HO_116006.out) (Kd.R_base ho53) hb); have n2_ := Aside0.mk (Kd.R_below (by (with_reducible repeat (first | apply Kd.R_alloc | apply Kd.R_drewN | apply Kd.R_drew)); exact HO_117006.out) hb); have n3_ := Aside0.mk (Kd.R_lower ho53 (below_size (by repeat (first | (with_reducible first | exact HB.out | apply below_alloc | apply pw_below_drewN | apply below_drew1 | refine below_set ?_ GE114.out | refine below_set ?_ GE115.out | refine below_set ?_ GE116.out) | exact HB.out)))); have n4_ := Aside0.mk (blk_below (g := gb114) (o := .cells #[.int .u16 0, .int .u16 0, .int .u16 0, .int .u16 0, .int .u16 0, .int .u16 0, u115006] 176 (0, 0)) (by (with_reducible repeat (first | refine b1_ ?_ _ | refine b2_ ?_ | refine b3_ ?_ _)); exact BK114.out) hb); have n5_ := Aside0.mk (blk_below (g := gb115) (o := .cells #[.int .u16 0, .int .u16 0, .int .u16 0, .int .u16 0, .int .u16 0, .int .u16 0, .slice Ao21 x116006_1.length co21] 179 (0, 0)) (by (with_reducible repeat (first | refine b1_ ?_ _ | refine b2_ ?_ | refine b3_ ?_ _)); exact BK115.out) hb); have n6_ := Aside0.mk (blk_below (g := gb116) (o := .cells #[.int .u16 0, .int .u16 0, .int .u16 0, .int .u16 0, .int .u16 0, .int .u16 0, .slice Ao17 y119.length co17] 182 (0, 0)) (by (with_reducible repeat (first | refine b1_ ?_ _ | refine b2_ ?_ | refine b3_ ?_ _)); exact BK116.out) hb); have n7_ := Aside0.mk (below_step (by repeat (first | (with_reducible first | exact HB.out | apply below_alloc | apply pw_below_drewN | apply below_drew1 | refine below_set ?_ GE114.out | refine below_set ?_ GE115.out | refine below_set ?_ GE116.out) | exact HB.out)) hb); clear HO_115006; clear HO_116006; clear HO_117006; clear BK114; clear BK115; clear BK116; clear HB; have HO_115006 := n0_; have HO_116006 := n1_; have HO_117006 := n2_; have HO131 := n3_; have BK114 := n4_; have BK115 := n5_; have BK116 := n6_; have HB := n7_; clear n0_ n1_ n2_ n3_ n4_ n5_ n6_ n7_; clear hb ho53; obtain ⟨Ao54, co54, eo54⟩ := Kd.R_slice HO131.out; subst eo54) | ((with_reducible refine gate_builtin (b := .append) (xs := #[.tmp 72, .tmp 78]) rfl ?_); at_builtin; refine Kd.S_append k186 (w0 := w) w.heap.size rfl (.tmp 72) (.tmp 78) 177 186 (.agg #[(.int .u16 0), (.int .u16 0), (.slice none 0 0)]) 32 rfl Try.underlying177 info186 rfl (by decide) (by omega) (.slice Ao21 x116006_1.length co21) x116006_1 (⟨(rd l1 x17_1), (rd l1 x17_1), y129⟩ : S186) [.int .u16 (rd l1 x17_1), .int .u16 (rd l1 x17_1), .slice Ao54 y129.length co54] (fun _ => True) (fun k_ => some k_ = (.slice Ao54 y129.length co54 : Value).ownBlock) rfl rfl ?aP (fun k_ hk_ => ((Kd.R_mono (ok' := fun k_ => ((fun _ => True)) k_ ∧ some k_ ≠ (.slice Ao21 x116006_1.length co21 : Value).ownBlock) (Kd.R_apart' (HO131.out) (Kd.S_typed HO_116006.out) (by decide)) (fun k_ hk => ⟨trivial, hk.2⟩))).1 k_ hk_.symm) ?aF ?aO ?aB ?aS ?aL ?_; (case aP => exact k186_mkM _ _ _ (⟨(rd l1 x17_1), (rd l1 x17_1), y129⟩ : S186) (Kd.R_mono (Kd.R_tight rfl (Kd.R_mono (ok' := fun k_ => ((fun _ => True)) k_ ∧ some k_ ≠ (.slice Ao21 x116006_1.length co21 : Value).ownBlock) (Kd.R_apart' (HO131.out) (Kd.S_typed HO_116006.out) (by decide)) (fun k_ hk => ⟨trivial, hk.2⟩))) (fun _ h_ => h_))); (case aB => exact (by repeat (first | (with_reducible first | exact HB.out | apply below_alloc | apply pw_below_drewN | apply below_drew1 | refine below_set ?_ GE114.out | refine below_set ?_ GE115.out | refine below_set ?_ GE116.out) | exact HB.out))); (case aF => exact (fun _ _ => trivial)); (case aO => exact (by (with_reducible repeat (first | apply Kd.S_alloc | apply Kd.S_drewN | apply Kd.S_drew)); exact Kd.S_mono HO_116006.out (fun k_ hk => ⟨trivial, fun e_ => hk.2 e_⟩))); (case aS => exact (below_size (by repeat (first | (with_reducible first | exact HB.out | apply below_alloc | apply pw_below_drewN | apply below_drew1 | refine below_set ?_ GE114.out | refine below_set ?_ GE115.out | refine below_set ?_ GE116.out) | exact HB.out)))); (case aL => have := LMc48.out; omega); intro v133 w55 ho hb hg hat; rw [← Ny132.out] at ho; have n0_ := Aside0.mk (Kd.R_over' (by (with_reducible repeat (first | apply Kd.R_alloc | apply Kd.R_drewN | apply Kd.R_drew)); exact HO_115006.out) (Kd.S_typed (by (with_reducible repeat (first | apply Kd.S_alloc | apply Kd.S_drewN | apply Kd.S_drew)); exact HO_116006.out)) (by decide) hg); have n1_ := Aside0.mk (Kd.R_over' (by (with_reducible repeat (first | apply Kd.R_alloc | apply Kd.R_drewN | apply Kd.R_drew)); exact HO_117006.out) (Kd.S_typed (by (with_reducible repeat (first | apply Kd.S_alloc | apply Kd.S_drewN | apply Kd.S_drew)); exact HO_116006.out)) (by decide) hg); have n2_ := Aside0.mk (blk_grown (g := gb114) (o := .cells #[.int .u16 0, .int .u16 0, .int .u16 0, .int .u16 0, .int .u16 0, .int .u16 0, u115006] 176 (0, 0)) (by (with_reducible repeat (first | refine b1_ ?_ _ | refine b2_ ?_ | refine b3_ ?_ _)); exact BK114.out) hg (Kd.S_ne HO_116006.out BK114.out (by decide))); have n3_ := Aside0.mk (blk_grown (g := gb115) (o := .cells #[.int .u16 0, .int .u16 0, .int .u16 0, .int .u16 0, .int .u16 0, .int .u16 0, .slice Ao21 x116006_1.length co21] 179 (0, 0)) (by (with_reducible repeat (first | refine b1_ ?_ _ | refine b2_ ?_ | refine b3_ ?_ _)); exact BK115.out) hg (Kd.S_ne HO_116006.out BK115.out (by decide))); have n4_ := Aside0.mk (blk_grown (g := gb116) (o := .cells #[.int .u16 0, .int .u16 0, .int .u16 0, .int .u16 0, .int .u16 0, .int .u16 0, .slice Ao17 y119.length co17] 182 (0, 0)) (by (with_reducible repeat (first | refine b1_ ?_ _ | refine b2_ ?_ | refine b3_ ?_ _)); exact BK116.out) hg (Kd.S_ne HO_116006.out BK116.out (by decide))); have n5_ := Aside0.mk (hb); have n6_ := Aside0.mk (ho); clear HO_115006; clear HO_117006; clear BK114; clear BK115; clear BK116; clear HB; clear HO_116006; clear HO131; have HO_115006 := n0_; have HO_117006 := n1_; have BK114 := n2_; have BK115 := n3_; have BK116 := n4_; have HB := n5_; have HO134 := n6_; clear n0_ n1_ n2_ n3_ n4_ n5_ n6_; clear ho hb hg hat; obtain ⟨Ao56, co56, eo56⟩ := Kd.S_slice HO134.out; subst eo56; have hcz57_0 : w55.cell? ⟨gb115, 0, none⟩ = some (.int .u16 0) := (blk_cell BK115.out 0).trans rfl; have hcz57_1 : w55.cell? ⟨gb115, 1, none⟩ = some (.int .u16 0) := (blk_cell BK115.out 1).trans rfl; have hcz57_2 : w55.cell? ⟨gb115, 2, none⟩ = some (.int .u16 0) := (blk_cell BK115.out 2).trans rfl; have hcz57_3 : w55.cell? ⟨gb115, 3, none⟩ = some (.int .u16 0) := (blk_cell BK115.out 3).trans rfl; have hcz57_4 : w55.cell? ⟨gb115, 4, none⟩ = some (.int .u16 0) := (blk_cell BK115.out 4).trans rfl; have hcz57_5 : w55.cell? ⟨gb115, 5, none⟩ = some (.int .u16 0) := (blk_cell BK115.out 5).trans rfl; have hcz57_6 : w55.cell? ⟨gb115, 6, none⟩ = some (.slice Ao21 x116006_1.length co21) := (blk_cell BK115.out 6).trans rfl; have hfz57_0 := blk_frozen BK115.out 0; have hfz57_1 := blk_frozen BK115.out 1; have hfz57_2 := blk_frozen BK115.out 2; have hfz57_3 := blk_frozen BK115.out 3; have hfz57_4 := blk_frozen BK115.out 4; have hfz57_5 := blk_frozen BK115.out 5; have hfz57_6 := blk_frozen BK115.out 6))
             go_meet
             case rel => exact ⟨_, (y132), (.slice Ao56 y132.length co56), H', ⟨by have := HK1.out; have := HJ11.out; first | omega | exact Nat.le_refl _⟩, ⟨by (with_reducible repeat (first | apply Kd.R_alloc | apply Kd.R_drewN | apply Kd.R_drew)); exact Kd.R_mono (Kd.R_far (p := ⟨gb115, 6, none⟩) (Kd.R_types HO_115006.out BK115.out (by decide)) (fun _ hk => hk.2) (.slice Ao56 y132.length co56)) (fun _ hk => trivial)⟩, ⟨by (with_reducible repeat (first | apply Kd.S_alloc | apply Kd.S_drewN | apply Kd.S_drew)); exact Kd.S_mono (Kd.S_far (p := ⟨gb115, 6, none⟩) (Kd.S_types HO134.out BK115.out (by decide)) (fun _ hk => hk.2) (.slice Ao56 y132.length co56)) (fun _ hk => trivial)⟩, ⟨by (with_reducible repeat (first | apply Kd.R_alloc | apply Kd.R_drewN | apply Kd.R_drew)); exact Kd.R_mono (Kd.R_far (p := ⟨gb115, 6, none⟩) (Kd.R_types HO_117006.out BK115.out (by decide)) (fun _ hk => hk.2) (.slice Ao56 y132.length co56)) (fun _ hk => trivial)⟩, ⟨by (with_reducible repeat (first | refine b1_ ?_ _ | refine b2_ ?_ | refine b3_ ?_ _)); refine blk_far ?_ NB114_115.out _; (with_reducible repeat (first | refine b1_ ?_ _ | refine b2_ ?_ | refine b3_ ?_ _)); exact BK114.out⟩, ⟨by (with_reducible repeat (first | refine b1_ ?_ _ | refine b2_ ?_ | refine b3_ ?_ _)); refine blk_put (cs := #[.int .u16 0, .int .u16 0, .int .u16 0, .int .u16 0, .int .u16 0, .int .u16 0, .slice Ao21 x116006_1.length co21]) ?_ 6 _ rfl; (with_reducible repeat (first | refine b1_ ?_ _ | refine b2_ ?_ | refine b3_ ?_ _)); exact BK115.out⟩, ⟨by (with_reducible repeat (first | refine b1_ ?_ _ | refine b2_ ?_ | refine b3_ ?_ _)); refine blk_far ?_ NB116_115.out _; (with_reducible repeat (first | refine b1_ ?_ _ | refine b2_ ?_ | refine b3_ ?_ _)); exact BK116.out⟩, ⟨by repeat (first | (with_reducible first | exact HB.out | apply below_alloc | apply pw_below_drewN | apply below_drew1 | refine below_set ?_ GE114.out | refine below_set ?_ GE115.out | refine below_set ?_ GE116.out) | exact HB.out)⟩⟩
            ·rw [if_neg c48] at H
             exact absurd H (by simp)
          case rest =>
           clear HC29
           try clear c1
           try clear p1
           try clear q1
           try clear hx1
           try clear c2
           try clear p2
           try clear c3
           try clear p3
           try clear q3
           try clear hx3
           try clear hf3
           try clear c4
           try clear hx4
           try clear hf4
           try clear c5
           try clear p6
           try clear c7
           try clear c7b0
           try clear c8
           try clear c8b0
           try clear c9
           try clear c9b0
           try clear c10
           try clear c10b0
           try clear c11
           try clear p11
           try clear q11
           try clear hx11
           try clear c12
           try clear p12
           try clear q12
           try clear hx12
           try clear c13
           try clear c14
           try clear c19
           try clear c22
           try clear c22b0
           try clear c24
           try clear c24b0
           try clear c25
           try clear c25b0
           try clear c26
           try clear c27
           try clear c30
           try clear c32
           try clear c32b0
           try clear c33
           try clear c33b0
           try clear c34
           try clear p34
           try clear q34
           try clear hx34
           try clear hf34
           try clear c35
           try clear p36
           try clear q36
           try clear c37
           try clear c38
           try clear c40
           try clear hx40
           try clear hf40
           try clear c43
           try clear c45
           try clear hx45
           try clear hf45
           try clear c48
           try clear c49
           try clear c50
           try clear hcz15_0
           try clear hcz15_1
           try clear hcz15_2
           try clear hcz15_3
           try clear hcz15_4
           try clear hcz15_5
           try clear hcz15_6
           try clear hcz18_0
           try clear hcz18_1
           try clear hcz18_2
           try clear hcz18_3
           try clear hcz18_4
           try clear hcz18_5
           try clear hcz18_6
           try clear hcz20_0
           try clear hcz20_1
           try clear hcz20_2
           try clear hcz20_3
           try clear hcz20_4
           try clear hcz20_5
           try clear hcz20_6
           try clear hcz28_0
           try clear hcz28_1
           try clear hcz28_2
           try clear hcz28_3
           try clear hcz28_4
           try clear hcz28_5
           try clear hcz28_6
           try clear hcz39_0
           try clear hcz39_1
           try clear hcz39_2
           try clear hcz39_3
           try clear hcz39_4
           try clear hcz39_5
           try clear hcz39_6
           try clear hcz51_0
           try clear hcz51_1
           try clear hcz51_2
           try clear hcz51_3
           try clear hcz51_4
           try clear hcz51_5
           try clear hcz51_6
           try clear hcz57_0
           try clear hcz57_1
           try clear hcz57_2
           try clear hcz57_3
           try clear hcz57_4
           try clear hcz57_5
           try clear hcz57_6
           try clear hfz15_0
           try clear hfz15_1
           try clear hfz15_2
           try clear hfz15_3
           try clear hfz15_4
           try clear hfz15_5
           try clear hfz15_6
           try clear hfz18_0
           try clear hfz18_1
           try clear hfz18_2
           try clear hfz18_3
           try clear hfz18_4
           try clear hfz18_5
           try clear hfz18_6
           try clear hfz20_0
           try clear hfz20_1
           try clear hfz20_2
           try clear hfz20_3
           try clear hfz20_4
           try clear hfz20_5
           try clear hfz20_6
           try clear hfz28_0
           try clear hfz28_1
           try clear hfz28_2
           try clear hfz28_3
           try clear hfz28_4
           try clear hfz28_5
           try clear hfz28_6
           try clear hfz39_0
           try clear hfz39_1
           try clear hfz39_2
           try clear hfz39_3
           try clear hfz39_4
           try clear hfz39_5
           try clear hfz39_6
           try clear hfz51_0
           try clear hfz51_1
           try clear hfz51_2
           try clear hfz51_3
           try clear hfz51_4
           try clear hfz51_5
           try clear hfz51_6
           try clear hfz57_0
           try clear hfz57_1
           try clear hfz57_2
           try clear hfz57_3
           try clear hfz57_4
           try clear hfz57_5
           try clear hfz57_6
           try clear hx117_0
           try clear hx118_0
           try clear hx122_0
           try clear hx122_1
           try clear hx122_2
           try clear hx124_0
           try clear hx124_1
           try clear hx124_2
           try clear hx34_0
           try clear hx34_1
           try clear hx34_2
           try clear hx40_0
           try clear hx45_0
           try clear p1
           try clear p11
           try clear p117
           try clear p118
           try clear p12
           try clear p122
           try clear p124
           try clear p2
           try clear p34
           try clear p36
           try clear p6
           try clear q1
           try clear q11
           try clear q117
           try clear q118
           try clear q12
           try clear q122
           try clear q124
           try clear q34
           try clear q36
           obtain ⟨kq, x116006_28, u116006, HA, HJ28, HO_115006, HO_116006, HO_117006, BK114, BK115, BK116, HB⟩ := hcut
           cases kq with
           | zero => exact absurd HA.out (by simp [tables_ZzLookup.j2])
           | succ kj28 =>
            have H := HA.out
            clear HA
            simp only [tables_ZzLookup.j2] at H
            have HC58 := Aside0.mk H
            clear H
            have hnb59 := NB114_115.out
            have hnc59 := NB115_114.out
            have hnb60 := NB114_116.out
            have hnc60 := NB116_114.out
            have hcz61_0 : wc.cell? ⟨gb114, 0, none⟩ = some (.int .u16 0) := (blk_cell BK114.out 0).trans rfl
            have hcz61_1 : wc.cell? ⟨gb114, 1, none⟩ = some (.int .u16 0) := (blk_cell BK114.out 1).trans rfl
            have hcz61_2 : wc.cell? ⟨gb114, 2, none⟩ = some (.int .u16 0) := (blk_cell BK114.out 2).trans rfl
            have hcz61_3 : wc.cell? ⟨gb114, 3, none⟩ = some (.int .u16 0) := (blk_cell BK114.out 3).trans rfl
            have hcz61_4 : wc.cell? ⟨gb114, 4, none⟩ = some (.int .u16 0) := (blk_cell BK114.out 4).trans rfl
            have hcz61_5 : wc.cell? ⟨gb114, 5, none⟩ = some (.int .u16 0) := (blk_cell BK114.out 5).trans rfl
            have hcz61_6 : wc.cell? ⟨gb114, 6, none⟩ = some (u115006) := (blk_cell BK114.out 6).trans rfl
            have hfz61_0 := blk_frozen BK114.out 0
            have hfz61_1 := blk_frozen BK114.out 1
            have hfz61_2 := blk_frozen BK114.out 2
            have hfz61_3 := blk_frozen BK114.out 3
            have hfz61_4 := blk_frozen BK114.out 4
            have hfz61_5 := blk_frozen BK114.out 5
            have hfz61_6 := blk_frozen BK114.out 6
            obtain ⟨Ao62, co62, eo62⟩ := Kd.R_slice HO_115006.out
            subst eo62
            go_upto_region 15 with (fail)
            go_cut [107] (fun v107 wc => ∃ (kq : Nat) (x107_57 : Bool), v107 = .bool x107_57 ∧ Aside0 (tables_ZzLookup.j3 kq a0 l2 (rd l1 x17_1) (rd l2 x17_1) (wrap64 ((x115006_1.length : Int) - 1)) l1 (l1.length : Int) x17_1 x107_57 0 0 0 0 0 0 x115006_1 0 0 0 0 0 0 x116006_28 0 0 0 0 0 0 y119 = some (r1, r2, r3, r4, r5, r6, r7)) ∧ Aside0 (kq ≤ kj28) ∧ Aside0 (Kd.R k188 188 wc w.heap.size (fun _ => True) (.slice Ao62 x115006_1.length co62) x115006_1) ∧ Aside0 (Kd.S k186 186 wc w.heap.size (fun _ => True) u116006 x116006_28) ∧ Aside0 (Kd.R k184 184 wc w.heap.size (fun _ => True) (.slice Ao17 y119.length co17) y119) ∧ Aside0 (wc.heap[gb114]? = some (.cells #[.int .u16 0, .int .u16 0, .int .u16 0, .int .u16 0, .int .u16 0, .int .u16 0, (.slice Ao62 x115006_1.length co62)] 176 (0, 0))) ∧ Aside0 (wc.heap[gb115]? = some (.cells #[.int .u16 0, .int .u16 0, .int .u16 0, .int .u16 0, .int .u16 0, .int .u16 0, u116006] 179 (0, 0))) ∧ Aside0 (wc.heap[gb116]? = some (.cells #[.int .u16 0, .int .u16 0, .int .u16 0, .int .u16 0, .int .u16 0, .int .u16 0, (.slice Ao17 y119.length co17)] 182 (0, 0))) ∧ Aside0 (Below w.heap.size w wc))
            case first =>
             have H := HC58.out
             clear HC58
             by_cases c63 : (wrap64 ((x115006_1.length : Int) - 1)) ≥ 0
             ·rw [if_pos c63] at H
              have c63b0 : decide (0 ≤ (wrap64 ((x115006_1.length : Int) - 1))) = true := decide_eq_true c63
              clear c63
              (first | rw [c63b0] | (simp only [i64_w, i32_w]; rw [c63b0]) | skip)
              obtain ⟨ji64, hji64⟩ : ∃ j_ : Int, (wrap64 ((x115006_1.length : Int) - 1)) = j_ := ⟨_, rfl⟩
              replace H : (if 0 ≤ (ji64) then (if (ji64) < (x115006_1.length : Int) then (if (IntKind.u16.wrap (((rd_T188 x115006_1 (ji64)).f0) + 1)) = (rd l1 x17_1) then (tables_ZzLookup.j3 kj28 a0 l2 (rd l1 x17_1) (rd l2 x17_1) ji64 l1 (l1.length : Int) x17_1 (((rd_T188 x115006_1 (ji64)).f2) == (rd l2 x17_1)) 0 0 0 0 0 0 x115006_1 0 0 0 0 0 0 x116006_28 0 0 0 0 0 0 y119) else (tables_ZzLookup.j3 kj28 a0 l2 (rd l1 x17_1) (rd l2 x17_1) ji64 l1 (l1.length : Int) x17_1 false 0 0 0 0 0 0 x115006_1 0 0 0 0 0 0 x116006_28 0 0 0 0 0 0 y119)) else (none)) else (none)) = some (r1, r2, r3, r4, r5, r6, r7) := by first | (rw [hji64] at H; exact H) | (simp only [hji64] at H ⊢; exact H)
              (try rw [hji64] at c63b0)
              have hji64w : (IntKind.i64.wrap ((x115006_1.length : Int) - 1)) = ji64 := (i64_w _).trans hji64
              by_cases c65 : 0 ≤ (ji64)
              ·rw [if_pos c65] at H
               have c65b0 : decide (0 ≤ (ji64)) = true := decide_eq_true c65
               clear c65
               by_cases c66 : (ji64) < (x115006_1.length : Int)
               ·rw [if_pos c66] at H
                have c66b0 : decide ((ji64) < (x115006_1.length : Int)) = true := decide_eq_true c66
                clear c66
                by_cases c67 : (IntKind.u16.wrap (((rd_T188 x115006_1 (ji64)).f0) + 1)) = (rd l1 x17_1)
                ·rw [if_pos c67] at H
                 have c67b0 : ((IntKind.u16.wrap (((rd_T188 x115006_1 (ji64)).f0) + 1)) == (rd l1 x17_1)) = true := beq_iff_eq.mpr c67
                 have c67b1 : ((IntKind.u16.wrap (((rd_T188 x115006_1 (ji64)).f0) + 1)) != (rd l1 x17_1)) = false := bne_eq_false_iff_eq.mpr c67
                 clear c67
                 have H' := Aside0.mk H
                 clear H
                 have hnb68 := NB114_115.out
                 have hnc68 := NB115_114.out
                 have hnb69 := NB114_116.out
                 have hnc69 := NB116_114.out
                 have hcz70_0 : wc.cell? ⟨gb114, 0, none⟩ = some (.int .u16 0) := (blk_cell BK114.out 0).trans rfl
                 have hcz70_1 : wc.cell? ⟨gb114, 1, none⟩ = some (.int .u16 0) := (blk_cell BK114.out 1).trans rfl
                 have hcz70_2 : wc.cell? ⟨gb114, 2, none⟩ = some (.int .u16 0) := (blk_cell BK114.out 2).trans rfl
                 have hcz70_3 : wc.cell? ⟨gb114, 3, none⟩ = some (.int .u16 0) := (blk_cell BK114.out 3).trans rfl
                 have hcz70_4 : wc.cell? ⟨gb114, 4, none⟩ = some (.int .u16 0) := (blk_cell BK114.out 4).trans rfl
                 have hcz70_5 : wc.cell? ⟨gb114, 5, none⟩ = some (.int .u16 0) := (blk_cell BK114.out 5).trans rfl
                 have hcz70_6 : wc.cell? ⟨gb114, 6, none⟩ = some (.slice Ao62 x115006_1.length co62) := (blk_cell BK114.out 6).trans rfl
                 have hfz70_0 := blk_frozen BK114.out 0
                 have hfz70_1 := blk_frozen BK114.out 1
                 have hfz70_2 := blk_frozen BK114.out 2
                 have hfz70_3 := blk_frozen BK114.out 3
                 have hfz70_4 := blk_frozen BK114.out 4
                 have hfz70_5 := blk_frozen BK114.out 5
                 have hfz70_6 := blk_frozen BK114.out 6
                 have p135 : 0 ≤ ((ji64) : Int) := of_decide_eq_true (by first | (with_reducible assumption) | assumption)
                 have q135 : (ji64) < (x115006_1.length : Int) := of_decide_eq_true (by first | (with_reducible assumption) | assumption)
                 obtain ⟨ad135, e135, hx135_0, hx135_1, hx135_2⟩ := at_T188 (Kd.R_reads' HO_115006.out).2.2 (ji64) p135 q135
                 cases e135
                 replace p135 := eq_true p135
                 replace q135 := eq_true q135
                 have p136 : 0 ≤ ((ji64) : Int) := of_decide_eq_true (by first | (with_reducible assumption) | assumption)
                 have q136 : (ji64) < (x115006_1.length : Int) := of_decide_eq_true (by first | (with_reducible assumption) | assumption)
                 obtain ⟨ad136, e136, hx136_0, hx136_1, hx136_2⟩ := at_T188 (Kd.R_reads' HO_115006.out).2.2 (ji64) p136 q136
                 obtain rfl : ad135 = ad136 := (by injection e136)
                 replace p136 := eq_true p136
                 replace q136 := eq_true q136
                 go_wp2
                 (try rw [← hji64])
                 go_meet
                 case rel => exact ⟨_, ((((rd_T188 x115006_1 (ji64)).f2) == (rd l2 x17_1))), (by first | rfl | (simp; done) | (simp only [← hji64] <;> (first | rfl | simp)) | (simp [*]; done)), (by first | (with_reducible exact H') | (rw [hji64]; with_reducible exact H')), ⟨by have := HK1.out; have := HJ11.out; have := HJ28.out; first | omega | exact Nat.le_refl _⟩, ⟨by (try rw [hji64]); (with_reducible repeat (first | apply Kd.R_alloc | apply Kd.R_drewN | apply Kd.R_drew)); exact HO_115006.out⟩, ⟨by (try rw [hji64]); (with_reducible repeat (first | apply Kd.S_alloc | apply Kd.S_drewN | apply Kd.S_drew)); exact HO_116006.out⟩, ⟨by (try rw [hji64]); (with_reducible repeat (first | apply Kd.R_alloc | apply Kd.R_drewN | apply Kd.R_drew)); exact HO_117006.out⟩, ⟨by (try rw [hji64]); (with_reducible repeat (first | refine b1_ ?_ _ | refine b2_ ?_ | refine b3_ ?_ _)); exact BK114.out⟩, ⟨by (try rw [hji64]); (with_reducible repeat (first | refine b1_ ?_ _ | refine b2_ ?_ | refine b3_ ?_ _)); exact BK115.out⟩, ⟨by (try rw [hji64]); (with_reducible repeat (first | refine b1_ ?_ _ | refine b2_ ?_ | refine b3_ ?_ _)); exact BK116.out⟩, ⟨by repeat (first | (with_reducible first | exact HB.out | apply below_alloc | apply pw_below_drewN | apply below_drew1 | refine below_set ?_ GE114.out | refine below_set ?_ GE115.out | refine below_set ?_ GE116.out) | exact HB.out)⟩⟩
                ·rw [if_neg c67] at H
                 have c67b0 : ((IntKind.u16.wrap (((rd_T188 x115006_1 (ji64)).f0) + 1)) == (rd l1 x17_1)) = false := beq_eq_false_iff_ne.mpr c67
                 have c67b1 : ((IntKind.u16.wrap (((rd_T188 x115006_1 (ji64)).f0) + 1)) != (rd l1 x17_1)) = true := bne_iff_ne.mpr c67
                 have H' := Aside0.mk H
                 clear H
                 have hnb71 := NB114_115.out
                 have hnc71 := NB115_114.out
                 have hnb72 := NB114_116.out
                 have hnc72 := NB116_114.out
                 have hcz73_0 : wc.cell? ⟨gb114, 0, none⟩ = some (.int .u16 0) := (blk_cell BK114.out 0).trans rfl
                 have hcz73_1 : wc.cell? ⟨gb114, 1, none⟩ = some (.int .u16 0) := (blk_cell BK114.out 1).trans rfl
                 have hcz73_2 : wc.cell? ⟨gb114, 2, none⟩ = some (.int .u16 0) := (blk_cell BK114.out 2).trans rfl
                 have hcz73_3 : wc.cell? ⟨gb114, 3, none⟩ = some (.int .u16 0) := (blk_cell BK114.out 3).trans rfl
                 have hcz73_4 : wc.cell? ⟨gb114, 4, none⟩ = some (.int .u16 0) := (blk_cell BK114.out 4).trans rfl
                 have hcz73_5 : wc.cell? ⟨gb114, 5, none⟩ = some (.int .u16 0) := (blk_cell BK114.out 5).trans rfl
                 have hcz73_6 : wc.cell? ⟨gb114, 6, none⟩ = some (.slice Ao62 x115006_1.length co62) := (blk_cell BK114.out 6).trans rfl
                 have hfz73_0 := blk_frozen BK114.out 0
                 have hfz73_1 := blk_frozen BK114.out 1
                 have hfz73_2 := blk_frozen BK114.out 2
                 have hfz73_3 := blk_frozen BK114.out 3
                 have hfz73_4 := blk_frozen BK114.out 4
                 have hfz73_5 := blk_frozen BK114.out 5
                 have hfz73_6 := blk_frozen BK114.out 6
                 have p135 : 0 ≤ ((ji64) : Int) := of_decide_eq_true (by first | (with_reducible assumption) | assumption)
                 have q135 : (ji64) < (x115006_1.length : Int) := of_decide_eq_true (by first | (with_reducible assumption) | assumption)
                 obtain ⟨ad135, e135, hx135_0, hx135_1, hx135_2⟩ := at_T188 (Kd.R_reads' HO_115006.out).2.2 (ji64) p135 q135
                 cases e135
                 replace p135 := eq_true p135
                 replace q135 := eq_true q135
                 go_wp2
                 (try rw [← hji64])
                 go_meet
                 case rel => exact ⟨_, (false), (by first | rfl | (simp; done) | (simp [*]; done)), (by first | (with_reducible exact H') | (rw [hji64]; with_reducible exact H')), ⟨by have := HK1.out; have := HJ11.out; have := HJ28.out; first | omega | exact Nat.le_refl _⟩, ⟨by (try rw [hji64]); (with_reducible repeat (first | apply Kd.R_alloc | apply Kd.R_drewN | apply Kd.R_drew)); exact HO_115006.out⟩, ⟨by (try rw [hji64]); (with_reducible repeat (first | apply Kd.S_alloc | apply Kd.S_drewN | apply Kd.S_drew)); exact HO_116006.out⟩, ⟨by (try rw [hji64]); (with_reducible repeat (first | apply Kd.R_alloc | apply Kd.R_drewN | apply Kd.R_drew)); exact HO_117006.out⟩, ⟨by (try rw [hji64]); (with_reducible repeat (first | refine b1_ ?_ _ | refine b2_ ?_ | refine b3_ ?_ _)); exact BK114.out⟩, ⟨by (try rw [hji64]); (with_reducible repeat (first | refine b1_ ?_ _ | refine b2_ ?_ | refine b3_ ?_ _)); exact BK115.out⟩, ⟨by (try rw [hji64]); (with_reducible repeat (first | refine b1_ ?_ _ | refine b2_ ?_ | refine b3_ ?_ _)); exact BK116.out⟩, ⟨by repeat (first | (with_reducible first | exact HB.out | apply below_alloc | apply pw_below_drewN | apply below_drew1 | refine below_set ?_ GE114.out | refine below_set ?_ GE115.out | refine below_set ?_ GE116.out) | exact HB.out)⟩⟩
               ·rw [if_neg c66] at H
                exact absurd H (by simp)
              ·rw [if_neg c65] at H
               exact absurd H (by simp)
             ·rw [if_neg c63] at H
              have c63b0 : decide (0 ≤ (wrap64 ((x115006_1.length : Int) - 1))) = false := decide_eq_false c63
              clear c63
              (first | rw [c63b0] | (simp only [i64_w, i32_w]; rw [c63b0]) | skip)
              have H' := Aside0.mk H
              clear H
              go_wp2
              go_meet
              case rel => exact ⟨_, (false), (by first | rfl | (simp; done) | (simp [*]; done)), H', ⟨by have := HK1.out; have := HJ11.out; have := HJ28.out; first | omega | exact Nat.le_refl _⟩, ⟨by (with_reducible repeat (first | apply Kd.R_alloc | apply Kd.R_drewN | apply Kd.R_drew)); exact HO_115006.out⟩, ⟨by (with_reducible repeat (first | apply Kd.S_alloc | apply Kd.S_drewN | apply Kd.S_drew)); exact HO_116006.out⟩, ⟨by (with_reducible repeat (first | apply Kd.R_alloc | apply Kd.R_drewN | apply Kd.R_drew)); exact HO_117006.out⟩, ⟨by (with_reducible repeat (first | refine b1_ ?_ _ | refine b2_ ?_ | refine b3_ ?_ _)); exact BK114.out⟩, ⟨by (with_reducible repeat (first | refine b1_ ?_ _ | refine b2_ ?_ | refine b3_ ?_ _)); exact BK115.out⟩, ⟨by (with_reducible repeat (first | refine b1_ ?_ _ | refine b2_ ?_ | refine b3_ ?_ _)); exact BK116.out⟩, ⟨by repeat (first | (with_reducible first | exact HB.out | apply below_alloc | apply pw_below_drewN | apply below_drew1 | refine below_set ?_ GE114.out | refine below_set ?_ GE115.out | refine below_set ?_ GE116.out) | exact HB.out)⟩⟩
            case rest =>
             clear HC58
             try clear c1
             try clear p1
             try clear q1
             try clear hx1
             try clear c2
             try clear p2
             try clear c3
             try clear p3
             try clear q3
             try clear hx3
             try clear hf3
             try clear c4
             try clear hx4
             try clear hf4
             try clear c5
             try clear c6
             try clear p6
             try clear c7
             try clear c7b0
             try clear c8
             try clear c8b0
             try clear c9
             try clear c9b0
             try clear c10
             try clear c10b0
             try clear c11
             try clear p11
             try clear q11
             try clear hx11
             try clear c12
             try clear p12
             try clear q12
             try clear hx12
             try clear c13
             try clear p13
             try clear q13
             try clear hx13
             try clear c14
             try clear c19
             try clear c22
             try clear c22b0
             try clear c24
             try clear c24b0
             try clear c25
             try clear c25b0
             try clear c26
             try clear c27
             try clear c30
             try clear c32
             try clear c32b0
             try clear c33
             try clear c33b0
             try clear c34
             try clear p34
             try clear q34
             try clear hx34
             try clear hf34
             try clear c35
             try clear p36
             try clear q36
             try clear c37
             try clear c38
             try clear c40
             try clear hx40
             try clear hf40
             try clear c43
             try clear c45
             try clear hx45
             try clear hf45
             try clear c48
             try clear c49
             try clear c50
             try clear c59
             try clear c60
             try clear c63
             try clear c63b0
             try clear p64
             try clear c65
             try clear c65b0
             try clear c66
             try clear c66b0
             try clear c67
             try clear c67b0
             try clear c67b1
             try clear c68
             try clear c69
             try clear c71
             try clear c72
             try clear hcz15_0
             try clear hcz15_1
             try clear hcz15_2
             try clear hcz15_3
             try clear hcz15_4
             try clear hcz15_5
             try clear hcz15_6
             try clear hcz18_0
             try clear hcz18_1
             try clear hcz18_2
             try clear hcz18_3
             try clear hcz18_4
             try clear hcz18_5
             try clear hcz18_6
             try clear hcz20_0
             try clear hcz20_1
             try clear hcz20_2
             try clear hcz20_3
             try clear hcz20_4
             try clear hcz20_5
             try clear hcz20_6
             try clear hcz28_0
             try clear hcz28_1
             try clear hcz28_2
             try clear hcz28_3
             try clear hcz28_4
             try clear hcz28_5
             try clear hcz28_6
             try clear hcz39_0
             try clear hcz39_1
             try clear hcz39_2
             try clear hcz39_3
             try clear hcz39_4
             try clear hcz39_5
             try clear hcz39_6
             try clear hcz51_0
             try clear hcz51_1
             try clear hcz51_2
             try clear hcz51_3
             try clear hcz51_4
             try clear hcz51_5
             try clear hcz51_6
             try clear hcz57_0
             try clear hcz57_1
             try clear hcz57_2
             try clear hcz57_3
             try clear hcz57_4
             try clear hcz57_5
             try clear hcz57_6
             try clear hcz61_0
             try clear hcz61_1
             try clear hcz61_2
             try clear hcz61_3
             try clear hcz61_4
             try clear hcz61_5
             try clear hcz61_6
             try clear hcz70_0
             try clear hcz70_1
             try clear hcz70_2
             try clear hcz70_3
             try clear hcz70_4
             try clear hcz70_5
             try clear hcz70_6
             try clear hcz73_0
             try clear hcz73_1
             try clear hcz73_2
             try clear hcz73_3
             try clear hcz73_4
             try clear hcz73_5
             try clear hcz73_6
             try clear hfz15_0
             try clear hfz15_1
             try clear hfz15_2
             try clear hfz15_3
             try clear hfz15_4
             try clear hfz15_5
             try clear hfz15_6
             try clear hfz18_0
             try clear hfz18_1
             try clear hfz18_2
             try clear hfz18_3
             try clear hfz18_4
             try clear hfz18_5
             try clear hfz18_6
             try clear hfz20_0
             try clear hfz20_1
             try clear hfz20_2
             try clear hfz20_3
             try clear hfz20_4
             try clear hfz20_5
             try clear hfz20_6
             try clear hfz28_0
             try clear hfz28_1
             try clear hfz28_2
             try clear hfz28_3
             try clear hfz28_4
             try clear hfz28_5
             try clear hfz28_6
             try clear hfz39_0
             try clear hfz39_1
             try clear hfz39_2
             try clear hfz39_3
             try clear hfz39_4
             try clear hfz39_5
             try clear hfz39_6
             try clear hfz51_0
             try clear hfz51_1
             try clear hfz51_2
             try clear hfz51_3
             try clear hfz51_4
             try clear hfz51_5
             try clear hfz51_6
             try clear hfz57_0
             try clear hfz57_1
             try clear hfz57_2
             try clear hfz57_3
             try clear hfz57_4
             try clear hfz57_5
             try clear hfz57_6
             try clear hfz61_0
             try clear hfz61_1
             try clear hfz61_2
             try clear hfz61_3
             try clear hfz61_4
             try clear hfz61_5
             try clear hfz61_6
             try clear hfz70_0
             try clear hfz70_1
             try clear hfz70_2
             try clear hfz70_3
             try clear hfz70_4
             try clear hfz70_5
             try clear hfz70_6
             try clear hfz73_0
             try clear hfz73_1
             try clear hfz73_2
             try clear hfz73_3
             try clear hfz73_4
             try clear hfz73_5
             try clear hfz73_6
             try clear hx117_0
             try clear hx118_0
             try clear hx122_0
             try clear hx122_1
             try clear hx122_2
             try clear hx124_0
             try clear hx124_1
             try clear hx124_2
             try clear hx135_0
             try clear hx135_1
             try clear hx135_2
             try clear hx136_0
             try clear hx136_1
             try clear hx136_2
             try clear hx34_0
             try clear hx34_1
             try clear hx34_2
             try clear hx40_0
             try clear hx45_0
             try clear p1
             try clear p11
             try clear p117
             try clear p118
             try clear p12
             try clear p122
             try clear p124
             try clear p135
             try clear p136
             try clear p2
             try clear p3
             try clear p34
             try clear p36
             try clear p6
             try clear q1
             try clear q11
             try clear q117
             try clear q118
             try clear q12
             try clear q122
             try clear q124
             try clear q135
             try clear q136
             try clear q3
             try clear q34
             try clear q36
             obtain ⟨kq, x107_57, rfl, HA, HJ57, HO_115006, HO_116006, HO_117006, BK114, BK115, BK116, HB⟩ := hcut
             cases kq with
             | zero => exact absurd HA.out (by simp [tables_ZzLookup.j3])
             | succ kj57 =>
              have H := HA.out
              clear HA
              simp only [tables_ZzLookup.j3] at H
              by_cases c74 : x107_57 = true
              ·subst c74
               have H1 : (if 0 ≤ (wrap64 ((x115006_1.length : Int) - 1)) then (if (wrap64 ((x115006_1.length : Int) - 1)) < (x115006_1.length : Int) then (tables_ZzLookup.l0 kj57 a0 l2 l1 (l1.length : Int) (wrap64 (x17_1 + 1)) 0 0 0 0 0 0 (x115006_1.set ((wrap64 ((x115006_1.length : Int) - 1)) : Int).toNat (⟨(rd l1 x17_1), (rd_T188 x115006_1 (wrap64 ((x115006_1.length : Int) - 1))).f1, (rd_T188 x115006_1 (wrap64 ((x115006_1.length : Int) - 1))).f2⟩ : S188)) 0 0 0 0 0 0 x116006_28 0 0 0 0 0 0 y119) else (none)) else (none)) = some (r1, r2, r3, r4, r5, r6, r7) := by rw [if_pos rfl] at H; exact H
               clear H
               have H := H1
               clear H1
               obtain ⟨ji75, hji75⟩ : ∃ j_ : Int, (wrap64 ((x115006_1.length : Int) - 1)) = j_ := ⟨_, rfl⟩
               replace H : (if 0 ≤ (ji75) then (if (ji75) < (x115006_1.length : Int) then (tables_ZzLookup.l0 kj57 a0 l2 l1 (l1.length : Int) (wrap64 (x17_1 + 1)) 0 0 0 0 0 0 (x115006_1.set ((ji75) : Int).toNat (⟨(rd l1 x17_1), (rd_T188 x115006_1 (ji75)).f1, (rd_T188 x115006_1 (ji75)).f2⟩ : S188)) 0 0 0 0 0 0 x116006_28 0 0 0 0 0 0 y119) else (none)) else (none)) = some (r1, r2, r3, r4, r5, r6, r7) := by first | (rw [hji75] at H; exact H) | (simp only [hji75] at H ⊢; exact H)
               have hji75w : (IntKind.i64.wrap ((x115006_1.length : Int) - 1)) = ji75 := (i64_w _).trans hji75
               by_cases c76 : 0 ≤ (ji75)
               ·rw [if_pos c76] at H
                have c76b0 : decide (0 ≤ (ji75)) = true := decide_eq_true c76
                clear c76
                by_cases c77 : (ji75) < (x115006_1.length : Int)
                ·rw [if_pos c77] at H
                 have c77b0 : decide ((ji75) < (x115006_1.length : Int)) = true := decide_eq_true c77
                 clear c77
                 obtain ⟨y137, hy137⟩ : ∃ y_ : List (S188), y_ = (x115006_1.set ((ji75) : Int).toNat (⟨(rd l1 x17_1), (rd_T188 x115006_1 (ji75)).f1, (rd_T188 x115006_1 (ji75)).f2⟩ : S188)) := ⟨_, rfl⟩
                 replace H : (tables_ZzLookup.l0 kj57 a0 l2 l1 (l1.length : Int) (wrap64 (x17_1 + 1)) 0 0 0 0 0 0 y137 0 0 0 0 0 0 x116006_28 0 0 0 0 0 0 y119) = some (r1, r2, r3, r4, r5, r6, r7) := by first | (rw [hy137]; with_reducible exact H) | (have H2_ := (Option.bind_some _ _).symm.trans H; rw [hy137]; with_reducible exact H2_) | (have H2_ := (Option.bind_some _ _).symm.trans H; with_reducible exact H2_) | with_reducible exact H | (rw [hy137]; exact H) | exact H
                 have Ny137 := Aside0.mk hy137
                 clear hy137
                 have H' := Aside0.mk H
                 clear H
                 have hnb79 := NB114_115.out
                 have hnc79 := NB115_114.out
                 have hnb80 := NB114_116.out
                 have hnc80 := NB116_114.out
                 have hcz81_0 : wc.cell? ⟨gb114, 0, none⟩ = some (.int .u16 0) := (blk_cell BK114.out 0).trans rfl
                 have hcz81_1 : wc.cell? ⟨gb114, 1, none⟩ = some (.int .u16 0) := (blk_cell BK114.out 1).trans rfl
                 have hcz81_2 : wc.cell? ⟨gb114, 2, none⟩ = some (.int .u16 0) := (blk_cell BK114.out 2).trans rfl
                 have hcz81_3 : wc.cell? ⟨gb114, 3, none⟩ = some (.int .u16 0) := (blk_cell BK114.out 3).trans rfl
                 have hcz81_4 : wc.cell? ⟨gb114, 4, none⟩ = some (.int .u16 0) := (blk_cell BK114.out 4).trans rfl
                 have hcz81_5 : wc.cell? ⟨gb114, 5, none⟩ = some (.int .u16 0) := (blk_cell BK114.out 5).trans rfl
                 have hcz81_6 : wc.cell? ⟨gb114, 6, none⟩ = some (.slice Ao62 x115006_1.length co62) := (blk_cell BK114.out 6).trans rfl
                 have hfz81_0 := blk_frozen BK114.out 0
                 have hfz81_1 := blk_frozen BK114.out 1
                 have hfz81_2 := blk_frozen BK114.out 2
                 have hfz81_3 := blk_frozen BK114.out 3
                 have hfz81_4 := blk_frozen BK114.out 4
                 have hfz81_5 := blk_frozen BK114.out 5
                 have hfz81_6 := blk_frozen BK114.out 6
                 have p78 : 0 ≤ ((ji75) : Int) := of_decide_eq_true (by first | (with_reducible assumption) | assumption)
                 have q78 : ((ji75) : Int) < ((x115006_1.length : Int) : Int) := of_decide_eq_true (by first | (with_reducible assumption) | assumption)
                 obtain ⟨go78, co78, eo78, gb78, gl78, cl78, HG78⟩ := Kd.R_form HO_115006.out (by omega)
                 (first | cases eo78 | (injection eo78 with ea_ en_ ec_; (first | subst ea_ | (injection ea_ with ea_; subst ea_)); subst ec_; clear en_))
                 have GB78 := Aside0.mk gb78
                 have GG78 := Aside0.mk HG78
                 clear gb78 gl78 HG78
                 obtain ⟨ce78, hcl78, hM78, hcc78, hfr78⟩ := Kd.R_elem HO_115006.out z188 ((ji75) : Int) p78 q78
                 obtain rfl := k188_openM hM78
                 have hx78_0 : wc.cell? ⟨go78, ((ji75) : Int).toNat * 3, none⟩ = some (.int .u16 ((rd_T188 x115006_1 (ji75)).f0)) := hcc78 0 _ rfl
                 have hx78_1 : wc.cell? ⟨go78, ((ji75) : Int).toNat * 3 + 1, none⟩ = some (.int .u16 ((rd_T188 x115006_1 (ji75)).f1)) := hcc78 1 _ rfl
                 have hx78_2 : wc.cell? ⟨go78, ((ji75) : Int).toNat * 3 + 2, none⟩ = some (.int .u16 ((rd_T188 x115006_1 (ji75)).f2)) := hcc78 2 _ rfl
                 have hf78_0 : wc.frozen? ⟨go78, ((ji75) : Int).toNat * 3, none⟩ = false := hfr78 0
                 have hf78_1 : wc.frozen? ⟨go78, ((ji75) : Int).toNat * 3 + 1, none⟩ = false := hfr78 1
                 have hf78_2 : wc.frozen? ⟨go78, ((ji75) : Int).toNat * 3 + 2, none⟩ = false := hfr78 2
                 clear hcl78 hcc78 hfr78 hM78
                 replace p78 := eq_true p78
                 replace q78 := eq_true q78
                 have HX82 := Aside0.mk (show Kd.R k188 188 wc w.heap.size (fun _ => True) (.slice (some ⟨go78, 0, none⟩) x115006_1.length co62) x115006_1 from (by (with_reducible repeat (first | apply Kd.R_alloc | apply Kd.R_drewN | apply Kd.R_drew)); exact HO_115006.out))
                 obtain ⟨ce82, hcl82, hM82, hcc82, hfr82⟩ := Kd.R_elem HX82.out z188 ((ji75) : Int) (of_decide_eq_true (by first | (with_reducible assumption) | assumption)) (by have h_ : ((ji75) : Int) < ((x115006_1.length : Int) : Int) := of_decide_eq_true (by first | (with_reducible assumption) | assumption); first | exact h_ | (have e_ := (Kd.R_reads' HO_115006.out).1; omega) | simpa using h_)
                 obtain rfl := k188_openM hM82
                 have HP82 := Kd.R_seg HX82.out ((ji75) : Int) (of_decide_eq_true (by first | (with_reducible assumption) | assumption)) (by have h_ : ((ji75) : Int) < ((x115006_1.length : Int) : Int) := of_decide_eq_true (by first | (with_reducible assumption) | assumption); first | exact h_ | (have e_ := (Kd.R_reads' HO_115006.out).1; omega) | simpa using h_) (seg := [.int .u16 (rd l1 x17_1)]) (j := 0) hcl82 hcc82 (show 1 ≤ 3 from by decide) (x' := (⟨(rd l1 x17_1), (rd_T188 x115006_1 (ji75)).f1, (rd_T188 x115006_1 (ji75)).f2⟩ : S188)) (k188_mkM _ _ _ (⟨(rd l1 x17_1), (rd_T188 x115006_1 (ji75)).f1, (rd_T188 x115006_1 (ji75)).f2⟩ : S188) ) (fun _ hk => hk)
                 have hx82_0 := hcc82 0 _ rfl
                 (try simp only [show (k188).sz = 3 from rfl, Nat.mul_one, Nat.add_zero] at hx82_0)
                 have hf82_0 := hfr82 0
                 (try simp only [show (k188).sz = 3 from rfl, Nat.mul_one, Nat.add_zero] at hf82_0)
                 clear hcl82 hcc82 hfr82 hM82
                 go_wp2_with (first | ((with_reducible refine gate_store (t := 35) (p := 113) rfl ?_); refine store_event (t := 35) (p := 113) (v := ?vo_w83) (w1 := (wc.setCell ⟨go78, ((ji75) : Int).toNat * 3, none⟩ (.int .u16 (rd l1 x17_1)))) ?hg ?ho ?hn ?hr ?_; (case ho => rfl); (case hg => rfl); (case hn => rfl); (case hr => first | (go_simp; done) | (go_simp; rfl)); intro w83 hw; have hg : wc.grownBy w83 (some go78) := (by rw [hw]; exact HP82.2); have hp_ : Kd.R k188 188 w83 w.heap.size (fun _ => True) (.slice (some ⟨go78, 0, none⟩) x115006_1.length co62) y137 := (by rw [hw, Ny137.out]; exact HP82.1); clear HP82; have n0_ := Aside0.mk (hp_); have n1_ := Aside0.mk (Kd.S_over' (v := (.slice (some ⟨go78, 0, none⟩) x115006_1.length co62)) (by (with_reducible repeat (first | apply Kd.S_alloc | apply Kd.S_drewN | apply Kd.S_drew)); exact HO_116006.out) (Kd.R_typed HO_115006.out) (by decide) hg); have n2_ := Aside0.mk (Kd.R_over' (v := (.slice (some ⟨go78, 0, none⟩) x115006_1.length co62)) (by (with_reducible repeat (first | apply Kd.R_alloc | apply Kd.R_drewN | apply Kd.R_drew)); exact HO_117006.out) (Kd.R_typed HO_115006.out) (by decide) hg); have n3_ := Aside0.mk (blk_grown (g := gb114) (o := .cells #[.int .u16 0, .int .u16 0, .int .u16 0, .int .u16 0, .int .u16 0, .int .u16 0, .slice (some ⟨go78, 0, none⟩) x115006_1.length co62] 176 (0, 0)) (by (with_reducible repeat (first | refine b1_ ?_ _ | refine b2_ ?_ | refine b3_ ?_ _)); exact BK114.out) hg (Kd.R_ne HO_115006.out BK114.out (by decide))); have n4_ := Aside0.mk (blk_grown (g := gb115) (o := .cells #[.int .u16 0, .int .u16 0, .int .u16 0, .int .u16 0, .int .u16 0, .int .u16 0, u116006] 179 (0, 0)) (by (with_reducible repeat (first | refine b1_ ?_ _ | refine b2_ ?_ | refine b3_ ?_ _)); exact BK115.out) hg (Kd.R_ne HO_115006.out BK115.out (by decide))); have n5_ := Aside0.mk (blk_grown (g := gb116) (o := .cells #[.int .u16 0, .int .u16 0, .int .u16 0, .int .u16 0, .int .u16 0, .int .u16 0, .slice Ao17 y119.length co17] 182 (0, 0)) (by (with_reducible repeat (first | refine b1_ ?_ _ | refine b2_ ?_ | refine b3_ ?_ _)); exact BK116.out) hg (Kd.R_ne HO_115006.out BK116.out (by decide))); have n6_ := Aside0.mk ((by rw [hw]; exact below_set (HB.out) GB78.out : Below w.heap.size w w83)); clear HO_115006; clear HO_116006; clear HO_117006; clear BK114; clear BK115; clear BK116; clear HB; have HO_115006 := n0_; have HO_116006 := n1_; have HO_117006 := n2_; have BK114 := n3_; have BK115 := n4_; have BK116 := n5_; have HB := n6_; clear n0_ n1_ n2_ n3_ n4_ n5_ n6_; clear hg hw hp_))
                 go_roundg kj57
                 case measure => have := HK1.out; have := HJ11.out; have := HJ28.out; have := HJ57.out; omega
                 case rel => exact ⟨(wrap64 (x17_1 + 1)), (y137), (x116006_28), (y119), (.slice (some ⟨go78, 0, none⟩) x115006_1.length co62), (u116006), (.slice Ao17 y119.length co17), (by first | rfl | (simp; done) | (simp [*]; done)), (by first | (with_reducible exact H') | (rw [hji75]; with_reducible exact H')), ⟨by have := HK1.out; have := HJ11.out; have := HJ28.out; have := HJ57.out; omega⟩, ⟨by (try rw [hji75]); (with_reducible repeat (first | apply Kd.R_alloc | apply Kd.R_drewN | apply Kd.R_drew)); exact HO_115006.out⟩, ⟨by (try rw [hji75]); (with_reducible repeat (first | apply Kd.S_alloc | apply Kd.S_drewN | apply Kd.S_drew)); exact HO_116006.out⟩, ⟨by (try rw [hji75]); (with_reducible repeat (first | apply Kd.R_alloc | apply Kd.R_drewN | apply Kd.R_drew)); exact HO_117006.out⟩, ⟨by (try rw [hji75]); (with_reducible repeat (first | refine b1_ ?_ _ | refine b2_ ?_ | refine b3_ ?_ _)); exact BK114.out⟩, ⟨by (try rw [hji75]); (with_reducible repeat (first | refine b1_ ?_ _ | refine b2_ ?_ | refine b3_ ?_ _)); exact BK115.out⟩, ⟨by (try rw [hji75]); (with_reducible repeat (first | refine b1_ ?_ _ | refine b2_ ?_ | refine b3_ ?_ _)); exact BK116.out⟩, ⟨by repeat (first | (with_reducible first | exact HB.out | apply below_alloc | apply pw_below_drewN | apply below_drew1 | refine below_set ?_ GE114.out | refine below_set ?_ GE115.out | refine below_set ?_ GE116.out) | exact HB.out)⟩⟩
                ·rw [if_neg c77] at H
                 exact absurd H (by simp)
               ·rw [if_neg c76] at H
                exact absurd H (by simp)
              ·replace c74 := Bool.eq_false_iff.mpr c74
               subst c74
               have H1 : (if x115006_1.length < 23456248059221 then (tables_ZzLookup.l0 kj57 a0 l2 l1 (l1.length : Int) (wrap64 (x17_1 + 1)) 0 0 0 0 0 0 (x115006_1 ++ [(⟨(rd l1 x17_1), (rd l1 x17_1), (rd l2 x17_1)⟩ : S188)]) 0 0 0 0 0 0 x116006_28 0 0 0 0 0 0 y119) else (none)) = some (r1, r2, r3, r4, r5, r6, r7) := by rw [if_neg (show ¬ (false = true) by decide)] at H; exact H
               clear H
               have H := H1
               clear H1
               by_cases c84 : x115006_1.length < 23456248059221
               ·rw [if_pos c84] at H
                have LMc84 := Aside0.mk c84
                clear c84
                obtain ⟨y138, hy138⟩ : ∃ y_ : List (S188), y_ = (x115006_1 ++ [(⟨(rd l1 x17_1), (rd l1 x17_1), (rd l2 x17_1)⟩ : S188)]) := ⟨_, rfl⟩
                replace H : (tables_ZzLookup.l0 kj57 a0 l2 l1 (l1.length : Int) (wrap64 (x17_1 + 1)) 0 0 0 0 0 0 y138 0 0 0 0 0 0 x116006_28 0 0 0 0 0 0 y119) = some (r1, r2, r3, r4, r5, r6, r7) := by first | (rw [hy138]; with_reducible exact H) | (have H2_ := (Option.bind_some _ _).symm.trans H; rw [hy138]; with_reducible exact H2_) | (have H2_ := (Option.bind_some _ _).symm.trans H; with_reducible exact H2_) | with_reducible exact H | (rw [hy138]; exact H) | exact H
                have Ny138 := Aside0.mk hy138
                clear hy138
                have H' := Aside0.mk H
                clear H
                have hnb85 := NB114_115.out
                have hnc85 := NB115_114.out
                have hnb86 := NB114_116.out
                have hnc86 := NB116_114.out
                have hcz87_0 : wc.cell? ⟨gb114, 0, none⟩ = some (.int .u16 0) := (blk_cell BK114.out 0).trans rfl
                have hcz87_1 : wc.cell? ⟨gb114, 1, none⟩ = some (.int .u16 0) := (blk_cell BK114.out 1).trans rfl
                have hcz87_2 : wc.cell? ⟨gb114, 2, none⟩ = some (.int .u16 0) := (blk_cell BK114.out 2).trans rfl
                have hcz87_3 : wc.cell? ⟨gb114, 3, none⟩ = some (.int .u16 0) := (blk_cell BK114.out 3).trans rfl
                have hcz87_4 : wc.cell? ⟨gb114, 4, none⟩ = some (.int .u16 0) := (blk_cell BK114.out 4).trans rfl
                have hcz87_5 : wc.cell? ⟨gb114, 5, none⟩ = some (.int .u16 0) := (blk_cell BK114.out 5).trans rfl
                have hcz87_6 : wc.cell? ⟨gb114, 6, none⟩ = some (.slice Ao62 x115006_1.length co62) := (blk_cell BK114.out 6).trans rfl
                have hfz87_0 := blk_frozen BK114.out 0
                have hfz87_1 := blk_frozen BK114.out 1
                have hfz87_2 := blk_frozen BK114.out 2
                have hfz87_3 := blk_frozen BK114.out 3
                have hfz87_4 := blk_frozen BK114.out 4
                have hfz87_5 := blk_frozen BK114.out 5
                have hfz87_6 := blk_frozen BK114.out 6
                go_wp2_with (first | ((with_reducible refine gate_builtin (b := .append) (xs := #[.tmp 115, .tmp 120]) rfl ?_); at_builtin; refine Kd.R_append k188 (w0 := w) w.heap.size rfl (.tmp 115) (.tmp 120) 174 188 (.agg #[(.int .u16 0), (.int .u16 0), (.int .u16 0)]) 6 rfl Try.underlying174 info188 rfl (by decide) (by omega) (.slice Ao62 x115006_1.length co62) x115006_1 (⟨(rd l1 x17_1), (rd l1 x17_1), (rd l2 x17_1)⟩ : S188) [.int .u16 (rd l1 x17_1), .int .u16 (rd l1 x17_1), .int .u16 (rd l2 x17_1)] (fun _ => True) (fun _ => False) rfl rfl ?aP (fun _ hk => hk.elim) ?aF ?aO ?aB ?aS ?aL ?_; (case aP => exact k188_mkM _ _ _ (⟨(rd l1 x17_1), (rd l1 x17_1), (rd l2 x17_1)⟩ : S188)); (case aB => exact (by repeat (first | (with_reducible first | exact HB.out | apply below_alloc | apply pw_below_drewN | apply below_drew1 | refine below_set ?_ GE114.out | refine below_set ?_ GE115.out | refine below_set ?_ GE116.out) | exact HB.out))); (case aF => exact (fun _ _ => trivial)); (case aO => exact (by (with_reducible repeat (first | apply Kd.R_alloc | apply Kd.R_drewN | apply Kd.R_drew)); exact HO_115006.out)); (case aS => exact (below_size (by repeat (first | (with_reducible first | exact HB.out | apply below_alloc | apply pw_below_drewN | apply below_drew1 | refine below_set ?_ GE114.out | refine below_set ?_ GE115.out | refine below_set ?_ GE116.out) | exact HB.out)))); (case aL => have := LMc84.out; omega); intro v139 w88 ho hb hg hat; rw [← Ny138.out] at ho; have n0_ := Aside0.mk (Kd.S_over' (by (with_reducible repeat (first | apply Kd.S_alloc | apply Kd.S_drewN | apply Kd.S_drew)); exact HO_116006.out) (Kd.R_typed (by (with_reducible repeat (first | apply Kd.R_alloc | apply Kd.R_drewN | apply Kd.R_drew)); exact HO_115006.out)) (by decide) hg); have n1_ := Aside0.mk (Kd.R_over' (by (with_reducible repeat (first | apply Kd.R_alloc | apply Kd.R_drewN | apply Kd.R_drew)); exact HO_117006.out) (Kd.R_typed (by (with_reducible repeat (first | apply Kd.R_alloc | apply Kd.R_drewN | apply Kd.R_drew)); exact HO_115006.out)) (by decide) hg); have n2_ := Aside0.mk (blk_grown (g := gb114) (o := .cells #[.int .u16 0, .int .u16 0, .int .u16 0, .int .u16 0, .int .u16 0, .int .u16 0, .slice Ao62 x115006_1.length co62] 176 (0, 0)) (by (with_reducible repeat (first | refine b1_ ?_ _ | refine b2_ ?_ | refine b3_ ?_ _)); exact BK114.out) hg (Kd.R_ne HO_115006.out BK114.out (by decide))); have n3_ := Aside0.mk (blk_grown (g := gb115) (o := .cells #[.int .u16 0, .int .u16 0, .int .u16 0, .int .u16 0, .int .u16 0, .int .u16 0, u116006] 179 (0, 0)) (by (with_reducible repeat (first | refine b1_ ?_ _ | refine b2_ ?_ | refine b3_ ?_ _)); exact BK115.out) hg (Kd.R_ne HO_115006.out BK115.out (by decide))); have n4_ := Aside0.mk (blk_grown (g := gb116) (o := .cells #[.int .u16 0, .int .u16 0, .int .u16 0, .int .u16 0, .int .u16 0, .int .u16 0, .slice Ao17 y119.length co17] 182 (0, 0)) (by (with_reducible repeat (first | refine b1_ ?_ _ | refine b2_ ?_ | refine b3_ ?_ _)); exact BK116.out) hg (Kd.R_ne HO_115006.out BK116.out (by decide))); have n5_ := Aside0.mk (hb); have n6_ := Aside0.mk (ho); clear HO_116006; clear HO_117006; clear BK114; clear BK115; clear BK116; clear HB; clear HO_115006; have HO_116006 := n0_; have HO_117006 := n1_; have BK114 := n2_; have BK115 := n3_; have BK116 := n4_; have HB := n5_; have HO140 := n6_; clear n0_ n1_ n2_ n3_ n4_ n5_ n6_; clear ho hb hg hat; obtain ⟨Ao89, co89, eo89⟩ := Kd.R_slice HO140.out; subst eo89; have hcz90_0 : w88.cell? ⟨gb114, 0, none⟩ = some (.int .u16 0) := (blk_cell BK114.out 0).trans rfl; have hcz90_1 : w88.cell? ⟨gb114, 1, none⟩ = some (.int .u16 0) := (blk_cell BK114.out 1).trans rfl; have hcz90_2 : w88.cell? ⟨gb114, 2, none⟩ = some (.int .u16 0) := (blk_cell BK114.out 2).trans rfl; have hcz90_3 : w88.cell? ⟨gb114, 3, none⟩ = some (.int .u16 0) := (blk_cell BK114.out 3).trans rfl; have hcz90_4 : w88.cell? ⟨gb114, 4, none⟩ = some (.int .u16 0) := (blk_cell BK114.out 4).trans rfl; have hcz90_5 : w88.cell? ⟨gb114, 5, none⟩ = some (.int .u16 0) := (blk_cell BK114.out 5).trans rfl; have hcz90_6 : w88.cell? ⟨gb114, 6, none⟩ = some (.slice Ao62 x115006_1.length co62) := (blk_cell BK114.out 6).trans rfl; have hfz90_0 := blk_frozen BK114.out 0; have hfz90_1 := blk_frozen BK114.out 1; have hfz90_2 := blk_frozen BK114.out 2; have hfz90_3 := blk_frozen BK114.out 3; have hfz90_4 := blk_frozen BK114.out 4; have hfz90_5 := blk_frozen BK114.out 5; have hfz90_6 := blk_frozen BK114.out 6))
                go_roundg kj57
                case measure => have := HK1.out; have := HJ11.out; have := HJ28.out; have := HJ57.out; omega
                case rel => exact ⟨(wrap64 (x17_1 + 1)), (y138), (x116006_28), (y119), (.slice Ao89 y138.length co89), (u116006), (.slice Ao17 y119.length co17), (by first | rfl | (simp; done) | (simp [*]; done)), H', ⟨by have := HK1.out; have := HJ11.out; have := HJ28.out; have := HJ57.out; omega⟩, ⟨by (with_reducible repeat (first | apply Kd.R_alloc | apply Kd.R_drewN | apply Kd.R_drew)); exact Kd.R_mono (Kd.R_far (p := ⟨gb114, 6, none⟩) (Kd.R_types HO140.out BK114.out (by decide)) (fun _ hk => hk.2) (.slice Ao89 y138.length co89)) (fun _ hk => trivial)⟩, ⟨by (with_reducible repeat (first | apply Kd.S_alloc | apply Kd.S_drewN | apply Kd.S_drew)); exact Kd.S_mono (Kd.S_far (p := ⟨gb114, 6, none⟩) (Kd.S_types HO_116006.out BK114.out (by decide)) (fun _ hk => hk.2) (.slice Ao89 y138.length co89)) (fun _ hk => trivial)⟩, ⟨by (with_reducible repeat (first | apply Kd.R_alloc | apply Kd.R_drewN | apply Kd.R_drew)); exact Kd.R_mono (Kd.R_far (p := ⟨gb114, 6, none⟩) (Kd.R_types HO_117006.out BK114.out (by decide)) (fun _ hk => hk.2) (.slice Ao89 y138.length co89)) (fun _ hk => trivial)⟩, ⟨by (with_reducible repeat (first | refine b1_ ?_ _ | refine b2_ ?_ | refine b3_ ?_ _)); refine blk_put (cs := #[.int .u16 0, .int .u16 0, .int .u16 0, .int .u16 0, .int .u16 0, .int .u16 0, .slice Ao62 x115006_1.length co62]) ?_ 6 _ rfl; (with_reducible repeat (first | refine b1_ ?_ _ | refine b2_ ?_ | refine b3_ ?_ _)); exact BK114.out⟩, ⟨by (with_reducible repeat (first | refine b1_ ?_ _ | refine b2_ ?_ | refine b3_ ?_ _)); refine blk_far ?_ NB115_114.out _; (with_reducible repeat (first | refine b1_ ?_ _ | refine b2_ ?_ | refine b3_ ?_ _)); exact BK115.out⟩, ⟨by (with_reducible repeat (first | refine b1_ ?_ _ | refine b2_ ?_ | refine b3_ ?_ _)); refine blk_far ?_ NB116_114.out _; (with_reducible repeat (first | refine b1_ ?_ _ | refine b2_ ?_ | refine b3_ ?_ _)); exact BK116.out⟩, ⟨by repeat (first | (with_reducible first | exact HB.out | apply below_alloc | apply pw_below_drewN | apply below_drew1 | refine below_set ?_ GE114.out | refine below_set ?_ GE115.out | refine below_set ?_ GE116.out) | exact HB.out)⟩⟩
               ·rw [if_neg c84] at H
                exact absurd H (by simp)
       ·rw [if_neg c11] at H
        exact absurd H (by simp)
      ·rw [if_neg c10] at H
       exact absurd H (by simp)
     ·rw [if_neg c9] at H
      exact absurd H (by simp)
    ·rw [if_neg c8] at H
     exact absurd H (by simp)
   ·rw [if_neg c7] at H
    have c7b0 : decide (x17_1 < (l1.length : Int)) = false := decide_eq_false c7
    clear c7
    by_cases c91 : a0 = 4
    ·rw [if_pos c91] at H
     have c91b0 : (a0 == 4) = true := beq_iff_eq.mpr c91
     have c91b1 : (a0 != 4) = false := bne_eq_false_iff_eq.mpr c91
     clear c91
     exact absurd H (by simp)
    ·rw [if_neg c91] at H
     have c91b0 : (a0 == 4) = false := beq_eq_false_iff_ne.mpr c91
     have c91b1 : (a0 != 4) = true := bne_iff_ne.mpr c91
     by_cases c92 : a0 = 6
     ·rw [if_pos c92] at H
      have c92b0 : (a0 == 6) = true := beq_iff_eq.mpr c92
      have c92b1 : (a0 != 6) = false := bne_eq_false_iff_eq.mpr c92
      clear c92
      simp only [Option.some.injEq, Prod.mk.injEq] at H
      obtain ⟨rfl, rfl, rfl, rfl, rfl, rfl, rfl⟩ := H
      have hnb93 := NB116_114.out
      have hnc93 := NB114_116.out
      have hnb94 := NB116_115.out
      have hnc94 := NB115_116.out
      have hcz95_0 : wr.cell? ⟨gb116, 0, none⟩ = some (.int .u16 0) := (blk_cell BK116.out 0).trans rfl
      have hcz95_1 : wr.cell? ⟨gb116, 1, none⟩ = some (.int .u16 0) := (blk_cell BK116.out 1).trans rfl
      have hcz95_2 : wr.cell? ⟨gb116, 2, none⟩ = some (.int .u16 0) := (blk_cell BK116.out 2).trans rfl
      have hcz95_3 : wr.cell? ⟨gb116, 3, none⟩ = some (.int .u16 0) := (blk_cell BK116.out 3).trans rfl
      have hcz95_4 : wr.cell? ⟨gb116, 4, none⟩ = some (.int .u16 0) := (blk_cell BK116.out 4).trans rfl
      have hcz95_5 : wr.cell? ⟨gb116, 5, none⟩ = some (.int .u16 0) := (blk_cell BK116.out 5).trans rfl
      have hcz95_6 : wr.cell? ⟨gb116, 6, none⟩ = some (u117006) := (blk_cell BK116.out 6).trans rfl
      have hfz95_0 := blk_frozen BK116.out 0
      have hfz95_1 := blk_frozen BK116.out 1
      have hfz95_2 := blk_frozen BK116.out 2
      have hfz95_3 := blk_frozen BK116.out 3
      have hfz95_4 := blk_frozen BK116.out 4
      have hfz95_5 := blk_frozen BK116.out 5
      have hfz95_6 := blk_frozen BK116.out 6
      go_wp2
      go_ret
      exact ⟨_, by first | rfl | (simp [errW_none, errW_some] <;> rfl) | (simp [*, errW_none, errW_some] <;> rfl), by (with_reducible repeat (first | apply Kd.R_alloc | apply Kd.R_drewN | apply Kd.R_drew)); exact HO_117006.out, by repeat (first | (with_reducible first | exact HB.out | apply below_alloc | apply pw_below_drewN | apply below_drew1 | refine below_set ?_ GE114.out | refine below_set ?_ GE115.out | refine below_set ?_ GE116.out) | exact HB.out)⟩
     ·rw [if_neg c92] at H
      have c92b0 : (a0 == 6) = false := beq_eq_false_iff_ne.mpr c92
      have c92b1 : (a0 != 6) = true := bne_iff_ne.mpr c92
      exact absurd H (by simp)

end Go.Proofs.Ytchkmmbedgolbaa.PFnKernClasses
