-- Written by a program of this session (xprint) out of the translation; Lean checks it.
import Derived.Test.YtkfphiccfnfkdaaPFnBearingsx0
namespace Go.Proofs.Ytkfphiccfnfkdaa.PFnBearings
open Go.RowKit Go.Proofs.YtkfphiccfnfkdaaW.PrintWords Go.Proofs.YtkfphiccfnfkdaaW.PrintLast Go.Proofs.YtkfphiccfnfkdaaW.PrintMore
attribute [local go_sem] max2_int min2_int max_two min_two max_three min_three max_four min_four   -- for this text's walks alone
set_option linter.unusedVariables false
set_option linter.unusedSimpArgs false

/-! ### laws_someOut_1: function 45 -/
def laws_someOut_1.f (a0 : Int) : Option (Int) := some (wrap64 (IntKind.i16.wrap (a0)))
set_option maxHeartbeats 8000000 in
set_option maxRecDepth 100000 in
theorem laws_someOut_1.calls (a0 : Int) (r : Int) (w : World) (h : laws_someOut_1.f a0 = some r) :
  Calls Try.prog 45 #[.int .i64 a0] w fun e w' => e = .returned (.int .i64 r) ∧ Drawn0 w w' := by
 have H : (some (wrap64 (IntKind.i16.wrap (a0)))) = some r := h
 clear h
 obtain rfl := Option.some.inj H
 go_enter Try.func45, Try.ntmps45
 go_wp2
 go_ret
 exact ⟨by first | rfl | (simp; done) | (simp [*]; done), by repeat (first | exact Drawn0.refl _ | apply Drawn0.step)⟩

/-! ### laws_someOut: function 21 -/
mutual
def laws_someOut.l0 : Nat → List (S36) → Int → Int → Int → Int → Int → Int → Int → List (S36) → Option (Int × Int × Int × Int × Int × (List (S36)))
 | 0, _, _, _, _, _, _, _, _, _ => none
 | k + 1, x0, x2, x9, x103000, x103001, x103002, x103003, x103004, x103005 => if x9 < (x0.length : Int) then (laws_someOut.j1 k x0 x2 x9 (decide (x9 < 12)) x103000 x103001 x103002 x103003 x103004 x103005) else (laws_someOut.j1 k x0 x2 x9 false x103000 x103001 x103002 x103003 x103004 x103005)
def laws_someOut.j1 : Nat → List (S36) → Int → Int → Bool → Int → Int → Int → Int → Int → List (S36) → Option (Int × Int × Int × Int × Int × (List (S36)))
 | 0, _, _, _, _, _, _, _, _, _, _ => none
 | k + 1, x0, x2, x9, x23, x103000, x103001, x103002, x103003, x103004, x103005 => if x23 = true then (if 0 ≤ x9 then (if x9 < (x0.length : Int) then ((laws_someOut_1.f ((rd_T36 x0 x9).f0)).bind fun t105 => ((laws_someOut_1.f ((rd_T36 x0 x9).f1)).bind fun t106 => ((laws_someOut_1.f ((rd_T36 x0 x9).f2)).bind fun t107 => ((laws_someOut_1.f ((rd_T36 x0 x9).f3)).bind fun t108 => ((laws_someOut_1.f ((rd_T36 x0 x9).f4)).bind fun t109 => ((laws_someOut_1.f ((rd_T36 x0 x9).f5)).bind fun t110 => ((laws_someOut_1.f ((rd_T36 x0 x9).f6)).bind fun t111 => (if x2 = 0 then (none) else (laws_someOut.l1 k x0 x2 x9 (1 + ((((rd_T36 x0 x9).f9) % 256) % 3)) 0 x103000 x103001 x103002 x103003 x103004 x103005 t105 t106 t107 t108 t109 t110 t111 (Int.tmod (wrap64 (IntKind.u16.wrap ((rd_T36 x0 x9).f7))) x2) (1 + (((rd_T36 x0 x9).f8) % 2)) (1 + ((((rd_T36 x0 x9).f9) % 256) % 3))))))))))) else (none)) else (none)) else (some (x103000, x103001, x103002, x103003, x103004, x103005))
def laws_someOut.l1 : Nat → List (S36) → Int → Int → Int → Int → Int → Int → Int → Int → Int → List (S36) → Int → Int → Int → Int → Int → Int → Int → Int → Int → Int → Option (Int × Int × Int × Int × Int × (List (S36)))
 | 0, _, _, _, _, _, _, _, _, _, _, _, _, _, _, _, _, _, _, _, _, _ => none
 | k + 1, x0, x2, x9, x81, x82, x103000, x103001, x103002, x103003, x103004, x103005, x113000, x113001, x113002, x113003, x113004, x113005, x113006, x113007, x113008, x113009 => if x82 < x81 then (if x103005.length < 1759218604441 then (laws_someOut.l1 k x0 x2 x9 x81 (wrap64 (x82 + 1)) x103000 x103001 x103002 x103003 x103004 (x103005 ++ [(⟨x113000, x113001, x113002, x113003, x113004, x113005, x113006, x113007, x113008, x113009⟩ : S36)]) x113000 x113001 x113002 x113003 (wrap64 (Int.tdiv x113000 2)) x113001 x113006 x113007 x113008 x113009) else (none)) else (laws_someOut.l0 k x0 x2 (wrap64 (x9 + 1)) x103000 x103001 x103002 x103003 x103004 x103005)
end
def laws_someOut.f (k : Nat) (l0 : List (S36)) (a1 : Int) (a2 : Int) : Option (Int × Int × Int × Int × Int × (List (S36))) := laws_someOut.l0 k l0 a2 0 (wrap64 (Int.tmod a1 4)) 7 8 9 10 ([] : List (S36))
theorem laws_someOut.mono_l : ∀ k, (∀ y0 y1 y2 y3 y4 y5 y6 y7 y8, LeO (laws_someOut.l0 k y0 y1 y2 y3 y4 y5 y6 y7 y8) (laws_someOut.l0 (k + 1) y0 y1 y2 y3 y4 y5 y6 y7 y8)) ∧ (∀ y0 y1 y2 y3 y4 y5 y6 y7 y8 y9, LeO (laws_someOut.j1 k y0 y1 y2 y3 y4 y5 y6 y7 y8 y9) (laws_someOut.j1 (k + 1) y0 y1 y2 y3 y4 y5 y6 y7 y8 y9)) ∧ (∀ y0 y1 y2 y3 y4 y5 y6 y7 y8 y9 y10 y11 y12 y13 y14 y15 y16 y17 y18 y19 y20, LeO (laws_someOut.l1 k y0 y1 y2 y3 y4 y5 y6 y7 y8 y9 y10 y11 y12 y13 y14 y15 y16 y17 y18 y19 y20) (laws_someOut.l1 (k + 1) y0 y1 y2 y3 y4 y5 y6 y7 y8 y9 y10 y11 y12 y13 y14 y15 y16 y17 y18 y19 y20))
 | 0 => ⟨fun _ _ _ _ _ _ _ _ _ r h => by simp [laws_someOut.l0] at h, fun _ _ _ _ _ _ _ _ _ _ r h => by simp [laws_someOut.j1] at h, fun _ _ _ _ _ _ _ _ _ _ _ _ _ _ _ _ _ _ _ _ _ r h => by simp [laws_someOut.l1] at h⟩
 | k + 1 => by
  obtain ⟨ih0, ih1, ih2⟩ := laws_someOut.mono_l k
  refine ⟨?_, ?_, ?_⟩
  ·intro y0 y1 y2 y3 y4 y5 y6 y7 y8
   unfold laws_someOut.l0
   repeat' first
   | (with_reducible exact ih0 _ _ _ _ _ _ _ _ _)
   | (with_reducible exact ih1 _ _ _ _ _ _ _ _ _ _)
   | (with_reducible exact ih2 _ _ _ _ _ _ _ _ _ _ _ _ _ _ _ _ _ _ _ _ _)
   | (with_reducible exact LeO.refl _)
   | (with_reducible exact LeO.none _)
   | (with_reducible refine LeO.ite ?_ ?_)
   | (with_reducible refine LeO.bind ?_ (fun _ => ?_))
   | exact ih0 _ _ _ _ _ _ _ _ _
   | exact ih1 _ _ _ _ _ _ _ _ _ _
   | exact ih2 _ _ _ _ _ _ _ _ _ _ _ _ _ _ _ _ _ _ _ _ _
   | exact LeO.none _
   | refine LeO.ite ?_ ?_
   | refine LeO.bind ?_ (fun _ => ?_)
  ·intro y0 y1 y2 y3 y4 y5 y6 y7 y8 y9
   unfold laws_someOut.j1
   repeat' first
   | (with_reducible exact ih0 _ _ _ _ _ _ _ _ _)
   | (with_reducible exact ih1 _ _ _ _ _ _ _ _ _ _)
   | (with_reducible exact ih2 _ _ _ _ _ _ _ _ _ _ _ _ _ _ _ _ _ _ _ _ _)
   | (with_reducible exact LeO.refl _)
   | (with_reducible exact LeO.none _)
   | (with_reducible refine LeO.ite ?_ ?_)
   | (with_reducible refine LeO.bind ?_ (fun _ => ?_))
   | exact ih0 _ _ _ _ _ _ _ _ _
   | exact ih1 _ _ _ _ _ _ _ _ _ _
   | exact ih2 _ _ _ _ _ _ _ _ _ _ _ _ _ _ _ _ _ _ _ _ _
   | exact LeO.none _
   | refine LeO.ite ?_ ?_
   | refine LeO.bind ?_ (fun _ => ?_)
  ·intro y0 y1 y2 y3 y4 y5 y6 y7 y8 y9 y10 y11 y12 y13 y14 y15 y16 y17 y18 y19 y20
   unfold laws_someOut.l1
   repeat' first
   | (with_reducible exact ih0 _ _ _ _ _ _ _ _ _)
   | (with_reducible exact ih1 _ _ _ _ _ _ _ _ _ _)
   | (with_reducible exact ih2 _ _ _ _ _ _ _ _ _ _ _ _ _ _ _ _ _ _ _ _ _)
   | (with_reducible exact LeO.refl _)
   | (with_reducible exact LeO.none _)
   | (with_reducible refine LeO.ite ?_ ?_)
   | (with_reducible refine LeO.bind ?_ (fun _ => ?_))
   | exact ih0 _ _ _ _ _ _ _ _ _
   | exact ih1 _ _ _ _ _ _ _ _ _ _
   | exact ih2 _ _ _ _ _ _ _ _ _ _ _ _ _ _ _ _ _ _ _ _ _
   | exact LeO.none _
   | refine LeO.ite ?_ ?_
   | refine LeO.bind ?_ (fun _ => ?_)
theorem laws_someOut.mono : ∀ a0 a1 a2 k, LeO (laws_someOut.f k a0 a1 a2) (laws_someOut.f (k + 1) a0 a1 a2) := by
 intro a0 a1 a2 k
 obtain ⟨ih0, ih1, ih2⟩ := laws_someOut.mono_l k
 unfold laws_someOut.f
 repeat' first
   | (with_reducible exact ih0 _ _ _ _ _ _ _ _ _)
   | (with_reducible exact ih1 _ _ _ _ _ _ _ _ _ _)
   | (with_reducible exact ih2 _ _ _ _ _ _ _ _ _ _ _ _ _ _ _ _ _ _ _ _ _)
   | (with_reducible exact LeO.refl _)
   | (with_reducible exact LeO.none _)
   | (with_reducible refine LeO.ite ?_ ?_)
   | (with_reducible refine LeO.bind ?_ (fun _ => ?_))
   | exact ih0 _ _ _ _ _ _ _ _ _
   | exact ih1 _ _ _ _ _ _ _ _ _ _
   | exact ih2 _ _ _ _ _ _ _ _ _ _ _ _ _ _ _ _ _ _ _ _ _
   | exact LeO.none _
   | refine LeO.ite ?_ ?_
   | refine LeO.bind ?_ (fun _ => ?_)

end Go.Proofs.Ytkfphiccfnfkdaa.PFnBearings
