-- Written by a program of this session (xprint) out of the translation; Lean checks it.
import Derived.Test.YtchkmmbedgolbaaPFnTuplesOfx0
import Derived.Test.YtchkmmbedgolbaaPFnTuplesOfx3
import Derived.Test.YtchkmmbedgolbaaPFnTuplesOfx4
import Derived.Test.YtchkmmbedgolbaaPFnTuplesOfx5
import Derived.Test.YtchkmmbedgolbaaPFnTuplesOfx6
namespace Go.Proofs.Ytchkmmbedgolbaa.PFnTuplesOf
open Go.RowKit Go.Proofs.YtchkmmbedgolbaaW.PrintWords Go.Proofs.YtchkmmbedgolbaaW.PrintLast Go.Proofs.YtchkmmbedgolbaaW.PrintMore
attribute [local go_sem] max2_int min2_int max_two min_two max_three min_three max_four min_four   -- for this text's walks alone
set_option linter.unusedVariables false
set_option linter.unusedSimpArgs false

mutual
def tBy.j0 : Nat → List (S62) → List Int → Bool → Int → List Int → Int → Bool → Option (List Int × Bool)
 | 0, _, _, _, _, _, _, _ => none
 | k + 1, x0, x11, x12, x13, x210000, x210001, x210002 => tBy.l0 k x0 x11 x12 x13 x0 (x0.length : Int) 0 x210000 x210001 x210002 ([] : List Int) ()
def tBy.l0 : Nat → List (S62) → List Int → Bool → Int → List (S62) → Int → Int → List Int → Int → Bool → List Int → Unit → Option (List Int × Bool)
 | 0, _, _, _, _, _, _, _, _, _, _, _, _ => none
 | k + 1, x0, x11, x12, x13, x39, x40, x41, x210000, x210001, x210002, x220000, x220001 => if x41 < x40 then (if 0 ≤ x41 then (if x41 < (x39.length : Int) then (if (rd_T62 x39 x41).f1 = true then (tBy.j2 k x0 x11 x12 x13 ([] : List Int) (Go.bits .or .i64 32768 16384) x39 x40 x41 x210000 x210001 x210002 x220000 x220001 ((rd_T62 x39 x41).f0) ((rd_T62 x39 x41).f1) ((rd_T62 x39 x41).f2) ((rd_T62 x39 x41).f3) ((rd_T62 x39 x41).f4) ((rd_T62 x39 x41).f5) ((rd_T62 x39 x41).f6)) else (tBy.j2 k x0 x11 x12 x13 ([] : List Int) 32768 x39 x40 x41 x210000 x210001 x210002 x220000 x220001 ((rd_T62 x39 x41).f0) ((rd_T62 x39 x41).f1) ((rd_T62 x39 x41).f2) ((rd_T62 x39 x41).f3) ((rd_T62 x39 x41).f4) ((rd_T62 x39 x41).f5) ((rd_T62 x39 x41).f6))) else (none)) else (none)) else ((tSh.f k ([] : List Int) (([x13, wrap64 (4 + (x220000.length : Int))] : List Int))).bind fun t224 => (if t224.length + x220000.length < 140737488355328 then ((some (t224 ++ x220000 : List Int)).bind fun y227 => (if y227.length + x11.length < 140737488355328 then (some ((y227 ++ x11), decide ((wrap64 ((wrap64 (4 + (x220000.length : Int))) + (x11.length : Int))) < 60000))) else (none))) else (none)))
def tBy.j2 : Nat → List (S62) → List Int → Bool → Int → List Int → Int → List (S62) → Int → Int → List Int → Int → Bool → List Int → Unit → List Int → Bool → List Int → List Int → List Int → List Int → List Int → Option (List Int × Bool)
 | 0, _, _, _, _, _, _, _, _, _, _, _, _, _, _, _, _, _, _, _, _, _ => none
 | k + 1, x0, x11, x12, x13, x17, x18, x39, x40, x41, x210000, x210001, x210002, x220000, x220001, x235000, x235001, x235002, x235003, x235004, x235005, x235006 => if x12 = true then (if 0 < (x0.length : Int) then ((sEq.f k x235004 ((rd_T62 x0 0).f4)).bind fun t236 => (if t236 = true then ((wWy.f x210000 x210001 x210002 4).bind fun bt237 => (tBy.j3 k x0 x11 x12 x13 x17 x18 x39 x40 x41 (bt237.1 == 3) x210000 bt237.2.1 bt237.2.2 x220000 x220001 x235000 x235001 x235002 x235003 x235004 x235005 x235006)) else (tBy.j3 k x0 x11 x12 x13 x17 x18 x39 x40 x41 true x210000 x210001 x210002 x220000 x220001 x235000 x235001 x235002 x235003 x235004 x235005 x235006))) else (none)) else (tBy.j3 k x0 x11 x12 x13 x17 x18 x39 x40 x41 true x210000 x210001 x210002 x220000 x220001 x235000 x235001 x235002 x235003 x235004 x235005 x235006)
def tBy.j3 : Nat → List (S62) → List Int → Bool → Int → List Int → Int → List (S62) → Int → Int → Bool → List Int → Int → Bool → List Int → Unit → List Int → Bool → List Int → List Int → List Int → List Int → List Int → Option (List Int × Bool)
 | 0, _, _, _, _, _, _, _, _, _, _, _, _, _, _, _, _, _, _, _, _, _, _ => none
 | k + 1, x0, x11, x12, x13, x17, x18, x39, x40, x41, x65, x210000, x210001, x210002, x220000, x220001, x235000, x235001, x235002, x235003, x235004, x235005, x235006 => if x65 = true then ((wPP.f k x210000 x210001 x210002 x235004).bind fun bt240 => (tBy.j4 k x0 x11 x12 x13 bt240.1 (Go.bits .or .i64 x18 8192) x39 x40 x41 x210000 bt240.2.1 bt240.2.2 x220000 x220001 x235000 x235001 x235002 x235003 x235004 x235005 x235006)) else (tBy.j4 k x0 x11 x12 x13 x17 x18 x39 x40 x41 x210000 x210001 x210002 x220000 x220001 x235000 x235001 x235002 x235003 x235004 x235005 x235006)
def tBy.j4 : Nat → List (S62) → List Int → Bool → Int → List Int → Int → List (S62) → Int → Int → List Int → Int → Bool → List Int → Unit → List Int → Bool → List Int → List Int → List Int → List Int → List Int → Option (List Int × Bool)
 | 0, _, _, _, _, _, _, _, _, _, _, _, _, _, _, _, _, _, _, _, _, _ => none
 | k + 1, x0, x11, x12, x13, x17, x18, x39, x40, x41, x210000, x210001, x210002, x220000, x220001, x235000, x235001, x235002, x235003, x235004, x235005, x235006 => (wPD.f k x210000 x210001 x210002 x235005).bind fun bt245 => (if x17.length + bt245.1.length < 140737488355328 then ((some (x17 ++ bt245.1 : List Int)).bind fun y250 => ((wPD.f k x210000 bt245.2.1 bt245.2.2 x235006).bind fun bt253 => (if y250.length + bt253.1.length < 140737488355328 then ((some (y250 ++ bt253.1 : List Int)).bind fun y258 => ((tSh.f k x220000 (([(y258.length : Int), x18] : List Int))).bind fun t264 => ((tSh.f k t264 x235000).bind fun t267 => (if x235001 = true then ((tSh.f k t267 x235002).bind fun t270 => ((tSh.f k t270 x235003).bind fun t273 => (if x11.length + y258.length < 140737488355328 then (tBy.l0 k x0 (x11 ++ y258) x12 x13 x39 x40 (wrap64 (x41 + 1)) x210000 bt253.2.1 bt253.2.2 t273 x220001) else (none)))) else (if x11.length + y258.length < 140737488355328 then (tBy.l0 k x0 (x11 ++ y258) x12 x13 x39 x40 (wrap64 (x41 + 1)) x210000 bt253.2.1 bt253.2.2 t267 x220001) else (none)))))) else (none)))) else (none))
end
def tBy.f (k : Nat) (l0 : List (S62)) (a1 : Int) (a2 : Int) (l3 : List Int) : Option (List Int × Bool) := (wWy.f l3 0 false 2).bind fun bt210 => (if bt210.1 = 1 then (if 0 < (l0.length : Int) then ((wPP.f k l3 bt210.2.1 bt210.2.2 ((rd_T62 l0 0).f4)).bind fun bt214 => (tBy.j0 k l0 bt214.1 (bt210.1 == 1) (Go.bits .or .i64 (l0.length : Int) 32768) l3 bt214.2.1 bt214.2.2)) else (none)) else (tBy.j0 k l0 ([] : List Int) (bt210.1 == 1) (l0.length : Int) l3 bt210.2.1 bt210.2.2))
theorem tBy.mono_l : ∀ k, (∀ y0 y1 y2 y3 y4 y5 y6, LeO (tBy.j0 k y0 y1 y2 y3 y4 y5 y6) (tBy.j0 (k + 1) y0 y1 y2 y3 y4 y5 y6)) ∧ (∀ y0 y1 y2 y3 y4 y5 y6 y7 y8 y9 y10 y11, LeO (tBy.l0 k y0 y1 y2 y3 y4 y5 y6 y7 y8 y9 y10 y11) (tBy.l0 (k + 1) y0 y1 y2 y3 y4 y5 y6 y7 y8 y9 y10 y11)) ∧ (∀ y0 y1 y2 y3 y4 y5 y6 y7 y8 y9 y10 y11 y12 y13 y14 y15 y16 y17 y18 y19 y20, LeO (tBy.j2 k y0 y1 y2 y3 y4 y5 y6 y7 y8 y9 y10 y11 y12 y13 y14 y15 y16 y17 y18 y19 y20) (tBy.j2 (k + 1) y0 y1 y2 y3 y4 y5 y6 y7 y8 y9 y10 y11 y12 y13 y14 y15 y16 y17 y18 y19 y20)) ∧ (∀ y0 y1 y2 y3 y4 y5 y6 y7 y8 y9 y10 y11 y12 y13 y14 y15 y16 y17 y18 y19 y20 y21, LeO (tBy.j3 k y0 y1 y2 y3 y4 y5 y6 y7 y8 y9 y10 y11 y12 y13 y14 y15 y16 y17 y18 y19 y20 y21) (tBy.j3 (k + 1) y0 y1 y2 y3 y4 y5 y6 y7 y8 y9 y10 y11 y12 y13 y14 y15 y16 y17 y18 y19 y20 y21)) ∧ (∀ y0 y1 y2 y3 y4 y5 y6 y7 y8 y9 y10 y11 y12 y13 y14 y15 y16 y17 y18 y19 y20, LeO (tBy.j4 k y0 y1 y2 y3 y4 y5 y6 y7 y8 y9 y10 y11 y12 y13 y14 y15 y16 y17 y18 y19 y20) (tBy.j4 (k + 1) y0 y1 y2 y3 y4 y5 y6 y7 y8 y9 y10 y11 y12 y13 y14 y15 y16 y17 y18 y19 y20))
 | 0 => ⟨fun _ _ _ _ _ _ _ r h => by simp [tBy.j0] at h, fun _ _ _ _ _ _ _ _ _ _ _ _ r h => by simp [tBy.l0] at h, fun _ _ _ _ _ _ _ _ _ _ _ _ _ _ _ _ _ _ _ _ _ r h => by simp [tBy.j2] at h, fun _ _ _ _ _ _ _ _ _ _ _ _ _ _ _ _ _ _ _ _ _ _ r h => by simp [tBy.j3] at h, fun _ _ _ _ _ _ _ _ _ _ _ _ _ _ _ _ _ _ _ _ _ r h => by simp [tBy.j4] at h⟩
 | k + 1 => by
  obtain ⟨ih0, ih1, ih2, ih3, ih4⟩ := tBy.mono_l k
  refine ⟨?_, ?_, ?_, ?_, ?_⟩
  all_goals intros
  all_goals first | unfold tBy.j0 | unfold tBy.l0 | unfold tBy.j2 | unfold tBy.j3 | unfold tBy.j4
  all_goals repeat' first
  | (with_reducible exact ih0 _ _ _ _ _ _ _)
  | (with_reducible exact ih1 _ _ _ _ _ _ _ _ _ _ _ _)
  | (with_reducible exact ih2 _ _ _ _ _ _ _ _ _ _ _ _ _ _ _ _ _ _ _ _ _)
  | (with_reducible exact ih3 _ _ _ _ _ _ _ _ _ _ _ _ _ _ _ _ _ _ _ _ _ _)
  | (with_reducible exact ih4 _ _ _ _ _ _ _ _ _ _ _ _ _ _ _ _ _ _ _ _ _)
  | (with_reducible exact sEq.mono _ _ _)
  | (with_reducible exact tSh.mono _ _ _)
  | (with_reducible exact wPD.mono _ _ _ _ _)
  | (with_reducible exact wPP.mono _ _ _ _ _)
  | (with_reducible exact LeO.refl _)
  | (with_reducible exact LeO.none _)
  | (with_reducible refine LeO.ite ?_ ?_)
  | (with_reducible refine LeO.bind ?_ (fun _ => ?_))
theorem tBy.mono : ∀ a0 a1 a2 a3 k, LeO (tBy.f k a0 a1 a2 a3) (tBy.f (k + 1) a0 a1 a2 a3) := by
 intro a0 a1 a2 a3 k
 obtain ⟨ih0, ih1, ih2, ih3, ih4⟩ := tBy.mono_l k
 unfold tBy.f
 repeat' first
   | (with_reducible exact ih0 _ _ _ _ _ _ _)
   | (with_reducible exact ih1 _ _ _ _ _ _ _ _ _ _ _ _)
   | (with_reducible exact ih2 _ _ _ _ _ _ _ _ _ _ _ _ _ _ _ _ _ _ _ _ _)
   | (with_reducible exact ih3 _ _ _ _ _ _ _ _ _ _ _ _ _ _ _ _ _ _ _ _ _ _)
   | (with_reducible exact ih4 _ _ _ _ _ _ _ _ _ _ _ _ _ _ _ _ _ _ _ _ _)
   | (with_reducible exact sEq.mono _ _ _)
   | (with_reducible exact tSh.mono _ _ _)
   | (with_reducible exact wPD.mono _ _ _ _ _)
   | (with_reducible exact wPP.mono _ _ _ _ _)
   | (with_reducible exact LeO.refl _)
   | (with_reducible exact LeO.none _)
   | (with_reducible refine LeO.ite ?_ ?_)
   | (with_reducible refine LeO.bind ?_ (fun _ => ?_))

end Go.Proofs.Ytchkmmbedgolbaa.PFnTuplesOf

