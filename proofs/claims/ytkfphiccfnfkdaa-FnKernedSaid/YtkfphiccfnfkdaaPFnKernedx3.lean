-- Written by a program of this session (xprint) out of the translation; Lean checks it.
import Derived.Test.YtkfphiccfnfkdaaPFnKernedx0
import Derived.Test.YtkfphiccfnfkdaaPFnKernedx1
import Derived.Test.YtkfphiccfnfkdaaPFnKernedx2
namespace Go.Proofs.Ytkfphiccfnfkdaa.PFnKerned
open Go.RowKit Go.Proofs.YtkfphiccfnfkdaaW.PrintWords Go.Proofs.YtkfphiccfnfkdaaW.PrintLast Go.Proofs.YtkfphiccfnfkdaaW.PrintMore
attribute [local go_sem] max2_int min2_int max_two min_two max_three min_three max_four min_four   -- for this text's walks alone
set_option linter.unusedVariables false
set_option linter.unusedSimpArgs false

/-! ### laws_FnKerned: function 10 -/
mutual
def laws_FnKerned.j0 : Nat → List Int → List Int → List Int → Int → Int → Bool → Option (Bool)
  | 0, _, _, _, _, _, _ => none
  | k + 1, x0, x1, x2, x3, x4, x29 => if x29 = true then (some true) else (laws_FnKerned.l0 k x0 x1 x2 x3 x4 ([] : List (S52)) 0)
def laws_FnKerned.l0 : Nat → List Int → List Int → List Int → Int → Int → List (S52) → Int → Option (Bool)
  | 0, _, _, _, _, _, _, _ => none
  | k + 1, x0, x1, x2, x3, x4, x11, x30 => if x30 < 256 then (laws_FnKerned.l1 k x0 x1 x2 x3 x4 x11 x30 x30 0) else (laws_FnKerned.l2 k x3 x4 x11 0 x11 (x11.length : Int) 0)
def laws_FnKerned.l1 : Nat → List Int → List Int → List Int → Int → Int → List (S52) → Int → Int → Int → Option (Bool)
  | 0, _, _, _, _, _, _, _, _, _ => none
  | k + 1, x0, x1, x2, x3, x4, x11, x12, x30, x33 => if x33 < 256 then (if (x11.length : Int) < 200 then ((spec_Has.f k x0 x12).bind fun t162 => (if t162 = true then ((spec_Has.f k x1 x33).bind fun t163 => (laws_FnKerned.j3 k x0 x1 x2 x3 x4 x11 x12 x33 x30 x33 t163)) else (laws_FnKerned.j3 k x0 x1 x2 x3 x4 x11 x12 x33 x30 x33 false))) else (laws_FnKerned.j3 k x0 x1 x2 x3 x4 x11 x12 x33 x30 x33 false)) else (laws_FnKerned.l0 k x0 x1 x2 x3 x4 x11 (wrap64 (x30 + 1)))
def laws_FnKerned.j3 : Nat → List Int → List Int → List Int → Int → Int → List (S52) → Int → Int → Int → Int → Bool → Option (Bool)
  | 0, _, _, _, _, _, _, _, _, _, _, _ => none
  | k + 1, x0, x1, x2, x3, x4, x11, x12, x13, x30, x33, x48 => if x48 = true then ((spec_Nth.f x2 (x11.length : Int)).bind fun t164 => (if x11.length < 5864062014805 then (laws_FnKerned.l1 k x0 x1 x2 x3 x4 (x11 ++ [(⟨x12, x13, t164⟩ : S52)]) x12 x30 (wrap64 (x33 + 1))) else (none))) else (laws_FnKerned.l1 k x0 x1 x2 x3 x4 x11 x12 x30 (wrap64 (x33 + 1)))
def laws_FnKerned.l2 : Nat → Int → Int → List (S52) → Int → List (S52) → Int → Int → Option (Bool)
  | 0, _, _, _, _, _, _, _ => none
  | k + 1, x3, x4, x11, x14, x61, x62, x63 => if x63 < x62 then (if 0 ≤ x63 then (if x63 < (x61.length : Int) then (if ((rd_T52 x61 x63).f0) = (wrap64 (x3)) then (laws_FnKerned.j5 k x3 x4 x11 x14 x61 x62 x63 (((rd_T52 x61 x63).f1) == (wrap64 (x4))) ((rd_T52 x61 x63).f0) ((rd_T52 x61 x63).f1) ((rd_T52 x61 x63).f2)) else (laws_FnKerned.j5 k x3 x4 x11 x14 x61 x62 x63 false ((rd_T52 x61 x63).f0) ((rd_T52 x61 x63).f1) ((rd_T52 x61 x63).f2))) else (none)) else (none)) else ((impl_Kerned.f k x11 (wrap64 (x3)) (wrap64 (x4))).bind fun t170 => (if t170 = x14 then ((impl_Kerned.f k (([(⟨1, 2, 3⟩ : S52)] : List (S52))) 1 2).bind fun t174 => (some (t174 == 3))) else (some false)))
def laws_FnKerned.j5 : Nat → Int → Int → List (S52) → Int → List (S52) → Int → Int → Bool → Int → Int → Int → Option (Bool)
  | 0, _, _, _, _, _, _, _, _, _, _, _ => none
  | k + 1, x3, x4, x11, x14, x61, x62, x63, x78, x170000, x170001, x170002 => if x78 = true then (laws_FnKerned.l2 k x3 x4 x11 x170002 x61 x62 (wrap64 (x63 + 1))) else (laws_FnKerned.l2 k x3 x4 x11 x14 x61 x62 (wrap64 (x63 + 1)))
end
def laws_FnKerned.f (k : Nat) (l0 : List Int) (l1 : List Int) (l2 : List Int) (a3 : Int) (a4 : Int) : Option (Bool) := if (l0.length : Int) > 2147483647 then (laws_FnKerned.j0 k l0 l1 l2 a3 a4 true) else (if (l1.length : Int) > 2147483647 then (laws_FnKerned.j0 k l0 l1 l2 a3 a4 true) else (laws_FnKerned.j0 k l0 l1 l2 a3 a4 (decide ((l2.length : Int) > 2147483647))))
theorem laws_FnKerned.mono_l : ∀ k, (∀ y0 y1 y2 y3 y4 y5, LeO (laws_FnKerned.j0 k y0 y1 y2 y3 y4 y5) (laws_FnKerned.j0 (k + 1) y0 y1 y2 y3 y4 y5)) ∧ (∀ y0 y1 y2 y3 y4 y5 y6, LeO (laws_FnKerned.l0 k y0 y1 y2 y3 y4 y5 y6) (laws_FnKerned.l0 (k + 1) y0 y1 y2 y3 y4 y5 y6)) ∧ (∀ y0 y1 y2 y3 y4 y5 y6 y7 y8, LeO (laws_FnKerned.l1 k y0 y1 y2 y3 y4 y5 y6 y7 y8) (laws_FnKerned.l1 (k + 1) y0 y1 y2 y3 y4 y5 y6 y7 y8)) ∧ (∀ y0 y1 y2 y3 y4 y5 y6 y7 y8 y9 y10, LeO (laws_FnKerned.j3 k y0 y1 y2 y3 y4 y5 y6 y7 y8 y9 y10) (laws_FnKerned.j3 (k + 1) y0 y1 y2 y3 y4 y5 y6 y7 y8 y9 y10)) ∧ (∀ y0 y1 y2 y3 y4 y5 y6, LeO (laws_FnKerned.l2 k y0 y1 y2 y3 y4 y5 y6) (laws_FnKerned.l2 (k + 1) y0 y1 y2 y3 y4 y5 y6)) ∧ (∀ y0 y1 y2 y3 y4 y5 y6 y7 y8 y9 y10, LeO (laws_FnKerned.j5 k y0 y1 y2 y3 y4 y5 y6 y7 y8 y9 y10) (laws_FnKerned.j5 (k + 1) y0 y1 y2 y3 y4 y5 y6 y7 y8 y9 y10))
  | 0 => ⟨fun _ _ _ _ _ _ r h => by simp [laws_FnKerned.j0] at h, fun _ _ _ _ _ _ _ r h => by simp [laws_FnKerned.l0] at h, fun _ _ _ _ _ _ _ _ _ r h => by simp [laws_FnKerned.l1] at h, fun _ _ _ _ _ _ _ _ _ _ _ r h => by simp [laws_FnKerned.j3] at h, fun _ _ _ _ _ _ _ r h => by simp [laws_FnKerned.l2] at h, fun _ _ _ _ _ _ _ _ _ _ _ r h => by simp [laws_FnKerned.j5] at h⟩
  | k + 1 => by
    obtain ⟨ih0, ih1, ih2, ih3, ih4, ih5⟩ := laws_FnKerned.mono_l k
    refine ⟨?_, ?_, ?_, ?_, ?_, ?_⟩
    · intro y0 y1 y2 y3 y4 y5
      unfold laws_FnKerned.j0
      repeat' first
      | (with_reducible exact ih0 _ _ _ _ _ _)
      | (with_reducible exact ih1 _ _ _ _ _ _ _)
      | (with_reducible exact ih2 _ _ _ _ _ _ _ _ _)
      | (with_reducible exact ih3 _ _ _ _ _ _ _ _ _ _ _)
      | (with_reducible exact ih4 _ _ _ _ _ _ _)
      | (with_reducible exact ih5 _ _ _ _ _ _ _ _ _ _ _)
      | (with_reducible exact impl_Kerned.mono _ _ _ _)
      | (with_reducible exact spec_Has.mono _ _ _)
      | (with_reducible exact LeO.refl _)
      | (with_reducible exact LeO.none _)
      | (with_reducible refine LeO.ite ?_ ?_)
      | (with_reducible refine LeO.bind ?_ (fun _ => ?_))
      | exact ih0 _ _ _ _ _ _
      | exact ih1 _ _ _ _ _ _ _
      | exact ih2 _ _ _ _ _ _ _ _ _
      | exact ih3 _ _ _ _ _ _ _ _ _ _ _
      | exact ih4 _ _ _ _ _ _ _
      | exact ih5 _ _ _ _ _ _ _ _ _ _ _
      | exact impl_Kerned.mono _ _ _ _
      | exact spec_Has.mono _ _ _
      | exact LeO.none _
      | refine LeO.ite ?_ ?_
      | refine LeO.bind ?_ (fun _ => ?_)
    · intro y0 y1 y2 y3 y4 y5 y6
      unfold laws_FnKerned.l0
      repeat' first
      | (with_reducible exact ih0 _ _ _ _ _ _)
      | (with_reducible exact ih1 _ _ _ _ _ _ _)
      | (with_reducible exact ih2 _ _ _ _ _ _ _ _ _)
      | (with_reducible exact ih3 _ _ _ _ _ _ _ _ _ _ _)
      | (with_reducible exact ih4 _ _ _ _ _ _ _)
      | (with_reducible exact ih5 _ _ _ _ _ _ _ _ _ _ _)
      | (with_reducible exact impl_Kerned.mono _ _ _ _)
      | (with_reducible exact spec_Has.mono _ _ _)
      | (with_reducible exact LeO.refl _)
      | (with_reducible exact LeO.none _)
      | (with_reducible refine LeO.ite ?_ ?_)
      | (with_reducible refine LeO.bind ?_ (fun _ => ?_))
      | exact ih0 _ _ _ _ _ _
      | exact ih1 _ _ _ _ _ _ _
      | exact ih2 _ _ _ _ _ _ _ _ _
      | exact ih3 _ _ _ _ _ _ _ _ _ _ _
      | exact ih4 _ _ _ _ _ _ _
      | exact ih5 _ _ _ _ _ _ _ _ _ _ _
      | exact impl_Kerned.mono _ _ _ _
      | exact spec_Has.mono _ _ _
      | exact LeO.none _
      | refine LeO.ite ?_ ?_
      | refine LeO.bind ?_ (fun _ => ?_)
    · intro y0 y1 y2 y3 y4 y5 y6 y7 y8
      unfold laws_FnKerned.l1
      repeat' first
      | (with_reducible exact ih0 _ _ _ _ _ _)
      | (with_reducible exact ih1 _ _ _ _ _ _ _)
      | (with_reducible exact ih2 _ _ _ _ _ _ _ _ _)
      | (with_reducible exact ih3 _ _ _ _ _ _ _ _ _ _ _)
      | (with_reducible exact ih4 _ _ _ _ _ _ _)
      | (with_reducible exact ih5 _ _ _ _ _ _ _ _ _ _ _)
      | (with_reducible exact impl_Kerned.mono _ _ _ _)
      | (with_reducible exact spec_Has.mono _ _ _)
      | (with_reducible exact LeO.refl _)
      | (with_reducible exact LeO.none _)
      | (with_reducible refine LeO.ite ?_ ?_)
      | (with_reducible refine LeO.bind ?_ (fun _ => ?_))
      | exact ih0 _ _ _ _ _ _
      | exact ih1 _ _ _ _ _ _ _
      | exact ih2 _ _ _ _ _ _ _ _ _
      | exact ih3 _ _ _ _ _ _ _ _ _ _ _
      | exact ih4 _ _ _ _ _ _ _
      | exact ih5 _ _ _ _ _ _ _ _ _ _ _
      | exact impl_Kerned.mono _ _ _ _
      | exact spec_Has.mono _ _ _
      | exact LeO.none _
      | refine LeO.ite ?_ ?_
      | refine LeO.bind ?_ (fun _ => ?_)
    · intro y0 y1 y2 y3 y4 y5 y6 y7 y8 y9 y10
      unfold laws_FnKerned.j3
      repeat' first
      | (with_reducible exact ih0 _ _ _ _ _ _)
      | (with_reducible exact ih1 _ _ _ _ _ _ _)
      | (with_reducible exact ih2 _ _ _ _ _ _ _ _ _)
      | (with_reducible exact ih3 _ _ _ _ _ _ _ _ _ _ _)
      | (with_reducible exact ih4 _ _ _ _ _ _ _)
      | (with_reducible exact ih5 _ _ _ _ _ _ _ _ _ _ _)
      | (with_reducible exact impl_Kerned.mono _ _ _ _)
      | (with_reducible exact spec_Has.mono _ _ _)
      | (with_reducible exact LeO.refl _)
      | (with_reducible exact LeO.none _)
      | (with_reducible refine LeO.ite ?_ ?_)
      | (with_reducible refine LeO.bind ?_ (fun _ => ?_))
      | exact ih0 _ _ _ _ _ _
      | exact ih1 _ _ _ _ _ _ _
      | exact ih2 _ _ _ _ _ _ _ _ _
      | exact ih3 _ _ _ _ _ _ _ _ _ _ _
      | exact ih4 _ _ _ _ _ _ _
      | exact ih5 _ _ _ _ _ _ _ _ _ _ _
      | exact impl_Kerned.mono _ _ _ _
      | exact spec_Has.mono _ _ _
      | exact LeO.none _
      | refine LeO.ite ?_ ?_
      | refine LeO.bind ?_ (fun _ => ?_)
    · intro y0 y1 y2 y3 y4 y5 y6
      unfold laws_FnKerned.l2
      repeat' first
      | (with_reducible exact ih0 _ _ _ _ _ _)
      | (with_reducible exact ih1 _ _ _ _ _ _ _)
      | (with_reducible exact ih2 _ _ _ _ _ _ _ _ _)
      | (with_reducible exact ih3 _ _ _ _ _ _ _ _ _ _ _)
      | (with_reducible exact ih4 _ _ _ _ _ _ _)
      | (with_reducible exact ih5 _ _ _ _ _ _ _ _ _ _ _)
      | (with_reducible exact impl_Kerned.mono _ _ _ _)
      | (with_reducible exact spec_Has.mono _ _ _)
      | (with_reducible exact LeO.refl _)
      | (with_reducible exact LeO.none _)
      | (with_reducible refine LeO.ite ?_ ?_)
      | (with_reducible refine LeO.bind ?_ (fun _ => ?_))
      | exact ih0 _ _ _ _ _ _
      | exact ih1 _ _ _ _ _ _ _
      | exact ih2 _ _ _ _ _ _ _ _ _
      | exact ih3 _ _ _ _ _ _ _ _ _ _ _
      | exact ih4 _ _ _ _ _ _ _
      | exact ih5 _ _ _ _ _ _ _ _ _ _ _
      | exact impl_Kerned.mono _ _ _ _
      | exact spec_Has.mono _ _ _
      | exact LeO.none _
      | refine LeO.ite ?_ ?_
      | refine LeO.bind ?_ (fun _ => ?_)
    · intro y0 y1 y2 y3 y4 y5 y6 y7 y8 y9 y10
      unfold laws_FnKerned.j5
      repeat' first
      | (with_reducible exact ih0 _ _ _ _ _ _)
      | (with_reducible exact ih1 _ _ _ _ _ _ _)
      | (with_reducible exact ih2 _ _ _ _ _ _ _ _ _)
      | (with_reducible exact ih3 _ _ _ _ _ _ _ _ _ _ _)
      | (with_reducible exact ih4 _ _ _ _ _ _ _)
      | (with_reducible exact ih5 _ _ _ _ _ _ _ _ _ _ _)
      | (with_reducible exact impl_Kerned.mono _ _ _ _)
      | (with_reducible exact spec_Has.mono _ _ _)
      | (with_reducible exact LeO.refl _)
      | (with_reducible exact LeO.none _)
      | (with_reducible refine LeO.ite ?_ ?_)
      | (with_reducible refine LeO.bind ?_ (fun _ => ?_))
      | exact ih0 _ _ _ _ _ _
      | exact ih1 _ _ _ _ _ _ _
      | exact ih2 _ _ _ _ _ _ _ _ _
      | exact ih3 _ _ _ _ _ _ _ _ _ _ _
      | exact ih4 _ _ _ _ _ _ _
      | exact ih5 _ _ _ _ _ _ _ _ _ _ _
      | exact impl_Kerned.mono _ _ _ _
      | exact spec_Has.mono _ _ _
      | exact LeO.none _
      | refine LeO.ite ?_ ?_
      | refine LeO.bind ?_ (fun _ => ?_)
theorem laws_FnKerned.mono : ∀ a0 a1 a2 a3 a4 k, LeO (laws_FnKerned.f k a0 a1 a2 a3 a4) (laws_FnKerned.f (k + 1) a0 a1 a2 a3 a4) := by
  intro a0 a1 a2 a3 a4 k
  obtain ⟨ih0, ih1, ih2, ih3, ih4, ih5⟩ := laws_FnKerned.mono_l k
  unfold laws_FnKerned.f
  repeat' first
      | (with_reducible exact ih0 _ _ _ _ _ _)
      | (with_reducible exact ih1 _ _ _ _ _ _ _)
      | (with_reducible exact ih2 _ _ _ _ _ _ _ _ _)
      | (with_reducible exact ih3 _ _ _ _ _ _ _ _ _ _ _)
      | (with_reducible exact ih4 _ _ _ _ _ _ _)
      | (with_reducible exact ih5 _ _ _ _ _ _ _ _ _ _ _)
      | (with_reducible exact impl_Kerned.mono _ _ _ _)
      | (with_reducible exact spec_Has.mono _ _ _)
      | (with_reducible exact LeO.refl _)
      | (with_reducible exact LeO.none _)
      | (with_reducible refine LeO.ite ?_ ?_)
      | (with_reducible refine LeO.bind ?_ (fun _ => ?_))
      | exact ih0 _ _ _ _ _ _
      | exact ih1 _ _ _ _ _ _ _
      | exact ih2 _ _ _ _ _ _ _ _ _
      | exact ih3 _ _ _ _ _ _ _ _ _ _ _
      | exact ih4 _ _ _ _ _ _ _
      | exact ih5 _ _ _ _ _ _ _ _ _ _ _
      | exact impl_Kerned.mono _ _ _ _
      | exact spec_Has.mono _ _ _
      | exact LeO.none _
      | refine LeO.ite ?_ ?_
      | refine LeO.bind ?_ (fun _ => ?_)
set_option maxHeartbeats 8000000 in
set_option maxRecDepth 100000 in
theorem laws_FnKerned.calls (k : Nat) (A0 : Option Addr) (c0 : Nat) (l0 : List Int) (A1 : Option Addr) (c1 : Nat) (l1 : List Int) (A2 : Option Addr) (c2 : Nat) (l2 : List Int) (a3 : Int) (a4 : Int) (r : Bool) (w : World) (hr0 : Kd.C (Kd.int .u8) w A0 l0.length l0) (hc0 : l0.length ≤ c0) (hr1 : Kd.C (Kd.int .u8) w A1 l1.length l1) (hc1 : l1.length ≤ c1) (hr2 : Kd.C (Kd.int .i16) w A2 l2.length l2) (hc2 : l2.length ≤ c2) (h : laws_FnKerned.f k l0 l1 l2 a3 a4 = some r) :
    Calls Try.prog 10 #[.slice A0 l0.length c0, .slice A1 l1.length c1, .slice A2 l2.length c2, .int .u8 a3, .int .u8 a4] w fun e w' => e = .returned (.bool r) ∧ Below w.heap.size w w' := by
  have hu52 := Try.underlying52
  have HR0 := Aside0.mk hr0
  have HC0 := Aside0.mk hc0
  clear hr0 hc0
  have HR1 := Aside0.mk hr1
  have HC1 := Aside0.mk hc1
  clear hr1 hc1
  have HR2 := Aside0.mk hr2
  have HC2 := Aside0.mk hc2
  clear hr2 hc2
  have HB := Aside0.mk (Below.refl w.heap.size w)
  have H : (if (l0.length : Int) > 2147483647 then (laws_FnKerned.j0 k l0 l1 l2 a3 a4 true) else (if (l1.length : Int) > 2147483647 then (laws_FnKerned.j0 k l0 l1 l2 a3 a4 true) else (laws_FnKerned.j0 k l0 l1 l2 a3 a4 (decide ((l2.length : Int) > 2147483647))))) = some r := h
  clear h
  have HC6 := Aside0.mk H
  clear H
  go_enter Try.func10, Try.ntmps10
  go_upto_region 1 with (fail)
  go_cut [29] (fun v29 wc => ∃ (kq : Nat) (x29_5 : Bool), v29 = .bool x29_5 ∧ Aside0 (laws_FnKerned.j0 kq l0 l1 l2 a3 a4 x29_5 = some r) ∧ Aside0 (kq ≤ k) ∧ Aside0 (Below w.heap.size w wc))
  case first =>
    have H := HC6.out
    clear HC6
    by_cases c7 : (l0.length : Int) > 2147483647
    · rw [if_pos c7] at H
      have c7b0 : decide (2147483647 < (l0.length : Int)) = true := decide_eq_true c7
      have c7b1 : decide (2147483647 < l0.length) = true := decide_eq_true (by omega)
      clear c7
      (first | rw [c7b0] | (simp only [i64_w, i32_w]; rw [c7b0]) | skip)
      have H' := Aside0.mk H
      clear H
      go_wp2
      go_meet
      case rel => exact ⟨_, (true), (by first | rfl | (simp; done) | (simp [*]; done)), H', ⟨by first | omega | exact Nat.le_refl _⟩, ⟨by repeat (first | (with_reducible first | exact HB.out | apply below_alloc | apply pw_below_drewN | apply below_drew1) | exact HB.out)⟩⟩
    · rw [if_neg c7] at H
      have c7b0 : decide (2147483647 < (l0.length : Int)) = false := decide_eq_false c7
      have c7b1 : decide (2147483647 < l0.length) = false := decide_eq_false (by omega)
      clear c7
      (first | rw [c7b0] | (simp only [i64_w, i32_w]; rw [c7b0]) | skip)
      by_cases c8 : (l1.length : Int) > 2147483647
      · rw [if_pos c8] at H
        have c8b0 : decide (2147483647 < (l1.length : Int)) = true := decide_eq_true c8
        have c8b1 : decide (2147483647 < l1.length) = true := decide_eq_true (by omega)
        clear c8
        have H' := Aside0.mk H
        clear H
        go_wp2
        go_meet
        case rel => exact ⟨_, (true), (by first | rfl | (simp; done) | (simp [*]; done)), H', ⟨by first | omega | exact Nat.le_refl _⟩, ⟨by repeat (first | (with_reducible first | exact HB.out | apply below_alloc | apply pw_below_drewN | apply below_drew1) | exact HB.out)⟩⟩
      · rw [if_neg c8] at H
        have c8b0 : decide (2147483647 < (l1.length : Int)) = false := decide_eq_false c8
        have c8b1 : decide (2147483647 < l1.length) = false := decide_eq_false (by omega)
        clear c8
        have H' := Aside0.mk H
        clear H
        go_wp2
        go_meet
        case rel => exact ⟨_, (decide ((l2.length : Int) > 2147483647)), (by first | rfl | (simp; done) | (simp [*]; done)), H', ⟨by first | omega | exact Nat.le_refl _⟩, ⟨by repeat (first | (with_reducible first | exact HB.out | apply below_alloc | apply pw_below_drewN | apply below_drew1) | exact HB.out)⟩⟩
  case rest =>
    clear HC6
    try clear c1
    try clear c2
    try clear p2
    try clear c7
    try clear c7b0
    try clear c7b1
    try clear c8
    try clear c8b0
    try clear c8b1
    obtain ⟨kq, x29_5, rfl, HA, HJ5, HB⟩ := hcut
    cases kq with
    | zero => exact absurd HA.out (by simp [laws_FnKerned.j0])
    | succ kj5 =>
      have H := HA.out
      clear HA
      simp only [laws_FnKerned.j0] at H
      by_cases c9 : x29_5 = true
      · subst c9
        have H1 : (some true) = some r := by rw [if_pos rfl] at H; exact H
        clear H
        have H := H1
        clear H1
        obtain rfl := Option.some.inj H
        go_wp2
        go_ret
        exact ⟨by first | rfl | (simp [errW_none, errW_some] <;> rfl) | (simp [*, errW_none, errW_some] <;> rfl), by repeat (first | (with_reducible first | exact HB.out | apply below_alloc | apply pw_below_drewN | apply below_drew1) | exact HB.out)⟩
      · replace c9 := Bool.eq_false_iff.mpr c9
        subst c9
        have H1 : (laws_FnKerned.l0 kj5 l0 l1 l2 a3 a4 ([] : List (S52)) 0) = some r := by rw [if_neg (show ¬ (false = true) by decide)] at H; exact H
        clear H
        have H := H1
        clear H1
        have H' := Aside0.mk H
        clear H
        go_wp2
        go_loopg [11, 30] kj5 (fun kq v11 v30 w' => ∃ (x11_2 : List (S52)) (x30_2 : Int), v30 = .int .i64 x30_2 ∧ Aside0 (laws_FnKerned.l0 kq l0 l1 l2 a3 a4 x11_2 x30_2 = some r) ∧ Aside0 (kq ≤ kj5) ∧ Aside0 (Kd.R k52 52 w' w.heap.size (fun _ => True) v11 x11_2) ∧ Aside0 (Below w.heap.size w w'))
        case atStart => exact ⟨(([] : List (S52))), (0), (by first | rfl | (simp; done) | (simp [*]; done)), H', ⟨Nat.le_refl _⟩, ⟨by first | exact Kd.R_nil _ _ _ _ _ | exact Kd.N_nil _ _ _ _ _ | exact Kd.V_nil _ _ _ _ _ | exact Kd.Q_nil _ _ _ _ _ | exact Kd.S_nil _ _ _ _ _⟩, ⟨by repeat (first | (with_reducible first | exact HB.out | apply below_alloc | apply pw_below_drewN | apply below_drew1) | exact HB.out)⟩⟩
        case round =>
          clear H'
          try clear c1
          try clear c2
          try clear p2
          try clear c7
          try clear c7b0
          try clear c7b1
          try clear c8
          try clear c8b0
          try clear c8b1
          try clear c9
          try clear p2
          obtain ⟨x11_2, x30_2, rfl, HA, HK2, HO_11, HB⟩ := hrel
          cases gk with
          | zero => exact absurd HA.out (by simp [laws_FnKerned.l0])
          | succ k2 =>
            have H := HA.out
            clear HA
            simp only [laws_FnKerned.l0] at H
            by_cases c10 : x30_2 < 256
            · rw [if_pos c10] at H
              have c10b0 : decide (x30_2 < 256) = true := decide_eq_true c10
              clear c10
              have H' := Aside0.mk H
              clear H
              go_wp2
              go_loopg [11, 33] k2 (fun kq v11 v33 w' => ∃ (x11_3 : List (S52)) (x33_3 : Int), v33 = .int .i64 x33_3 ∧ Aside0 (laws_FnKerned.l1 kq l0 l1 l2 a3 a4 x11_3 x30_2 x30_2 x33_3 = some r) ∧ Aside0 (kq ≤ k2) ∧ Aside0 (Kd.R k52 52 w' w.heap.size (fun _ => True) v11 x11_3) ∧ Aside0 (Below w.heap.size w w'))
              case atStart => exact ⟨(x11_2), (0), (by first | rfl | (simp; done) | (simp [*]; done)), H', ⟨Nat.le_refl _⟩, ⟨by (with_reducible repeat (first | apply Kd.R_alloc | apply Kd.R_drewN | apply Kd.R_drew)); exact HO_11.out⟩, ⟨by repeat (first | (with_reducible first | exact HB.out | apply below_alloc | apply pw_below_drewN | apply below_drew1) | exact HB.out)⟩⟩
              case round =>
                clear H'
                try clear c1
                try clear c2
                try clear p2
                try clear c7
                try clear c7b0
                try clear c7b1
                try clear c8
                try clear c8b0
                try clear c8b1
                try clear c9
                try clear c10
                try clear c10b0
                try clear p2
                obtain ⟨x11_3, x33_3, rfl, HA, HK3, HO_11, HB⟩ := hrel
                cases gk with
                | zero => exact absurd HA.out (by simp [laws_FnKerned.l1])
                | succ k3 =>
                  have H := HA.out
                  clear HA
                  simp only [laws_FnKerned.l1] at H
                  by_cases c11 : x33_3 < 256
                  · rw [if_pos c11] at H
                    have c11b0 : decide (x33_3 < 256) = true := decide_eq_true c11
                    clear c11
                    have HC12 := Aside0.mk H
                    clear H
                    go_upto_region 10 with (fail)
                    go_cut [48] (fun v48 wc => ∃ (kq : Nat) (x48_11 : Bool), v48 = .bool x48_11 ∧ Aside0 (laws_FnKerned.j3 kq l0 l1 l2 a3 a4 x11_3 x30_2 x33_3 x30_2 x33_3 x48_11 = some r) ∧ Aside0 (kq ≤ k3) ∧ Aside0 (Kd.R k52 52 wc w.heap.size (fun _ => True) u11 x11_3) ∧ Aside0 (Below w.heap.size w wc))
                    case first =>
                      have H := HC12.out
                      clear HC12
                      by_cases c13 : (x11_3.length : Int) < 200
                      · rw [if_pos c13] at H
                        have c13b0 : decide ((x11_3.length : Int) < 200) = true := decide_eq_true c13
                        have c13b1 : decide (x11_3.length < 200) = true := decide_eq_true (by omega)
                        clear c13
                        (first | rw [c13b0] | (simp only [i64_w, i32_w]; rw [c13b0]) | skip)
                        replace H := Option.bind_eq_some_iff.mp H
                        obtain ⟨t162, A140, H⟩ := H
                        replace H : (if t162 = true then ((spec_Has.f k3 l1 x33_3).bind fun t163 => (laws_FnKerned.j3 k3 l0 l1 l2 a3 a4 x11_3 x30_2 x33_3 x30_2 x33_3 t163)) else (laws_FnKerned.j3 k3 l0 l1 l2 a3 a4 x11_3 x30_2 x33_3 x30_2 x33_3 false)) = some r := H
                        have A14 := Aside0.mk A140
                        clear A140
                        by_cases c15 : t162 = true
                        · subst c15
                          have H1 : ((spec_Has.f k3 l1 x33_3).bind fun t163 => (laws_FnKerned.j3 k3 l0 l1 l2 a3 a4 x11_3 x30_2 x33_3 x30_2 x33_3 t163)) = some r := by rw [if_pos rfl] at H; exact H
                          clear H
                          have H := H1
                          clear H1
                          replace H := Option.bind_eq_some_iff.mp H
                          obtain ⟨t163, A160, H⟩ := H
                          replace H : (laws_FnKerned.j3 k3 l0 l1 l2 a3 a4 x11_3 x30_2 x33_3 x30_2 x33_3 t163) = some r := H
                          have A16 := Aside0.mk A160
                          clear A160
                          have H' := Aside0.mk H
                          clear H
                          obtain ⟨Ao17, co17, eo17⟩ := Kd.R_slice HO_11.out
                          subst eo17
                          go_wp2_with (first | (go_at_call 26; (with_reducible refine (spec_Has.calls k3 _ _ l0 x30_2 true _ ?side1 ?side2 A14.out).mono ?_); (case side1 => repeat (first | exact (Kd.C_below HR0.out HB.out) | (with_reducible refine Kd.C_alloc ?_ _) | (with_reducible refine Kd.C_drewN ?_ _) | (with_reducible refine Kd.C_drew ?_))); (case side2 => exact HC0.out); rintro e w' ⟨rfl, ⟨nd, rfl⟩⟩) | (go_at_call 26; (with_reducible refine (spec_Has.calls k3 _ _ l1 x33_3 t163 _ ?side1 ?side2 A16.out).mono ?_); (case side1 => repeat (first | exact (Kd.C_below HR1.out (by repeat (first | (with_reducible first | exact HB.out | apply below_alloc | apply pw_below_drewN | apply below_drew1) | exact HB.out))) | (with_reducible refine Kd.C_alloc ?_ _) | (with_reducible refine Kd.C_drewN ?_ _) | (with_reducible refine Kd.C_drew ?_))); (case side2 => exact HC1.out); rintro e w' ⟨rfl, ⟨nd, rfl⟩⟩))
                          go_meet
                          case rel => exact ⟨_, (t163), (by first | rfl | (simp; done) | (simp [*]; done)), H', ⟨by have := HJ5.out; have := HK2.out; have := HK3.out; first | omega | exact Nat.le_refl _⟩, ⟨by (with_reducible repeat (first | apply Kd.R_alloc | apply Kd.R_drewN | apply Kd.R_drew)); exact HO_11.out⟩, ⟨by repeat (first | (with_reducible first | exact HB.out | apply below_alloc | apply pw_below_drewN | apply below_drew1) | exact HB.out)⟩⟩
                        · replace c15 := Bool.eq_false_iff.mpr c15
                          subst c15
                          have H1 : (laws_FnKerned.j3 k3 l0 l1 l2 a3 a4 x11_3 x30_2 x33_3 x30_2 x33_3 false) = some r := by rw [if_neg (show ¬ (false = true) by decide)] at H; exact H
                          clear H
                          have H := H1
                          clear H1
                          have H' := Aside0.mk H
                          clear H
                          obtain ⟨Ao18, co18, eo18⟩ := Kd.R_slice HO_11.out
                          subst eo18
                          go_wp2_with (first | (go_at_call 26; (with_reducible refine (spec_Has.calls k3 _ _ l0 x30_2 false _ ?side1 ?side2 A14.out).mono ?_); (case side1 => repeat (first | exact (Kd.C_below HR0.out HB.out) | (with_reducible refine Kd.C_alloc ?_ _) | (with_reducible refine Kd.C_drewN ?_ _) | (with_reducible refine Kd.C_drew ?_))); (case side2 => exact HC0.out); rintro e w' ⟨rfl, ⟨nd, rfl⟩⟩))
                          go_meet
                          case rel => exact ⟨_, (false), (by first | rfl | (simp; done) | (simp [*]; done)), H', ⟨by have := HJ5.out; have := HK2.out; have := HK3.out; first | omega | exact Nat.le_refl _⟩, ⟨by (with_reducible repeat (first | apply Kd.R_alloc | apply Kd.R_drewN | apply Kd.R_drew)); exact HO_11.out⟩, ⟨by repeat (first | (with_reducible first | exact HB.out | apply below_alloc | apply pw_below_drewN | apply below_drew1) | exact HB.out)⟩⟩
                      · rw [if_neg c13] at H
                        have c13b0 : decide ((x11_3.length : Int) < 200) = false := decide_eq_false c13
                        have c13b1 : decide (x11_3.length < 200) = false := decide_eq_false (by omega)
                        clear c13
                        (first | rw [c13b0] | (simp only [i64_w, i32_w]; rw [c13b0]) | skip)
                        have H' := Aside0.mk H
                        clear H
                        obtain ⟨Ao19, co19, eo19⟩ := Kd.R_slice HO_11.out
                        subst eo19
                        go_wp2
                        go_meet
                        case rel => exact ⟨_, (false), (by first | rfl | (simp; done) | (simp [*]; done)), H', ⟨by have := HJ5.out; have := HK2.out; have := HK3.out; first | omega | exact Nat.le_refl _⟩, ⟨by (with_reducible repeat (first | apply Kd.R_alloc | apply Kd.R_drewN | apply Kd.R_drew)); exact HO_11.out⟩, ⟨by repeat (first | (with_reducible first | exact HB.out | apply below_alloc | apply pw_below_drewN | apply below_drew1) | exact HB.out)⟩⟩
                    case rest =>
                      clear HC12
                      try clear c1
                      try clear c2
                      try clear p2
                      try clear c7
                      try clear c7b0
                      try clear c7b1
                      try clear c8
                      try clear c8b0
                      try clear c8b1
                      try clear c9
                      try clear c10
                      try clear c10b0
                      try clear c11
                      try clear c11b0
                      try clear c13
                      try clear c13b0
                      try clear c13b1
                      try clear c15
                      try clear p2
                      obtain ⟨kq, x48_11, rfl, HA, HJ11, HO_11, HB⟩ := hcut
                      cases kq with
                      | zero => exact absurd HA.out (by simp [laws_FnKerned.j3])
                      | succ kj11 =>
                        have H := HA.out
                        clear HA
                        simp only [laws_FnKerned.j3] at H
                        by_cases c20 : x48_11 = true
                        · subst c20
                          have H1 : ((spec_Nth.f l2 (x11_3.length : Int)).bind fun t164 => (if x11_3.length < 5864062014805 then (laws_FnKerned.l1 kj11 l0 l1 l2 a3 a4 (x11_3 ++ [(⟨x30_2, x33_3, t164⟩ : S52)]) x30_2 x30_2 (wrap64 (x33_3 + 1))) else (none))) = some r := by rw [if_pos rfl] at H; exact H
                          clear H
                          have H := H1
                          clear H1
                          replace H := Option.bind_eq_some_iff.mp H
                          obtain ⟨t164, A210, H⟩ := H
                          replace H : (if x11_3.length < 5864062014805 then (laws_FnKerned.l1 kj11 l0 l1 l2 a3 a4 (x11_3 ++ [(⟨x30_2, x33_3, t164⟩ : S52)]) x30_2 x30_2 (wrap64 (x33_3 + 1))) else (none)) = some r := H
                          have A21 := Aside0.mk A210
                          clear A210
                          by_cases c22 : x11_3.length < 5864062014805
                          · rw [if_pos c22] at H
                            have LMc22 := Aside0.mk c22
                            clear c22
                            obtain ⟨y165, hy165⟩ : ∃ y_ : List (S52), y_ = (x11_3 ++ [(⟨x30_2, x33_3, t164⟩ : S52)]) := ⟨_, rfl⟩
                            replace H : (laws_FnKerned.l1 kj11 l0 l1 l2 a3 a4 y165 x30_2 x30_2 (wrap64 (x33_3 + 1))) = some r := by first | (rw [hy165]; with_reducible exact H) | (have H2_ := (Option.bind_some _ _).symm.trans H; rw [hy165]; with_reducible exact H2_) | (have H2_ := (Option.bind_some _ _).symm.trans H; with_reducible exact H2_) | with_reducible exact H | (rw [hy165]; exact H) | exact H
                            have Ny165 := Aside0.mk hy165
                            clear hy165
                            have H' := Aside0.mk H
                            clear H
                            obtain ⟨Ao23, co23, eo23⟩ := Kd.R_slice HO_11.out
                            subst eo23
                            go_wp2_with (first | ((with_reducible refine gate_callee (f := 27) rfl ?_); refine goesL_ (some 55) rfl rfl Try.func27 (by kernel_rfl) rfl #[.slice A2 l2.length c2, .int .i64 (x11_3.length : Int)] rfl (by (try simp only [List.map_toArray, List.map_cons, List.map_nil]); first | done | rfl | (simp only [List.length_drop, List.length_take]; rfl)) ?_; (with_reducible refine (spec_Nth.calls _ _ l2 (x11_3.length : Int) t164 _ ?side1 ?side2 A21.out).mono ?_); (case side1 => repeat (first | exact (Kd.C_below HR2.out HB.out) | (with_reducible refine Kd.C_alloc ?_ _) | (with_reducible refine Kd.C_drewN ?_ _) | (with_reducible refine Kd.C_drew ?_))); (case side2 => exact HC2.out); rintro e w' ⟨rfl, ⟨nd, rfl⟩⟩; refine ⟨_, rfl, ?_⟩) | ((with_reducible refine gate_builtin (b := .append) (xs := #[.tmp 49, .tmp 57]) rfl ?_); (try (refine gate_guard (by rfl) ?_; dsimp only)); at_builtin; refine Kd.R_append k52 (w0 := w) w.heap.size rfl (.tmp 49) (.tmp 57) 49 52 (.agg #[(.int .i64 0), (.int .i64 0), (.int .i64 0)]) 24 rfl Try.underlying49 info52 rfl (by decide) (by omega) (.slice Ao23 x11_3.length co23) x11_3 (⟨x30_2, x33_3, t164⟩ : S52) [.int .i64 x30_2, .int .i64 x33_3, .int .i64 t164] (fun _ => True) (fun _ => False) rfl rfl ?aP (fun _ hk => hk.elim) ?aF ?aO ?aB ?aS ?aL ?_; (case aP => exact k52_mkM _ _ _ (⟨x30_2, x33_3, t164⟩ : S52)); (case aB => exact (by repeat (first | (with_reducible first | exact HB.out | apply below_alloc | apply pw_below_drewN | apply below_drew1) | exact HB.out))); (case aF => exact (fun _ _ => trivial)); (case aO => exact (by (with_reducible repeat (first | apply Kd.R_alloc | apply Kd.R_drewN | apply Kd.R_drew)); exact HO_11.out)); (case aS => exact (below_size (by repeat (first | (with_reducible first | exact HB.out | apply below_alloc | apply pw_below_drewN | apply below_drew1) | exact HB.out)))); (case aL => have := LMc22.out; omega); intro v166 w24 ho hb hg hat; rw [← Ny165.out] at ho; have n0_ := Aside0.mk (hb); have n1_ := Aside0.mk (ho); clear HB; clear HO_11; have HB := n0_; have HO167 := n1_; clear n0_ n1_; clear ho hb hg hat))
                            go_roundg kj11
                            case measure => have := HJ5.out; have := HK2.out; have := HK3.out; have := HJ11.out; omega
                            case rel => exact ⟨(y165), (wrap64 (x33_3 + 1)), (by first | rfl | (simp; done) | (simp [*]; done)), H', ⟨by have := HJ5.out; have := HK2.out; have := HK3.out; have := HJ11.out; omega⟩, ⟨by (with_reducible repeat (first | apply Kd.R_alloc | apply Kd.R_drewN | apply Kd.R_drew)); exact HO167.out⟩, ⟨by repeat (first | (with_reducible first | exact HB.out | apply below_alloc | apply pw_below_drewN | apply below_drew1) | exact HB.out)⟩⟩
                          · rw [if_neg c22] at H
                            exact absurd H (by simp)
                        · replace c20 := Bool.eq_false_iff.mpr c20
                          subst c20
                          have H1 : (laws_FnKerned.l1 kj11 l0 l1 l2 a3 a4 x11_3 x30_2 x30_2 (wrap64 (x33_3 + 1))) = some r := by rw [if_neg (show ¬ (false = true) by decide)] at H; exact H
                          clear H
                          have H := H1
                          clear H1
                          have H' := Aside0.mk H
                          clear H
                          go_wp2
                          go_roundg kj11
                          case measure => have := HJ5.out; have := HK2.out; have := HK3.out; have := HJ11.out; omega
                          case rel => exact ⟨(x11_3), (wrap64 (x33_3 + 1)), (by first | rfl | (simp; done) | (simp [*]; done)), H', ⟨by have := HJ5.out; have := HK2.out; have := HK3.out; have := HJ11.out; omega⟩, ⟨by (with_reducible repeat (first | apply Kd.R_alloc | apply Kd.R_drewN | apply Kd.R_drew)); exact HO_11.out⟩, ⟨by repeat (first | (with_reducible first | exact HB.out | apply below_alloc | apply pw_below_drewN | apply below_drew1) | exact HB.out)⟩⟩
                  · rw [if_neg c11] at H
                    have c11b0 : decide (x33_3 < 256) = false := decide_eq_false c11
                    clear c11
                    have H' := Aside0.mk H
                    clear H
                    go_wp2
                    go_roundg k3
                    case measure => have := HJ5.out; have := HK2.out; have := HK3.out; omega
                    case rel => exact ⟨(x11_3), (wrap64 (x30_2 + 1)), (by first | rfl | (simp; done) | (simp [*]; done)), H', ⟨by have := HJ5.out; have := HK2.out; have := HK3.out; omega⟩, ⟨by (with_reducible repeat (first | apply Kd.R_alloc | apply Kd.R_drewN | apply Kd.R_drew)); exact HO_11.out⟩, ⟨by repeat (first | (with_reducible first | exact HB.out | apply below_alloc | apply pw_below_drewN | apply below_drew1) | exact HB.out)⟩⟩
            · rw [if_neg c10] at H
              have c10b0 : decide (x30_2 < 256) = false := decide_eq_false c10
              clear c10
              have H' := Aside0.mk H
              clear H
              obtain ⟨Ao25, co25, eo25⟩ := Kd.R_slice HO_11.out
              subst eo25
              go_wp2
              go_loopg [14, 63] k2 (fun kq v14 v63 w' => ∃ (x14_3 : Int) (x63_3 : Int), v14 = .int .i64 x14_3 ∧ v63 = .int .i64 x63_3 ∧ Aside0 (laws_FnKerned.l2 kq a3 a4 x11_2 x14_3 x11_2 (x11_2.length : Int) x63_3 = some r) ∧ Aside0 (kq ≤ k2) ∧ Aside0 (Kd.R k52 52 w' w.heap.size (fun _ => True) (.slice Ao25 x11_2.length co25) x11_2) ∧ Aside0 (Kd.R k52 52 w' w.heap.size (fun _ => True) (.slice Ao25 x11_2.length co25) x11_2) ∧ Aside0 (Below w.heap.size w w'))
              case atStart => exact ⟨(0), (0), (by first | rfl | (simp; done) | (simp [*]; done)), (by first | rfl | (simp; done) | (simp [*]; done)), H', ⟨Nat.le_refl _⟩, ⟨by (with_reducible repeat (first | apply Kd.R_alloc | apply Kd.R_drewN | apply Kd.R_drew)); exact HO_11.out⟩, ⟨by (with_reducible repeat (first | apply Kd.R_alloc | apply Kd.R_drewN | apply Kd.R_drew)); exact HO_11.out⟩, ⟨by repeat (first | (with_reducible first | exact HB.out | apply below_alloc | apply pw_below_drewN | apply below_drew1) | exact HB.out)⟩⟩
              case round =>
                clear H'
                try clear c1
                try clear c2
                try clear p2
                try clear p6
                try clear c7
                try clear c7b0
                try clear c7b1
                try clear c8
                try clear c8b0
                try clear c8b1
                try clear c9
                try clear c10
                try clear c10b0
                try clear c11
                try clear c11b0
                try clear c13
                try clear c13b0
                try clear c13b1
                try clear c15
                try clear c20
                try clear c22
                try clear p2
                obtain ⟨x14_3, x63_3, rfl, rfl, HA, HK3, HO_11, HO_61, HB⟩ := hrel
                cases gk with
                | zero => exact absurd HA.out (by simp [laws_FnKerned.l2])
                | succ k3 =>
                  have H := HA.out
                  clear HA
                  simp only [laws_FnKerned.l2] at H
                  by_cases c26 : x63_3 < (x11_2.length : Int)
                  · rw [if_pos c26] at H
                    have c26b0 : decide (x63_3 < (x11_2.length : Int)) = true := decide_eq_true c26
                    clear c26
                    by_cases c27 : 0 ≤ x63_3
                    · rw [if_pos c27] at H
                      have c27b0 : decide (0 ≤ x63_3) = true := decide_eq_true c27
                      clear c27
                      by_cases c28 : x63_3 < (x11_2.length : Int)
                      · rw [if_pos c28] at H
                        have c28b0 : decide (x63_3 < (x11_2.length : Int)) = true := decide_eq_true c28
                        clear c28
                        have HC29 := Aside0.mk H
                        clear H
                        have p168 : 0 ≤ (x63_3 : Int) := of_decide_eq_true (by first | (with_reducible assumption) | assumption)
                        have q168 : x63_3 < (x11_2.length : Int) := of_decide_eq_true (by first | (with_reducible assumption) | assumption)
                        obtain ⟨ad168, e168, hx168_0, hx168_1, hx168_2⟩ := at_T52 (Kd.R_reads' HO_61.out).2.2 x63_3 p168 q168
                        cases e168
                        replace p168 := eq_true p168
                        replace q168 := eq_true q168
                        go_upto_region 18 with (first | ((with_reducible refine gate_dst (N := 16) rfl ?_); (try (refine gate_guard (by rfl) ?_; dsimp only)); refine box_event ?hg (N := 16) ?hd (cs := #[.int .i64 0, .int .i64 0, .int .i64 0]) (t := 52) ?hr ?_; (case hd => rfl); (case hg => rfl); (case hr => first | (go_simp; done) | (go_simp; rfl)); intro gb169 hg w30 hbox hb; have n0_ := Aside0.mk (Kd.R_below (Kd.R_elderB (by (with_reducible repeat (first | apply Kd.R_alloc | apply Kd.R_drewN | apply Kd.R_drew)); exact HO_11.out) gb169 (Nat.le_of_eq hg.symm)) hb); have n1_ := Aside0.mk (Kd.R_below (Kd.R_elderB (by (with_reducible repeat (first | apply Kd.R_alloc | apply Kd.R_drewN | apply Kd.R_drew)); exact HO_61.out) gb169 (Nat.le_of_eq hg.symm)) hb); have n2_ := Aside0.mk (below_step (by repeat (first | (with_reducible first | exact HB.out | apply below_alloc | apply pw_below_drewN | apply below_drew1) | exact HB.out)) hb); have n3_ := Aside0.mk (hbox); have n4_ := Aside0.mk ((by rw [hg]; exact (below_size (by repeat (first | (with_reducible first | exact HB.out | apply below_alloc | apply pw_below_drewN | apply below_drew1) | exact HB.out))) : w.heap.size ≤ gb169)); have n5_ := Aside0.mk ((by rw [hg]; exact (below_size (by repeat (first | (with_reducible first | exact HB.out | apply below_alloc | apply pw_below_drewN | apply below_drew1) | exact HB.out))) : w.heap.size ≤ gb169)); clear HO_11; clear HO_61; clear HB; have HO_11 := n0_; have HO_61 := n1_; have HB := n2_; have BK169 := n3_; have GW169 := n4_; have GE169 := n5_; clear n0_ n1_ n2_ n3_ n4_ n5_; clear hb hbox hg; have hcz31_0 : w30.cell? ⟨gb169, 0, none⟩ = some (.int .i64 0) := (blk_cell BK169.out 0).trans rfl; have hcz31_1 : w30.cell? ⟨gb169, 1, none⟩ = some (.int .i64 0) := (blk_cell BK169.out 1).trans rfl; have hcz31_2 : w30.cell? ⟨gb169, 2, none⟩ = some (.int .i64 0) := (blk_cell BK169.out 2).trans rfl; have hfz31_0 := blk_frozen BK169.out 0; have hfz31_1 := blk_frozen BK169.out 1; have hfz31_2 := blk_frozen BK169.out 2))
                        (try simp only [Act.put, List.setIfInBounds_toArray, List.set_cons_zero, List.set_cons_succ])
                        go_cut [78] (fun v78 wc => ∃ (kq : Nat) (x78_28 : Bool), v78 = .bool x78_28 ∧ Aside0 (laws_FnKerned.j5 kq a3 a4 x11_2 x14_3 x11_2 (x11_2.length : Int) x63_3 x78_28 ((rd_T52 x11_2 x63_3).f0) ((rd_T52 x11_2 x63_3).f1) ((rd_T52 x11_2 x63_3).f2) = some r) ∧ Aside0 (kq ≤ k3) ∧ Aside0 (Kd.R k52 52 wc w.heap.size (fun k_ => k_ ≠ gb169) (.slice (some ad168) x11_2.length co25) x11_2) ∧ Aside0 (Kd.R k52 52 wc w.heap.size (fun k_ => k_ ≠ gb169) (.slice (some ad168) x11_2.length co25) x11_2) ∧ Aside0 (wc.heap[gb169]? = some (.cells #[.int .i64 ((rd_T52 x11_2 x63_3).f0), .int .i64 ((rd_T52 x11_2 x63_3).f1), .int .i64 ((rd_T52 x11_2 x63_3).f2)] 52 (0, 0))) ∧ Aside0 (Below w.heap.size w wc))
                        case first =>
                          have H := HC29.out
                          clear HC29
                          by_cases c32 : ((rd_T52 x11_2 x63_3).f0) = (wrap64 (a3))
                          · rw [if_pos c32] at H
                            have c32b0 : (((rd_T52 x11_2 x63_3).f0) == (wrap64 (a3))) = true := beq_iff_eq.mpr c32
                            have c32b1 : (((rd_T52 x11_2 x63_3).f0) != (wrap64 (a3))) = false := bne_eq_false_iff_eq.mpr c32
                            clear c32
                            (first | rw [c32b0] | (simp only [i64_w, i32_w]; rw [c32b0]) | skip)
                            have H' := Aside0.mk H
                            clear H
                            have hcz33_0 : w30.cell? ⟨gb169, 0, none⟩ = some (.int .i64 0) := (blk_cell BK169.out 0).trans rfl
                            have hcz33_1 : w30.cell? ⟨gb169, 1, none⟩ = some (.int .i64 0) := (blk_cell BK169.out 1).trans rfl
                            have hcz33_2 : w30.cell? ⟨gb169, 2, none⟩ = some (.int .i64 0) := (blk_cell BK169.out 2).trans rfl
                            have hfz33_0 := blk_frozen BK169.out 0
                            have hfz33_1 := blk_frozen BK169.out 1
                            have hfz33_2 := blk_frozen BK169.out 2
                            go_wp2
                            go_meet
                            case rel => exact ⟨_, ((((rd_T52 x11_2 x63_3).f1) == (wrap64 (a4)))), (by first | rfl | (simp; done) | (simp [*]; done)), H', ⟨by have := HJ5.out; have := HK2.out; have := HK3.out; first | omega | exact Nat.le_refl _⟩, ⟨by (with_reducible repeat (first | apply Kd.R_alloc | apply Kd.R_drewN | apply Kd.R_drew)); exact Kd.R_mono (Kd.R_far (p := ⟨gb169, 2, none⟩) (Kd.R_far (p := ⟨gb169, 1, none⟩) (Kd.R_far (p := ⟨gb169, 0, none⟩) (Kd.R_mono HO_11.out (fun k_ hk => (⟨hk, hk.2⟩ : _ ∧ k_ ≠ gb169))) (fun _ hk => hk.2) (.int .i64 ((rd_T52 x11_2 x63_3).f0))) (fun _ hk => hk.2) (.int .i64 ((rd_T52 x11_2 x63_3).f1))) (fun _ hk => hk.2) (.int .i64 ((rd_T52 x11_2 x63_3).f2))) (fun _ hk => hk.1.2)⟩, ⟨by (with_reducible repeat (first | apply Kd.R_alloc | apply Kd.R_drewN | apply Kd.R_drew)); exact Kd.R_mono (Kd.R_far (p := ⟨gb169, 2, none⟩) (Kd.R_far (p := ⟨gb169, 1, none⟩) (Kd.R_far (p := ⟨gb169, 0, none⟩) (Kd.R_mono HO_61.out (fun k_ hk => (⟨hk, hk.2⟩ : _ ∧ k_ ≠ gb169))) (fun _ hk => hk.2) (.int .i64 ((rd_T52 x11_2 x63_3).f0))) (fun _ hk => hk.2) (.int .i64 ((rd_T52 x11_2 x63_3).f1))) (fun _ hk => hk.2) (.int .i64 ((rd_T52 x11_2 x63_3).f2))) (fun _ hk => hk.1.2)⟩, ⟨by (with_reducible repeat (first | refine blk_drewN ?_ _ | refine blk_drew ?_ | refine blk_alloc ?_ _)); refine blk_put (cs := #[.int .i64 ((rd_T52 x11_2 x63_3).f0), .int .i64 ((rd_T52 x11_2 x63_3).f1), .int .i64 0]) ?_ 2 _ rfl; (with_reducible repeat (first | refine blk_drewN ?_ _ | refine blk_drew ?_ | refine blk_alloc ?_ _)); refine blk_put (cs := #[.int .i64 ((rd_T52 x11_2 x63_3).f0), .int .i64 0, .int .i64 0]) ?_ 1 _ rfl; (with_reducible repeat (first | refine blk_drewN ?_ _ | refine blk_drew ?_ | refine blk_alloc ?_ _)); refine blk_put (cs := #[.int .i64 0, .int .i64 0, .int .i64 0]) ?_ 0 _ rfl; (with_reducible repeat (first | refine blk_drewN ?_ _ | refine blk_drew ?_ | refine blk_alloc ?_ _)); exact BK169.out⟩, ⟨by repeat (first | (with_reducible first | exact HB.out | apply below_alloc | apply pw_below_drewN | apply below_drew1 | refine below_set ?_ GE169.out) | exact HB.out)⟩⟩
                          · rw [if_neg c32] at H
                            have c32b0 : (((rd_T52 x11_2 x63_3).f0) == (wrap64 (a3))) = false := beq_eq_false_iff_ne.mpr c32
                            have c32b1 : (((rd_T52 x11_2 x63_3).f0) != (wrap64 (a3))) = true := bne_iff_ne.mpr c32
                            (first | rw [c32b0] | (simp only [i64_w, i32_w]; rw [c32b0]) | skip)
                            have H' := Aside0.mk H
                            clear H
                            have hcz34_0 : w30.cell? ⟨gb169, 0, none⟩ = some (.int .i64 0) := (blk_cell BK169.out 0).trans rfl
                            have hcz34_1 : w30.cell? ⟨gb169, 1, none⟩ = some (.int .i64 0) := (blk_cell BK169.out 1).trans rfl
                            have hcz34_2 : w30.cell? ⟨gb169, 2, none⟩ = some (.int .i64 0) := (blk_cell BK169.out 2).trans rfl
                            have hfz34_0 := blk_frozen BK169.out 0
                            have hfz34_1 := blk_frozen BK169.out 1
                            have hfz34_2 := blk_frozen BK169.out 2
                            go_wp2
                            go_meet
                            case rel => exact ⟨_, (false), (by first | rfl | (simp; done) | (simp [*]; done)), H', ⟨by have := HJ5.out; have := HK2.out; have := HK3.out; first | omega | exact Nat.le_refl _⟩, ⟨by (with_reducible repeat (first | apply Kd.R_alloc | apply Kd.R_drewN | apply Kd.R_drew)); exact Kd.R_mono (Kd.R_far (p := ⟨gb169, 2, none⟩) (Kd.R_far (p := ⟨gb169, 1, none⟩) (Kd.R_far (p := ⟨gb169, 0, none⟩) (Kd.R_mono HO_11.out (fun k_ hk => (⟨hk, hk.2⟩ : _ ∧ k_ ≠ gb169))) (fun _ hk => hk.2) (.int .i64 ((rd_T52 x11_2 x63_3).f0))) (fun _ hk => hk.2) (.int .i64 ((rd_T52 x11_2 x63_3).f1))) (fun _ hk => hk.2) (.int .i64 ((rd_T52 x11_2 x63_3).f2))) (fun _ hk => hk.1.2)⟩, ⟨by (with_reducible repeat (first | apply Kd.R_alloc | apply Kd.R_drewN | apply Kd.R_drew)); exact Kd.R_mono (Kd.R_far (p := ⟨gb169, 2, none⟩) (Kd.R_far (p := ⟨gb169, 1, none⟩) (Kd.R_far (p := ⟨gb169, 0, none⟩) (Kd.R_mono HO_61.out (fun k_ hk => (⟨hk, hk.2⟩ : _ ∧ k_ ≠ gb169))) (fun _ hk => hk.2) (.int .i64 ((rd_T52 x11_2 x63_3).f0))) (fun _ hk => hk.2) (.int .i64 ((rd_T52 x11_2 x63_3).f1))) (fun _ hk => hk.2) (.int .i64 ((rd_T52 x11_2 x63_3).f2))) (fun _ hk => hk.1.2)⟩, ⟨by (with_reducible repeat (first | refine blk_drewN ?_ _ | refine blk_drew ?_ | refine blk_alloc ?_ _)); refine blk_put (cs := #[.int .i64 ((rd_T52 x11_2 x63_3).f0), .int .i64 ((rd_T52 x11_2 x63_3).f1), .int .i64 0]) ?_ 2 _ rfl; (with_reducible repeat (first | refine blk_drewN ?_ _ | refine blk_drew ?_ | refine blk_alloc ?_ _)); refine blk_put (cs := #[.int .i64 ((rd_T52 x11_2 x63_3).f0), .int .i64 0, .int .i64 0]) ?_ 1 _ rfl; (with_reducible repeat (first | refine blk_drewN ?_ _ | refine blk_drew ?_ | refine blk_alloc ?_ _)); refine blk_put (cs := #[.int .i64 0, .int .i64 0, .int .i64 0]) ?_ 0 _ rfl; (with_reducible repeat (first | refine blk_drewN ?_ _ | refine blk_drew ?_ | refine blk_alloc ?_ _)); exact BK169.out⟩, ⟨by repeat (first | (with_reducible first | exact HB.out | apply below_alloc | apply pw_below_drewN | apply below_drew1 | refine below_set ?_ GE169.out) | exact HB.out)⟩⟩
                        case rest =>
                          clear HC29
                          try clear c1
                          try clear p1
                          try clear q1
                          try clear hx1
                          try clear c2
                          try clear p2
                          try clear c3
                          try clear p6
                          try clear c7
                          try clear c7b0
                          try clear c7b1
                          try clear c8
                          try clear c8b0
                          try clear c8b1
                          try clear c9
                          try clear c10
                          try clear c10b0
                          try clear c11
                          try clear c11b0
                          try clear c13
                          try clear c13b0
                          try clear c13b1
                          try clear c15
                          try clear p16
                          try clear q16
                          try clear hx16
                          try clear c20
                          try clear c22
                          try clear c26
                          try clear c26b0
                          try clear c27
                          try clear c27b0
                          try clear c28
                          try clear c28b0
                          try clear c32
                          try clear c32b0
                          try clear c32b1
                          try clear hcz31_0
                          try clear hcz31_1
                          try clear hcz31_2
                          try clear hcz33_0
                          try clear hcz33_1
                          try clear hcz33_2
                          try clear hcz34_0
                          try clear hcz34_1
                          try clear hcz34_2
                          try clear hfz31_0
                          try clear hfz31_1
                          try clear hfz31_2
                          try clear hfz33_0
                          try clear hfz33_1
                          try clear hfz33_2
                          try clear hfz34_0
                          try clear hfz34_1
                          try clear hfz34_2
                          try clear hx168_0
                          try clear hx168_1
                          try clear hx168_2
                          try clear p168
                          try clear p2
                          try clear p6
                          try clear q168
                          obtain ⟨kq, x78_28, rfl, HA, HJ28, HO_11, HO_61, BK169, HB⟩ := hcut
                          cases kq with
                          | zero => exact absurd HA.out (by simp [laws_FnKerned.j5])
                          | succ kj28 =>
                            have H := HA.out
                            clear HA
                            simp only [laws_FnKerned.j5] at H
                            by_cases c35 : x78_28 = true
                            · subst c35
                              have H1 : (laws_FnKerned.l2 kj28 a3 a4 x11_2 ((rd_T52 x11_2 x63_3).f2) x11_2 (x11_2.length : Int) (wrap64 (x63_3 + 1))) = some r := by rw [if_pos rfl] at H; exact H
                              clear H
                              have H := H1
                              clear H1
                              have H' := Aside0.mk H
                              clear H
                              have hcz36_0 : wc.cell? ⟨gb169, 0, none⟩ = some (.int .i64 ((rd_T52 x11_2 x63_3).f0)) := (blk_cell BK169.out 0).trans rfl
                              have hcz36_1 : wc.cell? ⟨gb169, 1, none⟩ = some (.int .i64 ((rd_T52 x11_2 x63_3).f1)) := (blk_cell BK169.out 1).trans rfl
                              have hcz36_2 : wc.cell? ⟨gb169, 2, none⟩ = some (.int .i64 ((rd_T52 x11_2 x63_3).f2)) := (blk_cell BK169.out 2).trans rfl
                              have hfz36_0 := blk_frozen BK169.out 0
                              have hfz36_1 := blk_frozen BK169.out 1
                              have hfz36_2 := blk_frozen BK169.out 2
                              go_wp2
                              go_roundg kj28
                              case measure => have := HJ5.out; have := HK2.out; have := HK3.out; have := HJ28.out; omega
                              case rel => exact ⟨(((rd_T52 x11_2 x63_3).f2)), (wrap64 (x63_3 + 1)), (by first | rfl | (simp; done) | (simp [*]; done)), (by first | rfl | (simp; done) | (simp [*]; done)), H', ⟨by have := HJ5.out; have := HK2.out; have := HK3.out; have := HJ28.out; omega⟩, ⟨by (with_reducible repeat (first | apply Kd.R_alloc | apply Kd.R_drewN | apply Kd.R_drew)); exact Kd.R_mono HO_11.out (fun _ hk => trivial)⟩, ⟨by (with_reducible repeat (first | apply Kd.R_alloc | apply Kd.R_drewN | apply Kd.R_drew)); exact Kd.R_mono HO_61.out (fun _ hk => trivial)⟩, ⟨by repeat (first | (with_reducible first | exact HB.out | apply below_alloc | apply pw_below_drewN | apply below_drew1 | refine below_set ?_ GE169.out) | exact HB.out)⟩⟩
                            · replace c35 := Bool.eq_false_iff.mpr c35
                              subst c35
                              have H1 : (laws_FnKerned.l2 kj28 a3 a4 x11_2 x14_3 x11_2 (x11_2.length : Int) (wrap64 (x63_3 + 1))) = some r := by rw [if_neg (show ¬ (false = true) by decide)] at H; exact H
                              clear H
                              have H := H1
                              clear H1
                              have H' := Aside0.mk H
                              clear H
                              go_wp2
                              go_roundg kj28
                              case measure => have := HJ5.out; have := HK2.out; have := HK3.out; have := HJ28.out; omega
                              case rel => exact ⟨(x14_3), (wrap64 (x63_3 + 1)), (by first | rfl | (simp; done) | (simp [*]; done)), (by first | rfl | (simp; done) | (simp [*]; done)), H', ⟨by have := HJ5.out; have := HK2.out; have := HK3.out; have := HJ28.out; omega⟩, ⟨by (with_reducible repeat (first | apply Kd.R_alloc | apply Kd.R_drewN | apply Kd.R_drew)); exact Kd.R_mono HO_11.out (fun _ hk => trivial)⟩, ⟨by (with_reducible repeat (first | apply Kd.R_alloc | apply Kd.R_drewN | apply Kd.R_drew)); exact Kd.R_mono HO_61.out (fun _ hk => trivial)⟩, ⟨by repeat (first | (with_reducible first | exact HB.out | apply below_alloc | apply pw_below_drewN | apply below_drew1 | refine below_set ?_ GE169.out) | exact HB.out)⟩⟩
                      · rw [if_neg c28] at H
                        exact absurd H (by simp)
                    · rw [if_neg c27] at H
                      exact absurd H (by simp)
                  · rw [if_neg c26] at H
                    have c26b0 : decide (x63_3 < (x11_2.length : Int)) = false := decide_eq_false c26
                    clear c26
                    replace H := Option.bind_eq_some_iff.mp H
                    obtain ⟨t170, A370, H⟩ := H
                    replace H : (if t170 = x14_3 then ((impl_Kerned.f k3 (([(⟨1, 2, 3⟩ : S52)] : List (S52))) 1 2).bind fun t174 => (some (t174 == 3))) else (some false)) = some r := H
                    have A37 := Aside0.mk A370
                    clear A370
                    by_cases c38 : t170 = x14_3
                    · rw [if_pos c38] at H
                      have c38b0 : (t170 == x14_3) = true := beq_iff_eq.mpr c38
                      have c38b1 : (t170 != x14_3) = false := bne_eq_false_iff_eq.mpr c38
                      clear c38
                      obtain ⟨y171, hy171⟩ : ∃ y_ : List (S52), y_ = (([(⟨1, 2, 3⟩ : S52)] : List (S52))) := ⟨_, rfl⟩
                      replace H : ((impl_Kerned.f k3 y171 1 2).bind fun t174 => (some (t174 == 3))) = some r := by first | (rw [hy171]; with_reducible exact H) | (have H2_ := (Option.bind_some _ _).symm.trans H; rw [hy171]; with_reducible exact H2_) | (have H2_ := (Option.bind_some _ _).symm.trans H; with_reducible exact H2_) | with_reducible exact H | (rw [hy171]; exact H) | exact H
                      have Ny171 := Aside0.mk hy171
                      clear hy171
                      replace H := Option.bind_eq_some_iff.mp H
                      obtain ⟨t174, A390, H⟩ := H
                      replace H : (some (t174 == 3)) = some r := H
                      have A39 := Aside0.mk A390
                      clear A390
                      obtain rfl := Option.some.inj H
                      go_wp2_with (first | ((with_reducible refine gate_callee (f := 28) rfl ?_); refine goesL_ (some 87) rfl rfl Try.func28 (by kernel_rfl) rfl #[.slice Ao25 x11_2.length co25, .int .i64 (wrap64 (a3)), .int .i64 (wrap64 (a4))] rfl (by (try simp only [List.map_toArray, List.map_cons, List.map_nil]); first | done | rfl | (simp only [List.length_drop, List.length_take]; rfl)) ?_; (with_reducible refine (impl_Kerned.calls k3 _ _ x11_2 (wrap64 (a3)) (wrap64 (a4)) t170 _ ?side1 ?side2 A37.out).mono ?_); (case side1 => repeat (first | exact (Kd.R_reads' HO_11.out).2.2 | (with_reducible refine Kd.C_alloc ?_ _) | (with_reducible refine Kd.C_drewN ?_ _) | (with_reducible refine Kd.C_drew ?_))); (case side2 => exact (Kd.R_reads' HO_11.out).2.1); rintro e w40 ⟨rfl, hb⟩; refine ⟨_, rfl, ?_⟩; have n0_ := Aside0.mk (Kd.R_below (by (with_reducible repeat (first | apply Kd.R_alloc | apply Kd.R_drewN | apply Kd.R_drew)); exact HO_11.out) hb); have n1_ := Aside0.mk (Kd.R_below (by (with_reducible repeat (first | apply Kd.R_alloc | apply Kd.R_drewN | apply Kd.R_drew)); exact HO_61.out) hb); have n2_ := Aside0.mk (below_step (by repeat (first | (with_reducible first | exact HB.out | apply below_alloc | apply pw_below_drewN | apply below_drew1) | exact HB.out)) hb); clear HO_11; clear HO_61; clear HB; have HO_11 := n0_; have HO_61 := n1_; have HB := n2_; clear n0_ n1_ n2_; (try clear hb); (try clear hb2); (try clear hk); (try clear hi)) | ((with_reducible refine gate_dst (N := 92) rfl ?_); (try (refine gate_guard (by rfl) ?_; dsimp only)); refine Kd.R_lit k52 _ 52 ?hg (N := 92) ?hd (xs := ([(⟨1, 2, 3⟩ : S52)] : List (S52))) (inner := [.int .i64 1, .int .i64 2, .int .i64 3]) (ok := fun _ => True) (okp := fun _ => True) ?hr ?hp (fun _ hk => hk) trivial (Below.refl _ _) (Nat.le_refl _) (by simp) ?_; (case hd => rfl); (case hg => rfl); (case hr => first | (go_simp; done) | (go_simp; rfl)); (case hp => exact (Reps.c3 (show Kd.M k52 _ _ _ (⟨1, 2, 3⟩ : S52) [.int .i64 1, .int .i64 2, .int .i64 3] from (k52_mkM _ _ _ (⟨1, 2, 3⟩ : S52) )) (Reps.none _ _))); intro v172 w41 ho42 hb hg_ hnew_; clear hg_ hnew_; (first | rw [← Ny171.out] at ho42 | (simp only [Int.reduceToNat] at ho42; rw [← Ny171.out] at ho42)); have n0_ := Aside0.mk (Kd.R_elder' (by (with_reducible repeat (first | apply Kd.R_alloc | apply Kd.R_drewN | apply Kd.R_drew)); exact HO_11.out) (Kd.R_base ho42) hb); have n1_ := Aside0.mk (Kd.R_elder' (by (with_reducible repeat (first | apply Kd.R_alloc | apply Kd.R_drewN | apply Kd.R_drew)); exact HO_61.out) (Kd.R_base ho42) hb); have n2_ := Aside0.mk (Kd.R_lower (Kd.R_new' (Kd.R_new' ho42 (Kd.R_lt (by (with_reducible repeat (first | apply Kd.R_alloc | apply Kd.R_drewN | apply Kd.R_drew)); exact HO_11.out))) (Kd.R_lt (by (with_reducible repeat (first | apply Kd.R_alloc | apply Kd.R_drewN | apply Kd.R_drew)); exact HO_61.out))) (below_size (by repeat (first | (with_reducible first | exact HB.out | apply below_alloc | apply pw_below_drewN | apply below_drew1) | exact HB.out)))); have n3_ := Aside0.mk (below_step (by repeat (first | (with_reducible first | exact HB.out | apply below_alloc | apply pw_below_drewN | apply below_drew1) | exact HB.out)) hb); clear HO_11; clear HO_61; clear HB; have HO_11 := n0_; have HO_61 := n1_; have HO173 := n2_; have HB := n3_; clear n0_ n1_ n2_ n3_; clear hb ho42; obtain ⟨Ao43, co43, eo43⟩ := Kd.R_slice HO173.out; subst eo43) | (go_at_call 28; (with_reducible refine (impl_Kerned.calls k3 _ _ y171 1 2 t174 _ ?side1 ?side2 A39.out).mono ?_); (case side1 => repeat (first | exact (Kd.R_reads' HO173.out).2.2 | (with_reducible refine Kd.C_alloc ?_ _) | (with_reducible refine Kd.C_drewN ?_ _) | (with_reducible refine Kd.C_drew ?_))); (case side2 => exact (Kd.R_reads' HO173.out).2.1); rintro e w44 ⟨rfl, hb⟩; have n0_ := Aside0.mk (Kd.R_below (by (with_reducible repeat (first | apply Kd.R_alloc | apply Kd.R_drewN | apply Kd.R_drew)); exact HO_11.out) hb); have n1_ := Aside0.mk (Kd.R_below (by (with_reducible repeat (first | apply Kd.R_alloc | apply Kd.R_drewN | apply Kd.R_drew)); exact HO_61.out) hb); have n2_ := Aside0.mk (Kd.R_below (by (with_reducible repeat (first | apply Kd.R_alloc | apply Kd.R_drewN | apply Kd.R_drew)); exact HO173.out) hb); have n3_ := Aside0.mk (below_step (by repeat (first | (with_reducible first | exact HB.out | apply below_alloc | apply pw_below_drewN | apply below_drew1) | exact HB.out)) hb); clear HO_11; clear HO_61; clear HO173; clear HB; have HO_11 := n0_; have HO_61 := n1_; have HO173 := n2_; have HB := n3_; clear n0_ n1_ n2_ n3_; (try clear hb); (try clear hb2); (try clear hk); (try clear hi)))
                      go_ret
                      exact ⟨by first | rfl | (simp [errW_none, errW_some] <;> rfl) | (simp [*, errW_none, errW_some] <;> rfl), by repeat (first | (with_reducible first | exact HB.out | apply below_alloc | apply pw_below_drewN | apply below_drew1) | exact HB.out)⟩
                    · rw [if_neg c38] at H
                      have c38b0 : (t170 == x14_3) = false := beq_eq_false_iff_ne.mpr c38
                      have c38b1 : (t170 != x14_3) = true := bne_iff_ne.mpr c38
                      obtain rfl := Option.some.inj H
                      go_wp2_with (first | ((with_reducible refine gate_callee (f := 28) rfl ?_); refine goesL_ (some 87) rfl rfl Try.func28 (by kernel_rfl) rfl #[.slice Ao25 x11_2.length co25, .int .i64 (wrap64 (a3)), .int .i64 (wrap64 (a4))] rfl (by (try simp only [List.map_toArray, List.map_cons, List.map_nil]); first | done | rfl | (simp only [List.length_drop, List.length_take]; rfl)) ?_; (with_reducible refine (impl_Kerned.calls k3 _ _ x11_2 (wrap64 (a3)) (wrap64 (a4)) t170 _ ?side1 ?side2 A37.out).mono ?_); (case side1 => repeat (first | exact (Kd.R_reads' HO_11.out).2.2 | (with_reducible refine Kd.C_alloc ?_ _) | (with_reducible refine Kd.C_drewN ?_ _) | (with_reducible refine Kd.C_drew ?_))); (case side2 => exact (Kd.R_reads' HO_11.out).2.1); rintro e w45 ⟨rfl, hb⟩; refine ⟨_, rfl, ?_⟩; have n0_ := Aside0.mk (Kd.R_below (by (with_reducible repeat (first | apply Kd.R_alloc | apply Kd.R_drewN | apply Kd.R_drew)); exact HO_11.out) hb); have n1_ := Aside0.mk (Kd.R_below (by (with_reducible repeat (first | apply Kd.R_alloc | apply Kd.R_drewN | apply Kd.R_drew)); exact HO_61.out) hb); have n2_ := Aside0.mk (below_step (by repeat (first | (with_reducible first | exact HB.out | apply below_alloc | apply pw_below_drewN | apply below_drew1) | exact HB.out)) hb); clear HO_11; clear HO_61; clear HB; have HO_11 := n0_; have HO_61 := n1_; have HB := n2_; clear n0_ n1_ n2_; (try clear hb); (try clear hb2); (try clear hk); (try clear hi)))
                      go_ret
                      exact ⟨by first | rfl | (simp [errW_none, errW_some] <;> rfl) | (simp [*, errW_none, errW_some] <;> rfl), by repeat (first | (with_reducible first | exact HB.out | apply below_alloc | apply pw_below_drewN | apply below_drew1) | exact HB.out)⟩

/-- THE ONE PURE STATEMENT of laws_FnKerned: yours. -/
def laws_FnKerned.Pure : Prop := ∀ (l0 : List Int) (l1 : List Int) (l2 : List Int) (a3 : Int) (a4 : Int), l0.length ≤ maxLen → l0.length * 1 ≤ 140737488351232 → (∀ x ∈ l0, (Lit.int .u8 x).wf = true) → l1.length ≤ maxLen → l1.length * 1 ≤ 140737488351232 → (∀ x ∈ l1, (Lit.int .u8 x).wf = true) → l2.length ≤ maxLen → l2.length * 2 ≤ 140737488351232 → (∀ x ∈ l2, (Lit.int .i16 x).wf = true) → (Lit.int .u8 a3).wf = true → (Lit.int .u8 a4).wf = true → ∃ k, laws_FnKerned.f k l0 l1 l2 a3 a4 = some true
theorem laws_FnKerned.walk (P : laws_FnKerned.Pure) (a0 : Option Addr) (len0 cap0 : Nat) (z0 : List Int) (a1 : Option Addr) (len1 cap1 : Nat) (z1 : List Int) (a2 : Option Addr) (len2 cap2 : Nat) (z2 : List Int) (a3 : Int) (a4 : Int) (w : World) (w0 : (a0 = none ∧ len0 = 0 ∧ cap0 = 0 ∧ z0 = []) ∨ ∃ x, a0 = some x ∧ len0 ≤ cap0 ∧ cap0 ≤ maxLen ∧ z0.length = cap0 ∧ (∀ i, i < z0.length → w.cell? (x.add i) = some (.int .u8 (z0.getD i 0))) ∧ ∀ n ∈ z0, (Lit.int .u8 n).wf = true) (y0 : len0 * 1 ≤ 140737488351232) (w1 : (a1 = none ∧ len1 = 0 ∧ cap1 = 0 ∧ z1 = []) ∨ ∃ x, a1 = some x ∧ len1 ≤ cap1 ∧ cap1 ≤ maxLen ∧ z1.length = cap1 ∧ (∀ i, i < z1.length → w.cell? (x.add i) = some (.int .u8 (z1.getD i 0))) ∧ ∀ n ∈ z1, (Lit.int .u8 n).wf = true) (y1 : len1 * 1 ≤ 140737488351232) (w2 : (a2 = none ∧ len2 = 0 ∧ cap2 = 0 ∧ z2 = []) ∨ ∃ x, a2 = some x ∧ len2 ≤ cap2 ∧ cap2 ≤ maxLen ∧ z2.length = cap2 ∧ (∀ i, i < z2.length → w.cell? (x.add i) = some (.int .i16 (z2.getD i 0))) ∧ ∀ n ∈ z2, (Lit.int .i16 n).wf = true) (y2 : len2 * 2 ≤ 140737488351232) (w3 : (Lit.int .u8 a3).wf = true) (w4 : (Lit.int .u8 a4).wf = true) :
    Calls Try.prog 10 #[.slice a0 len0 cap0, .slice a1 len1 cap1, .slice a2 len2 cap2, .int .u8 a3, .int .u8 a4] w fun e w' => e = .returned (.bool true) ∧ Below w.heap.size w w' := by
  obtain ⟨l0, rfl, hr0, hm0, hw0, hc0⟩ := ReadsInt.ofRowC w0
  obtain ⟨l1, rfl, hr1, hm1, hw1, hc1⟩ := ReadsInt.ofRowC w1
  obtain ⟨l2, rfl, hr2, hm2, hw2, hc2⟩ := ReadsInt.ofRowC w2
  obtain ⟨k, h⟩ := P l0 l1 l2 a3 a4 hm0 y0 hw0 hm1 y1 hw1 hm2 y2 hw2 w3 w4
  refine (laws_FnKerned.calls k _ _ l0 _ _ l1 _ _ l2 a3 a4 true w (Kd.C_of_reads (d := (0 : Int)) (h1 := fun _ => rfl) hr0) hc0 (Kd.C_of_reads (d := (0 : Int)) (h1 := fun _ => rfl) hr1) hc1 (Kd.C_of_reads (d := (0 : Int)) (h1 := fun _ => rfl) hr2) hc2 h).mono ?_
  rintro e w' ⟨rfl, hd⟩
  exact ⟨rfl, hd⟩

end Go.Proofs.Ytkfphiccfnfkdaa.PFnKerned
