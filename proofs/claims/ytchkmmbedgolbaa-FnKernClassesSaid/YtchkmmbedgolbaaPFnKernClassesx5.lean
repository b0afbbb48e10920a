-- Written by a program of this session (xprint) out of the translation; Lean checks it.
import Derived.Test.YtchkmmbedgolbaaPFnKernClassesx0
import Derived.Test.YtchkmmbedgolbaaPFnKernClassesx1
import Derived.Test.YtchkmmbedgolbaaPFnKernClassesx4
namespace Go.Proofs.Ytchkmmbedgolbaa.PFnKernClasses
open Go.RowKit Go.Proofs.YtchkmmbedgolbaaW.PrintWords Go.Proofs.YtchkmmbedgolbaaW.PrintLast Go.Proofs.YtchkmmbedgolbaaW.PrintMore
attribute [local go_sem] max2_int min2_int max_two min_two max_three min_three max_four min_four   -- for this text's walks alone
set_option linter.unusedVariables false
set_option linter.unusedSimpArgs false

/-! ### laws_FnKernClasses: function 3 -/
mutual
def laws_FnKernClasses.j0 : Nat → List Int → List Int → List Int → Int → Int → Bool → Option (Bool)
 | 0, _, _, _, _, _, _ => none
 | k + 1, x0, x1, x2, x3, x4, x30 => if x30 = true then (some true) else ((laws_FnKernClasses_1.f k x0).bind fun t244 => ((laws_FnKernClasses_1.f k x1).bind fun t247 => (laws_FnKernClasses.l0 k x2 x3 x4 t244 t247 ([] : List Int) 0)))
def laws_FnKernClasses.l0 : Nat → List Int → Int → Int → List (S27) → List (S27) → List Int → Int → Option (Bool)
 | 0, _, _, _, _, _, _, _ => none
 | k + 1, x2, x3, x4, x12, x13, x14, x15 => if x15 < (x2.length : Int) then (laws_FnKernClasses.j2 k x2 x3 x4 x12 x13 x14 x15 (decide (x15 < 40))) else (laws_FnKernClasses.j2 k x2 x3 x4 x12 x13 x14 x15 false)
def laws_FnKernClasses.j2 : Nat → List Int → Int → Int → List (S27) → List (S27) → List Int → Int → Bool → Option (Bool)
 | 0, _, _, _, _, _, _, _, _ => none
 | k + 1, x2, x3, x4, x12, x13, x14, x15, x44 => if x44 = true then (if 0 ≤ x15 then (if x15 < (x2.length : Int) then (if x14.length < 17592186044416 then (laws_FnKernClasses.l0 k x2 x3 x4 x12 x13 (x14 ++ [wrap64 (rd x2 x15)]) (wrap64 (x15 + 1))) else (none)) else (none)) else (none)) else ((spec_AatClass.f k x12 (wrap64 (Int.tmod x3 12)) 0).bind fun t254 => ((spec_AatClass.f k x13 (wrap64 (Int.tmod x4 12)) 0).bind fun t255 => (if (wrap64 (t254 + t255)) < (x14.length : Int) then (if 0 ≤ (wrap64 (t254 + t255)) then (laws_FnKernClasses.j3 k x3 x4 x12 x13 x14 (rd x14 (wrap64 (t254 + t255)))) else (none)) else (laws_FnKernClasses.j3 k x3 x4 x12 x13 x14 0))))
def laws_FnKernClasses.j3 : Nat → Int → Int → List (S27) → List (S27) → List Int → Int → Option (Bool)
 | 0, _, _, _, _, _, _ => none
 | k + 1, x3, x4, x12, x13, x14, x16 => (impl_KernClasses.f k x12 x13 x14 (wrap64 (Int.tmod x3 12)) (wrap64 (Int.tmod x4 12))).bind fun t257 => (if t257 = x16 then ((impl_KernClasses.f k ([] : List (S27)) ([] : List (S27)) (([7] : List Int)) 1 1).bind fun t261 => (some (t261 == 7))) else (some false))
end
def laws_FnKernClasses.f (k : Nat) (l0 : List Int) (l1 : List Int) (l2 : List Int) (a3 : Int) (a4 : Int) : Option (Bool) := if (l0.length : Int) > 2147483647 then (laws_FnKernClasses.j0 k l0 l1 l2 a3 a4 true) else (if (l1.length : Int) > 2147483647 then (laws_FnKernClasses.j0 k l0 l1 l2 a3 a4 true) else (laws_FnKernClasses.j0 k l0 l1 l2 a3 a4 (decide ((l2.length : Int) > 2147483647))))
theorem laws_FnKernClasses.mono_l : ∀ k, (∀ y0 y1 y2 y3 y4 y5, LeO (laws_FnKernClasses.j0 k y0 y1 y2 y3 y4 y5) (laws_FnKernClasses.j0 (k + 1) y0 y1 y2 y3 y4 y5)) ∧ (∀ y0 y1 y2 y3 y4 y5 y6, LeO (laws_FnKernClasses.l0 k y0 y1 y2 y3 y4 y5 y6) (laws_FnKernClasses.l0 (k + 1) y0 y1 y2 y3 y4 y5 y6)) ∧ (∀ y0 y1 y2 y3 y4 y5 y6 y7, LeO (laws_FnKernClasses.j2 k y0 y1 y2 y3 y4 y5 y6 y7) (laws_FnKernClasses.j2 (k + 1) y0 y1 y2 y3 y4 y5 y6 y7)) ∧ (∀ y0 y1 y2 y3 y4 y5, LeO (laws_FnKernClasses.j3 k y0 y1 y2 y3 y4 y5) (laws_FnKernClasses.j3 (k + 1) y0 y1 y2 y3 y4 y5))
 | 0 => ⟨fun _ _ _ _ _ _ r h => by simp [laws_FnKernClasses.j0] at h, fun _ _ _ _ _ _ _ r h => by simp [laws_FnKernClasses.l0] at h, fun _ _ _ _ _ _ _ _ r h => by simp [laws_FnKernClasses.j2] at h, fun _ _ _ _ _ _ r h => by simp [laws_FnKernClasses.j3] at h⟩
 | k + 1 => by
  obtain ⟨ih0, ih1, ih2, ih3⟩ := laws_FnKernClasses.mono_l k
  refine ⟨?_, ?_, ?_, ?_⟩
  ·intro y0 y1 y2 y3 y4 y5
   unfold laws_FnKernClasses.j0
   repeat' first
   | (with_reducible exact ih0 _ _ _ _ _ _)
   | (with_reducible exact ih1 _ _ _ _ _ _ _)
   | (with_reducible exact ih2 _ _ _ _ _ _ _ _)
   | (with_reducible exact ih3 _ _ _ _ _ _)
   | (with_reducible exact impl_KernClasses.mono _ _ _ _ _ _)
   | (with_reducible exact laws_FnKernClasses_1.mono _ _)
   | (with_reducible exact spec_AatClass.mono _ _ _ _)
   | (with_reducible exact LeO.refl _)
   | (with_reducible exact LeO.none _)
   | (with_reducible refine LeO.ite ?_ ?_)
   | (with_reducible refine LeO.bind ?_ (fun _ => ?_))
   | exact ih0 _ _ _ _ _ _
   | exact ih1 _ _ _ _ _ _ _
   | exact ih2 _ _ _ _ _ _ _ _
   | exact ih3 _ _ _ _ _ _
   | exact impl_KernClasses.mono _ _ _ _ _ _
   | exact laws_FnKernClasses_1.mono _ _
   | exact spec_AatClass.mono _ _ _ _
   | exact LeO.none _
   | refine LeO.ite ?_ ?_
   | refine LeO.bind ?_ (fun _ => ?_)
  ·intro y0 y1 y2 y3 y4 y5 y6
   unfold laws_FnKernClasses.l0
   repeat' first
   | (with_reducible exact ih0 _ _ _ _ _ _)
   | (with_reducible exact ih1 _ _ _ _ _ _ _)
   | (with_reducible exact ih2 _ _ _ _ _ _ _ _)
   | (with_reducible exact ih3 _ _ _ _ _ _)
   | (with_reducible exact impl_KernClasses.mono _ _ _ _ _ _)
   | (with_reducible exact laws_FnKernClasses_1.mono _ _)
   | (with_reducible exact spec_AatClass.mono _ _ _ _)
   | (with_reducible exact LeO.refl _)
   | (with_reducible exact LeO.none _)
   | (with_reducible refine LeO.ite ?_ ?_)
   | (with_reducible refine LeO.bind ?_ (fun _ => ?_))
   | exact ih0 _ _ _ _ _ _
   | exact ih1 _ _ _ _ _ _ _
   | exact ih2 _ _ _ _ _ _ _ _
   | exact ih3 _ _ _ _ _ _
   | exact impl_KernClasses.mono _ _ _ _ _ _
   | exact laws_FnKernClasses_1.mono _ _
   | exact spec_AatClass.mono _ _ _ _
   | exact LeO.none _
   | refine LeO.ite ?_ ?_
   | refine LeO.bind ?_ (fun _ => ?_)
  ·intro y0 y1 y2 y3 y4 y5 y6 y7
   unfold laws_FnKernClasses.j2
   repeat' first
   | (with_reducible exact ih0 _ _ _ _ _ _)
   | (with_reducible exact ih1 _ _ _ _ _ _ _)
   | (with_reducible exact ih2 _ _ _ _ _ _ _ _)
   | (with_reducible exact ih3 _ _ _ _ _ _)
   | (with_reducible exact impl_KernClasses.mono _ _ _ _ _ _)
   | (with_reducible exact laws_FnKernClasses_1.mono _ _)
   | (with_reducible exact spec_AatClass.mono _ _ _ _)
   | (with_reducible exact LeO.refl _)
   | (with_reducible exact LeO.none _)
   | (with_reducible refine LeO.ite ?_ ?_)
   | (with_reducible refine LeO.bind ?_ (fun _ => ?_))
   | exact ih0 _ _ _ _ _ _
   | exact ih1 _ _ _ _ _ _ _
   | exact ih2 _ _ _ _ _ _ _ _
   | exact ih3 _ _ _ _ _ _
   | exact impl_KernClasses.mono _ _ _ _ _ _
   | exact laws_FnKernClasses_1.mono _ _
   | exact spec_AatClass.mono _ _ _ _
   | exact LeO.none _
   | refine LeO.ite ?_ ?_
   | refine LeO.bind ?_ (fun _ => ?_)
  ·intro y0 y1 y2 y3 y4 y5
   unfold laws_FnKernClasses.j3
   repeat' first
   | (with_reducible exact ih0 _ _ _ _ _ _)
   | (with_reducible exact ih1 _ _ _ _ _ _ _)
   | (with_reducible exact ih2 _ _ _ _ _ _ _ _)
   | (with_reducible exact ih3 _ _ _ _ _ _)
   | (with_reducible exact impl_KernClasses.mono _ _ _ _ _ _)
   | (with_reducible exact laws_FnKernClasses_1.mono _ _)
   | (with_reducible exact spec_AatClass.mono _ _ _ _)
   | (with_reducible exact LeO.refl _)
   | (with_reducible exact LeO.none _)
   | (with_reducible refine LeO.ite ?_ ?_)
   | (with_reducible refine LeO.bind ?_ (fun _ => ?_))
   | exact ih0 _ _ _ _ _ _
   | exact ih1 _ _ _ _ _ _ _
   | exact ih2 _ _ _ _ _ _ _ _
   | exact ih3 _ _ _ _ _ _
   | exact impl_KernClasses.mono _ _ _ _ _ _
   | exact laws_FnKernClasses_1.mono _ _
   | exact spec_AatClass.mono _ _ _ _
   | exact LeO.none _
   | refine LeO.ite ?_ ?_
   | refine LeO.bind ?_ (fun _ => ?_)
theorem laws_FnKernClasses.mono : ∀ a0 a1 a2 a3 a4 k, LeO (laws_FnKernClasses.f k a0 a1 a2 a3 a4) (laws_FnKernClasses.f (k + 1) a0 a1 a2 a3 a4) := by
 intro a0 a1 a2 a3 a4 k
 obtain ⟨ih0, ih1, ih2, ih3⟩ := laws_FnKernClasses.mono_l k
 unfold laws_FnKernClasses.f
 repeat' first
   | (with_reducible exact ih0 _ _ _ _ _ _)
   | (with_reducible exact ih1 _ _ _ _ _ _ _)
   | (with_reducible exact ih2 _ _ _ _ _ _ _ _)
   | (with_reducible exact ih3 _ _ _ _ _ _)
   | (with_reducible exact impl_KernClasses.mono _ _ _ _ _ _)
   | (with_reducible exact laws_FnKernClasses_1.mono _ _)
   | (with_reducible exact spec_AatClass.mono _ _ _ _)
   | (with_reducible exact LeO.refl _)
   | (with_reducible exact LeO.none _)
   | (with_reducible refine LeO.ite ?_ ?_)
   | (with_reducible refine LeO.bind ?_ (fun _ => ?_))
   | exact ih0 _ _ _ _ _ _
   | exact ih1 _ _ _ _ _ _ _
   | exact ih2 _ _ _ _ _ _ _ _
   | exact ih3 _ _ _ _ _ _
   | exact impl_KernClasses.mono _ _ _ _ _ _
   | exact laws_FnKernClasses_1.mono _ _
   | exact spec_AatClass.mono _ _ _ _
   | exact LeO.none _
   | refine LeO.ite ?_ ?_
   | refine LeO.bind ?_ (fun _ => ?_)
set_option maxHeartbeats 8000000 in
set_option maxRecDepth 100000 in
theorem laws_FnKernClasses.calls (k : Nat) (A0 : Option Addr) (c0 : Nat) (l0 : List Int) (A1 : Option Addr) (c1 : Nat) (l1 : List Int) (A2 : Option Addr) (c2 : Nat) (l2 : List Int) (a3 : Int) (a4 : Int) (r : Bool) (w : World) (hr0 : Kd.C (Kd.int .u8) w A0 l0.length l0) (hc0 : l0.length ≤ c0) (hr1 : Kd.C (Kd.int .u8) w A1 l1.length l1) (hc1 : l1.length ≤ c1) (hr2 : Kd.C (Kd.int .i16) w A2 l2.length l2) (hc2 : l2.length ≤ c2) (h : laws_FnKernClasses.f k l0 l1 l2 a3 a4 = some r) :
  Calls Try.prog 3 #[.slice A0 l0.length c0, .slice A1 l1.length c1, .slice A2 l2.length c2, .int .u8 a3, .int .u8 a4] w fun e w' => e = .returned (.bool r) ∧ Below w.heap.size w w' := by
 have HR0 := Aside0.mk hr0
 have HC0 := Aside0.mk hc0
 clear hr0 hc0
 have HR1 := Aside0.mk hr1
 have HC1 := Aside0.mk hc1
 clear hr1 hc1
 have HR2 := Aside0.mk hr2
 have HC2 := Aside0.mk hc2
 clear hr2 hc2
 have HB := Aside0.mk (Below.refl w.heap.size w)
 have H : (if (l0.length : Int) > 2147483647 then (laws_FnKernClasses.j0 k l0 l1 l2 a3 a4 true) else (if (l1.length : Int) > 2147483647 then (laws_FnKernClasses.j0 k l0 l1 l2 a3 a4 true) else (laws_FnKernClasses.j0 k l0 l1 l2 a3 a4 (decide ((l2.length : Int) > 2147483647))))) = some r := h
 clear h
 have HC6 := Aside0.mk H
 clear H
 go_enter Try.func3, Try.ntmps3
 go_upto_region 1 with (fail)
 go_cut [30] (fun v30 wc => ∃ (kq : Nat) (x30_5 : Bool), v30 = .bool x30_5 ∧ Aside0 (laws_FnKernClasses.j0 kq l0 l1 l2 a3 a4 x30_5 = some r) ∧ Aside0 (kq ≤ k) ∧ Aside0 (Below w.heap.size w wc))
 case first =>
  have H := HC6.out
  clear HC6
  by_cases c7 : (l0.length : Int) > 2147483647
  ·rw [if_pos c7] at H
   have c7b0 : decide (2147483647 < (l0.length : Int)) = true := decide_eq_true c7
   have c7b1 : decide (2147483647 < l0.length) = true := decide_eq_true (by omega)
   clear c7
   (first | rw [c7b0] | (simp only [i64_w, i32_w]; rw [c7b0]) | skip)
   have H' := Aside0.mk H
   clear H
   go_wp2
   go_meet
   case rel => exact ⟨_, (true), (by first | rfl | (simp; done) | (simp [*]; done)), H', ⟨by first | omega | exact Nat.le_refl _⟩, ⟨by repeat (first | (with_reducible first | exact HB.out | apply below_alloc | apply pw_below_drewN | apply below_drew1) | exact HB.out)⟩⟩
  ·rw [if_neg c7] at H
   have c7b0 : decide (2147483647 < (l0.length : Int)) = false := decide_eq_false c7
   have c7b1 : decide (2147483647 < l0.length) = false := decide_eq_false (by omega)
   clear c7
   (first | rw [c7b0] | (simp only [i64_w, i32_w]; rw [c7b0]) | skip)
   by_cases c8 : (l1.length : Int) > 2147483647
   ·rw [if_pos c8] at H
    have c8b0 : decide (2147483647 < (l1.length : Int)) = true := decide_eq_true c8
    have c8b1 : decide (2147483647 < l1.length) = true := decide_eq_true (by omega)
    clear c8
    have H' := Aside0.mk H
    clear H
    go_wp2
    go_meet
    case rel => exact ⟨_, (true), (by first | rfl | (simp; done) | (simp [*]; done)), H', ⟨by first | omega | exact Nat.le_refl _⟩, ⟨by repeat (first | (with_reducible first | exact HB.out | apply below_alloc | apply pw_below_drewN | apply below_drew1) | exact HB.out)⟩⟩
   ·rw [if_neg c8] at H
    have c8b0 : decide (2147483647 < (l1.length : Int)) = false := decide_eq_false c8
    have c8b1 : decide (2147483647 < l1.length) = false := decide_eq_false (by omega)
    clear c8
    have H' := Aside0.mk H
    clear H
    go_wp2
    go_meet
    case rel => exact ⟨_, (decide ((l2.length : Int) > 2147483647)), (by first | rfl | (simp; done) | (simp [*]; done)), H', ⟨by first | omega | exact Nat.le_refl _⟩, ⟨by repeat (first | (with_reducible first | exact HB.out | apply below_alloc | apply pw_below_drewN | apply below_drew1) | exact HB.out)⟩⟩
 case rest =>
  clear HC6
  try clear c1
  try clear c2
  try clear p2
  try clear c3
  try clear c7
  try clear c7b0
  try clear c7b1
  try clear c8
  try clear c8b0
  try clear c8b1
  obtain ⟨kq, x30_5, rfl, HA, HJ5, HB⟩ := hcut
  cases kq with
  | zero => exact absurd HA.out (by simp [laws_FnKernClasses.j0])
  | succ kj5 =>
   have H := HA.out
   clear HA
   simp only [laws_FnKernClasses.j0] at H
   by_cases c9 : x30_5 = true
   ·subst c9
    have H1 : (some true) = some r := by rw [if_pos rfl] at H; exact H
    clear H
    have H := H1
    clear H1
    obtain rfl := Option.some.inj H
    go_wp2
    go_ret
    exact ⟨by first | rfl | (simp [errW_none, errW_some] <;> rfl) | (simp [*, errW_none, errW_some] <;> rfl), by repeat (first | (with_reducible first | exact HB.out | apply below_alloc | apply pw_below_drewN | apply below_drew1) | exact HB.out)⟩
   ·replace c9 := Bool.eq_false_iff.mpr c9
    subst c9
    have H1 : ((laws_FnKernClasses_1.f kj5 l0).bind fun t244 => ((laws_FnKernClasses_1.f kj5 l1).bind fun t247 => (laws_FnKernClasses.l0 kj5 l2 a3 a4 t244 t247 ([] : List Int) 0))) = some r := by rw [if_neg (show ¬ (false = true) by decide)] at H; exact H
    clear H
    have H := H1
    clear H1
    replace H := Option.bind_eq_some_iff.mp H
    obtain ⟨t244, A100, H⟩ := H
    replace H : ((laws_FnKernClasses_1.f kj5 l1).bind fun t247 => (laws_FnKernClasses.l0 kj5 l2 a3 a4 t244 t247 ([] : List Int) 0)) = some r := H
    have A10 := Aside0.mk A100
    clear A100
    replace H := Option.bind_eq_some_iff.mp H
    obtain ⟨t247, A110, H⟩ := H
    replace H : (laws_FnKernClasses.l0 kj5 l2 a3 a4 t244 t247 ([] : List Int) 0) = some r := H
    have A11 := Aside0.mk A110
    clear A110
    have H' := Aside0.mk H
    clear H
    go_wp2_with fail
    (with_reducible refine (laws_FnKernClasses_1.calls kj5 _ _ l0 t244 _ ?side1 ?side2 A10.out).mono ?_)
    (case side1 => repeat (first | exact (Kd.C_below HR0.out HB.out) | (with_reducible refine Kd.C_alloc ?_ _) | (with_reducible refine Kd.C_drewN ?_ _) | (with_reducible refine Kd.C_drew ?_)))
    (case side2 => exact HC0.out)
    rintro e w12 ⟨v245, rfl, ho0, hb⟩
    have n0_ := Aside0.mk (Kd.R_lower ho0 (below_size (by repeat (first | (with_reducible first | exact HB.out | apply below_alloc | apply pw_below_drewN | apply below_drew1) | exact HB.out))))
    have n1_ := Aside0.mk (below_step (by repeat (first | (with_reducible first | exact HB.out | apply below_alloc | apply pw_below_drewN | apply below_drew1) | exact HB.out)) hb)
    clear HB
    have HO246 := n0_
    have HB := n1_
    clear n0_ n1_
    (try clear hb)
    (try clear hb2)
    (try clear hk)
    (try clear hi)
    (try clear ho0)
    go_wp2_with fail
    (with_reducible refine (laws_FnKernClasses_1.calls kj5 _ _ l1 t247 _ ?side1 ?side2 A11.out).mono ?_)
    (case side1 => repeat (first | exact (Kd.C_below HR1.out HB.out) | (with_reducible refine Kd.C_alloc ?_ _) | (with_reducible refine Kd.C_drewN ?_ _) | (with_reducible refine Kd.C_drew ?_)))
    (case side2 => exact HC1.out)
    rintro e w13 ⟨v248, rfl, ho0, hb⟩
    have n0_ := Aside0.mk (Kd.R_elder' (by (with_reducible repeat (first | apply Kd.R_alloc | apply Kd.R_drewN | apply Kd.R_drew)); exact HO246.out) (Kd.R_base ho0) hb)
    have n1_ := Aside0.mk (Kd.R_lower (Kd.R_new' ho0 (Kd.R_lt (by (with_reducible repeat (first | apply Kd.R_alloc | apply Kd.R_drewN | apply Kd.R_drew)); exact HO246.out))) (below_size (by repeat (first | (with_reducible first | exact HB.out | apply below_alloc | apply pw_below_drewN | apply below_drew1) | exact HB.out))))
    have n2_ := Aside0.mk (below_step (by repeat (first | (with_reducible first | exact HB.out | apply below_alloc | apply pw_below_drewN | apply below_drew1) | exact HB.out)) hb)
    clear HO246
    clear HB
    have HO246 := n0_
    have HO249 := n1_
    have HB := n2_
    clear n0_ n1_ n2_
    (try clear hb)
    (try clear hb2)
    (try clear hk)
    (try clear hi)
    (try clear ho0)
    go_wp2
    go_loopg [14, 15] kj5 (fun kq v14 v15 w' => ∃ (x14_2 : List Int) (x15_2 : Int), v15 = .int .i64 x15_2 ∧ Aside0 (laws_FnKernClasses.l0 kq l2 a3 a4 t244 t247 x14_2 x15_2 = some r) ∧ Aside0 (kq ≤ kj5) ∧ Aside0 (Kd.R k27 27 w' w.heap.size (fun k_ => some k_ ≠ (v248 : Value).ownBlock) v245 t244) ∧ Aside0 (Kd.R k27 27 w' w.heap.size (fun k_ => some k_ ≠ (v245 : Value).ownBlock) v248 t247) ∧ Aside0 (Kd.R (Kd.int .i64) 3 w' w.heap.size (fun _ => True) v14 x14_2) ∧ Aside0 (Below w.heap.size w w'))
    case atStart => exact ⟨(([] : List Int)), (0), (by first | rfl | (simp; done) | (simp [*]; done)), H', ⟨Nat.le_refl _⟩, ⟨by (with_reducible repeat (first | apply Kd.R_alloc | apply Kd.R_drewN | apply Kd.R_drew)); exact Kd.R_mono HO246.out (fun _ hk => hk.2)⟩, ⟨by (with_reducible repeat (first | apply Kd.R_alloc | apply Kd.R_drewN | apply Kd.R_drew)); exact Kd.R_mono HO249.out (fun _ hk => hk.2)⟩, ⟨by first | exact Kd.R_nil _ _ _ _ _ | exact Kd.N_nil _ _ _ _ _ | exact Kd.V_nil _ _ _ _ _ | exact Kd.Q_nil _ _ _ _ _ | exact Kd.S_nil _ _ _ _ _⟩, ⟨by repeat (first | (with_reducible first | exact HB.out | apply below_alloc | apply pw_below_drewN | apply below_drew1) | exact HB.out)⟩⟩
    case round =>
     clear H'
     try clear c1
     try clear c2
     try clear p2
     try clear c3
     try clear c7
     try clear c7b0
     try clear c7b1
     try clear c8
     try clear c8b0
     try clear c8b1
     try clear c9
     try clear p2
     obtain ⟨x14_2, x15_2, rfl, HA, HK2, HO_12, HO_13, HO_14, HB⟩ := hrel
     cases gk with
     | zero => exact absurd HA.out (by simp [laws_FnKernClasses.l0])
     | succ k2 =>
      have H := HA.out
      clear HA
      simp only [laws_FnKernClasses.l0] at H
      have HC14 := Aside0.mk H
      clear H
      go_upto_region 7 with (fail)
      go_cut [44] (fun v44 wc => ∃ (kq : Nat) (x44_13 : Bool), v44 = .bool x44_13 ∧ Aside0 (laws_FnKernClasses.j2 kq l2 a3 a4 t244 t247 x14_2 x15_2 x44_13 = some r) ∧ Aside0 (kq ≤ k2) ∧ Aside0 (Kd.R k27 27 wc w.heap.size (fun k_ => some k_ ≠ (v248 : Value).ownBlock) v245 t244) ∧ Aside0 (Kd.R k27 27 wc w.heap.size (fun k_ => some k_ ≠ (v245 : Value).ownBlock) v248 t247) ∧ Aside0 (Kd.R (Kd.int .i64) 3 wc w.heap.size (fun _ => True) u14 x14_2) ∧ Aside0 (Below w.heap.size w wc))
      case first =>
       have H := HC14.out
       clear HC14
       by_cases c15 : x15_2 < (l2.length : Int)
       ·rw [if_pos c15] at H
        have c15b0 : decide (x15_2 < (l2.length : Int)) = true := decide_eq_true c15
        clear c15
        (first | rw [c15b0] | (simp only [i64_w, i32_w]; rw [c15b0]) | skip)
        have H' := Aside0.mk H
        clear H
        go_wp2
        go_meet
        case rel => exact ⟨_, (decide (x15_2 < 40)), (by first | rfl | (simp; done) | (simp [*]; done)), H', ⟨by have := HJ5.out; have := HK2.out; first | omega | exact Nat.le_refl _⟩, ⟨by (with_reducible repeat (first | apply Kd.R_alloc | apply Kd.R_drewN | apply Kd.R_drew)); exact HO_12.out⟩, ⟨by (with_reducible repeat (first | apply Kd.R_alloc | apply Kd.R_drewN | apply Kd.R_drew)); exact HO_13.out⟩, ⟨by (with_reducible repeat (first | apply Kd.R_alloc | apply Kd.R_drewN | apply Kd.R_drew)); exact HO_14.out⟩, ⟨by repeat (first | (with_reducible first | exact HB.out | apply below_alloc | apply pw_below_drewN | apply below_drew1) | exact HB.out)⟩⟩
       ·rw [if_neg c15] at H
        have c15b0 : decide (x15_2 < (l2.length : Int)) = false := decide_eq_false c15
        clear c15
        (first | rw [c15b0] | (simp only [i64_w, i32_w]; rw [c15b0]) | skip)
        have H' := Aside0.mk H
        clear H
        go_wp2
        go_meet
        case rel => exact ⟨_, (false), (by first | rfl | (simp; done) | (simp [*]; done)), H', ⟨by have := HJ5.out; have := HK2.out; first | omega | exact Nat.le_refl _⟩, ⟨by (with_reducible repeat (first | apply Kd.R_alloc | apply Kd.R_drewN | apply Kd.R_drew)); exact HO_12.out⟩, ⟨by (with_reducible repeat (first | apply Kd.R_alloc | apply Kd.R_drewN | apply Kd.R_drew)); exact HO_13.out⟩, ⟨by (with_reducible repeat (first | apply Kd.R_alloc | apply Kd.R_drewN | apply Kd.R_drew)); exact HO_14.out⟩, ⟨by repeat (first | (with_reducible first | exact HB.out | apply below_alloc | apply pw_below_drewN | apply below_drew1) | exact HB.out)⟩⟩
      case rest =>
       clear HC14
       try clear c1
       try clear c2
       try clear p2
       try clear c3
       try clear c7
       try clear c7b0
       try clear c7b1
       try clear c8
       try clear c8b0
       try clear c8b1
       try clear c9
       try clear c15
       try clear c15b0
       try clear p2
       obtain ⟨kq, x44_13, rfl, HA, HJ13, HO_12, HO_13, HO_14, HB⟩ := hcut
       cases kq with
       | zero => exact absurd HA.out (by simp [laws_FnKernClasses.j2])
       | succ kj13 =>
        have H := HA.out
        clear HA
        simp only [laws_FnKernClasses.j2] at H
        by_cases c16 : x44_13 = true
        ·subst c16
         have H1 : (if 0 ≤ x15_2 then (if x15_2 < (l2.length : Int) then (if x14_2.length < 17592186044416 then (laws_FnKernClasses.l0 kj13 l2 a3 a4 t244 t247 (x14_2 ++ [wrap64 (rd l2 x15_2)]) (wrap64 (x15_2 + 1))) else (none)) else (none)) else (none)) = some r := by rw [if_pos rfl] at H; exact H
         clear H
         have H := H1
         clear H1
         by_cases c17 : 0 ≤ x15_2
         ·rw [if_pos c17] at H
          have c17b0 : decide (0 ≤ x15_2) = true := decide_eq_true c17
          clear c17
          by_cases c18 : x15_2 < (l2.length : Int)
          ·rw [if_pos c18] at H
           have c18b0 : decide (x15_2 < (l2.length : Int)) = true := decide_eq_true c18
           clear c18
           by_cases c19 : x14_2.length < 17592186044416
           ·rw [if_pos c19] at H
            have LMc19 := Aside0.mk c19
            clear c19
            obtain ⟨y251, hy251⟩ : ∃ y_ : List Int, y_ = (x14_2 ++ [wrap64 (rd l2 x15_2)]) := ⟨_, rfl⟩
            replace H : (laws_FnKernClasses.l0 kj13 l2 a3 a4 t244 t247 y251 (wrap64 (x15_2 + 1))) = some r := by first | (rw [hy251]; with_reducible exact H) | (have H2_ := (Option.bind_some _ _).symm.trans H; rw [hy251]; with_reducible exact H2_) | (have H2_ := (Option.bind_some _ _).symm.trans H; with_reducible exact H2_) | with_reducible exact H | (rw [hy251]; exact H) | exact H
            have Ny251 := Aside0.mk hy251
            clear hy251
            have H' := Aside0.mk H
            clear H
            have p250 : 0 ≤ (x15_2 : Int) := of_decide_eq_true (by first | (with_reducible assumption) | assumption)
            have q250 : x15_2 < (l2.length : Int) := of_decide_eq_true (by first | (with_reducible assumption) | assumption)
            obtain ⟨ad250, e250, hx250_0⟩ := Kd.at_int HR2.out x15_2 p250 q250
            cases e250
            replace hx250_0 := (HB.out.cell (World.block_lt_of_cell? w _ hx250_0)).trans hx250_0
            replace p250 := eq_true p250
            replace q250 := eq_true q250
            go_wp2_with (first | ((with_reducible refine gate_builtin (b := .append) (xs := #[.tmp 47, .tmp 53]) rfl ?_); (try (refine gate_guard (by rfl) ?_; dsimp only)); at_builtin; refine Kd.R_append (Kd.int .i64) (w0 := w) w.heap.size rfl (.tmp 47) (.tmp 53) 29 3 (.int .i64 0) 8 rfl Try.underlying29 info3 rfl (by decide) (by omega) u14 x14_2 (wrap64 (rd l2 x15_2)) [.int .i64 (wrap64 (rd l2 x15_2))] (fun _ => True) (fun _ => False) rfl rfl ?aP (fun _ hk => hk.elim) ?aF ?aO ?aB ?aS ?aL ?_; (case aP => exact rfl); (case aB => exact (by repeat (first | (with_reducible first | exact HB.out | apply below_alloc | apply pw_below_drewN | apply below_drew1) | exact HB.out))); (case aF => exact (fun _ _ => trivial)); (case aO => exact (by (with_reducible repeat (first | apply Kd.R_alloc | apply Kd.R_drewN | apply Kd.R_drew)); exact HO_14.out)); (case aS => exact (below_size (by repeat (first | (with_reducible first | exact HB.out | apply below_alloc | apply pw_below_drewN | apply below_drew1) | exact HB.out)))); (case aL => have := LMc19.out; omega); intro v252 w20 ho hb hg hat; rw [← Ny251.out] at ho; have n0_ := Aside0.mk (Kd.R_over' (by (with_reducible repeat (first | apply Kd.R_alloc | apply Kd.R_drewN | apply Kd.R_drew)); exact HO_12.out) (Kd.R_typed (by (with_reducible repeat (first | apply Kd.R_alloc | apply Kd.R_drewN | apply Kd.R_drew)); exact HO_14.out)) (by decide) hg); have n1_ := Aside0.mk (Kd.R_over' (by (with_reducible repeat (first | apply Kd.R_alloc | apply Kd.R_drewN | apply Kd.R_drew)); exact HO_13.out) (Kd.R_typed (by (with_reducible repeat (first | apply Kd.R_alloc | apply Kd.R_drewN | apply Kd.R_drew)); exact HO_14.out)) (by decide) hg); have n2_ := Aside0.mk (hb); have n3_ := Aside0.mk (ho); clear HO_12; clear HO_13; clear HB; clear HO_14; have HO_12 := n0_; have HO_13 := n1_; have HB := n2_; have HO253 := n3_; clear n0_ n1_ n2_ n3_; clear ho hb hg hat))
            go_roundg kj13
            case measure => have := HJ5.out; have := HK2.out; have := HJ13.out; omega
            case rel => exact ⟨(y251), (wrap64 (x15_2 + 1)), (by first | rfl | (simp; done) | (simp [*]; done)), H', ⟨by have := HJ5.out; have := HK2.out; have := HJ13.out; omega⟩, ⟨by (with_reducible repeat (first | apply Kd.R_alloc | apply Kd.R_drewN | apply Kd.R_drew)); exact HO_12.out⟩, ⟨by (with_reducible repeat (first | apply Kd.R_alloc | apply Kd.R_drewN | apply Kd.R_drew)); exact HO_13.out⟩, ⟨by (with_reducible repeat (first | apply Kd.R_alloc | apply Kd.R_drewN | apply Kd.R_drew)); exact HO253.out⟩, ⟨by repeat (first | (with_reducible first | exact HB.out | apply below_alloc | apply pw_below_drewN | apply below_drew1) | exact HB.out)⟩⟩
           ·rw [if_neg c19] at H
            exact absurd H (by simp)
          ·rw [if_neg c18] at H
           exact absurd H (by simp)
         ·rw [if_neg c17] at H
          exact absurd H (by simp)
        ·replace c16 := Bool.eq_false_iff.mpr c16
         subst c16
         have H1 : ((spec_AatClass.f kj13 t244 (wrap64 (Int.tmod a3 12)) 0).bind fun t254 => ((spec_AatClass.f kj13 t247 (wrap64 (Int.tmod a4 12)) 0).bind fun t255 => (if (wrap64 (t254 + t255)) < (x14_2.length : Int) then (if 0 ≤ (wrap64 (t254 + t255)) then (laws_FnKernClasses.j3 kj13 a3 a4 t244 t247 x14_2 (rd x14_2 (wrap64 (t254 + t255)))) else (none)) else (laws_FnKernClasses.j3 kj13 a3 a4 t244 t247 x14_2 0)))) = some r := by rw [if_neg (show ¬ (false = true) by decide)] at H; exact H
         clear H
         have H := H1
         clear H1
         replace H := Option.bind_eq_some_iff.mp H
         obtain ⟨t254, A210, H⟩ := H
         replace H : ((spec_AatClass.f kj13 t247 (wrap64 (Int.tmod a4 12)) 0).bind fun t255 => (if (wrap64 (t254 + t255)) < (x14_2.length : Int) then (if 0 ≤ (wrap64 (t254 + t255)) then (laws_FnKernClasses.j3 kj13 a3 a4 t244 t247 x14_2 (rd x14_2 (wrap64 (t254 + t255)))) else (none)) else (laws_FnKernClasses.j3 kj13 a3 a4 t244 t247 x14_2 0))) = some r := H
         have A21 := Aside0.mk A210
         clear A210
         replace H := Option.bind_eq_some_iff.mp H
         obtain ⟨t255, A220, H⟩ := H
         replace H : (if (wrap64 (t254 + t255)) < (x14_2.length : Int) then (if 0 ≤ (wrap64 (t254 + t255)) then (laws_FnKernClasses.j3 kj13 a3 a4 t244 t247 x14_2 (rd x14_2 (wrap64 (t254 + t255)))) else (none)) else (laws_FnKernClasses.j3 kj13 a3 a4 t244 t247 x14_2 0)) = some r := H
         have A22 := Aside0.mk A220
         clear A220
         have HC23 := Aside0.mk H
         clear H
         obtain ⟨Ao24, co24, eo24⟩ := Kd.R_slice HO_12.out
         subst eo24
         go_upto_if 69 with (first | ((with_reducible refine gate_callee (f := 9) rfl ?_); refine goesL_ (some 59) rfl rfl Try.func9 (by kernel_rfl) rfl #[.slice Ao24 t244.length co24, .int .i64 (wrap64 (Int.tmod a3 12)), .int .i64 0] rfl (by (try simp only [List.map_toArray, List.map_cons, List.map_nil]); first | done | rfl | (simp only [List.length_drop, List.length_take]; rfl)) ?_; (with_reducible refine (spec_AatClass.calls kj13 _ _ t244 (wrap64 (Int.tmod a3 12)) 0 t254 _ ?side1 ?side2 A21.out).mono ?_); (case side1 => repeat (first | exact (Kd.R_reads' HO_12.out).2.2 | (with_reducible refine Kd.C_alloc ?_ _) | (with_reducible refine Kd.C_drewN ?_ _) | (with_reducible refine Kd.C_drew ?_))); (case side2 => exact (Kd.R_reads' HO_12.out).2.1); rintro e w25 ⟨rfl, hb⟩; refine ⟨_, rfl, ?_⟩; have n0_ := Aside0.mk (Kd.R_below (by (with_reducible repeat (first | apply Kd.R_alloc | apply Kd.R_drewN | apply Kd.R_drew)); exact HO_12.out) hb); have n1_ := Aside0.mk (Kd.R_below (by (with_reducible repeat (first | apply Kd.R_alloc | apply Kd.R_drewN | apply Kd.R_drew)); exact HO_13.out) hb); have n2_ := Aside0.mk (Kd.R_below (by (with_reducible repeat (first | apply Kd.R_alloc | apply Kd.R_drewN | apply Kd.R_drew)); exact HO_14.out) hb); have n3_ := Aside0.mk (below_step (by repeat (first | (with_reducible first | exact HB.out | apply below_alloc | apply pw_below_drewN | apply below_drew1) | exact HB.out)) hb); clear HO_12; clear HO_13; clear HO_14; clear HB; have HO_12 := n0_; have HO_13 := n1_; have HO_14 := n2_; have HB := n3_; clear n0_ n1_ n2_ n3_; (try clear hb); (try clear hb2); (try clear hk); (try clear hi); obtain ⟨Ao26, co26, eo26⟩ := Kd.R_slice HO_13.out; subst eo26) | ((with_reducible refine gate_callee (f := 9) rfl ?_); refine goesL_ (some 64) rfl rfl Try.func9 (by kernel_rfl) rfl #[.slice Ao26 t247.length co26, .int .i64 (wrap64 (Int.tmod a4 12)), .int .i64 0] rfl (by (try simp only [List.map_toArray, List.map_cons, List.map_nil]); first | done | rfl | (simp only [List.length_drop, List.length_take]; rfl)) ?_; (with_reducible refine (spec_AatClass.calls kj13 _ _ t247 (wrap64 (Int.tmod a4 12)) 0 t255 _ ?side1 ?side2 A22.out).mono ?_); (case side1 => repeat (first | exact (Kd.R_reads' HO_13.out).2.2 | (with_reducible refine Kd.C_alloc ?_ _) | (with_reducible refine Kd.C_drewN ?_ _) | (with_reducible refine Kd.C_drew ?_))); (case side2 => exact (Kd.R_reads' HO_13.out).2.1); rintro e w27 ⟨rfl, hb⟩; refine ⟨_, rfl, ?_⟩; have n0_ := Aside0.mk (Kd.R_below (by (with_reducible repeat (first | apply Kd.R_alloc | apply Kd.R_drewN | apply Kd.R_drew)); exact HO_12.out) hb); have n1_ := Aside0.mk (Kd.R_below (by (with_reducible repeat (first | apply Kd.R_alloc | apply Kd.R_drewN | apply Kd.R_drew)); exact HO_13.out) hb); have n2_ := Aside0.mk (Kd.R_below (by (with_reducible repeat (first | apply Kd.R_alloc | apply Kd.R_drewN | apply Kd.R_drew)); exact HO_14.out) hb); have n3_ := Aside0.mk (below_step (by repeat (first | (with_reducible first | exact HB.out | apply below_alloc | apply pw_below_drewN | apply below_drew1) | exact HB.out)) hb); clear HO_12; clear HO_13; clear HO_14; clear HB; have HO_12 := n0_; have HO_13 := n1_; have HO_14 := n2_; have HB := n3_; clear n0_ n1_ n2_ n3_; (try clear hb); (try clear hb2); (try clear hk); (try clear hi); obtain ⟨Ao28, co28, eo28⟩ := Kd.R_slice HO_14.out; subst eo28))
         (try simp only [Act.put, L1_, L2_, L3_])
         go_cut [16] (fun v16 wc => ∃ (kq : Nat) (x16_22 : Int), v16 = .int .i64 x16_22 ∧ Aside0 (laws_FnKernClasses.j3 kq a3 a4 t244 t247 x14_2 x16_22 = some r) ∧ Aside0 (kq ≤ kj13) ∧ Aside0 (Kd.R k27 27 wc w.heap.size (fun k_ => some k_ ≠ ((.slice Ao26 t247.length co26) : Value).ownBlock) (.slice Ao24 t244.length co24) t244) ∧ Aside0 (Kd.R k27 27 wc w.heap.size (fun k_ => some k_ ≠ ((.slice Ao24 t244.length co24) : Value).ownBlock) (.slice Ao26 t247.length co26) t247) ∧ Aside0 (Kd.R (Kd.int .i64) 3 wc w.heap.size (fun _ => True) (.slice Ao28 x14_2.length co28) x14_2) ∧ Aside0 (Below w.heap.size w wc))
         case first =>
          have H := HC23.out
          clear HC23
          by_cases c29 : (wrap64 (t254 + t255)) < (x14_2.length : Int)
          ·rw [if_pos c29] at H
           have c29b0 : decide ((wrap64 (t254 + t255)) < (x14_2.length : Int)) = true := decide_eq_true c29
           clear c29
           (first | rw [c29b0] | (simp only [i64_w, i32_w]; rw [c29b0]) | skip)
           obtain ⟨ji30, hji30⟩ : ∃ j_ : Int, (wrap64 (t254 + t255)) = j_ := ⟨_, rfl⟩
           replace H : (if 0 ≤ (ji30) then (laws_FnKernClasses.j3 kj13 a3 a4 t244 t247 x14_2 (rd x14_2 (ji30))) else (none)) = some r := by first | (rw [hji30] at H; exact H) | (simp only [hji30] at H ⊢; exact H)
           (try rw [hji30] at c29b0)
           have hji30w : (IntKind.i64.wrap (t254 + t255)) = ji30 := (i64_w _).trans hji30
           by_cases c31 : 0 ≤ (ji30)
           ·rw [if_pos c31] at H
            have c31b0 : decide (0 ≤ (ji30)) = true := decide_eq_true c31
            clear c31
            have H' := Aside0.mk H
            clear H
            have p256 : 0 ≤ ((ji30) : Int) := of_decide_eq_true (by first | (with_reducible assumption) | assumption)
            have q256 : (ji30) < (x14_2.length : Int) := of_decide_eq_true (by first | (with_reducible assumption) | assumption)
            obtain ⟨ad256, e256, hx256_0⟩ := Kd.at_int (Kd.R_reads' HO_14.out).2.2 (ji30) p256 q256
            cases e256
            replace p256 := eq_true p256
            replace q256 := eq_true q256
            go_wp2
            go_meet
            case rel => exact ⟨_, (rd x14_2 (ji30)), (by first | rfl | (simp; done) | (simp only [← hji30] <;> (first | rfl | simp)) | (simp [*]; done)), H', ⟨by have := HJ5.out; have := HK2.out; have := HJ13.out; first | omega | exact Nat.le_refl _⟩, ⟨by (with_reducible repeat (first | apply Kd.R_alloc | apply Kd.R_drewN | apply Kd.R_drew)); exact HO_12.out⟩, ⟨by (with_reducible repeat (first | apply Kd.R_alloc | apply Kd.R_drewN | apply Kd.R_drew)); exact HO_13.out⟩, ⟨by (with_reducible repeat (first | apply Kd.R_alloc | apply Kd.R_drewN | apply Kd.R_drew)); exact HO_14.out⟩, ⟨by repeat (first | (with_reducible first | exact HB.out | apply below_alloc | apply pw_below_drewN | apply below_drew1) | exact HB.out)⟩⟩
           ·rw [if_neg c31] at H
            exact absurd H (by simp)
          ·rw [if_neg c29] at H
           have c29b0 : decide ((wrap64 (t254 + t255)) < (x14_2.length : Int)) = false := decide_eq_false c29
           clear c29
           (first | rw [c29b0] | (simp only [i64_w, i32_w]; rw [c29b0]) | skip)
           have H' := Aside0.mk H
           clear H
           go_wp2
           go_meet
           case rel => exact ⟨_, (0), (by first | rfl | (simp; done) | (simp [*]; done)), H', ⟨by have := HJ5.out; have := HK2.out; have := HJ13.out; first | omega | exact Nat.le_refl _⟩, ⟨by (with_reducible repeat (first | apply Kd.R_alloc | apply Kd.R_drewN | apply Kd.R_drew)); exact HO_12.out⟩, ⟨by (with_reducible repeat (first | apply Kd.R_alloc | apply Kd.R_drewN | apply Kd.R_drew)); exact HO_13.out⟩, ⟨by (with_reducible repeat (first | apply Kd.R_alloc | apply Kd.R_drewN | apply Kd.R_drew)); exact HO_14.out⟩, ⟨by repeat (first | (with_reducible first | exact HB.out | apply below_alloc | apply pw_below_drewN | apply below_drew1) | exact HB.out)⟩⟩
         case rest =>
          clear HC23
          try clear c1
          try clear c2
          try clear p2
          try clear q2
          try clear hx2
          try clear c3
          try clear p6
          try clear c7
          try clear c7b0
          try clear c7b1
          try clear c8
          try clear c8b0
          try clear c8b1
          try clear c9
          try clear c15
          try clear c15b0
          try clear c16
          try clear c17
          try clear c17b0
          try clear c18
          try clear c18b0
          try clear c19
          try clear p25
          try clear q25
          try clear hx25
          try clear c29
          try clear c29b0
          try clear c31
          try clear c31b0
          try clear hx250_0
          try clear hx256_0
          try clear p2
          try clear p250
          try clear p256
          try clear q250
          try clear q256
          obtain ⟨kq, x16_22, rfl, HA, HJ22, HO_12, HO_13, HO_14, HB⟩ := hcut
          cases kq with
          | zero => exact absurd HA.out (by simp [laws_FnKernClasses.j3])
          | succ kj22 =>
           have H := HA.out
           clear HA
           simp only [laws_FnKernClasses.j3] at H
           replace H := Option.bind_eq_some_iff.mp H
           obtain ⟨t257, A320, H⟩ := H
           replace H : (if t257 = x16_22 then ((impl_KernClasses.f kj22 ([] : List (S27)) ([] : List (S27)) (([7] : List Int)) 1 1).bind fun t261 => (some (t261 == 7))) else (some false)) = some r := H
           have A32 := Aside0.mk A320
           clear A320
           by_cases c33 : t257 = x16_22
           ·rw [if_pos c33] at H
            have c33b0 : (t257 == x16_22) = true := beq_iff_eq.mpr c33
            have c33b1 : (t257 != x16_22) = false := bne_eq_false_iff_eq.mpr c33
            clear c33
            obtain ⟨y258, hy258⟩ : ∃ y_ : List Int, y_ = (([7] : List Int)) := ⟨_, rfl⟩
            replace H : ((impl_KernClasses.f kj22 ([] : List (S27)) ([] : List (S27)) y258 1 1).bind fun t261 => (some (t261 == 7))) = some r := by first | (rw [hy258]; with_reducible exact H) | (have H2_ := (Option.bind_some _ _).symm.trans H; rw [hy258]; with_reducible exact H2_) | (have H2_ := (Option.bind_some _ _).symm.trans H; with_reducible exact H2_) | with_reducible exact H | (rw [hy258]; exact H) | exact H
            have Ny258 := Aside0.mk hy258
            clear hy258
            replace H := Option.bind_eq_some_iff.mp H
            obtain ⟨t261, A340, H⟩ := H
            replace H : (some (t261 == 7)) = some r := H
            have A34 := Aside0.mk A340
            clear A340
            obtain rfl := Option.some.inj H
            go_wp2_with (first | ((with_reducible refine gate_callee (f := 10) rfl ?_); refine goesL_ (some 83) rfl rfl Try.func10 (by kernel_rfl) rfl #[.slice Ao24 t244.length co24, .slice Ao26 t247.length co26, .slice Ao28 x14_2.length co28, .int .i64 (wrap64 (Int.tmod a3 12)), .int .i64 (wrap64 (Int.tmod a4 12))] rfl (by (try simp only [List.map_toArray, List.map_cons, List.map_nil]); first | done | rfl | (simp only [List.length_drop, List.length_take]; rfl)) ?_; (with_reducible refine (impl_KernClasses.calls kj22 _ _ t244 _ _ t247 _ _ x14_2 (wrap64 (Int.tmod a3 12)) (wrap64 (Int.tmod a4 12)) t257 _ ?side1 ?side2 ?side3 ?side4 ?side5 ?side6 A32.out).mono ?_); (case side1 => repeat (first | exact (Kd.R_reads' HO_12.out).2.2 | (with_reducible refine Kd.C_alloc ?_ _) | (with_reducible refine Kd.C_drewN ?_ _) | (with_reducible refine Kd.C_drew ?_))); (case side2 => exact (Kd.R_reads' HO_12.out).2.1); (case side3 => repeat (first | exact (Kd.R_reads' HO_13.out).2.2 | (with_reducible refine Kd.C_alloc ?_ _) | (with_reducible refine Kd.C_drewN ?_ _) | (with_reducible refine Kd.C_drew ?_))); (case side4 => exact (Kd.R_reads' HO_13.out).2.1); (case side5 => repeat (first | exact (Kd.R_reads' HO_14.out).2.2 | (with_reducible refine Kd.C_alloc ?_ _) | (with_reducible refine Kd.C_drewN ?_ _) | (with_reducible refine Kd.C_drew ?_))); (case side6 => exact (Kd.R_reads' HO_14.out).2.1); rintro e w35 ⟨rfl, hb⟩; refine ⟨_, rfl, ?_⟩; have n0_ := Aside0.mk (Kd.R_below (by (with_reducible repeat (first | apply Kd.R_alloc | apply Kd.R_drewN | apply Kd.R_drew)); exact HO_12.out) hb); have n1_ := Aside0.mk (Kd.R_below (by (with_reducible repeat (first | apply Kd.R_alloc | apply Kd.R_drewN | apply Kd.R_drew)); exact HO_13.out) hb); have n2_ := Aside0.mk (Kd.R_below (by (with_reducible repeat (first | apply Kd.R_alloc | apply Kd.R_drewN | apply Kd.R_drew)); exact HO_14.out) hb); have n3_ := Aside0.mk (below_step (by repeat (first | (with_reducible first | exact HB.out | apply below_alloc | apply pw_below_drewN | apply below_drew1) | exact HB.out)) hb); clear HO_12; clear HO_13; clear HO_14; clear HB; have HO_12 := n0_; have HO_13 := n1_; have HO_14 := n2_; have HB := n3_; clear n0_ n1_ n2_ n3_; (try clear hb); (try clear hb2); (try clear hk); (try clear hi)) | ((with_reducible refine gate_dst (N := 87) rfl ?_); (try (refine gate_guard (by rfl) ?_; dsimp only)); refine Kd.R_lit (Kd.int .i64) _ 3 ?hg (N := 87) ?hd (xs := ([7] : List Int)) (inner := [.int .i64 7]) (ok := fun _ => True) (okp := fun _ => True) ?hr ?hp (fun _ hk => hk) trivial (Below.refl _ _) (Nat.le_refl _) (by simp) ?_; (case hd => rfl); (case hg => rfl); (case hr => first | (go_simp; done) | (go_simp; rfl)); (case hp => exact (Reps.one (show Kd.M (Kd.int .i64) _ _ _ 7 [.int .i64 7] from rfl) (Reps.none _ _))); intro v259 w36 ho37 hb hg_ hnew_; clear hg_ hnew_; (first | rw [← Ny258.out] at ho37 | (simp only [Int.reduceToNat] at ho37; rw [← Ny258.out] at ho37)); have n0_ := Aside0.mk (Kd.R_below (by (with_reducible repeat (first | apply Kd.R_alloc | apply Kd.R_drewN | apply Kd.R_drew)); exact HO_12.out) hb); have n1_ := Aside0.mk (Kd.R_below (by (with_reducible repeat (first | apply Kd.R_alloc | apply Kd.R_drewN | apply Kd.R_drew)); exact HO_13.out) hb); have n2_ := Aside0.mk (Kd.R_elder' (by (with_reducible repeat (first | apply Kd.R_alloc | apply Kd.R_drewN | apply Kd.R_drew)); exact HO_14.out) (Kd.R_base ho37) hb); have n3_ := Aside0.mk (Kd.R_lower (Kd.R_new' ho37 (Kd.R_lt (by (with_reducible repeat (first | apply Kd.R_alloc | apply Kd.R_drewN | apply Kd.R_drew)); exact HO_14.out))) (below_size (by repeat (first | (with_reducible first | exact HB.out | apply below_alloc | apply pw_below_drewN | apply below_drew1) | exact HB.out)))); have n4_ := Aside0.mk (below_step (by repeat (first | (with_reducible first | exact HB.out | apply below_alloc | apply pw_below_drewN | apply below_drew1) | exact HB.out)) hb); clear HO_12; clear HO_13; clear HO_14; clear HB; have HO_12 := n0_; have HO_13 := n1_; have HO_14 := n2_; have HO260 := n3_; have HB := n4_; clear n0_ n1_ n2_ n3_ n4_; clear hb ho37; obtain ⟨Ao38, co38, eo38⟩ := Kd.R_slice HO260.out; subst eo38) | (go_at_call 10; (refine (impl_KernClasses.calls kj22 _ _ ([] : List (S27)) _ _ ([] : List (S27)) _ _ y258 1 1 t261 _ ?side1 ?side2 ?side3 ?side4 ?side5 ?side6 A34.out).mono ?_); (case side1 => exact Kd.C_nil _ _); (case side2 => exact Nat.le_refl _); (case side3 => exact Kd.C_nil _ _); (case side4 => exact Nat.le_refl _); (case side5 => repeat (first | exact (Kd.R_reads' HO260.out).2.2 | (with_reducible refine Kd.C_alloc ?_ _) | (with_reducible refine Kd.C_drewN ?_ _) | (with_reducible refine Kd.C_drew ?_))); (case side6 => exact (Kd.R_reads' HO260.out).2.1); rintro e w39 ⟨rfl, hb⟩; have n0_ := Aside0.mk (Kd.R_below (by (with_reducible repeat (first | apply Kd.R_alloc | apply Kd.R_drewN | apply Kd.R_drew)); exact HO_12.out) hb); have n1_ := Aside0.mk (Kd.R_below (by (with_reducible repeat (first | apply Kd.R_alloc | apply Kd.R_drewN | apply Kd.R_drew)); exact HO_13.out) hb); have n2_ := Aside0.mk (Kd.R_below (by (with_reducible repeat (first | apply Kd.R_alloc | apply Kd.R_drewN | apply Kd.R_drew)); exact HO_14.out) hb); have n3_ := Aside0.mk (Kd.R_below (by (with_reducible repeat (first | apply Kd.R_alloc | apply Kd.R_drewN | apply Kd.R_drew)); exact HO260.out) hb); have n4_ := Aside0.mk (below_step (by repeat (first | (with_reducible first | exact HB.out | apply below_alloc | apply pw_below_drewN | apply below_drew1) | exact HB.out)) hb); clear HO_12; clear HO_13; clear HO_14; clear HO260; clear HB; have HO_12 := n0_; have HO_13 := n1_; have HO_14 := n2_; have HO260 := n3_; have HB := n4_; clear n0_ n1_ n2_ n3_ n4_; (try clear hb); (try clear hb2); (try clear hk); (try clear hi)))
            go_ret
            exact ⟨by first | rfl | (simp [errW_none, errW_some] <;> rfl) | (simp [*, errW_none, errW_some] <;> rfl), by repeat (first | (with_reducible first | exact HB.out | apply below_alloc | apply pw_below_drewN | apply below_drew1) | exact HB.out)⟩
           ·rw [if_neg c33] at H
            have c33b0 : (t257 == x16_22) = false := beq_eq_false_iff_ne.mpr c33
            have c33b1 : (t257 != x16_22) = true := bne_iff_ne.mpr c33
            obtain rfl := Option.some.inj H
            go_wp2_with (first | ((with_reducible refine gate_callee (f := 10) rfl ?_); refine goesL_ (some 83) rfl rfl Try.func10 (by kernel_rfl) rfl #[.slice Ao24 t244.length co24, .slice Ao26 t247.length co26, .slice Ao28 x14_2.length co28, .int .i64 (wrap64 (Int.tmod a3 12)), .int .i64 (wrap64 (Int.tmod a4 12))] rfl (by (try simp only [List.map_toArray, List.map_cons, List.map_nil]); first | done | rfl | (simp only [List.length_drop, List.length_take]; rfl)) ?_; (with_reducible refine (impl_KernClasses.calls kj22 _ _ t244 _ _ t247 _ _ x14_2 (wrap64 (Int.tmod a3 12)) (wrap64 (Int.tmod a4 12)) t257 _ ?side1 ?side2 ?side3 ?side4 ?side5 ?side6 A32.out).mono ?_); (case side1 => repeat (first | exact (Kd.R_reads' HO_12.out).2.2 | (with_reducible refine Kd.C_alloc ?_ _) | (with_reducible refine Kd.C_drewN ?_ _) | (with_reducible refine Kd.C_drew ?_))); (case side2 => exact (Kd.R_reads' HO_12.out).2.1); (case side3 => repeat (first | exact (Kd.R_reads' HO_13.out).2.2 | (with_reducible refine Kd.C_alloc ?_ _) | (with_reducible refine Kd.C_drewN ?_ _) | (with_reducible refine Kd.C_drew ?_))); (case side4 => exact (Kd.R_reads' HO_13.out).2.1); (case side5 => repeat (first | exact (Kd.R_reads' HO_14.out).2.2 | (with_reducible refine Kd.C_alloc ?_ _) | (with_reducible refine Kd.C_drewN ?_ _) | (with_reducible refine Kd.C_drew ?_))); (case side6 => exact (Kd.R_reads' HO_14.out).2.1); rintro e w40 ⟨rfl, hb⟩; refine ⟨_, rfl, ?_⟩; have n0_ := Aside0.mk (Kd.R_below (by (with_reducible repeat (first | apply Kd.R_alloc | apply Kd.R_drewN | apply Kd.R_drew)); exact HO_12.out) hb); have n1_ := Aside0.mk (Kd.R_below (by (with_reducible repeat (first | apply Kd.R_alloc | apply Kd.R_drewN | apply Kd.R_drew)); exact HO_13.out) hb); have n2_ := Aside0.mk (Kd.R_below (by (with_reducible repeat (first | apply Kd.R_alloc | apply Kd.R_drewN | apply Kd.R_drew)); exact HO_14.out) hb); have n3_ := Aside0.mk (below_step (by repeat (first | (with_reducible first | exact HB.out | apply below_alloc | apply pw_below_drewN | apply below_drew1) | exact HB.out)) hb); clear HO_12; clear HO_13; clear HO_14; clear HB; have HO_12 := n0_; have HO_13 := n1_; have HO_14 := n2_; have HB := n3_; clear n0_ n1_ n2_ n3_; (try clear hb); (try clear hb2); (try clear hk); (try clear hi)))
            go_ret
            exact ⟨by first | rfl | (simp [errW_none, errW_some] <;> rfl) | (simp [*, errW_none, errW_some] <;> rfl), by repeat (first | (with_reducible first | exact HB.out | apply below_alloc | apply pw_below_drewN | apply below_drew1) | exact HB.out)⟩

/-- THE ONE PURE STATEMENT of laws_FnKernClasses: yours. -/
def laws_FnKernClasses.Pure : Prop := ∀ (l0 : List Int) (l1 : List Int) (l2 : List Int) (a3 : Int) (a4 : Int), l0.length ≤ maxLen → l0.length * 1 ≤ 140737488351232 → (∀ x ∈ l0, (Lit.int .u8 x).wf = true) → l1.length ≤ maxLen → l1.length * 1 ≤ 140737488351232 → (∀ x ∈ l1, (Lit.int .u8 x).wf = true) → l2.length ≤ maxLen → l2.length * 2 ≤ 140737488351232 → (∀ x ∈ l2, (Lit.int .i16 x).wf = true) → (Lit.int .u8 a3).wf = true → (Lit.int .u8 a4).wf = true → ∃ k, laws_FnKernClasses.f k l0 l1 l2 a3 a4 = some true
theorem laws_FnKernClasses.walk (P : laws_FnKernClasses.Pure) (a0 : Option Addr) (len0 cap0 : Nat) (z0 : List Int) (a1 : Option Addr) (len1 cap1 : Nat) (z1 : List Int) (a2 : Option Addr) (len2 cap2 : Nat) (z2 : List Int) (a3 : Int) (a4 : Int) (w : World) (w0 : (a0 = none ∧ len0 = 0 ∧ cap0 = 0 ∧ z0 = []) ∨ ∃ x, a0 = some x ∧ len0 ≤ cap0 ∧ cap0 ≤ maxLen ∧ z0.length = cap0 ∧ (∀ i, i < z0.length → w.cell? (x.add i) = some (.int .u8 (z0.getD i 0))) ∧ ∀ n ∈ z0, (Lit.int .u8 n).wf = true) (y0 : len0 * 1 ≤ 140737488351232) (w1 : (a1 = none ∧ len1 = 0 ∧ cap1 = 0 ∧ z1 = []) ∨ ∃ x, a1 = some x ∧ len1 ≤ cap1 ∧ cap1 ≤ maxLen ∧ z1.length = cap1 ∧ (∀ i, i < z1.length → w.cell? (x.add i) = some (.int .u8 (z1.getD i 0))) ∧ ∀ n ∈ z1, (Lit.int .u8 n).wf = true) (y1 : len1 * 1 ≤ 140737488351232) (w2 : (a2 = none ∧ len2 = 0 ∧ cap2 = 0 ∧ z2 = []) ∨ ∃ x, a2 = some x ∧ len2 ≤ cap2 ∧ cap2 ≤ maxLen ∧ z2.length = cap2 ∧ (∀ i, i < z2.length → w.cell? (x.add i) = some (.int .i16 (z2.getD i 0))) ∧ ∀ n ∈ z2, (Lit.int .i16 n).wf = true) (y2 : len2 * 2 ≤ 140737488351232) (w3 : (Lit.int .u8 a3).wf = true) (w4 : (Lit.int .u8 a4).wf = true) :
  Calls Try.prog 3 #[.slice a0 len0 cap0, .slice a1 len1 cap1, .slice a2 len2 cap2, .int .u8 a3, .int .u8 a4] w fun e w' => e = .returned (.bool true) ∧ Below w.heap.size w w' := by
 obtain ⟨l0, rfl, hr0, hm0, hw0, hc0⟩ := ReadsInt.ofRowC w0
 obtain ⟨l1, rfl, hr1, hm1, hw1, hc1⟩ := ReadsInt.ofRowC w1
 obtain ⟨l2, rfl, hr2, hm2, hw2, hc2⟩ := ReadsInt.ofRowC w2
 obtain ⟨k, h⟩ := P l0 l1 l2 a3 a4 hm0 y0 hw0 hm1 y1 hw1 hm2 y2 hw2 w3 w4
 refine (laws_FnKernClasses.calls k _ _ l0 _ _ l1 _ _ l2 a3 a4 true w (Kd.C_of_reads (d := (0 : Int)) (h1 := fun _ => rfl) hr0) hc0 (Kd.C_of_reads (d := (0 : Int)) (h1 := fun _ => rfl) hr1) hc1 (Kd.C_of_reads (d := (0 : Int)) (h1 := fun _ => rfl) hr2) hc2 h).mono ?_
 rintro e w' ⟨rfl, hd⟩
 exact ⟨rfl, hd⟩

end Go.Proofs.Ytchkmmbedgolbaa.PFnKernClasses
