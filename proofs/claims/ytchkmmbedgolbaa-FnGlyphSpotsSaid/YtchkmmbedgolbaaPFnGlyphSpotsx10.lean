-- Written by a program of this session (xprint) out of the translation; Lean checks it.
import Derived.Test.YtchkmmbedgolbaaPFnGlyphSpotsx0
import Derived.Test.YtchkmmbedgolbaaPFnGlyphSpotsx1
import Derived.Test.YtchkmmbedgolbaaPFnGlyphSpotsx2
import Derived.Test.YtchkmmbedgolbaaPFnGlyphSpotsx7
import Derived.Test.YtchkmmbedgolbaaPFnGlyphSpotsx8
import Derived.Test.YtchkmmbedgolbaaPFnGlyphSpotsx9
namespace Go.Proofs.Ytchkmmbedgolbaa.PFnGlyphSpots
open Go.RowKit Go.Proofs.YtchkmmbedgolbaaW.PrintWords Go.Proofs.YtchkmmbedgolbaaW.PrintLast Go.Proofs.YtchkmmbedgolbaaW.PrintMore
attribute [local go_sem] max2_int min2_int max_two min_two max_three min_three max_four min_four   -- for this text's walks alone
set_option linter.unusedVariables false
set_option linter.unusedSimpArgs false

attribute [local go_sem high] eqA51
set_option maxHeartbeats 1000000 in
theorem eqA49 (d : Nat) (w : World) (x0 y0 x1 y1 x2 y2 x3 y3 : Int) :
    (Op.equalIn (d + 2) 49 (.agg #[.int .i64 x0, .int .i64 x1, .int .i64 x2, .int .i64 x3]) (.agg #[.int .i64 y0, .int .i64 y1, .int .i64 y2, .int .i64 y3])).run Try.prog w = .ok (x0 == y0 && (x1 == y1 && (x2 == y2 && (x3 == y3)))) w := by
  have hia : ∀ w : World, (isAgg 3).run Try.prog w = .ok false w := fun w => by kernel_rfl
  rw [Op.equalIn]
  simp [go_sem, List.range', hia, Sem.run_bind]
  by_cases h0 : x0 = y0 <;> by_cases h1 : x1 = y1 <;> by_cases h2 : x2 = y2 <;> by_cases h3 : x3 = y3 <;> simp [h0, h1, h2, h3]
attribute [local go_sem high] eqA49
/-! ### impl_Spot_23: function 23 -/
def impl_Spot_23.l0 : Nat → List (S51) → List (S51) → Int → Int → Option (Bool)
 | 0, _, _, _, _ => none
 | k + 1, x0, x1, x12, x13 => if x13 < x12 then (if 0 ≤ x13 then (if x13 < (x0.length : Int) then (if x13 < (x1.length : Int) then (if (!(((rd_T51 x0 x13).f0) == ((rd_T51 x1 x13).f0)) || (!(((rd_T51 x0 x13).f1) == ((rd_T51 x1 x13).f1)) || (!(((rd_T51 x0 x13).f2) == ((rd_T51 x1 x13).f2))))) = true then (some false) else (impl_Spot_23.l0 k x0 x1 x12 (wrap64 (x13 + 1)))) else (none)) else (none)) else (none)) else (some true)
def impl_Spot_23.f (k : Nat) (l0 : List (S51)) (l1 : List (S51)) : Option (Bool) := if (l0.length : Int) = (l1.length : Int) then (impl_Spot_23.l0 k l0 l1 (l0.length : Int) 0) else (some false)
theorem impl_Spot_23.mono_l : ∀ k, (∀ y0 y1 y2 y3, LeO (impl_Spot_23.l0 k y0 y1 y2 y3) (impl_Spot_23.l0 (k + 1) y0 y1 y2 y3))
 | 0 => fun _ _ _ _ r h => by simp [impl_Spot_23.l0] at h
 | k + 1 => by
  have ih0 := impl_Spot_23.mono_l k
  ·intro y0 y1 y2 y3
   unfold impl_Spot_23.l0
   repeat' first
   | (with_reducible exact ih0 _ _ _ _)
   | (with_reducible exact LeO.refl _)
   | (with_reducible exact LeO.none _)
   | (with_reducible refine LeO.ite ?_ ?_)
   | (with_reducible refine LeO.bind ?_ (fun _ => ?_))
   | exact ih0 _ _ _ _
   | exact LeO.none _
   | refine LeO.ite ?_ ?_
   | refine LeO.bind ?_ (fun _ => ?_)
theorem impl_Spot_23.mono : ∀ a0 a1 k, LeO (impl_Spot_23.f k a0 a1) (impl_Spot_23.f (k + 1) a0 a1) := by
 intro a0 a1 k
 have ih0 := impl_Spot_23.mono_l k
 unfold impl_Spot_23.f
 repeat' first
   | (with_reducible exact ih0 _ _ _ _)
   | (with_reducible exact LeO.refl _)
   | (with_reducible exact LeO.none _)
   | (with_reducible refine LeO.ite ?_ ?_)
   | (with_reducible refine LeO.bind ?_ (fun _ => ?_))
   | exact ih0 _ _ _ _
   | exact LeO.none _
   | refine LeO.ite ?_ ?_
   | refine LeO.bind ?_ (fun _ => ?_)
set_option maxHeartbeats 8000000 in
set_option maxRecDepth 100000 in
theorem impl_Spot_23.calls (k : Nat) (A0 : Option Addr) (c0 : Nat) (l0 : List (S51)) (A1 : Option Addr) (c1 : Nat) (l1 : List (S51)) (r : Bool) (w : World) (hr0 : Kd.C k51 w A0 l0.length l0) (hc0 : l0.length ≤ c0) (hr1 : Kd.C k51 w A1 l1.length l1) (hc1 : l1.length ≤ c1) (h : impl_Spot_23.f k l0 l1 = some r) :
  Calls Try.prog 23 #[.slice A0 l0.length c0, .slice A1 l1.length c1] w fun e w' => e = .returned (.bool r) ∧ Drawn0 w w' := by
 have hu51 := Try.underlying51
 have HR0 := Aside0.mk hr0
 have HC0 := Aside0.mk hc0
 clear hr0 hc0
 have HR1 := Aside0.mk hr1
 have HC1 := Aside0.mk hc1
 clear hr1 hc1
 have H : (if (l0.length : Int) = (l1.length : Int) then (impl_Spot_23.l0 k l0 l1 (l0.length : Int) 0) else (some false)) = some r := h
 clear h
 by_cases c3 : (l0.length : Int) = (l1.length : Int)
 ·rw [if_pos c3] at H
  have c3b0 : ((l0.length : Int) == (l1.length : Int)) = true := beq_iff_eq.mpr c3
  have c3b1 : ((l0.length : Int) != (l1.length : Int)) = false := bne_eq_false_iff_eq.mpr c3
  have c3b2 : (l0.length == l1.length) = true := by first | simpa using c3 | (simp at c3 ⊢; omega)
  clear c3
  have H' := Aside0.mk H
  clear H
  go_enter Try.func23, Try.ntmps23
  go_wp2
  repeat (go_quiet (fail); try go_wp2)
  go_loopg [13] k (fun kq v13 w' => ∃ (x13_1 : Int), v13 = .int .i64 x13_1 ∧ Aside0 (impl_Spot_23.l0 kq l0 l1 (l0.length : Int) x13_1 = some r) ∧ Aside0 (kq ≤ k) ∧ Drawn0 w w')
  case atStart => exact ⟨(0), (by first | rfl | (simp; done) | (simp [*]; done)), H', ⟨Nat.le_refl _⟩, by repeat (first | exact Drawn0.refl _ | apply Drawn0.step)⟩
  case round =>
   clear H'
   try clear c1
   try clear c2
   try clear p2
   try clear c3
   try clear c3b0
   try clear c3b1
   try clear c3b2
   obtain ⟨x13_1, rfl, HA, HK1, ⟨m1, rfl⟩⟩ := hrel
   cases gk with
   | zero => exact absurd HA.out (by simp [impl_Spot_23.l0])
   | succ k1 =>
    have H := HA.out
    clear HA
    simp only [impl_Spot_23.l0] at H
    by_cases c4 : x13_1 < (l0.length : Int)
    ·rw [if_pos c4] at H
     have c4b0 : decide (x13_1 < (l0.length : Int)) = true := decide_eq_true c4
     clear c4
     by_cases c5 : 0 ≤ x13_1
     ·rw [if_pos c5] at H
      have c5b0 : decide (0 ≤ x13_1) = true := decide_eq_true c5
      clear c5
      by_cases c6 : x13_1 < (l0.length : Int)
      ·rw [if_pos c6] at H
       have c6b0 : decide (x13_1 < (l0.length : Int)) = true := decide_eq_true c6
       clear c6
       by_cases c7 : x13_1 < (l1.length : Int)
       ·rw [if_pos c7] at H
        have c7b0 : decide (x13_1 < (l1.length : Int)) = true := decide_eq_true c7
        clear c7
        by_cases c8 : (!(((rd_T51 l0 x13_1).f0) == ((rd_T51 l1 x13_1).f0)) || (!(((rd_T51 l0 x13_1).f1) == ((rd_T51 l1 x13_1).f1)) || (!(((rd_T51 l0 x13_1).f2) == ((rd_T51 l1 x13_1).f2))))) = true
        ·rw [if_pos c8] at H
         have c8b0 : (!(((rd_T51 l0 x13_1).f0) == ((rd_T51 l1 x13_1).f0)) || (!(((rd_T51 l0 x13_1).f1) == ((rd_T51 l1 x13_1).f1)) || (!(((rd_T51 l0 x13_1).f2) == ((rd_T51 l1 x13_1).f2))))) = true := c8
         clear c8
         obtain rfl := Option.some.inj H
         have p291 : 0 ≤ (x13_1 : Int) := of_decide_eq_true (by first | (with_reducible assumption) | assumption)
         have q291 : x13_1 < (l0.length : Int) := of_decide_eq_true (by first | (with_reducible assumption) | assumption)
         obtain ⟨ad291, e291, hx291_0, hx291_1, hx291_2⟩ := at_T51 HR0.out x13_1 p291 q291
         cases e291
         replace p291 := eq_true p291
         replace q291 := eq_true q291
         have p292 : 0 ≤ (x13_1 : Int) := of_decide_eq_true (by first | (with_reducible assumption) | assumption)
         have q292 : x13_1 < (l1.length : Int) := of_decide_eq_true (by first | (with_reducible assumption) | assumption)
         obtain ⟨ad292, e292, hx292_0, hx292_1, hx292_2⟩ := at_T51 HR1.out x13_1 p292 q292
         cases e292
         replace p292 := eq_true p292
         replace q292 := eq_true q292
         go_wp2
         repeat (go_quiet (fail); try go_wp2)
         go_ret
         exact ⟨by first | rfl | (simp; done) | (simp [*]; done), by repeat (first | exact Drawn0.refl _ | apply Drawn0.step)⟩
        ·rw [if_neg c8] at H
         have c8b0 : (!(((rd_T51 l0 x13_1).f0) == ((rd_T51 l1 x13_1).f0)) || (!(((rd_T51 l0 x13_1).f1) == ((rd_T51 l1 x13_1).f1)) || (!(((rd_T51 l0 x13_1).f2) == ((rd_T51 l1 x13_1).f2))))) = false := by simpa using c8
         clear c8
         have H' := Aside0.mk H
         clear H
         have p291 : 0 ≤ (x13_1 : Int) := of_decide_eq_true (by first | (with_reducible assumption) | assumption)
         have q291 : x13_1 < (l0.length : Int) := of_decide_eq_true (by first | (with_reducible assumption) | assumption)
         obtain ⟨ad291, e291, hx291_0, hx291_1, hx291_2⟩ := at_T51 HR0.out x13_1 p291 q291
         cases e291
         replace p291 := eq_true p291
         replace q291 := eq_true q291
         have p292 : 0 ≤ (x13_1 : Int) := of_decide_eq_true (by first | (with_reducible assumption) | assumption)
         have q292 : x13_1 < (l1.length : Int) := of_decide_eq_true (by first | (with_reducible assumption) | assumption)
         obtain ⟨ad292, e292, hx292_0, hx292_1, hx292_2⟩ := at_T51 HR1.out x13_1 p292 q292
         cases e292
         replace p292 := eq_true p292
         replace q292 := eq_true q292
         go_wp2
         repeat (go_quiet (fail); try go_wp2)
         go_roundg k1
         case measure => have := HK1.out; omega
         case rel => exact ⟨(wrap64 (x13_1 + 1)), (by first | rfl | (simp; done) | (simp [*]; done)), H', ⟨by have := HK1.out; omega⟩, by repeat (first | exact Drawn0.refl _ | apply Drawn0.step)⟩
       ·rw [if_neg c7] at H
        exact absurd H (by simp)
      ·rw [if_neg c6] at H
       exact absurd H (by simp)
     ·rw [if_neg c5] at H
      exact absurd H (by simp)
    ·rw [if_neg c4] at H
     have c4b0 : decide (x13_1 < (l0.length : Int)) = false := decide_eq_false c4
     clear c4
     obtain rfl := Option.some.inj H
     go_wp2
     repeat (go_quiet (fail); try go_wp2)
     go_ret
     exact ⟨by first | rfl | (simp; done) | (simp [*]; done), by repeat (first | exact Drawn0.refl _ | apply Drawn0.step)⟩
 ·rw [if_neg c3] at H
  have c3b0 : ((l0.length : Int) == (l1.length : Int)) = false := beq_eq_false_iff_ne.mpr c3
  have c3b1 : ((l0.length : Int) != (l1.length : Int)) = true := bne_iff_ne.mpr c3
  have c3b2 : (l0.length == l1.length) = false := by first | simpa using c3 | (simp at c3 ⊢; omega)
  obtain rfl := Option.some.inj H
  go_enter Try.func23, Try.ntmps23
  go_wp2
  repeat (go_quiet (fail); try go_wp2)
  go_ret
  exact ⟨by first | rfl | (simp; done) | (simp [*]; done), by repeat (first | exact Drawn0.refl _ | apply Drawn0.step)⟩

/-! ### laws_FnGlyphSpots_1: function 22 -/
def laws_FnGlyphSpots_1.f (k : Nat) (l0 : List (S51)) (l1 : List (S51)) : Option (Bool) := (impl_Spot_23.f k l0 l1).bind fun t293 => (some t293)
theorem laws_FnGlyphSpots_1.mono : ∀ a0 a1 k, LeO (laws_FnGlyphSpots_1.f k a0 a1) (laws_FnGlyphSpots_1.f (k + 1) a0 a1) := by
 intro a0 a1 k
 unfold laws_FnGlyphSpots_1.f
 repeat' first
   | (with_reducible exact impl_Spot_23.mono _ _ _)
   | (with_reducible exact LeO.refl _)
   | (with_reducible exact LeO.none _)
   | (with_reducible refine LeO.ite ?_ ?_)
   | (with_reducible refine LeO.bind ?_ (fun _ => ?_))
   | exact impl_Spot_23.mono _ _ _
   | exact LeO.none _
   | refine LeO.ite ?_ ?_
   | refine LeO.bind ?_ (fun _ => ?_)
set_option maxHeartbeats 8000000 in
set_option maxRecDepth 100000 in
theorem laws_FnGlyphSpots_1.calls (k : Nat) (A0 : Option Addr) (c0 : Nat) (l0 : List (S51)) (A1 : Option Addr) (c1 : Nat) (l1 : List (S51)) (r : Bool) (w : World) (hr0 : Kd.C k51 w A0 l0.length l0) (hc0 : l0.length ≤ c0) (hr1 : Kd.C k51 w A1 l1.length l1) (hc1 : l1.length ≤ c1) (h : laws_FnGlyphSpots_1.f k l0 l1 = some r) :
  Calls Try.prog 22 #[.slice A0 l0.length c0, .slice A1 l1.length c1] w fun e w' => e = .returned (.bool r) ∧ Drawn0 w w' := by
 have HR0 := Aside0.mk hr0
 have HC0 := Aside0.mk hc0
 clear hr0 hc0
 have HR1 := Aside0.mk hr1
 have HC1 := Aside0.mk hc1
 clear hr1 hc1
 have H : ((impl_Spot_23.f k l0 l1).bind fun t293 => (some t293)) = some r := h
 clear h
 replace H := Option.bind_eq_some_iff.mp H
 obtain ⟨t293, A30, H⟩ := H
 replace H : (some t293) = some r := H
 have A3 := Aside0.mk A30
 clear A30
 obtain rfl := Option.some.inj H
 go_enter Try.func22, Try.ntmps22
 go_wp2_with (first | ((with_reducible refine gate_callee (f := 23) rfl ?_); refine goesL_ (some 7) rfl rfl Try.func23 (by kernel_rfl) rfl #[.slice A0 l0.length c0, .slice A1 l1.length c1] rfl (by (try simp only [List.map_toArray, List.map_cons, List.map_nil]); first | done | rfl | (simp only [List.length_drop, List.length_take]; rfl)) ?_; (with_reducible refine (impl_Spot_23.calls k _ _ l0 _ _ l1 t293 _ ?side1 ?side2 ?side3 ?side4 A3.out).mono ?_); (case side1 => repeat (first | exact HR0.out | (with_reducible refine Kd.C_alloc ?_ _) | (with_reducible refine Kd.C_drewN ?_ _) | (with_reducible refine Kd.C_drew ?_))); (case side2 => exact HC0.out); (case side3 => repeat (first | exact HR1.out | (with_reducible refine Kd.C_alloc ?_ _) | (with_reducible refine Kd.C_drewN ?_ _) | (with_reducible refine Kd.C_drew ?_))); (case side4 => exact HC1.out); rintro e w' ⟨rfl, ⟨nd, rfl⟩⟩; refine ⟨_, rfl, ?_⟩))
 go_ret
 exact ⟨by first | rfl | (simp; done) | (simp [*]; done), by repeat (first | exact Drawn0.refl _ | apply Drawn0.step)⟩

/-! ### impl_Spot_21: function 21 -/
def impl_Spot_21.l0 : Nat → List (List (S51)) → List (List (S51)) → Int → Int → Option (Bool)
 | 0, _, _, _, _ => none
 | k + 1, x1, x15, x16, x17 => if x17 < x16 then (if 0 ≤ x17 then (if x17 < (x15.length : Int) then (if x17 < (x1.length : Int) then ((laws_FnGlyphSpots_1.f k (rd_L3 x15 x17) (rd_L3 x1 x17)).bind fun t296 => (if t296 = true then (impl_Spot_21.l0 k x1 x15 x16 (wrap64 (x17 + 1))) else (some false))) else (none)) else (none)) else (none)) else (some true)
def impl_Spot_21.f (k : Nat) (l0 : List (List (S51))) (l1 : List (List (S51))) : Option (Bool) := if (l0.length : Int) = (l1.length : Int) then (impl_Spot_21.l0 k l1 l0 (l0.length : Int) 0) else (some false)
theorem impl_Spot_21.mono_l : ∀ k, (∀ y0 y1 y2 y3, LeO (impl_Spot_21.l0 k y0 y1 y2 y3) (impl_Spot_21.l0 (k + 1) y0 y1 y2 y3))
 | 0 => fun _ _ _ _ r h => by simp [impl_Spot_21.l0] at h
 | k + 1 => by
  have ih0 := impl_Spot_21.mono_l k
  ·intro y0 y1 y2 y3
   unfold impl_Spot_21.l0
   repeat' first
   | (with_reducible exact ih0 _ _ _ _)
   | (with_reducible exact laws_FnGlyphSpots_1.mono _ _ _)
   | (with_reducible exact LeO.refl _)
   | (with_reducible exact LeO.none _)
   | (with_reducible refine LeO.ite ?_ ?_)
   | (with_reducible refine LeO.bind ?_ (fun _ => ?_))
   | exact ih0 _ _ _ _
   | exact laws_FnGlyphSpots_1.mono _ _ _
   | exact LeO.none _
   | refine LeO.ite ?_ ?_
   | refine LeO.bind ?_ (fun _ => ?_)
theorem impl_Spot_21.mono : ∀ a0 a1 k, LeO (impl_Spot_21.f k a0 a1) (impl_Spot_21.f (k + 1) a0 a1) := by
 intro a0 a1 k
 have ih0 := impl_Spot_21.mono_l k
 unfold impl_Spot_21.f
 repeat' first
   | (with_reducible exact ih0 _ _ _ _)
   | (with_reducible exact laws_FnGlyphSpots_1.mono _ _ _)
   | (with_reducible exact LeO.refl _)
   | (with_reducible exact LeO.none _)
   | (with_reducible refine LeO.ite ?_ ?_)
   | (with_reducible refine LeO.bind ?_ (fun _ => ?_))
   | exact ih0 _ _ _ _
   | exact laws_FnGlyphSpots_1.mono _ _ _
   | exact LeO.none _
   | refine LeO.ite ?_ ?_
   | refine LeO.bind ?_ (fun _ => ?_)
set_option maxHeartbeats 8000000 in
set_option maxRecDepth 100000 in
theorem impl_Spot_21.calls (k : Nat) (A0 : Option Addr) (c0 : Nat) (l0 : List (List (S51))) (A1 : Option Addr) (c1 : Nat) (l1 : List (List (S51))) (r : Bool) (w : World) (hr0 : Kd.C (Kd.slice 51 k51) w A0 l0.length l0) (hc0 : l0.length ≤ c0) (hr1 : Kd.C (Kd.slice 51 k51) w A1 l1.length l1) (hc1 : l1.length ≤ c1) (h : impl_Spot_21.f k l0 l1 = some r) :
  Calls Try.prog 21 #[.slice A0 l0.length c0, .slice A1 l1.length c1, .func (.func 22) #[] #[]] w fun e w' => e = .returned (.bool r) ∧ Drawn0 w w' := by
 have HR0 := Aside0.mk hr0
 have HC0 := Aside0.mk hc0
 clear hr0 hc0
 have HR1 := Aside0.mk hr1
 have HC1 := Aside0.mk hc1
 clear hr1 hc1
 have H : (if (l0.length : Int) = (l1.length : Int) then (impl_Spot_21.l0 k l1 l0 (l0.length : Int) 0) else (some false)) = some r := h
 clear h
 by_cases c3 : (l0.length : Int) = (l1.length : Int)
 ·rw [if_pos c3] at H
  have c3b0 : ((l0.length : Int) == (l1.length : Int)) = true := beq_iff_eq.mpr c3
  have c3b1 : ((l0.length : Int) != (l1.length : Int)) = false := bne_eq_false_iff_eq.mpr c3
  have c3b2 : (l0.length == l1.length) = true := by first | simpa using c3 | (simp at c3 ⊢; omega)
  clear c3
  have H' := Aside0.mk H
  clear H
  go_enter Try.func21, Try.ntmps21
  go_wp2
  go_loopg [17] k (fun kq v17 w' => ∃ (x17_1 : Int), v17 = .int .i64 x17_1 ∧ Aside0 (impl_Spot_21.l0 kq l1 l0 (l0.length : Int) x17_1 = some r) ∧ Aside0 (kq ≤ k) ∧ Drawn0 w w')
  case atStart => exact ⟨(0), (by first | rfl | (simp; done) | (simp [*]; done)), H', ⟨Nat.le_refl _⟩, by repeat (first | exact Drawn0.refl _ | apply Drawn0.step)⟩
  case round =>
   clear H'
   try clear c1
   try clear c2
   try clear p2
   try clear c3
   try clear c3b0
   try clear c3b1
   try clear c3b2
   obtain ⟨x17_1, rfl, HA, HK1, ⟨m1, rfl⟩⟩ := hrel
   cases gk with
   | zero => exact absurd HA.out (by simp [impl_Spot_21.l0])
   | succ k1 =>
    have H := HA.out
    clear HA
    simp only [impl_Spot_21.l0] at H
    by_cases c4 : x17_1 < (l0.length : Int)
    ·rw [if_pos c4] at H
     have c4b0 : decide (x17_1 < (l0.length : Int)) = true := decide_eq_true c4
     clear c4
     by_cases c5 : 0 ≤ x17_1
     ·rw [if_pos c5] at H
      have c5b0 : decide (0 ≤ x17_1) = true := decide_eq_true c5
      clear c5
      by_cases c6 : x17_1 < (l0.length : Int)
      ·rw [if_pos c6] at H
       have c6b0 : decide (x17_1 < (l0.length : Int)) = true := decide_eq_true c6
       clear c6
       by_cases c7 : x17_1 < (l1.length : Int)
       ·rw [if_pos c7] at H
        have c7b0 : decide (x17_1 < (l1.length : Int)) = true := decide_eq_true c7
        clear c7
        replace H := Option.bind_eq_some_iff.mp H
        obtain ⟨t296, A80, H⟩ := H
        replace H : (if t296 = true then (impl_Spot_21.l0 k1 l1 l0 (l0.length : Int) (wrap64 (x17_1 + 1))) else (some false)) = some r := H
        have A8 := Aside0.mk A80
        clear A80
        by_cases c9 : t296 = true
        ·subst c9
         have H1 : (impl_Spot_21.l0 k1 l1 l0 (l0.length : Int) (wrap64 (x17_1 + 1))) = some r := by rw [if_pos rfl] at H; exact H
         clear H
         have H := H1
         clear H1
         have H' := Aside0.mk H
         clear H
         have p294 : 0 ≤ (x17_1 : Int) := of_decide_eq_true (by first | (with_reducible assumption) | assumption)
         have q294 : x17_1 < (l0.length : Int) := of_decide_eq_true (by first | (with_reducible assumption) | assumption)
         obtain ⟨ad294, A294_0, c294_0, e294, hx294_0, hl294_0, hi294_0⟩ := at_L3 HR0.out x17_1 p294 q294
         cases e294
         have HR294_0 := Aside0.mk hi294_0
         have HC294_0 := Aside0.mk hl294_0
         clear hi294_0 hl294_0
         replace p294 := eq_true p294
         replace q294 := eq_true q294
         have p295 : 0 ≤ (x17_1 : Int) := of_decide_eq_true (by first | (with_reducible assumption) | assumption)
         have q295 : x17_1 < (l1.length : Int) := of_decide_eq_true (by first | (with_reducible assumption) | assumption)
         obtain ⟨ad295, A295_0, c295_0, e295, hx295_0, hl295_0, hi295_0⟩ := at_L3 HR1.out x17_1 p295 q295
         cases e295
         have HR295_0 := Aside0.mk hi295_0
         have HC295_0 := Aside0.mk hl295_0
         clear hi295_0 hl295_0
         replace p295 := eq_true p295
         replace q295 := eq_true q295
         go_wp2_with fail
         (with_reducible refine (laws_FnGlyphSpots_1.calls k1 _ _ (rd_L3 l0 x17_1) _ _ (rd_L3 l1 x17_1) true _ ?side1 ?side2 ?side3 ?side4 A8.out).mono ?_)
         (case side1 => repeat (first | exact HR294_0.out | (with_reducible refine Kd.C_alloc ?_ _) | (with_reducible refine Kd.C_drewN ?_ _) | (with_reducible refine Kd.C_drew ?_)))
         (case side2 => exact HC294_0.out)
         (case side3 => repeat (first | exact HR295_0.out | (with_reducible refine Kd.C_alloc ?_ _) | (with_reducible refine Kd.C_drewN ?_ _) | (with_reducible refine Kd.C_drew ?_)))
         (case side4 => exact HC295_0.out)
         rintro e w' ⟨rfl, ⟨nd, rfl⟩⟩
         go_wp2
         go_roundg k1
         case measure => have := HK1.out; omega
         case rel => exact ⟨(wrap64 (x17_1 + 1)), (by first | rfl | (simp; done) | (simp [*]; done)), H', ⟨by have := HK1.out; omega⟩, by repeat (first | exact Drawn0.refl _ | apply Drawn0.step)⟩
        ·replace c9 := Bool.eq_false_iff.mpr c9
         subst c9
         have H1 : (some false) = some r := by rw [if_neg (show ¬ (false = true) by decide)] at H; exact H
         clear H
         have H := H1
         clear H1
         obtain rfl := Option.some.inj H
         have p294 : 0 ≤ (x17_1 : Int) := of_decide_eq_true (by first | (with_reducible assumption) | assumption)
         have q294 : x17_1 < (l0.length : Int) := of_decide_eq_true (by first | (with_reducible assumption) | assumption)
         obtain ⟨ad294, A294_0, c294_0, e294, hx294_0, hl294_0, hi294_0⟩ := at_L3 HR0.out x17_1 p294 q294
         cases e294
         have HR294_0 := Aside0.mk hi294_0
         have HC294_0 := Aside0.mk hl294_0
         clear hi294_0 hl294_0
         replace p294 := eq_true p294
         replace q294 := eq_true q294
         have p295 : 0 ≤ (x17_1 : Int) := of_decide_eq_true (by first | (with_reducible assumption) | assumption)
         have q295 : x17_1 < (l1.length : Int) := of_decide_eq_true (by first | (with_reducible assumption) | assumption)
         obtain ⟨ad295, A295_0, c295_0, e295, hx295_0, hl295_0, hi295_0⟩ := at_L3 HR1.out x17_1 p295 q295
         cases e295
         have HR295_0 := Aside0.mk hi295_0
         have HC295_0 := Aside0.mk hl295_0
         clear hi295_0 hl295_0
         replace p295 := eq_true p295
         replace q295 := eq_true q295
         go_wp2_with fail
         (with_reducible refine (laws_FnGlyphSpots_1.calls k1 _ _ (rd_L3 l0 x17_1) _ _ (rd_L3 l1 x17_1) false _ ?side1 ?side2 ?side3 ?side4 A8.out).mono ?_)
         (case side1 => repeat (first | exact HR294_0.out | (with_reducible refine Kd.C_alloc ?_ _) | (with_reducible refine Kd.C_drewN ?_ _) | (with_reducible refine Kd.C_drew ?_)))
         (case side2 => exact HC294_0.out)
         (case side3 => repeat (first | exact HR295_0.out | (with_reducible refine Kd.C_alloc ?_ _) | (with_reducible refine Kd.C_drewN ?_ _) | (with_reducible refine Kd.C_drew ?_)))
         (case side4 => exact HC295_0.out)
         rintro e w' ⟨rfl, ⟨nd, rfl⟩⟩
         go_wp2
         go_ret
         exact ⟨by first | rfl | (simp; done) | (simp [*]; done), by repeat (first | exact Drawn0.refl _ | apply Drawn0.step)⟩
       ·rw [if_neg c7] at H
        exact absurd H (by simp)
      ·rw [if_neg c6] at H
       exact absurd H (by simp)
     ·rw [if_neg c5] at H
      exact absurd H (by simp)
    ·rw [if_neg c4] at H
     have c4b0 : decide (x17_1 < (l0.length : Int)) = false := decide_eq_false c4
     clear c4
     obtain rfl := Option.some.inj H
     go_wp2
     go_ret
     exact ⟨by first | rfl | (simp; done) | (simp [*]; done), by repeat (first | exact Drawn0.refl _ | apply Drawn0.step)⟩
 ·rw [if_neg c3] at H
  have c3b0 : ((l0.length : Int) == (l1.length : Int)) = false := beq_eq_false_iff_ne.mpr c3
  have c3b1 : ((l0.length : Int) != (l1.length : Int)) = true := bne_iff_ne.mpr c3
  have c3b2 : (l0.length == l1.length) = false := by first | simpa using c3 | (simp at c3 ⊢; omega)
  obtain rfl := Option.some.inj H
  go_enter Try.func21, Try.ntmps21
  go_wp2
  go_ret
  exact ⟨by first | rfl | (simp; done) | (simp [*]; done), by repeat (first | exact Drawn0.refl _ | apply Drawn0.step)⟩

/-! ### laws_FnGlyphSpots: function 6 -/
mutual
def laws_FnGlyphSpots.j0 : Nat → List (List (S51)) → List Int → Bool → Int → Int → Int → Int → Option (Bool)
 | 0, _, _, _, _, _, _, _ => none
 | k + 1, x0, x2, x20, x298000, x298001, x298002, x298003 => if x20 = true then (some true) else ((laws_someSpots.f k x0).bind fun t299 => (if (t299.length : Int) = 0 then (laws_FnGlyphSpots.j1 k x2 (([(([(⟨true, 3, 4⟩ : S51)] : List (S51)))] : List (List (S51)))) (wrap64 (x298000)) (wrap64 (x298001)) (wrap64 (x298002)) (wrap64 (x298003))) else (laws_FnGlyphSpots.j1 k x2 t299 (wrap64 (x298000)) (wrap64 (x298001)) (wrap64 (x298002)) (wrap64 (x298003)))))
def laws_FnGlyphSpots.j1 : Nat → List Int → List (List (S51)) → Int → Int → Int → Int → Option (Bool)
 | 0, _, _, _, _, _, _ => none
 | k + 1, x2, x7, x303000, x303001, x303002, x303003 => (spec_SpotBytes.f k x7 x303000 x303001 x303002 x303003 x2).bind fun t309 => ((impl_GlyphSpots.f k t309).bind fun bt312 => (if bt312.2.2.2.2.2.1 = true then (if bt312.2.2.2.2.2.2 = true then (if bt312.2.1 = x303000 then (if bt312.2.2.1 = x303001 then (if bt312.2.2.2.1 = x303002 then (if bt312.2.2.2.2.1 = x303003 then ((impl_Spot_21.f k bt312.1 x7).bind fun t322 => (some t322)) else (some false)) else (some false)) else (some false)) else (some false)) else (some false)) else (some false)))
end
def laws_FnGlyphSpots.f (k : Nat) (l0 : List (List (S51))) (a1_0 : Int) (a1_1 : Int) (a1_2 : Int) (a1_3 : Int) (l2 : List Int) : Option (Bool) := (laws_zzFits31.f k l0).bind fun t298 => (if t298 = true then (laws_FnGlyphSpots.j0 k l0 l2 (decide ((l2.length : Int) > 2147483647)) a1_0 a1_1 a1_2 a1_3) else (laws_FnGlyphSpots.j0 k l0 l2 true a1_0 a1_1 a1_2 a1_3))
theorem laws_FnGlyphSpots.mono_l : ∀ k, (∀ y0 y1 y2 y3 y4 y5 y6, LeO (laws_FnGlyphSpots.j0 k y0 y1 y2 y3 y4 y5 y6) (laws_FnGlyphSpots.j0 (k + 1) y0 y1 y2 y3 y4 y5 y6)) ∧ (∀ y0 y1 y2 y3 y4 y5, LeO (laws_FnGlyphSpots.j1 k y0 y1 y2 y3 y4 y5) (laws_FnGlyphSpots.j1 (k + 1) y0 y1 y2 y3 y4 y5))
 | 0 => ⟨fun _ _ _ _ _ _ _ r h => by simp [laws_FnGlyphSpots.j0] at h, fun _ _ _ _ _ _ r h => by simp [laws_FnGlyphSpots.j1] at h⟩
 | k + 1 => by
  obtain ⟨ih0, ih1⟩ := laws_FnGlyphSpots.mono_l k
  refine ⟨?_, ?_⟩
  ·intro y0 y1 y2 y3 y4 y5 y6
   unfold laws_FnGlyphSpots.j0
   repeat' first
   | (with_reducible exact ih0 _ _ _ _ _ _ _)
   | (with_reducible exact ih1 _ _ _ _ _ _)
   | (with_reducible exact impl_GlyphSpots.mono _ _)
   | (with_reducible exact impl_Spot_21.mono _ _ _)
   | (with_reducible exact laws_someSpots.mono _ _)
   | (with_reducible exact laws_zzFits31.mono _ _)
   | (with_reducible exact spec_SpotBytes.mono _ _ _ _ _ _ _)
   | (with_reducible exact LeO.refl _)
   | (with_reducible exact LeO.none _)
   | (with_reducible refine LeO.ite ?_ ?_)
   | (with_reducible refine LeO.bind ?_ (fun _ => ?_))
   | exact ih0 _ _ _ _ _ _ _
   | exact ih1 _ _ _ _ _ _
   | exact impl_GlyphSpots.mono _ _
   | exact impl_Spot_21.mono _ _ _
   | exact laws_someSpots.mono _ _
   | exact laws_zzFits31.mono _ _
   | exact spec_SpotBytes.mono _ _ _ _ _ _ _
   | exact LeO.none _
   | refine LeO.ite ?_ ?_
   | refine LeO.bind ?_ (fun _ => ?_)
  ·intro y0 y1 y2 y3 y4 y5
   unfold laws_FnGlyphSpots.j1
   repeat' first
   | (with_reducible exact ih0 _ _ _ _ _ _ _)
   | (with_reducible exact ih1 _ _ _ _ _ _)
   | (with_reducible exact impl_GlyphSpots.mono _ _)
   | (with_reducible exact impl_Spot_21.mono _ _ _)
   | (with_reducible exact laws_someSpots.mono _ _)
   | (with_reducible exact laws_zzFits31.mono _ _)
   | (with_reducible exact spec_SpotBytes.mono _ _ _ _ _ _ _)
   | (with_reducible exact LeO.refl _)
   | (with_reducible exact LeO.none _)
   | (with_reducible refine LeO.ite ?_ ?_)
   | (with_reducible refine LeO.bind ?_ (fun _ => ?_))
   | exact ih0 _ _ _ _ _ _ _
   | exact ih1 _ _ _ _ _ _
   | exact impl_GlyphSpots.mono _ _
   | exact impl_Spot_21.mono _ _ _
   | exact laws_someSpots.mono _ _
   | exact laws_zzFits31.mono _ _
   | exact spec_SpotBytes.mono _ _ _ _ _ _ _
   | exact LeO.none _
   | refine LeO.ite ?_ ?_
   | refine LeO.bind ?_ (fun _ => ?_)
theorem laws_FnGlyphSpots.mono : ∀ a0 a1 a2 a3 a4 a5 k, LeO (laws_FnGlyphSpots.f k a0 a1 a2 a3 a4 a5) (laws_FnGlyphSpots.f (k + 1) a0 a1 a2 a3 a4 a5) := by
 intro a0 a1 a2 a3 a4 a5 k
 obtain ⟨ih0, ih1⟩ := laws_FnGlyphSpots.mono_l k
 unfold laws_FnGlyphSpots.f
 repeat' first
   | (with_reducible exact ih0 _ _ _ _ _ _ _)
   | (with_reducible exact ih1 _ _ _ _ _ _)
   | (with_reducible exact impl_GlyphSpots.mono _ _)
   | (with_reducible exact impl_Spot_21.mono _ _ _)
   | (with_reducible exact laws_someSpots.mono _ _)
   | (with_reducible exact laws_zzFits31.mono _ _)
   | (with_reducible exact spec_SpotBytes.mono _ _ _ _ _ _ _)
   | (with_reducible exact LeO.refl _)
   | (with_reducible exact LeO.none _)
   | (with_reducible refine LeO.ite ?_ ?_)
   | (with_reducible refine LeO.bind ?_ (fun _ => ?_))
   | exact ih0 _ _ _ _ _ _ _
   | exact ih1 _ _ _ _ _ _
   | exact impl_GlyphSpots.mono _ _
   | exact impl_Spot_21.mono _ _ _
   | exact laws_someSpots.mono _ _
   | exact laws_zzFits31.mono _ _
   | exact spec_SpotBytes.mono _ _ _ _ _ _ _
   | exact LeO.none _
   | refine LeO.ite ?_ ?_
   | refine LeO.bind ?_ (fun _ => ?_)
set_option maxHeartbeats 8000000 in
set_option maxRecDepth 100000 in
theorem laws_FnGlyphSpots.calls (k : Nat) (A0 : Option Addr) (c0 : Nat) (l0 : List (List (S51))) (a1_0 : Int) (a1_1 : Int) (a1_2 : Int) (a1_3 : Int) (A2 : Option Addr) (c2 : Nat) (l2 : List Int) (r : Bool) (w : World) (hr0 : Kd.C (Kd.slice 51 k51) w A0 l0.length l0) (hc0 : l0.length ≤ c0) (hr2 : Kd.C (Kd.int .u8) w A2 l2.length l2) (hc2 : l2.length ≤ c2) (h : laws_FnGlyphSpots.f k l0 a1_0 a1_1 a1_2 a1_3 l2 = some r) :
  Calls Try.prog 6 #[.slice A0 l0.length c0, .agg #[.int .i16 a1_0, .int .i16 a1_1, .int .i16 a1_2, .int .i16 a1_3], .slice A2 l2.length c2] w fun e w' => e = .returned (.bool r) ∧ Below w.heap.size w w' := by
 have hu46 := Try.underlying46
 have hu49 := Try.underlying49
 have hu51 := Try.underlying51
 have HR0 := Aside0.mk hr0
 have HC0 := Aside0.mk hc0
 clear hr0 hc0
 have HR2 := Aside0.mk hr2
 have HC2 := Aside0.mk hc2
 clear hr2 hc2
 have HB := Aside0.mk (Below.refl w.heap.size w)
 have H : ((laws_zzFits31.f k l0).bind fun t298 => (if t298 = true then (laws_FnGlyphSpots.j0 k l0 l2 (decide ((l2.length : Int) > 2147483647)) a1_0 a1_1 a1_2 a1_3) else (laws_FnGlyphSpots.j0 k l0 l2 true a1_0 a1_1 a1_2 a1_3))) = some r := h
 clear h
 have HC4 := Aside0.mk H
 clear H
 go_enter Try.func6, Try.ntmps6
 go_upto_region 1 with (first | ((with_reducible refine gate_dst (N := 4) rfl ?_); (try (refine gate_guard (by rfl) ?_; dsimp only)); refine box_event ?hg (N := 4) ?hd (cs := #[.int .i16 a1_0, .int .i16 a1_1, .int .i16 a1_2, .int .i16 a1_3]) (t := 46) ?hr ?_; (case hd => rfl); (case hg => rfl); (case hr => first | (go_simp; done) | (go_simp; rfl)); intro gb297 hg w5 hbox hb; have n0_ := Aside0.mk (below_step (by repeat (first | (with_reducible first | exact HB.out | apply below_alloc | apply pw_below_drewN | apply below_drew1) | exact HB.out)) hb); have n1_ := Aside0.mk (hbox); have n2_ := Aside0.mk ((by rw [hg]; exact (below_size (by repeat (first | (with_reducible first | exact HB.out | apply below_alloc | apply pw_below_drewN | apply below_drew1) | exact HB.out))) : w.heap.size ≤ gb297)); have n3_ := Aside0.mk ((by rw [hg]; exact (below_size (by repeat (first | (with_reducible first | exact HB.out | apply below_alloc | apply pw_below_drewN | apply below_drew1) | exact HB.out))) : w.heap.size ≤ gb297)); clear HB; have HB := n0_; have BK297 := n1_; have GW297 := n2_; have GE297 := n3_; clear n0_ n1_ n2_ n3_; clear hb hbox hg))
 (try simp only [Act.put, L1_, L2_, L3_])
 go_cut [20] (fun v20 wc => ∃ (kq : Nat) (x20_3 : Bool), v20 = .bool x20_3 ∧ Aside0 (laws_FnGlyphSpots.j0 kq l0 l2 x20_3 a1_0 a1_1 a1_2 a1_3 = some r) ∧ Aside0 (kq ≤ k) ∧ Aside0 (wc.heap[gb297]? = some (.cells #[.int .i16 a1_0, .int .i16 a1_1, .int .i16 a1_2, .int .i16 a1_3] 46 (0, 0))) ∧ Aside0 (Below w.heap.size w wc))
 case first =>
  have H := HC4.out
  clear HC4
  replace H := Option.bind_eq_some_iff.mp H
  obtain ⟨t298, A60, H⟩ := H
  replace H : (if t298 = true then (laws_FnGlyphSpots.j0 k l0 l2 (decide ((l2.length : Int) > 2147483647)) a1_0 a1_1 a1_2 a1_3) else (laws_FnGlyphSpots.j0 k l0 l2 true a1_0 a1_1 a1_2 a1_3)) = some r := H
  have A6 := Aside0.mk A60
  clear A60
  by_cases c7 : t298 = true
  ·subst c7
   have H1 : (laws_FnGlyphSpots.j0 k l0 l2 (decide ((l2.length : Int) > 2147483647)) a1_0 a1_1 a1_2 a1_3) = some r := by rw [if_pos rfl] at H; exact H
   clear H
   have H := H1
   clear H1
   have H' := Aside0.mk H
   clear H
   go_wp2_with (first | ((with_reducible refine gate_callee (f := 17) rfl ?_); refine goesL_ (some 14) rfl rfl Try.func17 (by kernel_rfl) rfl #[.slice A0 l0.length c0] rfl (by (try simp only [List.map_toArray, List.map_cons, List.map_nil]); first | done | rfl | (simp only [List.length_drop, List.length_take]; rfl)) ?_; (with_reducible refine (laws_zzFits31.calls k _ _ l0 true _ ?side1 ?side2 A6.out).mono ?_); (case side1 => repeat (first | exact (Kd.C_below HR0.out HB.out) | (with_reducible refine Kd.C_alloc ?_ _) | (with_reducible refine Kd.C_drewN ?_ _) | (with_reducible refine Kd.C_drew ?_))); (case side2 => exact HC0.out); rintro e w' ⟨rfl, ⟨nd, rfl⟩⟩; refine ⟨_, rfl, ?_⟩))
   go_meet
   case rel => exact ⟨_, (decide ((l2.length : Int) > 2147483647)), (by first | rfl | (simp; done) | (simp [*]; done)), H', ⟨by first | omega | exact Nat.le_refl _⟩, ⟨by (with_reducible repeat (first | refine b1_ ?_ _ | refine b2_ ?_ | refine b3_ ?_ _)); exact BK297.out⟩, ⟨by repeat (first | (with_reducible first | exact HB.out | apply below_alloc | apply pw_below_drewN | apply below_drew1 | refine below_set ?_ GE297.out) | exact HB.out)⟩⟩
  ·replace c7 := Bool.eq_false_iff.mpr c7
   subst c7
   have H1 : (laws_FnGlyphSpots.j0 k l0 l2 true a1_0 a1_1 a1_2 a1_3) = some r := by rw [if_neg (show ¬ (false = true) by decide)] at H; exact H
   clear H
   have H := H1
   clear H1
   have H' := Aside0.mk H
   clear H
   go_wp2_with (first | ((with_reducible refine gate_callee (f := 17) rfl ?_); refine goesL_ (some 14) rfl rfl Try.func17 (by kernel_rfl) rfl #[.slice A0 l0.length c0] rfl (by (try simp only [List.map_toArray, List.map_cons, List.map_nil]); first | done | rfl | (simp only [List.length_drop, List.length_take]; rfl)) ?_; (with_reducible refine (laws_zzFits31.calls k _ _ l0 false _ ?side1 ?side2 A6.out).mono ?_); (case side1 => repeat (first | exact (Kd.C_below HR0.out HB.out) | (with_reducible refine Kd.C_alloc ?_ _) | (with_reducible refine Kd.C_drewN ?_ _) | (with_reducible refine Kd.C_drew ?_))); (case side2 => exact HC0.out); rintro e w' ⟨rfl, ⟨nd, rfl⟩⟩; refine ⟨_, rfl, ?_⟩))
   go_meet
   case rel => exact ⟨_, (true), (by first | rfl | (simp; done) | (simp [*]; done)), H', ⟨by first | omega | exact Nat.le_refl _⟩, ⟨by (with_reducible repeat (first | refine b1_ ?_ _ | refine b2_ ?_ | refine b3_ ?_ _)); exact BK297.out⟩, ⟨by repeat (first | (with_reducible first | exact HB.out | apply below_alloc | apply pw_below_drewN | apply below_drew1 | refine below_set ?_ GE297.out) | exact HB.out)⟩⟩
 case rest =>
  clear HC4
  try clear c1
  try clear c2
  try clear p2
  try clear c6
  try clear c7
  obtain ⟨kq, x20_3, rfl, HA, HJ3, BK297, HB⟩ := hcut
  cases kq with
  | zero => exact absurd HA.out (by simp [laws_FnGlyphSpots.j0])
  | succ kj3 =>
   have H := HA.out
   clear HA
   simp only [laws_FnGlyphSpots.j0] at H
   by_cases c8 : x20_3 = true
   ·subst c8
    have H1 : (some true) = some r := by rw [if_pos rfl] at H; exact H
    clear H
    have H := H1
    clear H1
    obtain rfl := Option.some.inj H
    go_wp2
    go_ret
    exact ⟨by first | rfl | (simp [errW_none, errW_some] <;> rfl) | (simp [*, errW_none, errW_some] <;> rfl), by repeat (first | (with_reducible first | exact HB.out | apply below_alloc | apply pw_below_drewN | apply below_drew1 | refine below_set ?_ GE297.out) | exact HB.out)⟩
   ·replace c8 := Bool.eq_false_iff.mpr c8
    subst c8
    have H1 : ((laws_someSpots.f kj3 l0).bind fun t299 => (if (t299.length : Int) = 0 then (laws_FnGlyphSpots.j1 kj3 l2 (([(([(⟨true, 3, 4⟩ : S51)] : List (S51)))] : List (List (S51)))) (wrap64 (a1_0)) (wrap64 (a1_1)) (wrap64 (a1_2)) (wrap64 (a1_3))) else (laws_FnGlyphSpots.j1 kj3 l2 t299 (wrap64 (a1_0)) (wrap64 (a1_1)) (wrap64 (a1_2)) (wrap64 (a1_3))))) = some r := by rw [if_neg (show ¬ (false = true) by decide)] at H; exact H
    clear H
    have H := H1
    clear H1
    replace H := Option.bind_eq_some_iff.mp H
    obtain ⟨t299, A90, H⟩ := H
    replace H : (if (t299.length : Int) = 0 then (laws_FnGlyphSpots.j1 kj3 l2 (([(([(⟨true, 3, 4⟩ : S51)] : List (S51)))] : List (List (S51)))) (wrap64 (a1_0)) (wrap64 (a1_1)) (wrap64 (a1_2)) (wrap64 (a1_3))) else (laws_FnGlyphSpots.j1 kj3 l2 t299 (wrap64 (a1_0)) (wrap64 (a1_1)) (wrap64 (a1_2)) (wrap64 (a1_3)))) = some r := H
    have A9 := Aside0.mk A90
    clear A90
    have HC10 := Aside0.mk H
    clear H
    go_upto_if 38 with (first | ((with_reducible refine gate_callee (f := 18) rfl ?_); refine goesL_ (some 22) rfl rfl Try.func18 (by kernel_rfl) rfl #[.slice A0 l0.length c0] rfl (by (try simp only [List.map_toArray, List.map_cons, List.map_nil]); first | done | rfl | (simp only [List.length_drop, List.length_take]; rfl)) ?_; (with_reducible refine (laws_someSpots.calls kj3 _ _ l0 t299 _ ?side1 ?side2 A9.out).mono ?_); (case side1 => repeat (first | exact (Kd.C_below HR0.out HB.out) | (with_reducible refine Kd.C_alloc ?_ _) | (with_reducible refine Kd.C_drewN ?_ _) | (with_reducible refine Kd.C_drew ?_))); (case side2 => exact HC0.out); rintro e w11 ⟨v300, rfl, ho0, hb⟩; refine ⟨_, rfl, ?_⟩; have n0_ := Aside0.mk (Kd.N_lower (Kd.N_mono (ok' := fun k_ => k_ ≠ gb297) (Kd.S_N (Kd.S_bound ho0)) (fun k_ hk_ => (Kd.freshB (g := gb297) (o := .cells #[.int .i16 a1_0, .int .i16 a1_1, .int .i16 a1_2, .int .i16 a1_3] 46 (0, 0)) (by (with_reducible repeat (first | refine b1_ ?_ _ | refine b2_ ?_ | refine b3_ ?_ _)); exact BK297.out) k_ hk_.2.1))) (below_size (by repeat (first | (with_reducible first | exact HB.out | apply below_alloc | apply pw_below_drewN | apply below_drew1 | refine below_set ?_ GE297.out) | exact HB.out)))); have n1_ := Aside0.mk (blk_below (g := gb297) (o := .cells #[.int .i16 a1_0, .int .i16 a1_1, .int .i16 a1_2, .int .i16 a1_3] 46 (0, 0)) (by (with_reducible repeat (first | refine b1_ ?_ _ | refine b2_ ?_ | refine b3_ ?_ _)); exact BK297.out) hb); have n2_ := Aside0.mk (below_step (by repeat (first | (with_reducible first | exact HB.out | apply below_alloc | apply pw_below_drewN | apply below_drew1 | refine below_set ?_ GE297.out) | exact HB.out)) hb); clear BK297; clear HB; have HO301 := n0_; have BK297 := n1_; have HB := n2_; clear n0_ n1_ n2_; (try clear hb); (try clear hb2); (try clear hk); (try clear hi); (try clear ho0); have hcz12_0 : w11.cell? ⟨gb297, 0, none⟩ = some (.int .i16 a1_0) := (blk_cell BK297.out 0).trans rfl; have hcz12_1 : w11.cell? ⟨gb297, 1, none⟩ = some (.int .i16 a1_1) := (blk_cell BK297.out 1).trans rfl; have hcz12_2 : w11.cell? ⟨gb297, 2, none⟩ = some (.int .i16 a1_2) := (blk_cell BK297.out 2).trans rfl; have hcz12_3 : w11.cell? ⟨gb297, 3, none⟩ = some (.int .i16 a1_3) := (blk_cell BK297.out 3).trans rfl; have hfz12_0 := blk_frozen BK297.out 0; have hfz12_1 := blk_frozen BK297.out 1; have hfz12_2 := blk_frozen BK297.out 2; have hfz12_3 := blk_frozen BK297.out 3) | ((with_reducible refine gate_dst (N := 8) rfl ?_); (try (refine gate_guard (by rfl) ?_; dsimp only)); refine box_event ?hg (N := 8) ?hd (cs := #[.int .i64 0, .int .i64 0, .int .i64 0, .int .i64 0]) (t := 49) ?hr ?_; (case hd => rfl); (case hg => rfl); (case hr => first | (go_simp; done) | (go_simp; rfl)); intro gb302 hg w13 hbox hb; have n0_ := Aside0.mk (Kd.N_below (Kd.N_elderB (by (with_reducible repeat (first | apply Kd.N_alloc | apply Kd.N_drewN | apply Kd.N_drew)); exact HO301.out) gb302 (Nat.le_of_eq hg.symm)) hb); have n1_ := Aside0.mk (blk_below (g := gb297) (o := .cells #[.int .i16 a1_0, .int .i16 a1_1, .int .i16 a1_2, .int .i16 a1_3] 46 (0, 0)) (by (with_reducible repeat (first | refine b1_ ?_ _ | refine b2_ ?_ | refine b3_ ?_ _)); exact BK297.out) hb); have n2_ := Aside0.mk (below_step (by repeat (first | (with_reducible first | exact HB.out | apply below_alloc | apply pw_below_drewN | apply below_drew1 | refine below_set ?_ GE297.out) | exact HB.out)) hb); have n3_ := Aside0.mk (hbox); have n4_ := Aside0.mk ((by rw [hg]; exact (below_size (by repeat (first | (with_reducible first | exact HB.out | apply below_alloc | apply pw_below_drewN | apply below_drew1 | refine below_set ?_ GE297.out) | exact HB.out))) : w.heap.size ≤ gb302)); have n5_ := Aside0.mk ((by rw [hg]; exact (below_size (by repeat (first | (with_reducible first | exact HB.out | apply below_alloc | apply pw_below_drewN | apply below_drew1 | refine below_set ?_ GE297.out) | exact HB.out))) : w.heap.size ≤ gb302)); have n6_ := Aside0.mk ((by rw [hg]; exact Nat.ne_of_lt (blk_lt (g := gb297) (o := .cells #[.int .i16 a1_0, .int .i16 a1_1, .int .i16 a1_2, .int .i16 a1_3] 46 (0, 0)) (by (with_reducible repeat (first | refine b1_ ?_ _ | refine b2_ ?_ | refine b3_ ?_ _)); exact BK297.out)) : gb297 ≠ gb302)); have n7_ := Aside0.mk ((by rw [hg]; exact Nat.ne_of_gt (blk_lt (g := gb297) (o := .cells #[.int .i16 a1_0, .int .i16 a1_1, .int .i16 a1_2, .int .i16 a1_3] 46 (0, 0)) (by (with_reducible repeat (first | refine b1_ ?_ _ | refine b2_ ?_ | refine b3_ ?_ _)); exact BK297.out)) : gb302 ≠ gb297)); clear HO301; clear BK297; clear HB; have HO301 := n0_; have BK297 := n1_; have HB := n2_; have BK302 := n3_; have GW302 := n4_; have GE302 := n5_; have NB297_302 := n6_; have NB302_297 := n7_; clear n0_ n1_ n2_ n3_ n4_ n5_ n6_ n7_; clear hb hbox hg; have hnb14 := NB302_297.out; have hnc14 := NB297_302.out; have hcz15_0 : w13.cell? ⟨gb302, 0, none⟩ = some (.int .i64 0) := (blk_cell BK302.out 0).trans rfl; have hcz15_1 : w13.cell? ⟨gb302, 1, none⟩ = some (.int .i64 0) := (blk_cell BK302.out 1).trans rfl; have hcz15_2 : w13.cell? ⟨gb302, 2, none⟩ = some (.int .i64 0) := (blk_cell BK302.out 2).trans rfl; have hcz15_3 : w13.cell? ⟨gb302, 3, none⟩ = some (.int .i64 0) := (blk_cell BK302.out 3).trans rfl; have hfz15_0 := blk_frozen BK302.out 0; have hfz15_1 := blk_frozen BK302.out 1; have hfz15_2 := blk_frozen BK302.out 2; have hfz15_3 := blk_frozen BK302.out 3; obtain ⟨Ao16, co16, eo16⟩ := Kd.N_slice HO301.out; subst eo16))
    (try simp only [Act.put, L1_, L2_, L3_])
    go_cut [7] (fun v7 wc => ∃ (kq : Nat) (x7_9 : List (List (S51))), Aside0 (laws_FnGlyphSpots.j1 kq l2 x7_9 (wrap64 (a1_0)) (wrap64 (a1_1)) (wrap64 (a1_2)) (wrap64 (a1_3)) = some r) ∧ Aside0 (kq ≤ kj3) ∧ Aside0 (Kd.N (Kd.slice 51 k51) 52 wc w.heap.size (fun k_ => k_ ≠ gb297 ∧ k_ ≠ gb302) v7 x7_9) ∧ Aside0 (wc.heap[gb297]? = some (.cells #[.int .i16 a1_0, .int .i16 a1_1, .int .i16 a1_2, .int .i16 a1_3] 46 (0, 0))) ∧ Aside0 (wc.heap[gb302]? = some (.cells #[.int .i64 (wrap64 (a1_0)), .int .i64 (wrap64 (a1_1)), .int .i64 (wrap64 (a1_2)), .int .i64 (wrap64 (a1_3))] 49 (0, 0))) ∧ Aside0 (Below w.heap.size w wc))
    case first =>
     have H := HC10.out
     clear HC10
     by_cases c17 : (t299.length : Int) = 0
     ·rw [if_pos c17] at H
      have c17b0 : ((t299.length : Int) == 0) = true := beq_iff_eq.mpr c17
      have c17b1 : ((t299.length : Int) != 0) = false := bne_eq_false_iff_eq.mpr c17
      clear c17
      (first | rw [c17b0] | (simp only [i64_w, i32_w]; rw [c17b0]) | skip)
      obtain ⟨y303, hy303⟩ : ∃ y_ : List (S51), y_ = (([(⟨true, 3, 4⟩ : S51)] : List (S51))) := ⟨_, rfl⟩
      replace H : (laws_FnGlyphSpots.j1 kj3 l2 (([y303] : List (List (S51)))) (wrap64 (a1_0)) (wrap64 (a1_1)) (wrap64 (a1_2)) (wrap64 (a1_3))) = some r := by first | (rw [hy303]; with_reducible exact H) | (have H2_ := (Option.bind_some _ _).symm.trans H; rw [hy303]; with_reducible exact H2_) | (have H2_ := (Option.bind_some _ _).symm.trans H; with_reducible exact H2_) | with_reducible exact H | (rw [hy303]; exact H) | exact H
      have Ny303 := Aside0.mk hy303
      clear hy303
      obtain ⟨y306, hy306⟩ : ∃ y_ : List (List (S51)), y_ = (([y303] : List (List (S51)))) := ⟨_, rfl⟩
      replace H : (laws_FnGlyphSpots.j1 kj3 l2 y306 (wrap64 (a1_0)) (wrap64 (a1_1)) (wrap64 (a1_2)) (wrap64 (a1_3))) = some r := by first | (rw [hy306]; with_reducible exact H) | (have H2_ := (Option.bind_some _ _).symm.trans H; rw [hy306]; with_reducible exact H2_) | (have H2_ := (Option.bind_some _ _).symm.trans H; with_reducible exact H2_) | with_reducible exact H | (rw [hy306]; exact H) | exact H
      have Ny306 := Aside0.mk hy306
      clear hy306
      have H' := Aside0.mk H
      clear H
      go_wp2_with (first | ((with_reducible refine gate_dst (N := 40) rfl ?_); (try (refine gate_guard (by rfl) ?_; dsimp only)); refine Kd.R_lit k51 _ 51 ?hg (N := 40) ?hd (xs := ([(⟨true, 3, 4⟩ : S51)] : List (S51))) (inner := [.bool true, .int .i64 3, .int .i64 4]) (ok := fun _ => True) (okp := fun _ => True) ?hr ?hp (fun _ hk => hk) trivial (Below.refl _ _) (Nat.le_refl _) (by simp) ?_; (case hd => rfl); (case hg => rfl); (case hr => first | (go_simp; done) | (go_simp; rfl)); (case hp => exact (Reps.c3 (show Kd.M k51 _ _ _ (⟨true, 3, 4⟩ : S51) [.bool true, .int .i64 3, .int .i64 4] from (k51_mkM _ _ _ (⟨true, 3, 4⟩ : S51) )) (Reps.none _ _))); intro v304 w18 ho19 hb hg_ hnew_; clear hg_ hnew_; (first | rw [← Ny303.out] at ho19 | (simp only [Int.reduceToNat] at ho19; rw [← Ny303.out] at ho19)); have n0_ := Aside0.mk (Kd.N_elder' (by (with_reducible repeat (first | apply Kd.N_alloc | apply Kd.N_drewN | apply Kd.N_drew)); exact (Kd.N_mono (Kd.N_far (p := ⟨gb302, 3, none⟩) (Kd.N_far (p := ⟨gb302, 2, none⟩) (Kd.N_far (p := ⟨gb302, 1, none⟩) (Kd.N_far (p := ⟨gb302, 0, none⟩) (Kd.N_mono HO301.out (fun k_ hk => (⟨hk, hk.2⟩ : _ ∧ k_ ≠ gb302))) (fun _ hk => hk.2) (.int .i64 (wrap64 (a1_0)))) (fun _ hk => hk.2) (.int .i64 (wrap64 (a1_1)))) (fun _ hk => hk.2) (.int .i64 (wrap64 (a1_2)))) (fun _ hk => hk.2) (.int .i64 (wrap64 (a1_3)))) (fun _ h_ => h_.1))) (Kd.R_base ho19) hb); have n1_ := Aside0.mk (Kd.R_lower ho19 (below_size (by repeat (first | (with_reducible first | exact HB.out | apply below_alloc | apply pw_below_drewN | apply below_drew1 | refine below_set ?_ GE297.out | refine below_set ?_ GE302.out) | exact HB.out)))); have n2_ := Aside0.mk (blk_below (g := gb297) (o := .cells #[.int .i16 a1_0, .int .i16 a1_1, .int .i16 a1_2, .int .i16 a1_3] 46 (0, 0)) (by (with_reducible repeat (first | refine b1_ ?_ _ | refine b2_ ?_ | refine b3_ ?_ _)); refine blk_far ?_ NB297_302.out _; (with_reducible repeat (first | refine b1_ ?_ _ | refine b2_ ?_ | refine b3_ ?_ _)); refine blk_far ?_ NB297_302.out _; (with_reducible repeat (first | refine b1_ ?_ _ | refine b2_ ?_ | refine b3_ ?_ _)); refine blk_far ?_ NB297_302.out _; (with_reducible repeat (first | refine b1_ ?_ _ | refine b2_ ?_ | refine b3_ ?_ _)); refine blk_far ?_ NB297_302.out _; (with_reducible repeat (first | refine b1_ ?_ _ | refine b2_ ?_ | refine b3_ ?_ _)); exact BK297.out) hb); have n3_ := Aside0.mk (blk_below (g := gb302) (o := .cells #[.int .i64 (wrap64 (a1_0)), .int .i64 (wrap64 (a1_1)), .int .i64 (wrap64 (a1_2)), .int .i64 (wrap64 (a1_3))] 49 (0, 0)) (by (with_reducible repeat (first | refine b1_ ?_ _ | refine b2_ ?_ | refine b3_ ?_ _)); refine blk_put (cs := #[.int .i64 (wrap64 (a1_0)), .int .i64 (wrap64 (a1_1)), .int .i64 (wrap64 (a1_2)), .int .i64 0]) ?_ 3 _ rfl; (with_reducible repeat (first | refine b1_ ?_ _ | refine b2_ ?_ | refine b3_ ?_ _)); refine blk_put (cs := #[.int .i64 (wrap64 (a1_0)), .int .i64 (wrap64 (a1_1)), .int .i64 0, .int .i64 0]) ?_ 2 _ rfl; (with_reducible repeat (first | refine b1_ ?_ _ | refine b2_ ?_ | refine b3_ ?_ _)); refine blk_put (cs := #[.int .i64 (wrap64 (a1_0)), .int .i64 0, .int .i64 0, .int .i64 0]) ?_ 1 _ rfl; (with_reducible repeat (first | refine b1_ ?_ _ | refine b2_ ?_ | refine b3_ ?_ _)); refine blk_put (cs := #[.int .i64 0, .int .i64 0, .int .i64 0, .int .i64 0]) ?_ 0 _ rfl; (with_reducible repeat (first | refine b1_ ?_ _ | refine b2_ ?_ | refine b3_ ?_ _)); exact BK302.out) hb); have n4_ := Aside0.mk (below_step (by repeat (first | (with_reducible first | exact HB.out | apply below_alloc | apply pw_below_drewN | apply below_drew1 | refine below_set ?_ GE297.out | refine below_set ?_ GE302.out) | exact HB.out)) hb); clear HO301; clear BK297; clear BK302; clear HB; have HO301 := n0_; have HO305 := n1_; have BK297 := n2_; have BK302 := n3_; have HB := n4_; clear n0_ n1_ n2_ n3_ n4_; clear hb ho19; obtain ⟨Ao20, co20, eo20⟩ := Kd.R_slice HO305.out; subst eo20) | ((with_reducible refine gate_dst (N := 41) rfl ?_); (try (refine gate_guard (by rfl) ?_; dsimp only)); refine Kd.N_lit (Kd.slice 51 k51) _ 52 ?hg (N' := 41) ?hd (xs := ([y303] : List (List (S51)))) (inner := [.slice Ao20 y303.length co20]) (ok := (fun k_ => some k_ ≠ (.slice Ao16 t299.length co16 : Value).ownBlock ∧ k_ ≠ gb297 ∧ k_ ≠ gb302)) (okp := (fun k_ => some k_ ≠ (.slice Ao16 t299.length co16 : Value).ownBlock ∧ k_ ≠ gb297 ∧ k_ ≠ gb302)) ?hr ?hp (fun _ hk => hk) ((show ∀ k_, w18.heap.size ≤ k_ → (fun k_ => some k_ ≠ (.slice Ao16 t299.length co16 : Value).ownBlock ∧ k_ ≠ gb297 ∧ k_ ≠ gb302) k_ from fun k_ hk => ⟨Kd.fresh' (Kd.N_lt (by (with_reducible repeat (first | apply Kd.N_alloc | apply Kd.N_drewN | apply Kd.N_drew)); exact HO301.out)) k_ hk, Kd.freshB (g := gb297) (o := .cells #[.int .i16 a1_0, .int .i16 a1_1, .int .i16 a1_2, .int .i16 a1_3] 46 (0, 0)) (by (with_reducible repeat (first | refine b1_ ?_ _ | refine b2_ ?_ | refine b3_ ?_ _)); exact BK297.out) k_ hk, Kd.freshB (g := gb302) (o := .cells #[.int .i64 (wrap64 (a1_0)), .int .i64 (wrap64 (a1_1)), .int .i64 (wrap64 (a1_2)), .int .i64 (wrap64 (a1_3))] 49 (0, 0)) (by (with_reducible repeat (first | refine b1_ ?_ _ | refine b2_ ?_ | refine b3_ ?_ _)); exact BK302.out) k_ hk⟩) _ (Nat.le_refl _)) (Below.refl _ _) (Nat.le_refl _) (by simp) ?_; (case hd => rfl); (case hg => rfl); (case hr => first | (go_simp; done) | (go_simp; rfl)); (case hp => exact (Reps.one (show Kd.FK (Kd.slice 51 k51) _ _ y303 [.slice Ao20 y303.length co20] from (Kd.FK_slice_mk (Kd.R_reads' (Kd.R_mono (ok' := (fun k_ => some k_ ≠ (.slice Ao16 t299.length co16 : Value).ownBlock ∧ k_ ≠ gb297 ∧ k_ ≠ gb302)) (Kd.R_types (Kd.R_types (Kd.R_apart' (HO305.out) (Kd.N_typed HO301.out) (by decide)) BK297.out (by decide)) BK302.out (by decide)) (fun k_ hk => ⟨hk.1.1.2, ⟨hk.1.2, hk.2⟩⟩))).2.1 (Kd.R_F (Kd.R_mono (ok' := (fun k_ => some k_ ≠ (.slice Ao16 t299.length co16 : Value).ownBlock ∧ k_ ≠ gb297 ∧ k_ ≠ gb302)) (Kd.R_types (Kd.R_types (Kd.R_apart' (HO305.out) (Kd.N_typed HO301.out) (by decide)) BK297.out (by decide)) BK302.out (by decide)) (fun k_ hk => ⟨hk.1.1.2, ⟨hk.1.2, hk.2⟩⟩))))) (Reps.none _ _))); intro v307 w21 ho22 hb hg_ hnew_; clear hg_ hnew_; (first | rw [← Ny306.out] at ho22 | (simp only [Int.reduceToNat] at ho22; rw [← Ny306.out] at ho22)); have n0_ := Aside0.mk (Kd.N_elder' (by (with_reducible repeat (first | apply Kd.N_alloc | apply Kd.N_drewN | apply Kd.N_drew)); exact HO301.out) (Kd.N_base ho22) hb); have n1_ := Aside0.mk (Kd.N_lower ho22 (below_size (by repeat (first | (with_reducible first | exact HB.out | apply below_alloc | apply pw_below_drewN | apply below_drew1 | refine below_set ?_ GE297.out | refine below_set ?_ GE302.out) | exact HB.out)))); have n2_ := Aside0.mk (blk_below (g := gb297) (o := .cells #[.int .i16 a1_0, .int .i16 a1_1, .int .i16 a1_2, .int .i16 a1_3] 46 (0, 0)) (by (with_reducible repeat (first | refine b1_ ?_ _ | refine b2_ ?_ | refine b3_ ?_ _)); exact BK297.out) hb); have n3_ := Aside0.mk (blk_below (g := gb302) (o := .cells #[.int .i64 (wrap64 (a1_0)), .int .i64 (wrap64 (a1_1)), .int .i64 (wrap64 (a1_2)), .int .i64 (wrap64 (a1_3))] 49 (0, 0)) (by (with_reducible repeat (first | refine b1_ ?_ _ | refine b2_ ?_ | refine b3_ ?_ _)); exact BK302.out) hb); have n4_ := Aside0.mk (below_step (by repeat (first | (with_reducible first | exact HB.out | apply below_alloc | apply pw_below_drewN | apply below_drew1 | refine below_set ?_ GE297.out | refine below_set ?_ GE302.out) | exact HB.out)) hb); clear HO301; clear BK297; clear BK302; clear HB; clear HO305; have HO301 := n0_; have HO308 := n1_; have BK297 := n2_; have BK302 := n3_; have HB := n4_; clear n0_ n1_ n2_ n3_ n4_; clear hb ho22))
      go_meet
      case rel => exact ⟨_, (y306), H', ⟨by have := HJ3.out; first | omega | exact Nat.le_refl _⟩, ⟨by (with_reducible repeat (first | apply Kd.N_alloc | apply Kd.N_drewN | apply Kd.N_drew)); exact Kd.N_mono HO308.out (fun _ hk => ⟨hk.2.1, hk.2.2⟩)⟩, ⟨by (with_reducible repeat (first | refine b1_ ?_ _ | refine b2_ ?_ | refine b3_ ?_ _)); exact BK297.out⟩, ⟨by (with_reducible repeat (first | refine b1_ ?_ _ | refine b2_ ?_ | refine b3_ ?_ _)); exact BK302.out⟩, ⟨by repeat (first | (with_reducible first | exact HB.out | apply below_alloc | apply pw_below_drewN | apply below_drew1 | refine below_set ?_ GE297.out | refine below_set ?_ GE302.out) | exact HB.out)⟩⟩
     ·rw [if_neg c17] at H
      have c17b0 : ((t299.length : Int) == 0) = false := beq_eq_false_iff_ne.mpr c17
      have c17b1 : ((t299.length : Int) != 0) = true := bne_iff_ne.mpr c17
      have c17b2 : ¬ (t299 = []) := fun h_ => c17 (by rw [h_]; rfl)
      (first | rw [c17b0] | (simp only [i64_w, i32_w]; rw [c17b0]) | skip)
      have H' := Aside0.mk H
      clear H
      go_wp2
      go_meet
      case rel => exact ⟨_, (t299), H', ⟨by have := HJ3.out; first | omega | exact Nat.le_refl _⟩, ⟨by (with_reducible repeat (first | apply Kd.N_alloc | apply Kd.N_drewN | apply Kd.N_drew)); exact Kd.N_mono (Kd.N_far (p := ⟨gb302, 3, none⟩) (Kd.N_far (p := ⟨gb302, 2, none⟩) (Kd.N_far (p := ⟨gb302, 1, none⟩) (Kd.N_far (p := ⟨gb302, 0, none⟩) (Kd.N_mono HO301.out (fun k_ hk => (⟨hk, hk.2⟩ : _ ∧ k_ ≠ gb302))) (fun _ hk => hk.2) (.int .i64 (wrap64 (a1_0)))) (fun _ hk => hk.2) (.int .i64 (wrap64 (a1_1)))) (fun _ hk => hk.2) (.int .i64 (wrap64 (a1_2)))) (fun _ hk => hk.2) (.int .i64 (wrap64 (a1_3)))) (fun _ hk => ⟨hk.1.1, hk.1.2⟩)⟩, ⟨by (with_reducible repeat (first | refine b1_ ?_ _ | refine b2_ ?_ | refine b3_ ?_ _)); refine blk_far ?_ NB297_302.out _; (with_reducible repeat (first | refine b1_ ?_ _ | refine b2_ ?_ | refine b3_ ?_ _)); refine blk_far ?_ NB297_302.out _; (with_reducible repeat (first | refine b1_ ?_ _ | refine b2_ ?_ | refine b3_ ?_ _)); refine blk_far ?_ NB297_302.out _; (with_reducible repeat (first | refine b1_ ?_ _ | refine b2_ ?_ | refine b3_ ?_ _)); refine blk_far ?_ NB297_302.out _; (with_reducible repeat (first | refine b1_ ?_ _ | refine b2_ ?_ | refine b3_ ?_ _)); exact BK297.out⟩, ⟨by (with_reducible repeat (first | refine b1_ ?_ _ | refine b2_ ?_ | refine b3_ ?_ _)); refine blk_put (cs := #[.int .i64 (wrap64 (a1_0)), .int .i64 (wrap64 (a1_1)), .int .i64 (wrap64 (a1_2)), .int .i64 0]) ?_ 3 _ rfl; (with_reducible repeat (first | refine b1_ ?_ _ | refine b2_ ?_ | refine b3_ ?_ _)); refine blk_put (cs := #[.int .i64 (wrap64 (a1_0)), .int .i64 (wrap64 (a1_1)), .int .i64 0, .int .i64 0]) ?_ 2 _ rfl; (with_reducible repeat (first | refine b1_ ?_ _ | refine b2_ ?_ | refine b3_ ?_ _)); refine blk_put (cs := #[.int .i64 (wrap64 (a1_0)), .int .i64 0, .int .i64 0, .int .i64 0]) ?_ 1 _ rfl; (with_reducible repeat (first | refine b1_ ?_ _ | refine b2_ ?_ | refine b3_ ?_ _)); refine blk_put (cs := #[.int .i64 0, .int .i64 0, .int .i64 0, .int .i64 0]) ?_ 0 _ rfl; (with_reducible repeat (first | refine b1_ ?_ _ | refine b2_ ?_ | refine b3_ ?_ _)); exact BK302.out⟩, ⟨by repeat (first | (with_reducible first | exact HB.out | apply below_alloc | apply pw_below_drewN | apply below_drew1 | refine below_set ?_ GE297.out | refine below_set ?_ GE302.out) | exact HB.out)⟩⟩
    case rest =>
     clear HC10
     try clear c1
     try clear c2
     try clear p2
     try clear c3
     try clear c6
     try clear p6
     try clear c7
     try clear c8
     try clear c14
     try clear c17
     try clear c17b0
     try clear c17b1
     try clear c17b2
     try clear c18
     try clear hcz12_0
     try clear hcz12_1
     try clear hcz12_2
     try clear hcz12_3
     try clear hcz15_0
     try clear hcz15_1
     try clear hcz15_2
     try clear hcz15_3
     try clear hfz12_0
     try clear hfz12_1
     try clear hfz12_2
     try clear hfz12_3
     try clear hfz15_0
     try clear hfz15_1
     try clear hfz15_2
     try clear hfz15_3
     try clear p2
     obtain ⟨kq, x7_9, HA, HJ9, HO_7, BK297, BK302, HB⟩ := hcut
     cases kq with
     | zero => exact absurd HA.out (by simp [laws_FnGlyphSpots.j1])
     | succ kj9 =>
      have H := HA.out
      clear HA
      simp only [laws_FnGlyphSpots.j1] at H
      replace H := Option.bind_eq_some_iff.mp H
      obtain ⟨t309, A230, H⟩ := H
      replace H : ((impl_GlyphSpots.f kj9 t309).bind fun bt312 => (if bt312.2.2.2.2.2.1 = true then (if bt312.2.2.2.2.2.2 = true then (if bt312.2.1 = (wrap64 (a1_0)) then (if bt312.2.2.1 = (wrap64 (a1_1)) then (if bt312.2.2.2.1 = (wrap64 (a1_2)) then (if bt312.2.2.2.2.1 = (wrap64 (a1_3)) then ((impl_Spot_21.f kj9 bt312.1 x7_9).bind fun t322 => (some t322)) else (some false)) else (some false)) else (some false)) else (some false)) else (some false)) else (some false))) = some r := H
      have A23 := Aside0.mk A230
      clear A230
      replace H := Option.bind_eq_some_iff.mp H
      obtain ⟨⟨t312, t315, t316, t317, t318, t319, t320⟩, A240, H⟩ := H
      replace H : (if t319 = true then (if t320 = true then (if t315 = (wrap64 (a1_0)) then (if t316 = (wrap64 (a1_1)) then (if t317 = (wrap64 (a1_2)) then (if t318 = (wrap64 (a1_3)) then ((impl_Spot_21.f kj9 t312 x7_9).bind fun t322 => (some t322)) else (some false)) else (some false)) else (some false)) else (some false)) else (some false)) else (some false)) = some r := H
      have A24 := Aside0.mk A240
      clear A240
      by_cases c25 : t319 = true
      ·subst c25
       have H1 : (if t320 = true then (if t315 = (wrap64 (a1_0)) then (if t316 = (wrap64 (a1_1)) then (if t317 = (wrap64 (a1_2)) then (if t318 = (wrap64 (a1_3)) then ((impl_Spot_21.f kj9 t312 x7_9).bind fun t322 => (some t322)) else (some false)) else (some false)) else (some false)) else (some false)) else (some false)) = some r := by rw [if_pos rfl] at H; exact H
       clear H
       have H := H1
       clear H1
       by_cases c26 : t320 = true
       ·subst c26
        have H1 : (if t315 = (wrap64 (a1_0)) then (if t316 = (wrap64 (a1_1)) then (if t317 = (wrap64 (a1_2)) then (if t318 = (wrap64 (a1_3)) then ((impl_Spot_21.f kj9 t312 x7_9).bind fun t322 => (some t322)) else (some false)) else (some false)) else (some false)) else (some false)) = some r := by rw [if_pos rfl] at H; exact H
        clear H
        have H := H1
        clear H1
        by_cases c27 : t315 = (wrap64 (a1_0))
        ·rw [if_pos c27] at H
         have c27b0 : (t315 == (wrap64 (a1_0))) = true := beq_iff_eq.mpr c27
         have c27b1 : (t315 != (wrap64 (a1_0))) = false := bne_eq_false_iff_eq.mpr c27
         clear c27
         by_cases c28 : t316 = (wrap64 (a1_1))
         ·rw [if_pos c28] at H
          have c28b0 : (t316 == (wrap64 (a1_1))) = true := beq_iff_eq.mpr c28
          have c28b1 : (t316 != (wrap64 (a1_1))) = false := bne_eq_false_iff_eq.mpr c28
          clear c28
          by_cases c29 : t317 = (wrap64 (a1_2))
          ·rw [if_pos c29] at H
           have c29b0 : (t317 == (wrap64 (a1_2))) = true := beq_iff_eq.mpr c29
           have c29b1 : (t317 != (wrap64 (a1_2))) = false := bne_eq_false_iff_eq.mpr c29
           clear c29
           by_cases c30 : t318 = (wrap64 (a1_3))
           ·rw [if_pos c30] at H
            have c30b0 : (t318 == (wrap64 (a1_3))) = true := beq_iff_eq.mpr c30
            have c30b1 : (t318 != (wrap64 (a1_3))) = false := bne_eq_false_iff_eq.mpr c30
            clear c30
            replace H := Option.bind_eq_some_iff.mp H
            obtain ⟨t322, A310, H⟩ := H
            replace H : (some t322) = some r := H
            have A31 := Aside0.mk A310
            clear A310
            obtain rfl := Option.some.inj H
            have hnb32 := NB302_297.out
            have hnc32 := NB297_302.out
            have hcz33_0 : wc.cell? ⟨gb302, 0, none⟩ = some (.int .i64 (wrap64 (a1_0))) := (blk_cell BK302.out 0).trans rfl
            have hcz33_1 : wc.cell? ⟨gb302, 1, none⟩ = some (.int .i64 (wrap64 (a1_1))) := (blk_cell BK302.out 1).trans rfl
            have hcz33_2 : wc.cell? ⟨gb302, 2, none⟩ = some (.int .i64 (wrap64 (a1_2))) := (blk_cell BK302.out 2).trans rfl
            have hcz33_3 : wc.cell? ⟨gb302, 3, none⟩ = some (.int .i64 (wrap64 (a1_3))) := (blk_cell BK302.out 3).trans rfl
            have hfz33_0 := blk_frozen BK302.out 0
            have hfz33_1 := blk_frozen BK302.out 1
            have hfz33_2 := blk_frozen BK302.out 2
            have hfz33_3 := blk_frozen BK302.out 3
            obtain ⟨Ao34, co34, eo34⟩ := Kd.N_slice HO_7.out
            subst eo34
            go_wp2_with (first | ((with_reducible refine gate_callee (f := 20) rfl ?_); refine goesL_ (some 46) rfl rfl Try.func20 (by kernel_rfl) rfl #[.slice Ao34 x7_9.length co34, .agg #[.int .i64 (wrap64 (a1_0)), .int .i64 (wrap64 (a1_1)), .int .i64 (wrap64 (a1_2)), .int .i64 (wrap64 (a1_3))], .slice A2 l2.length c2] rfl (by (try simp only [List.map_toArray, List.map_cons, List.map_nil]); first | done | rfl | (simp only [List.length_drop, List.length_take]; rfl)) ?_; (with_reducible refine (spec_SpotBytes.calls kj9 _ _ x7_9 (wrap64 (a1_0)) (wrap64 (a1_1)) (wrap64 (a1_2)) (wrap64 (a1_3)) _ _ l2 t309 _ ?side1 ?side2 ?side3 ?side4 A23.out).mono ?_); (case side1 => repeat (first | exact (Kd.N_reads' HO_7.out).2.2 | (with_reducible refine Kd.C_alloc ?_ _) | (with_reducible refine Kd.C_drewN ?_ _) | (with_reducible refine Kd.C_drew ?_))); (case side2 => exact (Kd.N_reads' HO_7.out).2.1); (case side3 => repeat (first | exact (Kd.C_below HR2.out HB.out) | (with_reducible refine Kd.C_alloc ?_ _) | (with_reducible refine Kd.C_drewN ?_ _) | (with_reducible refine Kd.C_drew ?_))); (case side4 => exact HC2.out); rintro e w35 ⟨v310, rfl, ho0, hb⟩; refine ⟨_, rfl, ?_⟩; have n0_ := Aside0.mk (Kd.N_elder' (by (with_reducible repeat (first | apply Kd.N_alloc | apply Kd.N_drewN | apply Kd.N_drew)); exact HO_7.out) (Kd.R_base ho0) hb); have n1_ := Aside0.mk (Kd.R_lower ho0 (below_size (by repeat (first | (with_reducible first | exact HB.out | apply below_alloc | apply pw_below_drewN | apply below_drew1 | refine below_set ?_ GE297.out | refine below_set ?_ GE302.out) | exact HB.out)))); have n2_ := Aside0.mk (blk_below (g := gb297) (o := .cells #[.int .i16 a1_0, .int .i16 a1_1, .int .i16 a1_2, .int .i16 a1_3] 46 (0, 0)) (by (with_reducible repeat (first | refine b1_ ?_ _ | refine b2_ ?_ | refine b3_ ?_ _)); exact BK297.out) hb); have n3_ := Aside0.mk (blk_below (g := gb302) (o := .cells #[.int .i64 (wrap64 (a1_0)), .int .i64 (wrap64 (a1_1)), .int .i64 (wrap64 (a1_2)), .int .i64 (wrap64 (a1_3))] 49 (0, 0)) (by (with_reducible repeat (first | refine b1_ ?_ _ | refine b2_ ?_ | refine b3_ ?_ _)); exact BK302.out) hb); have n4_ := Aside0.mk (below_step (by repeat (first | (with_reducible first | exact HB.out | apply below_alloc | apply pw_below_drewN | apply below_drew1 | refine below_set ?_ GE297.out | refine below_set ?_ GE302.out) | exact HB.out)) hb); clear HO_7; clear BK297; clear BK302; clear HB; have HO_7 := n0_; have HO311 := n1_; have BK297 := n2_; have BK302 := n3_; have HB := n4_; clear n0_ n1_ n2_ n3_ n4_; (try clear hb); (try clear hb2); (try clear hk); (try clear hi); (try clear ho0); obtain ⟨Ao36, co36, eo36⟩ := Kd.R_slice HO311.out; subst eo36) | ((with_reducible refine gate_callee (f := 19) rfl ?_); refine goesL_ (some 47) rfl rfl Try.func19 (by kernel_rfl) rfl #[.slice Ao36 t309.length co36] rfl (by (try simp only [List.map_toArray, List.map_cons, List.map_nil]); first | done | rfl | (simp only [List.length_drop, List.length_take]; rfl)) ?_; (with_reducible refine (impl_GlyphSpots.calls kj9 _ _ t309 t312 t315 t316 t317 t318 true true _ ?side1 ?side2 A24.out).mono ?_); (case side1 => repeat (first | exact (Kd.R_reads' HO311.out).2.2 | (with_reducible refine Kd.C_alloc ?_ _) | (with_reducible refine Kd.C_drewN ?_ _) | (with_reducible refine Kd.C_drew ?_))); (case side2 => exact (Kd.R_reads' HO311.out).2.1); rintro e w37 ⟨v313, rfl, ho0, hb⟩; refine ⟨_, rfl, ?_⟩; have n0_ := Aside0.mk (Kd.N_elder' (by (with_reducible repeat (first | apply Kd.N_alloc | apply Kd.N_drewN | apply Kd.N_drew)); exact HO_7.out) (Kd.N_base (Kd.S_N ho0)) hb); have n1_ := Aside0.mk (Kd.R_below (by (with_reducible repeat (first | apply Kd.R_alloc | apply Kd.R_drewN | apply Kd.R_drew)); exact HO311.out) hb); have n2_ := Aside0.mk (Kd.N_lower (Kd.N_mono (ok' := fun k_ => some k_ ≠ (.slice Ao34 x7_9.length co34 : Value).ownBlock ∧ some k_ ≠ (.slice Ao36 t309.length co36 : Value).ownBlock ∧ k_ ≠ gb297 ∧ k_ ≠ gb302) (Kd.S_N (Kd.S_bound ho0)) (fun k_ hk_ => ⟨(Kd.fresh' (Kd.N_lt (by (with_reducible repeat (first | apply Kd.N_alloc | apply Kd.N_drewN | apply Kd.N_drew)); exact HO_7.out)) k_ hk_.2.1), (Kd.fresh' (Kd.R_lt (by (with_reducible repeat (first | apply Kd.R_alloc | apply Kd.R_drewN | apply Kd.R_drew)); exact HO311.out)) k_ hk_.2.1), (Kd.freshB (g := gb297) (o := .cells #[.int .i16 a1_0, .int .i16 a1_1, .int .i16 a1_2, .int .i16 a1_3] 46 (0, 0)) (by (with_reducible repeat (first | refine b1_ ?_ _ | refine b2_ ?_ | refine b3_ ?_ _)); exact BK297.out) k_ hk_.2.1), (Kd.freshB (g := gb302) (o := .cells #[.int .i64 (wrap64 (a1_0)), .int .i64 (wrap64 (a1_1)), .int .i64 (wrap64 (a1_2)), .int .i64 (wrap64 (a1_3))] 49 (0, 0)) (by (with_reducible repeat (first | refine b1_ ?_ _ | refine b2_ ?_ | refine b3_ ?_ _)); exact BK302.out) k_ hk_.2.1)⟩)) (below_size (by repeat (first | (with_reducible first | exact HB.out | apply below_alloc | apply pw_below_drewN | apply below_drew1 | refine below_set ?_ GE297.out | refine below_set ?_ GE302.out) | exact HB.out)))); have n3_ := Aside0.mk (blk_below (g := gb297) (o := .cells #[.int .i16 a1_0, .int .i16 a1_1, .int .i16 a1_2, .int .i16 a1_3] 46 (0, 0)) (by (with_reducible repeat (first | refine b1_ ?_ _ | refine b2_ ?_ | refine b3_ ?_ _)); exact BK297.out) hb); have n4_ := Aside0.mk (blk_below (g := gb302) (o := .cells #[.int .i64 (wrap64 (a1_0)), .int .i64 (wrap64 (a1_1)), .int .i64 (wrap64 (a1_2)), .int .i64 (wrap64 (a1_3))] 49 (0, 0)) (by (with_reducible repeat (first | refine b1_ ?_ _ | refine b2_ ?_ | refine b3_ ?_ _)); exact BK302.out) hb); have n5_ := Aside0.mk (below_step (by repeat (first | (with_reducible first | exact HB.out | apply below_alloc | apply pw_below_drewN | apply below_drew1 | refine below_set ?_ GE297.out | refine below_set ?_ GE302.out) | exact HB.out)) hb); clear HO_7; clear HO311; clear BK297; clear BK302; clear HB; have HO_7 := n0_; have HO311 := n1_; have HO314 := n2_; have BK297 := n3_; have BK302 := n4_; have HB := n5_; clear n0_ n1_ n2_ n3_ n4_ n5_; (try clear hb); (try clear hb2); (try clear hk); (try clear hi); (try clear ho0)) | ((with_reducible refine gate_dst (N := 10) rfl ?_); (try (refine gate_guard (by rfl) ?_; dsimp only)); refine box_event ?hg (N := 10) ?hd (cs := #[.int .i64 0, .int .i64 0, .int .i64 0, .int .i64 0]) (t := 49) ?hr ?_; (case hd => rfl); (case hg => rfl); (case hr => first | (go_simp; done) | (go_simp; rfl)); intro gb321 hg w38 hbox hb; have n0_ := Aside0.mk (Kd.N_below (Kd.N_elderB (by (with_reducible repeat (first | apply Kd.N_alloc | apply Kd.N_drewN | apply Kd.N_drew)); exact HO_7.out) gb321 (Nat.le_of_eq hg.symm)) hb); have n1_ := Aside0.mk (Kd.R_below (by (with_reducible repeat (first | apply Kd.R_alloc | apply Kd.R_drewN | apply Kd.R_drew)); exact HO311.out) hb); have n2_ := Aside0.mk (Kd.N_below (Kd.N_elderB (by (with_reducible repeat (first | apply Kd.N_alloc | apply Kd.N_drewN | apply Kd.N_drew)); exact HO314.out) gb321 (Nat.le_of_eq hg.symm)) hb); have n3_ := Aside0.mk (blk_below (g := gb297) (o := .cells #[.int .i16 a1_0, .int .i16 a1_1, .int .i16 a1_2, .int .i16 a1_3] 46 (0, 0)) (by (with_reducible repeat (first | refine b1_ ?_ _ | refine b2_ ?_ | refine b3_ ?_ _)); exact BK297.out) hb); have n4_ := Aside0.mk (blk_below (g := gb302) (o := .cells #[.int .i64 (wrap64 (a1_0)), .int .i64 (wrap64 (a1_1)), .int .i64 (wrap64 (a1_2)), .int .i64 (wrap64 (a1_3))] 49 (0, 0)) (by (with_reducible repeat (first | refine b1_ ?_ _ | refine b2_ ?_ | refine b3_ ?_ _)); exact BK302.out) hb); have n5_ := Aside0.mk (below_step (by repeat (first | (with_reducible first | exact HB.out | apply below_alloc | apply pw_below_drewN | apply below_drew1 | refine below_set ?_ GE297.out | refine below_set ?_ GE302.out) | exact HB.out)) hb); have n6_ := Aside0.mk (hbox); have n7_ := Aside0.mk ((by rw [hg]; exact (below_size (by repeat (first | (with_reducible first | exact HB.out | apply below_alloc | apply pw_below_drewN | apply below_drew1 | refine below_set ?_ GE297.out | refine below_set ?_ GE302.out) | exact HB.out))) : w.heap.size ≤ gb321)); have n8_ := Aside0.mk ((by rw [hg]; exact (below_size (by repeat (first | (with_reducible first | exact HB.out | apply below_alloc | apply pw_below_drewN | apply below_drew1 | refine below_set ?_ GE297.out | refine below_set ?_ GE302.out) | exact HB.out))) : w.heap.size ≤ gb321)); have n9_ := Aside0.mk ((by rw [hg]; exact Nat.ne_of_lt (blk_lt (g := gb297) (o := .cells #[.int .i16 a1_0, .int .i16 a1_1, .int .i16 a1_2, .int .i16 a1_3] 46 (0, 0)) (by (with_reducible repeat (first | refine b1_ ?_ _ | refine b2_ ?_ | refine b3_ ?_ _)); exact BK297.out)) : gb297 ≠ gb321)); have n10_ := Aside0.mk ((by rw [hg]; exact Nat.ne_of_gt (blk_lt (g := gb297) (o := .cells #[.int .i16 a1_0, .int .i16 a1_1, .int .i16 a1_2, .int .i16 a1_3] 46 (0, 0)) (by (with_reducible repeat (first | refine b1_ ?_ _ | refine b2_ ?_ | refine b3_ ?_ _)); exact BK297.out)) : gb321 ≠ gb297)); have n11_ := Aside0.mk ((by rw [hg]; exact Nat.ne_of_lt (blk_lt (g := gb302) (o := .cells #[.int .i64 (wrap64 (a1_0)), .int .i64 (wrap64 (a1_1)), .int .i64 (wrap64 (a1_2)), .int .i64 (wrap64 (a1_3))] 49 (0, 0)) (by (with_reducible repeat (first | refine b1_ ?_ _ | refine b2_ ?_ | refine b3_ ?_ _)); exact BK302.out)) : gb302 ≠ gb321)); have n12_ := Aside0.mk ((by rw [hg]; exact Nat.ne_of_gt (blk_lt (g := gb302) (o := .cells #[.int .i64 (wrap64 (a1_0)), .int .i64 (wrap64 (a1_1)), .int .i64 (wrap64 (a1_2)), .int .i64 (wrap64 (a1_3))] 49 (0, 0)) (by (with_reducible repeat (first | refine b1_ ?_ _ | refine b2_ ?_ | refine b3_ ?_ _)); exact BK302.out)) : gb321 ≠ gb302)); clear HO_7; clear HO311; clear HO314; clear BK297; clear BK302; clear HB; have HO_7 := n0_; have HO311 := n1_; have HO314 := n2_; have BK297 := n3_; have BK302 := n4_; have HB := n5_; have BK321 := n6_; have GW321 := n7_; have GE321 := n8_; have NB297_321 := n9_; have NB321_297 := n10_; have NB302_321 := n11_; have NB321_302 := n12_; clear n0_ n1_ n2_ n3_ n4_ n5_ n6_ n7_ n8_ n9_ n10_ n11_ n12_; clear hb hbox hg; have hnb39 := NB321_297.out; have hnc39 := NB297_321.out; have hnb40 := NB321_302.out; have hnc40 := NB302_321.out; have hcz41_0 : w38.cell? ⟨gb321, 0, none⟩ = some (.int .i64 0) := (blk_cell BK321.out 0).trans rfl; have hcz41_1 : w38.cell? ⟨gb321, 1, none⟩ = some (.int .i64 0) := (blk_cell BK321.out 1).trans rfl; have hcz41_2 : w38.cell? ⟨gb321, 2, none⟩ = some (.int .i64 0) := (blk_cell BK321.out 2).trans rfl; have hcz41_3 : w38.cell? ⟨gb321, 3, none⟩ = some (.int .i64 0) := (blk_cell BK321.out 3).trans rfl; have hfz41_0 := blk_frozen BK321.out 0; have hfz41_1 := blk_frozen BK321.out 1; have hfz41_2 := blk_frozen BK321.out 2; have hfz41_3 := blk_frozen BK321.out 3; have hcz42_0 : w38.cell? ⟨gb302, 0, none⟩ = some (.int .i64 (wrap64 (a1_0))) := (blk_cell BK302.out 0).trans rfl; have hcz42_1 : w38.cell? ⟨gb302, 1, none⟩ = some (.int .i64 (wrap64 (a1_1))) := (blk_cell BK302.out 1).trans rfl; have hcz42_2 : w38.cell? ⟨gb302, 2, none⟩ = some (.int .i64 (wrap64 (a1_2))) := (blk_cell BK302.out 2).trans rfl; have hcz42_3 : w38.cell? ⟨gb302, 3, none⟩ = some (.int .i64 (wrap64 (a1_3))) := (blk_cell BK302.out 3).trans rfl; have hfz42_0 := blk_frozen BK302.out 0; have hfz42_1 := blk_frozen BK302.out 1; have hfz42_2 := blk_frozen BK302.out 2; have hfz42_3 := blk_frozen BK302.out 3; obtain ⟨Ao43, co43, eo43⟩ := Kd.N_slice HO314.out; subst eo43) | (go_at_call 21; (with_reducible refine (impl_Spot_21.calls kj9 _ _ t312 _ _ x7_9 t322 _ ?side1 ?side2 ?side3 ?side4 A31.out).mono ?_); (case side1 => refine (Kd.N_reads' (e := 52) (base := w.heap.size) (ok := fun k_ => ((some k_ ≠ (.slice Ao34 x7_9.length co34 : Value).ownBlock ∧ (some k_ ≠ (.slice Ao36 t309.length co36 : Value).ownBlock ∧ (k_ ≠ gb297 ∧ k_ ≠ gb302))) ∧ k_ ≠ gb321)) (n := t312.length) (c := co43) ?_).2.2; exact (by (with_reducible repeat (first | apply Kd.N_alloc | apply Kd.N_drewN | apply Kd.N_drew)); exact (Kd.N_mono (Kd.N_far (p := ⟨gb321, 3, none⟩) (Kd.N_far (p := ⟨gb321, 2, none⟩) (Kd.N_far (p := ⟨gb321, 1, none⟩) (Kd.N_far (p := ⟨gb321, 0, none⟩) (Kd.N_mono HO314.out (fun k_ hk => (⟨hk, hk.2⟩ : _ ∧ k_ ≠ gb321))) (fun _ hk => hk.2) (.int .i64 t315)) (fun _ hk => hk.2) (.int .i64 t316)) (fun _ hk => hk.2) (.int .i64 t317)) (fun _ hk => hk.2) (.int .i64 t318)) (fun _ h_ => h_.1)))); (case side2 => exact (Kd.N_reads' HO314.out).2.1); (case side3 => refine (Kd.N_reads' (e := 52) (base := w.heap.size) (ok := fun k_ => ((((k_ ≠ gb297 ∧ k_ ≠ gb302) ∧ some k_ ≠ (.slice Ao36 t309.length co36 : Value).ownBlock) ∧ some k_ ≠ (.slice Ao43 t312.length co43 : Value).ownBlock) ∧ k_ ≠ gb321)) (n := x7_9.length) (c := co34) ?_).2.2; exact (by (with_reducible repeat (first | apply Kd.N_alloc | apply Kd.N_drewN | apply Kd.N_drew)); exact (Kd.N_mono (Kd.N_far (p := ⟨gb321, 3, none⟩) (Kd.N_far (p := ⟨gb321, 2, none⟩) (Kd.N_far (p := ⟨gb321, 1, none⟩) (Kd.N_far (p := ⟨gb321, 0, none⟩) (Kd.N_mono HO_7.out (fun k_ hk => (⟨hk, hk.2⟩ : _ ∧ k_ ≠ gb321))) (fun _ hk => hk.2) (.int .i64 t315)) (fun _ hk => hk.2) (.int .i64 t316)) (fun _ hk => hk.2) (.int .i64 t317)) (fun _ hk => hk.2) (.int .i64 t318)) (fun _ h_ => h_.1)))); (case side4 => exact (Kd.N_reads' HO_7.out).2.1); rintro e w' ⟨rfl, ⟨nd, rfl⟩⟩))
            go_ret
            exact ⟨by first | rfl | (simp [errW_none, errW_some] <;> rfl) | (simp [*, errW_none, errW_some] <;> rfl), by repeat (first | (with_reducible first | exact HB.out | apply below_alloc | apply pw_below_drewN | apply below_drew1 | refine below_set ?_ GE297.out | refine below_set ?_ GE302.out | refine below_set ?_ GE321.out) | exact HB.out)⟩
           ·rw [if_neg c30] at H
            have c30b0 : (t318 == (wrap64 (a1_3))) = false := beq_eq_false_iff_ne.mpr c30
            have c30b1 : (t318 != (wrap64 (a1_3))) = true := bne_iff_ne.mpr c30
            obtain rfl := Option.some.inj H
            have hnb44 := NB302_297.out
            have hnc44 := NB297_302.out
            have hcz45_0 : wc.cell? ⟨gb302, 0, none⟩ = some (.int .i64 (wrap64 (a1_0))) := (blk_cell BK302.out 0).trans rfl
            have hcz45_1 : wc.cell? ⟨gb302, 1, none⟩ = some (.int .i64 (wrap64 (a1_1))) := (blk_cell BK302.out 1).trans rfl
            have hcz45_2 : wc.cell? ⟨gb302, 2, none⟩ = some (.int .i64 (wrap64 (a1_2))) := (blk_cell BK302.out 2).trans rfl
            have hcz45_3 : wc.cell? ⟨gb302, 3, none⟩ = some (.int .i64 (wrap64 (a1_3))) := (blk_cell BK302.out 3).trans rfl
            have hfz45_0 := blk_frozen BK302.out 0
            have hfz45_1 := blk_frozen BK302.out 1
            have hfz45_2 := blk_frozen BK302.out 2
            have hfz45_3 := blk_frozen BK302.out 3
            obtain ⟨Ao46, co46, eo46⟩ := Kd.N_slice HO_7.out
            subst eo46
            go_wp2_with (first | ((with_reducible refine gate_callee (f := 20) rfl ?_); refine goesL_ (some 46) rfl rfl Try.func20 (by kernel_rfl) rfl #[.slice Ao46 x7_9.length co46, .agg #[.int .i64 (wrap64 (a1_0)), .int .i64 (wrap64 (a1_1)), .int .i64 (wrap64 (a1_2)), .int .i64 (wrap64 (a1_3))], .slice A2 l2.length c2] rfl (by (try simp only [List.map_toArray, List.map_cons, List.map_nil]); first | done | rfl | (simp only [List.length_drop, List.length_take]; rfl)) ?_; (with_reducible refine (spec_SpotBytes.calls kj9 _ _ x7_9 (wrap64 (a1_0)) (wrap64 (a1_1)) (wrap64 (a1_2)) (wrap64 (a1_3)) _ _ l2 t309 _ ?side1 ?side2 ?side3 ?side4 A23.out).mono ?_); (case side1 => repeat (first | exact (Kd.N_reads' HO_7.out).2.2 | (with_reducible refine Kd.C_alloc ?_ _) | (with_reducible refine Kd.C_drewN ?_ _) | (with_reducible refine Kd.C_drew ?_))); (case side2 => exact (Kd.N_reads' HO_7.out).2.1); (case side3 => repeat (first | exact (Kd.C_below HR2.out HB.out) | (with_reducible refine Kd.C_alloc ?_ _) | (with_reducible refine Kd.C_drewN ?_ _) | (with_reducible refine Kd.C_drew ?_))); (case side4 => exact HC2.out); rintro e w47 ⟨v310, rfl, ho0, hb⟩; refine ⟨_, rfl, ?_⟩; have n0_ := Aside0.mk (Kd.N_elder' (by (with_reducible repeat (first | apply Kd.N_alloc | apply Kd.N_drewN | apply Kd.N_drew)); exact HO_7.out) (Kd.R_base ho0) hb); have n1_ := Aside0.mk (Kd.R_lower ho0 (below_size (by repeat (first | (with_reducible first | exact HB.out | apply below_alloc | apply pw_below_drewN | apply below_drew1 | refine below_set ?_ GE297.out | refine below_set ?_ GE302.out) | exact HB.out)))); have n2_ := Aside0.mk (blk_below (g := gb297) (o := .cells #[.int .i16 a1_0, .int .i16 a1_1, .int .i16 a1_2, .int .i16 a1_3] 46 (0, 0)) (by (with_reducible repeat (first | refine b1_ ?_ _ | refine b2_ ?_ | refine b3_ ?_ _)); exact BK297.out) hb); have n3_ := Aside0.mk (blk_below (g := gb302) (o := .cells #[.int .i64 (wrap64 (a1_0)), .int .i64 (wrap64 (a1_1)), .int .i64 (wrap64 (a1_2)), .int .i64 (wrap64 (a1_3))] 49 (0, 0)) (by (with_reducible repeat (first | refine b1_ ?_ _ | refine b2_ ?_ | refine b3_ ?_ _)); exact BK302.out) hb); have n4_ := Aside0.mk (below_step (by repeat (first | (with_reducible first | exact HB.out | apply below_alloc | apply pw_below_drewN | apply below_drew1 | refine below_set ?_ GE297.out | refine below_set ?_ GE302.out) | exact HB.out)) hb); clear HO_7; clear BK297; clear BK302; clear HB; have HO_7 := n0_; have HO311 := n1_; have BK297 := n2_; have BK302 := n3_; have HB := n4_; clear n0_ n1_ n2_ n3_ n4_; (try clear hb); (try clear hb2); (try clear hk); (try clear hi); (try clear ho0); obtain ⟨Ao48, co48, eo48⟩ := Kd.R_slice HO311.out; subst eo48) | ((with_reducible refine gate_callee (f := 19) rfl ?_); refine goesL_ (some 47) rfl rfl Try.func19 (by kernel_rfl) rfl #[.slice Ao48 t309.length co48] rfl (by (try simp only [List.map_toArray, List.map_cons, List.map_nil]); first | done | rfl | (simp only [List.length_drop, List.length_take]; rfl)) ?_; (with_reducible refine (impl_GlyphSpots.calls kj9 _ _ t309 t312 t315 t316 t317 t318 true true _ ?side1 ?side2 A24.out).mono ?_); (case side1 => repeat (first | exact (Kd.R_reads' HO311.out).2.2 | (with_reducible refine Kd.C_alloc ?_ _) | (with_reducible refine Kd.C_drewN ?_ _) | (with_reducible refine Kd.C_drew ?_))); (case side2 => exact (Kd.R_reads' HO311.out).2.1); rintro e w49 ⟨v313, rfl, ho0, hb⟩; refine ⟨_, rfl, ?_⟩; have n0_ := Aside0.mk (Kd.N_elder' (by (with_reducible repeat (first | apply Kd.N_alloc | apply Kd.N_drewN | apply Kd.N_drew)); exact HO_7.out) (Kd.N_base (Kd.S_N ho0)) hb); have n1_ := Aside0.mk (Kd.R_below (by (with_reducible repeat (first | apply Kd.R_alloc | apply Kd.R_drewN | apply Kd.R_drew)); exact HO311.out) hb); have n2_ := Aside0.mk (Kd.N_lower (Kd.N_mono (ok' := fun k_ => some k_ ≠ (.slice Ao46 x7_9.length co46 : Value).ownBlock ∧ some k_ ≠ (.slice Ao48 t309.length co48 : Value).ownBlock ∧ k_ ≠ gb297 ∧ k_ ≠ gb302) (Kd.S_N (Kd.S_bound ho0)) (fun k_ hk_ => ⟨(Kd.fresh' (Kd.N_lt (by (with_reducible repeat (first | apply Kd.N_alloc | apply Kd.N_drewN | apply Kd.N_drew)); exact HO_7.out)) k_ hk_.2.1), (Kd.fresh' (Kd.R_lt (by (with_reducible repeat (first | apply Kd.R_alloc | apply Kd.R_drewN | apply Kd.R_drew)); exact HO311.out)) k_ hk_.2.1), (Kd.freshB (g := gb297) (o := .cells #[.int .i16 a1_0, .int .i16 a1_1, .int .i16 a1_2, .int .i16 a1_3] 46 (0, 0)) (by (with_reducible repeat (first | refine b1_ ?_ _ | refine b2_ ?_ | refine b3_ ?_ _)); exact BK297.out) k_ hk_.2.1), (Kd.freshB (g := gb302) (o := .cells #[.int .i64 (wrap64 (a1_0)), .int .i64 (wrap64 (a1_1)), .int .i64 (wrap64 (a1_2)), .int .i64 (wrap64 (a1_3))] 49 (0, 0)) (by (with_reducible repeat (first | refine b1_ ?_ _ | refine b2_ ?_ | refine b3_ ?_ _)); exact BK302.out) k_ hk_.2.1)⟩)) (below_size (by repeat (first | (with_reducible first | exact HB.out | apply below_alloc | apply pw_below_drewN | apply below_drew1 | refine below_set ?_ GE297.out | refine below_set ?_ GE302.out) | exact HB.out)))); have n3_ := Aside0.mk (blk_below (g := gb297) (o := .cells #[.int .i16 a1_0, .int .i16 a1_1, .int .i16 a1_2, .int .i16 a1_3] 46 (0, 0)) (by (with_reducible repeat (first | refine b1_ ?_ _ | refine b2_ ?_ | refine b3_ ?_ _)); exact BK297.out) hb); have n4_ := Aside0.mk (blk_below (g := gb302) (o := .cells #[.int .i64 (wrap64 (a1_0)), .int .i64 (wrap64 (a1_1)), .int .i64 (wrap64 (a1_2)), .int .i64 (wrap64 (a1_3))] 49 (0, 0)) (by (with_reducible repeat (first | refine b1_ ?_ _ | refine b2_ ?_ | refine b3_ ?_ _)); exact BK302.out) hb); have n5_ := Aside0.mk (below_step (by repeat (first | (with_reducible first | exact HB.out | apply below_alloc | apply pw_below_drewN | apply below_drew1 | refine below_set ?_ GE297.out | refine below_set ?_ GE302.out) | exact HB.out)) hb); clear HO_7; clear HO311; clear BK297; clear BK302; clear HB; have HO_7 := n0_; have HO311 := n1_; have HO314 := n2_; have BK297 := n3_; have BK302 := n4_; have HB := n5_; clear n0_ n1_ n2_ n3_ n4_ n5_; (try clear hb); (try clear hb2); (try clear hk); (try clear hi); (try clear ho0)) | ((with_reducible refine gate_dst (N := 10) rfl ?_); (try (refine gate_guard (by rfl) ?_; dsimp only)); refine box_event ?hg (N := 10) ?hd (cs := #[.int .i64 0, .int .i64 0, .int .i64 0, .int .i64 0]) (t := 49) ?hr ?_; (case hd => rfl); (case hg => rfl); (case hr => first | (go_simp; done) | (go_simp; rfl)); intro gb321 hg w50 hbox hb; have n0_ := Aside0.mk (Kd.N_below (Kd.N_elderB (by (with_reducible repeat (first | apply Kd.N_alloc | apply Kd.N_drewN | apply Kd.N_drew)); exact HO_7.out) gb321 (Nat.le_of_eq hg.symm)) hb); have n1_ := Aside0.mk (Kd.R_below (by (with_reducible repeat (first | apply Kd.R_alloc | apply Kd.R_drewN | apply Kd.R_drew)); exact HO311.out) hb); have n2_ := Aside0.mk (Kd.N_below (Kd.N_elderB (by (with_reducible repeat (first | apply Kd.N_alloc | apply Kd.N_drewN | apply Kd.N_drew)); exact HO314.out) gb321 (Nat.le_of_eq hg.symm)) hb); have n3_ := Aside0.mk (blk_below (g := gb297) (o := .cells #[.int .i16 a1_0, .int .i16 a1_1, .int .i16 a1_2, .int .i16 a1_3] 46 (0, 0)) (by (with_reducible repeat (first | refine b1_ ?_ _ | refine b2_ ?_ | refine b3_ ?_ _)); exact BK297.out) hb); have n4_ := Aside0.mk (blk_below (g := gb302) (o := .cells #[.int .i64 (wrap64 (a1_0)), .int .i64 (wrap64 (a1_1)), .int .i64 (wrap64 (a1_2)), .int .i64 (wrap64 (a1_3))] 49 (0, 0)) (by (with_reducible repeat (first | refine b1_ ?_ _ | refine b2_ ?_ | refine b3_ ?_ _)); exact BK302.out) hb); have n5_ := Aside0.mk (below_step (by repeat (first | (with_reducible first | exact HB.out | apply below_alloc | apply pw_below_drewN | apply below_drew1 | refine below_set ?_ GE297.out | refine below_set ?_ GE302.out) | exact HB.out)) hb); have n6_ := Aside0.mk (hbox); have n7_ := Aside0.mk ((by rw [hg]; exact (below_size (by repeat (first | (with_reducible first | exact HB.out | apply below_alloc | apply pw_below_drewN | apply below_drew1 | refine below_set ?_ GE297.out | refine below_set ?_ GE302.out) | exact HB.out))) : w.heap.size ≤ gb321)); have n8_ := Aside0.mk ((by rw [hg]; exact (below_size (by repeat (first | (with_reducible first | exact HB.out | apply below_alloc | apply pw_below_drewN | apply below_drew1 | refine below_set ?_ GE297.out | refine below_set ?_ GE302.out) | exact HB.out))) : w.heap.size ≤ gb321)); have n9_ := Aside0.mk ((by rw [hg]; exact Nat.ne_of_lt (blk_lt (g := gb297) (o := .cells #[.int .i16 a1_0, .int .i16 a1_1, .int .i16 a1_2, .int .i16 a1_3] 46 (0, 0)) (by (with_reducible repeat (first | refine b1_ ?_ _ | refine b2_ ?_ | refine b3_ ?_ _)); exact BK297.out)) : gb297 ≠ gb321)); have n10_ := Aside0.mk ((by rw [hg]; exact Nat.ne_of_gt (blk_lt (g := gb297) (o := .cells #[.int .i16 a1_0, .int .i16 a1_1, .int .i16 a1_2, .int .i16 a1_3] 46 (0, 0)) (by (with_reducible repeat (first | refine b1_ ?_ _ | refine b2_ ?_ | refine b3_ ?_ _)); exact BK297.out)) : gb321 ≠ gb297)); have n11_ := Aside0.mk ((by rw [hg]; exact Nat.ne_of_lt (blk_lt (g := gb302) (o := .cells #[.int .i64 (wrap64 (a1_0)), .int .i64 (wrap64 (a1_1)), .int .i64 (wrap64 (a1_2)), .int .i64 (wrap64 (a1_3))] 49 (0, 0)) (by (with_reducible repeat (first | refine b1_ ?_ _ | refine b2_ ?_ | refine b3_ ?_ _)); exact BK302.out)) : gb302 ≠ gb321)); have n12_ := Aside0.mk ((by rw [hg]; exact Nat.ne_of_gt (blk_lt (g := gb302) (o := .cells #[.int .i64 (wrap64 (a1_0)), .int .i64 (wrap64 (a1_1)), .int .i64 (wrap64 (a1_2)), .int .i64 (wrap64 (a1_3))] 49 (0, 0)) (by (with_reducible repeat (first | refine b1_ ?_ _ | refine b2_ ?_ | refine b3_ ?_ _)); exact BK302.out)) : gb321 ≠ gb302)); clear HO_7; clear HO311; clear HO314; clear BK297; clear BK302; clear HB; have HO_7 := n0_; have HO311 := n1_; have HO314 := n2_; have BK297 := n3_; have BK302 := n4_; have HB := n5_; have BK321 := n6_; have GW321 := n7_; have GE321 := n8_; have NB297_321 := n9_; have NB321_297 := n10_; have NB302_321 := n11_; have NB321_302 := n12_; clear n0_ n1_ n2_ n3_ n4_ n5_ n6_ n7_ n8_ n9_ n10_ n11_ n12_; clear hb hbox hg; have hnb51 := NB321_297.out; have hnc51 := NB297_321.out; have hnb52 := NB321_302.out; have hnc52 := NB302_321.out; have hcz53_0 : w50.cell? ⟨gb321, 0, none⟩ = some (.int .i64 0) := (blk_cell BK321.out 0).trans rfl; have hcz53_1 : w50.cell? ⟨gb321, 1, none⟩ = some (.int .i64 0) := (blk_cell BK321.out 1).trans rfl; have hcz53_2 : w50.cell? ⟨gb321, 2, none⟩ = some (.int .i64 0) := (blk_cell BK321.out 2).trans rfl; have hcz53_3 : w50.cell? ⟨gb321, 3, none⟩ = some (.int .i64 0) := (blk_cell BK321.out 3).trans rfl; have hfz53_0 := blk_frozen BK321.out 0; have hfz53_1 := blk_frozen BK321.out 1; have hfz53_2 := blk_frozen BK321.out 2; have hfz53_3 := blk_frozen BK321.out 3; have hcz54_0 : w50.cell? ⟨gb302, 0, none⟩ = some (.int .i64 (wrap64 (a1_0))) := (blk_cell BK302.out 0).trans rfl; have hcz54_1 : w50.cell? ⟨gb302, 1, none⟩ = some (.int .i64 (wrap64 (a1_1))) := (blk_cell BK302.out 1).trans rfl; have hcz54_2 : w50.cell? ⟨gb302, 2, none⟩ = some (.int .i64 (wrap64 (a1_2))) := (blk_cell BK302.out 2).trans rfl; have hcz54_3 : w50.cell? ⟨gb302, 3, none⟩ = some (.int .i64 (wrap64 (a1_3))) := (blk_cell BK302.out 3).trans rfl; have hfz54_0 := blk_frozen BK302.out 0; have hfz54_1 := blk_frozen BK302.out 1; have hfz54_2 := blk_frozen BK302.out 2; have hfz54_3 := blk_frozen BK302.out 3))
            go_ret
            exact ⟨by first | rfl | (simp [errW_none, errW_some] <;> rfl) | (simp [*, errW_none, errW_some] <;> rfl), by repeat (first | (with_reducible first | exact HB.out | apply below_alloc | apply pw_below_drewN | apply below_drew1 | refine below_set ?_ GE297.out | refine below_set ?_ GE302.out | refine below_set ?_ GE321.out) | exact HB.out)⟩
          ·rw [if_neg c29] at H
           have c29b0 : (t317 == (wrap64 (a1_2))) = false := beq_eq_false_iff_ne.mpr c29
           have c29b1 : (t317 != (wrap64 (a1_2))) = true := bne_iff_ne.mpr c29
           obtain rfl := Option.some.inj H
           have hnb55 := NB302_297.out
           have hnc55 := NB297_302.out
           have hcz56_0 : wc.cell? ⟨gb302, 0, none⟩ = some (.int .i64 (wrap64 (a1_0))) := (blk_cell BK302.out 0).trans rfl
           have hcz56_1 : wc.cell? ⟨gb302, 1, none⟩ = some (.int .i64 (wrap64 (a1_1))) := (blk_cell BK302.out 1).trans rfl
           have hcz56_2 : wc.cell? ⟨gb302, 2, none⟩ = some (.int .i64 (wrap64 (a1_2))) := (blk_cell BK302.out 2).trans rfl
           have hcz56_3 : wc.cell? ⟨gb302, 3, none⟩ = some (.int .i64 (wrap64 (a1_3))) := (blk_cell BK302.out 3).trans rfl
           have hfz56_0 := blk_frozen BK302.out 0
           have hfz56_1 := blk_frozen BK302.out 1
           have hfz56_2 := blk_frozen BK302.out 2
           have hfz56_3 := blk_frozen BK302.out 3
           obtain ⟨Ao57, co57, eo57⟩ := Kd.N_slice HO_7.out
           subst eo57
           go_wp2_with (first | ((with_reducible refine gate_callee (f := 20) rfl ?_); refine goesL_ (some 46) rfl rfl Try.func20 (by kernel_rfl) rfl #[.slice Ao57 x7_9.length co57, .agg #[.int .i64 (wrap64 (a1_0)), .int .i64 (wrap64 (a1_1)), .int .i64 (wrap64 (a1_2)), .int .i64 (wrap64 (a1_3))], .slice A2 l2.length c2] rfl (by (try simp only [List.map_toArray, List.map_cons, List.map_nil]); first | done | rfl | (simp only [List.length_drop, List.length_take]; rfl)) ?_; (with_reducible refine (spec_SpotBytes.calls kj9 _ _ x7_9 (wrap64 (a1_0)) (wrap64 (a1_1)) (wrap64 (a1_2)) (wrap64 (a1_3)) _ _ l2 t309 _ ?side1 ?side2 ?side3 ?side4 A23.out).mono ?_); (case side1 => repeat (first | exact (Kd.N_reads' HO_7.out).2.2 | (with_reducible refine Kd.C_alloc ?_ _) | (with_reducible refine Kd.C_drewN ?_ _) | (with_reducible refine Kd.C_drew ?_))); (case side2 => exact (Kd.N_reads' HO_7.out).2.1); (case side3 => repeat (first | exact (Kd.C_below HR2.out HB.out) | (with_reducible refine Kd.C_alloc ?_ _) | (with_reducible refine Kd.C_drewN ?_ _) | (with_reducible refine Kd.C_drew ?_))); (case side4 => exact HC2.out); rintro e w58 ⟨v310, rfl, ho0, hb⟩; refine ⟨_, rfl, ?_⟩; have n0_ := Aside0.mk (Kd.N_elder' (by (with_reducible repeat (first | apply Kd.N_alloc | apply Kd.N_drewN | apply Kd.N_drew)); exact HO_7.out) (Kd.R_base ho0) hb); have n1_ := Aside0.mk (Kd.R_lower ho0 (below_size (by repeat (first | (with_reducible first | exact HB.out | apply below_alloc | apply pw_below_drewN | apply below_drew1 | refine below_set ?_ GE297.out | refine below_set ?_ GE302.out) | exact HB.out)))); have n2_ := Aside0.mk (blk_below (g := gb297) (o := .cells #[.int .i16 a1_0, .int .i16 a1_1, .int .i16 a1_2, .int .i16 a1_3] 46 (0, 0)) (by (with_reducible repeat (first | refine b1_ ?_ _ | refine b2_ ?_ | refine b3_ ?_ _)); exact BK297.out) hb); have n3_ := Aside0.mk (blk_below (g := gb302) (o := .cells #[.int .i64 (wrap64 (a1_0)), .int .i64 (wrap64 (a1_1)), .int .i64 (wrap64 (a1_2)), .int .i64 (wrap64 (a1_3))] 49 (0, 0)) (by (with_reducible repeat (first | refine b1_ ?_ _ | refine b2_ ?_ | refine b3_ ?_ _)); exact BK302.out) hb); have n4_ := Aside0.mk (below_step (by repeat (first | (with_reducible first | exact HB.out | apply below_alloc | apply pw_below_drewN | apply below_drew1 | refine below_set ?_ GE297.out | refine below_set ?_ GE302.out) | exact HB.out)) hb); clear HO_7; clear BK297; clear BK302; clear HB; have HO_7 := n0_; have HO311 := n1_; have BK297 := n2_; have BK302 := n3_; have HB := n4_; clear n0_ n1_ n2_ n3_ n4_; (try clear hb); (try clear hb2); (try clear hk); (try clear hi); (try clear ho0); obtain ⟨Ao59, co59, eo59⟩ := Kd.R_slice HO311.out; subst eo59) | ((with_reducible refine gate_callee (f := 19) rfl ?_); refine goesL_ (some 47) rfl rfl Try.func19 (by kernel_rfl) rfl #[.slice Ao59 t309.length co59] rfl (by (try simp only [List.map_toArray, List.map_cons, List.map_nil]); first | done | rfl | (simp only [List.length_drop, List.length_take]; rfl)) ?_; (with_reducible refine (impl_GlyphSpots.calls kj9 _ _ t309 t312 t315 t316 t317 t318 true true _ ?side1 ?side2 A24.out).mono ?_); (case side1 => repeat (first | exact (Kd.R_reads' HO311.out).2.2 | (with_reducible refine Kd.C_alloc ?_ _) | (with_reducible refine Kd.C_drewN ?_ _) | (with_reducible refine Kd.C_drew ?_))); (case side2 => exact (Kd.R_reads' HO311.out).2.1); rintro e w60 ⟨v313, rfl, ho0, hb⟩; refine ⟨_, rfl, ?_⟩; have n0_ := Aside0.mk (Kd.N_elder' (by (with_reducible repeat (first | apply Kd.N_alloc | apply Kd.N_drewN | apply Kd.N_drew)); exact HO_7.out) (Kd.N_base (Kd.S_N ho0)) hb); have n1_ := Aside0.mk (Kd.R_below (by (with_reducible repeat (first | apply Kd.R_alloc | apply Kd.R_drewN | apply Kd.R_drew)); exact HO311.out) hb); have n2_ := Aside0.mk (Kd.N_lower (Kd.N_mono (ok' := fun k_ => some k_ ≠ (.slice Ao57 x7_9.length co57 : Value).ownBlock ∧ some k_ ≠ (.slice Ao59 t309.length co59 : Value).ownBlock ∧ k_ ≠ gb297 ∧ k_ ≠ gb302) (Kd.S_N (Kd.S_bound ho0)) (fun k_ hk_ => ⟨(Kd.fresh' (Kd.N_lt (by (with_reducible repeat (first | apply Kd.N_alloc | apply Kd.N_drewN | apply Kd.N_drew)); exact HO_7.out)) k_ hk_.2.1), (Kd.fresh' (Kd.R_lt (by (with_reducible repeat (first | apply Kd.R_alloc | apply Kd.R_drewN | apply Kd.R_drew)); exact HO311.out)) k_ hk_.2.1), (Kd.freshB (g := gb297) (o := .cells #[.int .i16 a1_0, .int .i16 a1_1, .int .i16 a1_2, .int .i16 a1_3] 46 (0, 0)) (by (with_reducible repeat (first | refine b1_ ?_ _ | refine b2_ ?_ | refine b3_ ?_ _)); exact BK297.out) k_ hk_.2.1), (Kd.freshB (g := gb302) (o := .cells #[.int .i64 (wrap64 (a1_0)), .int .i64 (wrap64 (a1_1)), .int .i64 (wrap64 (a1_2)), .int .i64 (wrap64 (a1_3))] 49 (0, 0)) (by (with_reducible repeat (first | refine b1_ ?_ _ | refine b2_ ?_ | refine b3_ ?_ _)); exact BK302.out) k_ hk_.2.1)⟩)) (below_size (by repeat (first | (with_reducible first | exact HB.out | apply below_alloc | apply pw_below_drewN | apply below_drew1 | refine below_set ?_ GE297.out | refine below_set ?_ GE302.out) | exact HB.out)))); have n3_ := Aside0.mk (blk_below (g := gb297) (o := .cells #[.int .i16 a1_0, .int .i16 a1_1, .int .i16 a1_2, .int .i16 a1_3] 46 (0, 0)) (by (with_reducible repeat (first | refine b1_ ?_ _ | refine b2_ ?_ | refine b3_ ?_ _)); exact BK297.out) hb); have n4_ := Aside0.mk (blk_below (g := gb302) (o := .cells #[.int .i64 (wrap64 (a1_0)), .int .i64 (wrap64 (a1_1)), .int .i64 (wrap64 (a1_2)), .int .i64 (wrap64 (a1_3))] 49 (0, 0)) (by (with_reducible repeat (first | refine b1_ ?_ _ | refine b2_ ?_ | refine b3_ ?_ _)); exact BK302.out) hb); have n5_ := Aside0.mk (below_step (by repeat (first | (with_reducible first | exact HB.out | apply below_alloc | apply pw_below_drewN | apply below_drew1 | refine below_set ?_ GE297.out | refine below_set ?_ GE302.out) | exact HB.out)) hb); clear HO_7; clear HO311; clear BK297; clear BK302; clear HB; have HO_7 := n0_; have HO311 := n1_; have HO314 := n2_; have BK297 := n3_; have BK302 := n4_; have HB := n5_; clear n0_ n1_ n2_ n3_ n4_ n5_; (try clear hb); (try clear hb2); (try clear hk); (try clear hi); (try clear ho0)) | ((with_reducible refine gate_dst (N := 10) rfl ?_); (try (refine gate_guard (by rfl) ?_; dsimp only)); refine box_event ?hg (N := 10) ?hd (cs := #[.int .i64 0, .int .i64 0, .int .i64 0, .int .i64 0]) (t := 49) ?hr ?_; (case hd => rfl); (case hg => rfl); (case hr => first | (go_simp; done) | (go_simp; rfl)); intro gb321 hg w61 hbox hb; have n0_ := Aside0.mk (Kd.N_below (Kd.N_elderB (by (with_reducible repeat (first | apply Kd.N_alloc | apply Kd.N_drewN | apply Kd.N_drew)); exact HO_7.out) gb321 (Nat.le_of_eq hg.symm)) hb); have n1_ := Aside0.mk (Kd.R_below (by (with_reducible repeat (first | apply Kd.R_alloc | apply Kd.R_drewN | apply Kd.R_drew)); exact HO311.out) hb); have n2_ := Aside0.mk (Kd.N_below (Kd.N_elderB (by (with_reducible repeat (first | apply Kd.N_alloc | apply Kd.N_drewN | apply Kd.N_drew)); exact HO314.out) gb321 (Nat.le_of_eq hg.symm)) hb); have n3_ := Aside0.mk (blk_below (g := gb297) (o := .cells #[.int .i16 a1_0, .int .i16 a1_1, .int .i16 a1_2, .int .i16 a1_3] 46 (0, 0)) (by (with_reducible repeat (first | refine b1_ ?_ _ | refine b2_ ?_ | refine b3_ ?_ _)); exact BK297.out) hb); have n4_ := Aside0.mk (blk_below (g := gb302) (o := .cells #[.int .i64 (wrap64 (a1_0)), .int .i64 (wrap64 (a1_1)), .int .i64 (wrap64 (a1_2)), .int .i64 (wrap64 (a1_3))] 49 (0, 0)) (by (with_reducible repeat (first | refine b1_ ?_ _ | refine b2_ ?_ | refine b3_ ?_ _)); exact BK302.out) hb); have n5_ := Aside0.mk (below_step (by repeat (first | (with_reducible first | exact HB.out | apply below_alloc | apply pw_below_drewN | apply below_drew1 | refine below_set ?_ GE297.out | refine below_set ?_ GE302.out) | exact HB.out)) hb); have n6_ := Aside0.mk (hbox); have n7_ := Aside0.mk ((by rw [hg]; exact (below_size (by repeat (first | (with_reducible first | exact HB.out | apply below_alloc | apply pw_below_drewN | apply below_drew1 | refine below_set ?_ GE297.out | refine below_set ?_ GE302.out) | exact HB.out))) : w.heap.size ≤ gb321)); have n8_ := Aside0.mk ((by rw [hg]; exact (below_size (by repeat (first | (with_reducible first | exact HB.out | apply below_alloc | apply pw_below_drewN | apply below_drew1 | refine below_set ?_ GE297.out | refine below_set ?_ GE302.out) | exact HB.out))) : w.heap.size ≤ gb321)); have n9_ := Aside0.mk ((by rw [hg]; exact Nat.ne_of_lt (blk_lt (g := gb297) (o := .cells #[.int .i16 a1_0, .int .i16 a1_1, .int .i16 a1_2, .int .i16 a1_3] 46 (0, 0)) (by (with_reducible repeat (first | refine b1_ ?_ _ | refine b2_ ?_ | refine b3_ ?_ _)); exact BK297.out)) : gb297 ≠ gb321)); have n10_ := Aside0.mk ((by rw [hg]; exact Nat.ne_of_gt (blk_lt (g := gb297) (o := .cells #[.int .i16 a1_0, .int .i16 a1_1, .int .i16 a1_2, .int .i16 a1_3] 46 (0, 0)) (by (with_reducible repeat (first | refine b1_ ?_ _ | refine b2_ ?_ | refine b3_ ?_ _)); exact BK297.out)) : gb321 ≠ gb297)); have n11_ := Aside0.mk ((by rw [hg]; exact Nat.ne_of_lt (blk_lt (g := gb302) (o := .cells #[.int .i64 (wrap64 (a1_0)), .int .i64 (wrap64 (a1_1)), .int .i64 (wrap64 (a1_2)), .int .i64 (wrap64 (a1_3))] 49 (0, 0)) (by (with_reducible repeat (first | refine b1_ ?_ _ | refine b2_ ?_ | refine b3_ ?_ _)); exact BK302.out)) : gb302 ≠ gb321)); have n12_ := Aside0.mk ((by rw [hg]; exact Nat.ne_of_gt (blk_lt (g := gb302) (o := .cells #[.int .i64 (wrap64 (a1_0)), .int .i64 (wrap64 (a1_1)), .int .i64 (wrap64 (a1_2)), .int .i64 (wrap64 (a1_3))] 49 (0, 0)) (by (with_reducible repeat (first | refine b1_ ?_ _ | refine b2_ ?_ | refine b3_ ?_ _)); exact BK302.out)) : gb321 ≠ gb302)); clear HO_7; clear HO311; clear HO314; clear BK297; clear BK302; clear HB; have HO_7 := n0_; have HO311 := n1_; have HO314 := n2_; have BK297 := n3_; have BK302 := n4_; have HB := n5_; have BK321 := n6_; have GW321 := n7_; have GE321 := n8_; have NB297_321 := n9_; have NB321_297 := n10_; have NB302_321 := n11_; have NB321_302 := n12_; clear n0_ n1_ n2_ n3_ n4_ n5_ n6_ n7_ n8_ n9_ n10_ n11_ n12_; clear hb hbox hg; have hnb62 := NB321_297.out; have hnc62 := NB297_321.out; have hnb63 := NB321_302.out; have hnc63 := NB302_321.out; have hcz64_0 : w61.cell? ⟨gb321, 0, none⟩ = some (.int .i64 0) := (blk_cell BK321.out 0).trans rfl; have hcz64_1 : w61.cell? ⟨gb321, 1, none⟩ = some (.int .i64 0) := (blk_cell BK321.out 1).trans rfl; have hcz64_2 : w61.cell? ⟨gb321, 2, none⟩ = some (.int .i64 0) := (blk_cell BK321.out 2).trans rfl; have hcz64_3 : w61.cell? ⟨gb321, 3, none⟩ = some (.int .i64 0) := (blk_cell BK321.out 3).trans rfl; have hfz64_0 := blk_frozen BK321.out 0; have hfz64_1 := blk_frozen BK321.out 1; have hfz64_2 := blk_frozen BK321.out 2; have hfz64_3 := blk_frozen BK321.out 3; have hcz65_0 : w61.cell? ⟨gb302, 0, none⟩ = some (.int .i64 (wrap64 (a1_0))) := (blk_cell BK302.out 0).trans rfl; have hcz65_1 : w61.cell? ⟨gb302, 1, none⟩ = some (.int .i64 (wrap64 (a1_1))) := (blk_cell BK302.out 1).trans rfl; have hcz65_2 : w61.cell? ⟨gb302, 2, none⟩ = some (.int .i64 (wrap64 (a1_2))) := (blk_cell BK302.out 2).trans rfl; have hcz65_3 : w61.cell? ⟨gb302, 3, none⟩ = some (.int .i64 (wrap64 (a1_3))) := (blk_cell BK302.out 3).trans rfl; have hfz65_0 := blk_frozen BK302.out 0; have hfz65_1 := blk_frozen BK302.out 1; have hfz65_2 := blk_frozen BK302.out 2; have hfz65_3 := blk_frozen BK302.out 3))
           go_ret
           exact ⟨by first | rfl | (simp [errW_none, errW_some] <;> rfl) | (simp [*, errW_none, errW_some] <;> rfl), by repeat (first | (with_reducible first | exact HB.out | apply below_alloc | apply pw_below_drewN | apply below_drew1 | refine below_set ?_ GE297.out | refine below_set ?_ GE302.out | refine below_set ?_ GE321.out) | exact HB.out)⟩
         ·rw [if_neg c28] at H
          have c28b0 : (t316 == (wrap64 (a1_1))) = false := beq_eq_false_iff_ne.mpr c28
          have c28b1 : (t316 != (wrap64 (a1_1))) = true := bne_iff_ne.mpr c28
          obtain rfl := Option.some.inj H
          have hnb66 := NB302_297.out
          have hnc66 := NB297_302.out
          have hcz67_0 : wc.cell? ⟨gb302, 0, none⟩ = some (.int .i64 (wrap64 (a1_0))) := (blk_cell BK302.out 0).trans rfl
          have hcz67_1 : wc.cell? ⟨gb302, 1, none⟩ = some (.int .i64 (wrap64 (a1_1))) := (blk_cell BK302.out 1).trans rfl
          have hcz67_2 : wc.cell? ⟨gb302, 2, none⟩ = some (.int .i64 (wrap64 (a1_2))) := (blk_cell BK302.out 2).trans rfl
          have hcz67_3 : wc.cell? ⟨gb302, 3, none⟩ = some (.int .i64 (wrap64 (a1_3))) := (blk_cell BK302.out 3).trans rfl
          have hfz67_0 := blk_frozen BK302.out 0
          have hfz67_1 := blk_frozen BK302.out 1
          have hfz67_2 := blk_frozen BK302.out 2
          have hfz67_3 := blk_frozen BK302.out 3
          obtain ⟨Ao68, co68, eo68⟩ := Kd.N_slice HO_7.out
          subst eo68
          go_wp2_with (first | ((with_reducible refine gate_callee (f := 20) rfl ?_); refine goesL_ (some 46) rfl rfl Try.func20 (by kernel_rfl) rfl #[.slice Ao68 x7_9.length co68, .agg #[.int .i64 (wrap64 (a1_0)), .int .i64 (wrap64 (a1_1)), .int .i64 (wrap64 (a1_2)), .int .i64 (wrap64 (a1_3))], .slice A2 l2.length c2] rfl (by (try simp only [List.map_toArray, List.map_cons, List.map_nil]); first | done | rfl | (simp only [List.length_drop, List.length_take]; rfl)) ?_; (with_reducible refine (spec_SpotBytes.calls kj9 _ _ x7_9 (wrap64 (a1_0)) (wrap64 (a1_1)) (wrap64 (a1_2)) (wrap64 (a1_3)) _ _ l2 t309 _ ?side1 ?side2 ?side3 ?side4 A23.out).mono ?_); (case side1 => repeat (first | exact (Kd.N_reads' HO_7.out).2.2 | (with_reducible refine Kd.C_alloc ?_ _) | (with_reducible refine Kd.C_drewN ?_ _) | (with_reducible refine Kd.C_drew ?_))); (case side2 => exact (Kd.N_reads' HO_7.out).2.1); (case side3 => repeat (first | exact (Kd.C_below HR2.out HB.out) | (with_reducible refine Kd.C_alloc ?_ _) | (with_reducible refine Kd.C_drewN ?_ _) | (with_reducible refine Kd.C_drew ?_))); (case side4 => exact HC2.out); rintro e w69 ⟨v310, rfl, ho0, hb⟩; refine ⟨_, rfl, ?_⟩; have n0_ := Aside0.mk (Kd.N_elder' (by (with_reducible repeat (first | apply Kd.N_alloc | apply Kd.N_drewN | apply Kd.N_drew)); exact HO_7.out) (Kd.R_base ho0) hb); have n1_ := Aside0.mk (Kd.R_lower ho0 (below_size (by repeat (first | (with_reducible first | exact HB.out | apply below_alloc | apply pw_below_drewN | apply below_drew1 | refine below_set ?_ GE297.out | refine below_set ?_ GE302.out) | exact HB.out)))); have n2_ := Aside0.mk (blk_below (g := gb297) (o := .cells #[.int .i16 a1_0, .int .i16 a1_1, .int .i16 a1_2, .int .i16 a1_3] 46 (0, 0)) (by (with_reducible repeat (first | refine b1_ ?_ _ | refine b2_ ?_ | refine b3_ ?_ _)); exact BK297.out) hb); have n3_ := Aside0.mk (blk_below (g := gb302) (o := .cells #[.int .i64 (wrap64 (a1_0)), .int .i64 (wrap64 (a1_1)), .int .i64 (wrap64 (a1_2)), .int .i64 (wrap64 (a1_3))] 49 (0, 0)) (by (with_reducible repeat (first | refine b1_ ?_ _ | refine b2_ ?_ | refine b3_ ?_ _)); exact BK302.out) hb); have n4_ := Aside0.mk (below_step (by repeat (first | (with_reducible first | exact HB.out | apply below_alloc | apply pw_below_drewN | apply below_drew1 | refine below_set ?_ GE297.out | refine below_set ?_ GE302.out) | exact HB.out)) hb); clear HO_7; clear BK297; clear BK302; clear HB; have HO_7 := n0_; have HO311 := n1_; have BK297 := n2_; have BK302 := n3_; have HB := n4_; clear n0_ n1_ n2_ n3_ n4_; (try clear hb); (try clear hb2); (try clear hk); (try clear hi); (try clear ho0); obtain ⟨Ao70, co70, eo70⟩ := Kd.R_slice HO311.out; subst eo70) | ((with_reducible refine gate_callee (f := 19) rfl ?_); refine goesL_ (some 47) rfl rfl Try.func19 (by kernel_rfl) rfl #[.slice Ao70 t309.length co70] rfl (by (try simp only [List.map_toArray, List.map_cons, List.map_nil]); first | done | rfl | (simp only [List.length_drop, List.length_take]; rfl)) ?_; (with_reducible refine (impl_GlyphSpots.calls kj9 _ _ t309 t312 t315 t316 t317 t318 true true _ ?side1 ?side2 A24.out).mono ?_); (case side1 => repeat (first | exact (Kd.R_reads' HO311.out).2.2 | (with_reducible refine Kd.C_alloc ?_ _) | (with_reducible refine Kd.C_drewN ?_ _) | (with_reducible refine Kd.C_drew ?_))); (case side2 => exact (Kd.R_reads' HO311.out).2.1); rintro e w71 ⟨v313, rfl, ho0, hb⟩; refine ⟨_, rfl, ?_⟩; have n0_ := Aside0.mk (Kd.N_elder' (by (with_reducible repeat (first | apply Kd.N_alloc | apply Kd.N_drewN | apply Kd.N_drew)); exact HO_7.out) (Kd.N_base (Kd.S_N ho0)) hb); have n1_ := Aside0.mk (Kd.R_below (by (with_reducible repeat (first | apply Kd.R_alloc | apply Kd.R_drewN | apply Kd.R_drew)); exact HO311.out) hb); have n2_ := Aside0.mk (Kd.N_lower (Kd.N_mono (ok' := fun k_ => some k_ ≠ (.slice Ao68 x7_9.length co68 : Value).ownBlock ∧ some k_ ≠ (.slice Ao70 t309.length co70 : Value).ownBlock ∧ k_ ≠ gb297 ∧ k_ ≠ gb302) (Kd.S_N (Kd.S_bound ho0)) (fun k_ hk_ => ⟨(Kd.fresh' (Kd.N_lt (by (with_reducible repeat (first | apply Kd.N_alloc | apply Kd.N_drewN | apply Kd.N_drew)); exact HO_7.out)) k_ hk_.2.1), (Kd.fresh' (Kd.R_lt (by (with_reducible repeat (first | apply Kd.R_alloc | apply Kd.R_drewN | apply Kd.R_drew)); exact HO311.out)) k_ hk_.2.1), (Kd.freshB (g := gb297) (o := .cells #[.int .i16 a1_0, .int .i16 a1_1, .int .i16 a1_2, .int .i16 a1_3] 46 (0, 0)) (by (with_reducible repeat (first | refine b1_ ?_ _ | refine b2_ ?_ | refine b3_ ?_ _)); exact BK297.out) k_ hk_.2.1), (Kd.freshB (g := gb302) (o := .cells #[.int .i64 (wrap64 (a1_0)), .int .i64 (wrap64 (a1_1)), .int .i64 (wrap64 (a1_2)), .int .i64 (wrap64 (a1_3))] 49 (0, 0)) (by (with_reducible repeat (first | refine b1_ ?_ _ | refine b2_ ?_ | refine b3_ ?_ _)); exact BK302.out) k_ hk_.2.1)⟩)) (below_size (by repeat (first | (with_reducible first | exact HB.out | apply below_alloc | apply pw_below_drewN | apply below_drew1 | refine below_set ?_ GE297.out | refine below_set ?_ GE302.out) | exact HB.out)))); have n3_ := Aside0.mk (blk_below (g := gb297) (o := .cells #[.int .i16 a1_0, .int .i16 a1_1, .int .i16 a1_2, .int .i16 a1_3] 46 (0, 0)) (by (with_reducible repeat (first | refine b1_ ?_ _ | refine b2_ ?_ | refine b3_ ?_ _)); exact BK297.out) hb); have n4_ := Aside0.mk (blk_below (g := gb302) (o := .cells #[.int .i64 (wrap64 (a1_0)), .int .i64 (wrap64 (a1_1)), .int .i64 (wrap64 (a1_2)), .int .i64 (wrap64 (a1_3))] 49 (0, 0)) (by (with_reducible repeat (first | refine b1_ ?_ _ | refine b2_ ?_ | refine b3_ ?_ _)); exact BK302.out) hb); have n5_ := Aside0.mk (below_step (by repeat (first | (with_reducible first | exact HB.out | apply below_alloc | apply pw_below_drewN | apply below_drew1 | refine below_set ?_ GE297.out | refine below_set ?_ GE302.out) | exact HB.out)) hb); clear HO_7; clear HO311; clear BK297; clear BK302; clear HB; have HO_7 := n0_; have HO311 := n1_; have HO314 := n2_; have BK297 := n3_; have BK302 := n4_; have HB := n5_; clear n0_ n1_ n2_ n3_ n4_ n5_; (try clear hb); (try clear hb2); (try clear hk); (try clear hi); (try clear ho0)) | ((with_reducible refine gate_dst (N := 10) rfl ?_); (try (refine gate_guard (by rfl) ?_; dsimp only)); refine box_event ?hg (N := 10) ?hd (cs := #[.int .i64 0, .int .i64 0, .int .i64 0, .int .i64 0]) (t := 49) ?hr ?_; (case hd => rfl); (case hg => rfl); (case hr => first | (go_simp; done) | (go_simp; rfl)); intro gb321 hg w72 hbox hb; have n0_ := Aside0.mk (Kd.N_below (Kd.N_elderB (by (with_reducible repeat (first | apply Kd.N_alloc | apply Kd.N_drewN | apply Kd.N_drew)); exact HO_7.out) gb321 (Nat.le_of_eq hg.symm)) hb); have n1_ := Aside0.mk (Kd.R_below (by (with_reducible repeat (first | apply Kd.R_alloc | apply Kd.R_drewN | apply Kd.R_drew)); exact HO311.out) hb); have n2_ := Aside0.mk (Kd.N_below (Kd.N_elderB (by (with_reducible repeat (first | apply Kd.N_alloc | apply Kd.N_drewN | apply Kd.N_drew)); exact HO314.out) gb321 (Nat.le_of_eq hg.symm)) hb); have n3_ := Aside0.mk (blk_below (g := gb297) (o := .cells #[.int .i16 a1_0, .int .i16 a1_1, .int .i16 a1_2, .int .i16 a1_3] 46 (0, 0)) (by (with_reducible repeat (first | refine b1_ ?_ _ | refine b2_ ?_ | refine b3_ ?_ _)); exact BK297.out) hb); have n4_ := Aside0.mk (blk_below (g := gb302) (o := .cells #[.int .i64 (wrap64 (a1_0)), .int .i64 (wrap64 (a1_1)), .int .i64 (wrap64 (a1_2)), .int .i64 (wrap64 (a1_3))] 49 (0, 0)) (by (with_reducible repeat (first | refine b1_ ?_ _ | refine b2_ ?_ | refine b3_ ?_ _)); exact BK302.out) hb); have n5_ := Aside0.mk (below_step (by repeat (first | (with_reducible first | exact HB.out | apply below_alloc | apply pw_below_drewN | apply below_drew1 | refine below_set ?_ GE297.out | refine below_set ?_ GE302.out) | exact HB.out)) hb); have n6_ := Aside0.mk (hbox); have n7_ := Aside0.mk ((by rw [hg]; exact (below_size (by repeat (first | (with_reducible first | exact HB.out | apply below_alloc | apply pw_below_drewN | apply below_drew1 | refine below_set ?_ GE297.out | refine below_set ?_ GE302.out) | exact HB.out))) : w.heap.size ≤ gb321)); have n8_ := Aside0.mk ((by rw [hg]; exact (below_size (by repeat (first | (with_reducible first | exact HB.out | apply below_alloc | apply pw_below_drewN | apply below_drew1 | refine below_set ?_ GE297.out | refine below_set ?_ GE302.out) | exact HB.out))) : w.heap.size ≤ gb321)); have n9_ := Aside0.mk ((by rw [hg]; exact Nat.ne_of_lt (blk_lt (g := gb297) (o := .cells #[.int .i16 a1_0, .int .i16 a1_1, .int .i16 a1_2, .int .i16 a1_3] 46 (0, 0)) (by (with_reducible repeat (first | refine b1_ ?_ _ | refine b2_ ?_ | refine b3_ ?_ _)); exact BK297.out)) : gb297 ≠ gb321)); have n10_ := Aside0.mk ((by rw [hg]; exact Nat.ne_of_gt (blk_lt (g := gb297) (o := .cells #[.int .i16 a1_0, .int .i16 a1_1, .int .i16 a1_2, .int .i16 a1_3] 46 (0, 0)) (by (with_reducible repeat (first | refine b1_ ?_ _ | refine b2_ ?_ | refine b3_ ?_ _)); exact BK297.out)) : gb321 ≠ gb297)); have n11_ := Aside0.mk ((by rw [hg]; exact Nat.ne_of_lt (blk_lt (g := gb302) (o := .cells #[.int .i64 (wrap64 (a1_0)), .int .i64 (wrap64 (a1_1)), .int .i64 (wrap64 (a1_2)), .int .i64 (wrap64 (a1_3))] 49 (0, 0)) (by (with_reducible repeat (first | refine b1_ ?_ _ | refine b2_ ?_ | refine b3_ ?_ _)); exact BK302.out)) : gb302 ≠ gb321)); have n12_ := Aside0.mk ((by rw [hg]; exact Nat.ne_of_gt (blk_lt (g := gb302) (o := .cells #[.int .i64 (wrap64 (a1_0)), .int .i64 (wrap64 (a1_1)), .int .i64 (wrap64 (a1_2)), .int .i64 (wrap64 (a1_3))] 49 (0, 0)) (by (with_reducible repeat (first | refine b1_ ?_ _ | refine b2_ ?_ | refine b3_ ?_ _)); exact BK302.out)) : gb321 ≠ gb302)); clear HO_7; clear HO311; clear HO314; clear BK297; clear BK302; clear HB; have HO_7 := n0_; have HO311 := n1_; have HO314 := n2_; have BK297 := n3_; have BK302 := n4_; have HB := n5_; have BK321 := n6_; have GW321 := n7_; have GE321 := n8_; have NB297_321 := n9_; have NB321_297 := n10_; have NB302_321 := n11_; have NB321_302 := n12_; clear n0_ n1_ n2_ n3_ n4_ n5_ n6_ n7_ n8_ n9_ n10_ n11_ n12_; clear hb hbox hg; have hnb73 := NB321_297.out; have hnc73 := NB297_321.out; have hnb74 := NB321_302.out; have hnc74 := NB302_321.out; have hcz75_0 : w72.cell? ⟨gb321, 0, none⟩ = some (.int .i64 0) := (blk_cell BK321.out 0).trans rfl; have hcz75_1 : w72.cell? ⟨gb321, 1, none⟩ = some (.int .i64 0) := (blk_cell BK321.out 1).trans rfl; have hcz75_2 : w72.cell? ⟨gb321, 2, none⟩ = some (.int .i64 0) := (blk_cell BK321.out 2).trans rfl; have hcz75_3 : w72.cell? ⟨gb321, 3, none⟩ = some (.int .i64 0) := (blk_cell BK321.out 3).trans rfl; have hfz75_0 := blk_frozen BK321.out 0; have hfz75_1 := blk_frozen BK321.out 1; have hfz75_2 := blk_frozen BK321.out 2; have hfz75_3 := blk_frozen BK321.out 3; have hcz76_0 : w72.cell? ⟨gb302, 0, none⟩ = some (.int .i64 (wrap64 (a1_0))) := (blk_cell BK302.out 0).trans rfl; have hcz76_1 : w72.cell? ⟨gb302, 1, none⟩ = some (.int .i64 (wrap64 (a1_1))) := (blk_cell BK302.out 1).trans rfl; have hcz76_2 : w72.cell? ⟨gb302, 2, none⟩ = some (.int .i64 (wrap64 (a1_2))) := (blk_cell BK302.out 2).trans rfl; have hcz76_3 : w72.cell? ⟨gb302, 3, none⟩ = some (.int .i64 (wrap64 (a1_3))) := (blk_cell BK302.out 3).trans rfl; have hfz76_0 := blk_frozen BK302.out 0; have hfz76_1 := blk_frozen BK302.out 1; have hfz76_2 := blk_frozen BK302.out 2; have hfz76_3 := blk_frozen BK302.out 3))
          go_ret
          exact ⟨by first | rfl | (simp [errW_none, errW_some] <;> rfl) | (simp [*, errW_none, errW_some] <;> rfl), by repeat (first | (with_reducible first | exact HB.out | apply below_alloc | apply pw_below_drewN | apply below_drew1 | refine below_set ?_ GE297.out | refine below_set ?_ GE302.out | refine below_set ?_ GE321.out) | exact HB.out)⟩
        ·rw [if_neg c27] at H
         have c27b0 : (t315 == (wrap64 (a1_0))) = false := beq_eq_false_iff_ne.mpr c27
         have c27b1 : (t315 != (wrap64 (a1_0))) = true := bne_iff_ne.mpr c27
         obtain rfl := Option.some.inj H
         have hnb77 := NB302_297.out
         have hnc77 := NB297_302.out
         have hcz78_0 : wc.cell? ⟨gb302, 0, none⟩ = some (.int .i64 (wrap64 (a1_0))) := (blk_cell BK302.out 0).trans rfl
         have hcz78_1 : wc.cell? ⟨gb302, 1, none⟩ = some (.int .i64 (wrap64 (a1_1))) := (blk_cell BK302.out 1).trans rfl
         have hcz78_2 : wc.cell? ⟨gb302, 2, none⟩ = some (.int .i64 (wrap64 (a1_2))) := (blk_cell BK302.out 2).trans rfl
         have hcz78_3 : wc.cell? ⟨gb302, 3, none⟩ = some (.int .i64 (wrap64 (a1_3))) := (blk_cell BK302.out 3).trans rfl
         have hfz78_0 := blk_frozen BK302.out 0
         have hfz78_1 := blk_frozen BK302.out 1
         have hfz78_2 := blk_frozen BK302.out 2
         have hfz78_3 := blk_frozen BK302.out 3
         obtain ⟨Ao79, co79, eo79⟩ := Kd.N_slice HO_7.out
         subst eo79
         go_wp2_with (first | ((with_reducible refine gate_callee (f := 20) rfl ?_); refine goesL_ (some 46) rfl rfl Try.func20 (by kernel_rfl) rfl #[.slice Ao79 x7_9.length co79, .agg #[.int .i64 (wrap64 (a1_0)), .int .i64 (wrap64 (a1_1)), .int .i64 (wrap64 (a1_2)), .int .i64 (wrap64 (a1_3))], .slice A2 l2.length c2] rfl (by (try simp only [List.map_toArray, List.map_cons, List.map_nil]); first | done | rfl | (simp only [List.length_drop, List.length_take]; rfl)) ?_; (with_reducible refine (spec_SpotBytes.calls kj9 _ _ x7_9 (wrap64 (a1_0)) (wrap64 (a1_1)) (wrap64 (a1_2)) (wrap64 (a1_3)) _ _ l2 t309 _ ?side1 ?side2 ?side3 ?side4 A23.out).mono ?_); (case side1 => repeat (first | exact (Kd.N_reads' HO_7.out).2.2 | (with_reducible refine Kd.C_alloc ?_ _) | (with_reducible refine Kd.C_drewN ?_ _) | (with_reducible refine Kd.C_drew ?_))); (case side2 => exact (Kd.N_reads' HO_7.out).2.1); (case side3 => repeat (first | exact (Kd.C_below HR2.out HB.out) | (with_reducible refine Kd.C_alloc ?_ _) | (with_reducible refine Kd.C_drewN ?_ _) | (with_reducible refine Kd.C_drew ?_))); (case side4 => exact HC2.out); rintro e w80 ⟨v310, rfl, ho0, hb⟩; refine ⟨_, rfl, ?_⟩; have n0_ := Aside0.mk (Kd.N_elder' (by (with_reducible repeat (first | apply Kd.N_alloc | apply Kd.N_drewN | apply Kd.N_drew)); exact HO_7.out) (Kd.R_base ho0) hb); have n1_ := Aside0.mk (Kd.R_lower ho0 (below_size (by repeat (first | (with_reducible first | exact HB.out | apply below_alloc | apply pw_below_drewN | apply below_drew1 | refine below_set ?_ GE297.out | refine below_set ?_ GE302.out) | exact HB.out)))); have n2_ := Aside0.mk (blk_below (g := gb297) (o := .cells #[.int .i16 a1_0, .int .i16 a1_1, .int .i16 a1_2, .int .i16 a1_3] 46 (0, 0)) (by (with_reducible repeat (first | refine b1_ ?_ _ | refine b2_ ?_ | refine b3_ ?_ _)); exact BK297.out) hb); have n3_ := Aside0.mk (blk_below (g := gb302) (o := .cells #[.int .i64 (wrap64 (a1_0)), .int .i64 (wrap64 (a1_1)), .int .i64 (wrap64 (a1_2)), .int .i64 (wrap64 (a1_3))] 49 (0, 0)) (by (with_reducible repeat (first | refine b1_ ?_ _ | refine b2_ ?_ | refine b3_ ?_ _)); exact BK302.out) hb); have n4_ := Aside0.mk (below_step (by repeat (first | (with_reducible first | exact HB.out | apply below_alloc | apply pw_below_drewN | apply below_drew1 | refine below_set ?_ GE297.out | refine below_set ?_ GE302.out) | exact HB.out)) hb); clear HO_7; clear BK297; clear BK302; clear HB; have HO_7 := n0_; have HO311 := n1_; have BK297 := n2_; have BK302 := n3_; have HB := n4_; clear n0_ n1_ n2_ n3_ n4_; (try clear hb); (try clear hb2); (try clear hk); (try clear hi); (try clear ho0); obtain ⟨Ao81, co81, eo81⟩ := Kd.R_slice HO311.out; subst eo81) | ((with_reducible refine gate_callee (f := 19) rfl ?_); refine goesL_ (some 47) rfl rfl Try.func19 (by kernel_rfl) rfl #[.slice Ao81 t309.length co81] rfl (by (try simp only [List.map_toArray, List.map_cons, List.map_nil]); first | done | rfl | (simp only [List.length_drop, List.length_take]; rfl)) ?_; (with_reducible refine (impl_GlyphSpots.calls kj9 _ _ t309 t312 t315 t316 t317 t318 true true _ ?side1 ?side2 A24.out).mono ?_); (case side1 => repeat (first | exact (Kd.R_reads' HO311.out).2.2 | (with_reducible refine Kd.C_alloc ?_ _) | (with_reducible refine Kd.C_drewN ?_ _) | (with_reducible refine Kd.C_drew ?_))); (case side2 => exact (Kd.R_reads' HO311.out).2.1); rintro e w82 ⟨v313, rfl, ho0, hb⟩; refine ⟨_, rfl, ?_⟩; have n0_ := Aside0.mk (Kd.N_elder' (by (with_reducible repeat (first | apply Kd.N_alloc | apply Kd.N_drewN | apply Kd.N_drew)); exact HO_7.out) (Kd.N_base (Kd.S_N ho0)) hb); have n1_ := Aside0.mk (Kd.R_below (by (with_reducible repeat (first | apply Kd.R_alloc | apply Kd.R_drewN | apply Kd.R_drew)); exact HO311.out) hb); have n2_ := Aside0.mk (Kd.N_lower (Kd.N_mono (ok' := fun k_ => some k_ ≠ (.slice Ao79 x7_9.length co79 : Value).ownBlock ∧ some k_ ≠ (.slice Ao81 t309.length co81 : Value).ownBlock ∧ k_ ≠ gb297 ∧ k_ ≠ gb302) (Kd.S_N (Kd.S_bound ho0)) (fun k_ hk_ => ⟨(Kd.fresh' (Kd.N_lt (by (with_reducible repeat (first | apply Kd.N_alloc | apply Kd.N_drewN | apply Kd.N_drew)); exact HO_7.out)) k_ hk_.2.1), (Kd.fresh' (Kd.R_lt (by (with_reducible repeat (first | apply Kd.R_alloc | apply Kd.R_drewN | apply Kd.R_drew)); exact HO311.out)) k_ hk_.2.1), (Kd.freshB (g := gb297) (o := .cells #[.int .i16 a1_0, .int .i16 a1_1, .int .i16 a1_2, .int .i16 a1_3] 46 (0, 0)) (by (with_reducible repeat (first | refine b1_ ?_ _ | refine b2_ ?_ | refine b3_ ?_ _)); exact BK297.out) k_ hk_.2.1), (Kd.freshB (g := gb302) (o := .cells #[.int .i64 (wrap64 (a1_0)), .int .i64 (wrap64 (a1_1)), .int .i64 (wrap64 (a1_2)), .int .i64 (wrap64 (a1_3))] 49 (0, 0)) (by (with_reducible repeat (first | refine b1_ ?_ _ | refine b2_ ?_ | refine b3_ ?_ _)); exact BK302.out) k_ hk_.2.1)⟩)) (below_size (by repeat (first | (with_reducible first | exact HB.out | apply below_alloc | apply pw_below_drewN | apply below_drew1 | refine below_set ?_ GE297.out | refine below_set ?_ GE302.out) | exact HB.out)))); have n3_ := Aside0.mk (blk_below (g := gb297) (o := .cells #[.int .i16 a1_0, .int .i16 a1_1, .int .i16 a1_2, .int .i16 a1_3] 46 (0, 0)) (by (with_reducible repeat (first | refine b1_ ?_ _ | refine b2_ ?_ | refine b3_ ?_ _)); exact BK297.out) hb); have n4_ := Aside0.mk (blk_below (g := gb302) (o := .cells #[.int .i64 (wrap64 (a1_0)), .int .i64 (wrap64 (a1_1)), .int .i64 (wrap64 (a1_2)), .int .i64 (wrap64 (a1_3))] 49 (0, 0)) (by (with_reducible repeat (first | refine b1_ ?_ _ | refine b2_ ?_ | refine b3_ ?_ _)); exact BK302.out) hb); have n5_ := Aside0.mk (below_step (by repeat (first | (with_reducible first | exact HB.out | apply below_alloc | apply pw_below_drewN | apply below_drew1 | refine below_set ?_ GE297.out | refine below_set ?_ GE302.out) | exact HB.out)) hb); clear HO_7; clear HO311; clear BK297; clear BK302; clear HB; have HO_7 := n0_; have HO311 := n1_; have HO314 := n2_; have BK297 := n3_; have BK302 := n4_; have HB := n5_; clear n0_ n1_ n2_ n3_ n4_ n5_; (try clear hb); (try clear hb2); (try clear hk); (try clear hi); (try clear ho0)) | ((with_reducible refine gate_dst (N := 10) rfl ?_); (try (refine gate_guard (by rfl) ?_; dsimp only)); refine box_event ?hg (N := 10) ?hd (cs := #[.int .i64 0, .int .i64 0, .int .i64 0, .int .i64 0]) (t := 49) ?hr ?_; (case hd => rfl); (case hg => rfl); (case hr => first | (go_simp; done) | (go_simp; rfl)); intro gb321 hg w83 hbox hb; have n0_ := Aside0.mk (Kd.N_below (Kd.N_elderB (by (with_reducible repeat (first | apply Kd.N_alloc | apply Kd.N_drewN | apply Kd.N_drew)); exact HO_7.out) gb321 (Nat.le_of_eq hg.symm)) hb); have n1_ := Aside0.mk (Kd.R_below (by (with_reducible repeat (first | apply Kd.R_alloc | apply Kd.R_drewN | apply Kd.R_drew)); exact HO311.out) hb); have n2_ := Aside0.mk (Kd.N_below (Kd.N_elderB (by (with_reducible repeat (first | apply Kd.N_alloc | apply Kd.N_drewN | apply Kd.N_drew)); exact HO314.out) gb321 (Nat.le_of_eq hg.symm)) hb); have n3_ := Aside0.mk (blk_below (g := gb297) (o := .cells #[.int .i16 a1_0, .int .i16 a1_1, .int .i16 a1_2, .int .i16 a1_3] 46 (0, 0)) (by (with_reducible repeat (first | refine b1_ ?_ _ | refine b2_ ?_ | refine b3_ ?_ _)); exact BK297.out) hb); have n4_ := Aside0.mk (blk_below (g := gb302) (o := .cells #[.int .i64 (wrap64 (a1_0)), .int .i64 (wrap64 (a1_1)), .int .i64 (wrap64 (a1_2)), .int .i64 (wrap64 (a1_3))] 49 (0, 0)) (by (with_reducible repeat (first | refine b1_ ?_ _ | refine b2_ ?_ | refine b3_ ?_ _)); exact BK302.out) hb); have n5_ := Aside0.mk (below_step (by repeat (first | (with_reducible first | exact HB.out | apply below_alloc | apply pw_below_drewN | apply below_drew1 | refine below_set ?_ GE297.out | refine below_set ?_ GE302.out) | exact HB.out)) hb); have n6_ := Aside0.mk (hbox); have n7_ := Aside0.mk ((by rw [hg]; exact (below_size (by repeat (first | (with_reducible first | exact HB.out | apply below_alloc | apply pw_below_drewN | apply below_drew1 | refine below_set ?_ GE297.out | refine below_set ?_ GE302.out) | exact HB.out))) : w.heap.size ≤ gb321)); have n8_ := Aside0.mk ((by rw [hg]; exact (below_size (by repeat (first | (with_reducible first | exact HB.out | apply below_alloc | apply pw_below_drewN | apply below_drew1 | refine below_set ?_ GE297.out | refine below_set ?_ GE302.out) | exact HB.out))) : w.heap.size ≤ gb321)); have n9_ := Aside0.mk ((by rw [hg]; exact Nat.ne_of_lt (blk_lt (g := gb297) (o := .cells #[.int .i16 a1_0, .int .i16 a1_1, .int .i16 a1_2, .int .i16 a1_3] 46 (0, 0)) (by (with_reducible repeat (first | refine b1_ ?_ _ | refine b2_ ?_ | refine b3_ ?_ _)); exact BK297.out)) : gb297 ≠ gb321)); have n10_ := Aside0.mk ((by rw [hg]; exact Nat.ne_of_gt (blk_lt (g := gb297) (o := .cells #[.int .i16 a1_0, .int .i16 a1_1, .int .i16 a1_2, .int .i16 a1_3] 46 (0, 0)) (by (with_reducible repeat (first | refine b1_ ?_ _ | refine b2_ ?_ | refine b3_ ?_ _)); exact BK297.out)) : gb321 ≠ gb297)); have n11_ := Aside0.mk ((by rw [hg]; exact Nat.ne_of_lt (blk_lt (g := gb302) (o := .cells #[.int .i64 (wrap64 (a1_0)), .int .i64 (wrap64 (a1_1)), .int .i64 (wrap64 (a1_2)), .int .i64 (wrap64 (a1_3))] 49 (0, 0)) (by (with_reducible repeat (first | refine b1_ ?_ _ | refine b2_ ?_ | refine b3_ ?_ _)); exact BK302.out)) : gb302 ≠ gb321)); have n12_ := Aside0.mk ((by rw [hg]; exact Nat.ne_of_gt (blk_lt (g := gb302) (o := .cells #[.int .i64 (wrap64 (a1_0)), .int .i64 (wrap64 (a1_1)), .int .i64 (wrap64 (a1_2)), .int .i64 (wrap64 (a1_3))] 49 (0, 0)) (by (with_reducible repeat (first | refine b1_ ?_ _ | refine b2_ ?_ | refine b3_ ?_ _)); exact BK302.out)) : gb321 ≠ gb302)); clear HO_7; clear HO311; clear HO314; clear BK297; clear BK302; clear HB; have HO_7 := n0_; have HO311 := n1_; have HO314 := n2_; have BK297 := n3_; have BK302 := n4_; have HB := n5_; have BK321 := n6_; have GW321 := n7_; have GE321 := n8_; have NB297_321 := n9_; have NB321_297 := n10_; have NB302_321 := n11_; have NB321_302 := n12_; clear n0_ n1_ n2_ n3_ n4_ n5_ n6_ n7_ n8_ n9_ n10_ n11_ n12_; clear hb hbox hg; have hnb84 := NB321_297.out; have hnc84 := NB297_321.out; have hnb85 := NB321_302.out; have hnc85 := NB302_321.out; have hcz86_0 : w83.cell? ⟨gb321, 0, none⟩ = some (.int .i64 0) := (blk_cell BK321.out 0).trans rfl; have hcz86_1 : w83.cell? ⟨gb321, 1, none⟩ = some (.int .i64 0) := (blk_cell BK321.out 1).trans rfl; have hcz86_2 : w83.cell? ⟨gb321, 2, none⟩ = some (.int .i64 0) := (blk_cell BK321.out 2).trans rfl; have hcz86_3 : w83.cell? ⟨gb321, 3, none⟩ = some (.int .i64 0) := (blk_cell BK321.out 3).trans rfl; have hfz86_0 := blk_frozen BK321.out 0; have hfz86_1 := blk_frozen BK321.out 1; have hfz86_2 := blk_frozen BK321.out 2; have hfz86_3 := blk_frozen BK321.out 3; have hcz87_0 : w83.cell? ⟨gb302, 0, none⟩ = some (.int .i64 (wrap64 (a1_0))) := (blk_cell BK302.out 0).trans rfl; have hcz87_1 : w83.cell? ⟨gb302, 1, none⟩ = some (.int .i64 (wrap64 (a1_1))) := (blk_cell BK302.out 1).trans rfl; have hcz87_2 : w83.cell? ⟨gb302, 2, none⟩ = some (.int .i64 (wrap64 (a1_2))) := (blk_cell BK302.out 2).trans rfl; have hcz87_3 : w83.cell? ⟨gb302, 3, none⟩ = some (.int .i64 (wrap64 (a1_3))) := (blk_cell BK302.out 3).trans rfl; have hfz87_0 := blk_frozen BK302.out 0; have hfz87_1 := blk_frozen BK302.out 1; have hfz87_2 := blk_frozen BK302.out 2; have hfz87_3 := blk_frozen BK302.out 3))
         go_ret
         exact ⟨by first | rfl | (simp [errW_none, errW_some] <;> rfl) | (simp [*, errW_none, errW_some] <;> rfl), by repeat (first | (with_reducible first | exact HB.out | apply below_alloc | apply pw_below_drewN | apply below_drew1 | refine below_set ?_ GE297.out | refine below_set ?_ GE302.out | refine below_set ?_ GE321.out) | exact HB.out)⟩
       ·replace c26 := Bool.eq_false_iff.mpr c26
        subst c26
        have H1 : (some false) = some r := by rw [if_neg (show ¬ (false = true) by decide)] at H; exact H
        clear H
        have H := H1
        clear H1
        obtain rfl := Option.some.inj H
        have hnb88 := NB302_297.out
        have hnc88 := NB297_302.out
        have hcz89_0 : wc.cell? ⟨gb302, 0, none⟩ = some (.int .i64 (wrap64 (a1_0))) := (blk_cell BK302.out 0).trans rfl
        have hcz89_1 : wc.cell? ⟨gb302, 1, none⟩ = some (.int .i64 (wrap64 (a1_1))) := (blk_cell BK302.out 1).trans rfl
        have hcz89_2 : wc.cell? ⟨gb302, 2, none⟩ = some (.int .i64 (wrap64 (a1_2))) := (blk_cell BK302.out 2).trans rfl
        have hcz89_3 : wc.cell? ⟨gb302, 3, none⟩ = some (.int .i64 (wrap64 (a1_3))) := (blk_cell BK302.out 3).trans rfl
        have hfz89_0 := blk_frozen BK302.out 0
        have hfz89_1 := blk_frozen BK302.out 1
        have hfz89_2 := blk_frozen BK302.out 2
        have hfz89_3 := blk_frozen BK302.out 3
        obtain ⟨Ao90, co90, eo90⟩ := Kd.N_slice HO_7.out
        subst eo90
        go_wp2_with (first | ((with_reducible refine gate_callee (f := 20) rfl ?_); refine goesL_ (some 46) rfl rfl Try.func20 (by kernel_rfl) rfl #[.slice Ao90 x7_9.length co90, .agg #[.int .i64 (wrap64 (a1_0)), .int .i64 (wrap64 (a1_1)), .int .i64 (wrap64 (a1_2)), .int .i64 (wrap64 (a1_3))], .slice A2 l2.length c2] rfl (by (try simp only [List.map_toArray, List.map_cons, List.map_nil]); first | done | rfl | (simp only [List.length_drop, List.length_take]; rfl)) ?_; (with_reducible refine (spec_SpotBytes.calls kj9 _ _ x7_9 (wrap64 (a1_0)) (wrap64 (a1_1)) (wrap64 (a1_2)) (wrap64 (a1_3)) _ _ l2 t309 _ ?side1 ?side2 ?side3 ?side4 A23.out).mono ?_); (case side1 => repeat (first | exact (Kd.N_reads' HO_7.out).2.2 | (with_reducible refine Kd.C_alloc ?_ _) | (with_reducible refine Kd.C_drewN ?_ _) | (with_reducible refine Kd.C_drew ?_))); (case side2 => exact (Kd.N_reads' HO_7.out).2.1); (case side3 => repeat (first | exact (Kd.C_below HR2.out HB.out) | (with_reducible refine Kd.C_alloc ?_ _) | (with_reducible refine Kd.C_drewN ?_ _) | (with_reducible refine Kd.C_drew ?_))); (case side4 => exact HC2.out); rintro e w91 ⟨v310, rfl, ho0, hb⟩; refine ⟨_, rfl, ?_⟩; have n0_ := Aside0.mk (Kd.N_elder' (by (with_reducible repeat (first | apply Kd.N_alloc | apply Kd.N_drewN | apply Kd.N_drew)); exact HO_7.out) (Kd.R_base ho0) hb); have n1_ := Aside0.mk (Kd.R_lower ho0 (below_size (by repeat (first | (with_reducible first | exact HB.out | apply below_alloc | apply pw_below_drewN | apply below_drew1 | refine below_set ?_ GE297.out | refine below_set ?_ GE302.out) | exact HB.out)))); have n2_ := Aside0.mk (blk_below (g := gb297) (o := .cells #[.int .i16 a1_0, .int .i16 a1_1, .int .i16 a1_2, .int .i16 a1_3] 46 (0, 0)) (by (with_reducible repeat (first | refine b1_ ?_ _ | refine b2_ ?_ | refine b3_ ?_ _)); exact BK297.out) hb); have n3_ := Aside0.mk (blk_below (g := gb302) (o := .cells #[.int .i64 (wrap64 (a1_0)), .int .i64 (wrap64 (a1_1)), .int .i64 (wrap64 (a1_2)), .int .i64 (wrap64 (a1_3))] 49 (0, 0)) (by (with_reducible repeat (first | refine b1_ ?_ _ | refine b2_ ?_ | refine b3_ ?_ _)); exact BK302.out) hb); have n4_ := Aside0.mk (below_step (by repeat (first | (with_reducible first | exact HB.out | apply below_alloc | apply pw_below_drewN | apply below_drew1 | refine below_set ?_ GE297.out | refine below_set ?_ GE302.out) | exact HB.out)) hb); clear HO_7; clear BK297; clear BK302; clear HB; have HO_7 := n0_; have HO311 := n1_; have BK297 := n2_; have BK302 := n3_; have HB := n4_; clear n0_ n1_ n2_ n3_ n4_; (try clear hb); (try clear hb2); (try clear hk); (try clear hi); (try clear ho0); obtain ⟨Ao92, co92, eo92⟩ := Kd.R_slice HO311.out; subst eo92) | ((with_reducible refine gate_callee (f := 19) rfl ?_); refine goesL_ (some 47) rfl rfl Try.func19 (by kernel_rfl) rfl #[.slice Ao92 t309.length co92] rfl (by (try simp only [List.map_toArray, List.map_cons, List.map_nil]); first | done | rfl | (simp only [List.length_drop, List.length_take]; rfl)) ?_; (with_reducible refine (impl_GlyphSpots.calls kj9 _ _ t309 t312 t315 t316 t317 t318 true false _ ?side1 ?side2 A24.out).mono ?_); (case side1 => repeat (first | exact (Kd.R_reads' HO311.out).2.2 | (with_reducible refine Kd.C_alloc ?_ _) | (with_reducible refine Kd.C_drewN ?_ _) | (with_reducible refine Kd.C_drew ?_))); (case side2 => exact (Kd.R_reads' HO311.out).2.1); rintro e w93 ⟨v313, rfl, ho0, hb⟩; refine ⟨_, rfl, ?_⟩; have n0_ := Aside0.mk (Kd.N_elder' (by (with_reducible repeat (first | apply Kd.N_alloc | apply Kd.N_drewN | apply Kd.N_drew)); exact HO_7.out) (Kd.N_base (Kd.S_N ho0)) hb); have n1_ := Aside0.mk (Kd.R_below (by (with_reducible repeat (first | apply Kd.R_alloc | apply Kd.R_drewN | apply Kd.R_drew)); exact HO311.out) hb); have n2_ := Aside0.mk (Kd.N_lower (Kd.N_mono (ok' := fun k_ => some k_ ≠ (.slice Ao90 x7_9.length co90 : Value).ownBlock ∧ some k_ ≠ (.slice Ao92 t309.length co92 : Value).ownBlock ∧ k_ ≠ gb297 ∧ k_ ≠ gb302) (Kd.S_N (Kd.S_bound ho0)) (fun k_ hk_ => ⟨(Kd.fresh' (Kd.N_lt (by (with_reducible repeat (first | apply Kd.N_alloc | apply Kd.N_drewN | apply Kd.N_drew)); exact HO_7.out)) k_ hk_.2.1), (Kd.fresh' (Kd.R_lt (by (with_reducible repeat (first | apply Kd.R_alloc | apply Kd.R_drewN | apply Kd.R_drew)); exact HO311.out)) k_ hk_.2.1), (Kd.freshB (g := gb297) (o := .cells #[.int .i16 a1_0, .int .i16 a1_1, .int .i16 a1_2, .int .i16 a1_3] 46 (0, 0)) (by (with_reducible repeat (first | refine b1_ ?_ _ | refine b2_ ?_ | refine b3_ ?_ _)); exact BK297.out) k_ hk_.2.1), (Kd.freshB (g := gb302) (o := .cells #[.int .i64 (wrap64 (a1_0)), .int .i64 (wrap64 (a1_1)), .int .i64 (wrap64 (a1_2)), .int .i64 (wrap64 (a1_3))] 49 (0, 0)) (by (with_reducible repeat (first | refine b1_ ?_ _ | refine b2_ ?_ | refine b3_ ?_ _)); exact BK302.out) k_ hk_.2.1)⟩)) (below_size (by repeat (first | (with_reducible first | exact HB.out | apply below_alloc | apply pw_below_drewN | apply below_drew1 | refine below_set ?_ GE297.out | refine below_set ?_ GE302.out) | exact HB.out)))); have n3_ := Aside0.mk (blk_below (g := gb297) (o := .cells #[.int .i16 a1_0, .int .i16 a1_1, .int .i16 a1_2, .int .i16 a1_3] 46 (0, 0)) (by (with_reducible repeat (first | refine b1_ ?_ _ | refine b2_ ?_ | refine b3_ ?_ _)); exact BK297.out) hb); have n4_ := Aside0.mk (blk_below (g := gb302) (o := .cells #[.int .i64 (wrap64 (a1_0)), .int .i64 (wrap64 (a1_1)), .int .i64 (wrap64 (a1_2)), .int .i64 (wrap64 (a1_3))] 49 (0, 0)) (by (with_reducible repeat (first | refine b1_ ?_ _ | refine b2_ ?_ | refine b3_ ?_ _)); exact BK302.out) hb); have n5_ := Aside0.mk (below_step (by repeat (first | (with_reducible first | exact HB.out | apply below_alloc | apply pw_below_drewN | apply below_drew1 | refine below_set ?_ GE297.out | refine below_set ?_ GE302.out) | exact HB.out)) hb); clear HO_7; clear HO311; clear BK297; clear BK302; clear HB; have HO_7 := n0_; have HO311 := n1_; have HO314 := n2_; have BK297 := n3_; have BK302 := n4_; have HB := n5_; clear n0_ n1_ n2_ n3_ n4_ n5_; (try clear hb); (try clear hb2); (try clear hk); (try clear hi); (try clear ho0)) | ((with_reducible refine gate_dst (N := 10) rfl ?_); (try (refine gate_guard (by rfl) ?_; dsimp only)); refine box_event ?hg (N := 10) ?hd (cs := #[.int .i64 0, .int .i64 0, .int .i64 0, .int .i64 0]) (t := 49) ?hr ?_; (case hd => rfl); (case hg => rfl); (case hr => first | (go_simp; done) | (go_simp; rfl)); intro gb321 hg w94 hbox hb; have n0_ := Aside0.mk (Kd.N_below (Kd.N_elderB (by (with_reducible repeat (first | apply Kd.N_alloc | apply Kd.N_drewN | apply Kd.N_drew)); exact HO_7.out) gb321 (Nat.le_of_eq hg.symm)) hb); have n1_ := Aside0.mk (Kd.R_below (by (with_reducible repeat (first | apply Kd.R_alloc | apply Kd.R_drewN | apply Kd.R_drew)); exact HO311.out) hb); have n2_ := Aside0.mk (Kd.N_below (Kd.N_elderB (by (with_reducible repeat (first | apply Kd.N_alloc | apply Kd.N_drewN | apply Kd.N_drew)); exact HO314.out) gb321 (Nat.le_of_eq hg.symm)) hb); have n3_ := Aside0.mk (blk_below (g := gb297) (o := .cells #[.int .i16 a1_0, .int .i16 a1_1, .int .i16 a1_2, .int .i16 a1_3] 46 (0, 0)) (by (with_reducible repeat (first | refine b1_ ?_ _ | refine b2_ ?_ | refine b3_ ?_ _)); exact BK297.out) hb); have n4_ := Aside0.mk (blk_below (g := gb302) (o := .cells #[.int .i64 (wrap64 (a1_0)), .int .i64 (wrap64 (a1_1)), .int .i64 (wrap64 (a1_2)), .int .i64 (wrap64 (a1_3))] 49 (0, 0)) (by (with_reducible repeat (first | refine b1_ ?_ _ | refine b2_ ?_ | refine b3_ ?_ _)); exact BK302.out) hb); have n5_ := Aside0.mk (below_step (by repeat (first | (with_reducible first | exact HB.out | apply below_alloc | apply pw_below_drewN | apply below_drew1 | refine below_set ?_ GE297.out | refine below_set ?_ GE302.out) | exact HB.out)) hb); have n6_ := Aside0.mk (hbox); have n7_ := Aside0.mk ((by rw [hg]; exact (below_size (by repeat (first | (with_reducible first | exact HB.out | apply below_alloc | apply pw_below_drewN | apply below_drew1 | refine below_set ?_ GE297.out | refine below_set ?_ GE302.out) | exact HB.out))) : w.heap.size ≤ gb321)); have n8_ := Aside0.mk ((by rw [hg]; exact (below_size (by repeat (first | (with_reducible first | exact HB.out | apply below_alloc | apply pw_below_drewN | apply below_drew1 | refine below_set ?_ GE297.out | refine below_set ?_ GE302.out) | exact HB.out))) : w.heap.size ≤ gb321)); have n9_ := Aside0.mk ((by rw [hg]; exact Nat.ne_of_lt (blk_lt (g := gb297) (o := .cells #[.int .i16 a1_0, .int .i16 a1_1, .int .i16 a1_2, .int .i16 a1_3] 46 (0, 0)) (by (with_reducible repeat (first | refine b1_ ?_ _ | refine b2_ ?_ | refine b3_ ?_ _)); exact BK297.out)) : gb297 ≠ gb321)); have n10_ := Aside0.mk ((by rw [hg]; exact Nat.ne_of_gt (blk_lt (g := gb297) (o := .cells #[.int .i16 a1_0, .int .i16 a1_1, .int .i16 a1_2, .int .i16 a1_3] 46 (0, 0)) (by (with_reducible repeat (first | refine b1_ ?_ _ | refine b2_ ?_ | refine b3_ ?_ _)); exact BK297.out)) : gb321 ≠ gb297)); have n11_ := Aside0.mk ((by rw [hg]; exact Nat.ne_of_lt (blk_lt (g := gb302) (o := .cells #[.int .i64 (wrap64 (a1_0)), .int .i64 (wrap64 (a1_1)), .int .i64 (wrap64 (a1_2)), .int .i64 (wrap64 (a1_3))] 49 (0, 0)) (by (with_reducible repeat (first | refine b1_ ?_ _ | refine b2_ ?_ | refine b3_ ?_ _)); exact BK302.out)) : gb302 ≠ gb321)); have n12_ := Aside0.mk ((by rw [hg]; exact Nat.ne_of_gt (blk_lt (g := gb302) (o := .cells #[.int .i64 (wrap64 (a1_0)), .int .i64 (wrap64 (a1_1)), .int .i64 (wrap64 (a1_2)), .int .i64 (wrap64 (a1_3))] 49 (0, 0)) (by (with_reducible repeat (first | refine b1_ ?_ _ | refine b2_ ?_ | refine b3_ ?_ _)); exact BK302.out)) : gb321 ≠ gb302)); clear HO_7; clear HO311; clear HO314; clear BK297; clear BK302; clear HB; have HO_7 := n0_; have HO311 := n1_; have HO314 := n2_; have BK297 := n3_; have BK302 := n4_; have HB := n5_; have BK321 := n6_; have GW321 := n7_; have GE321 := n8_; have NB297_321 := n9_; have NB321_297 := n10_; have NB302_321 := n11_; have NB321_302 := n12_; clear n0_ n1_ n2_ n3_ n4_ n5_ n6_ n7_ n8_ n9_ n10_ n11_ n12_; clear hb hbox hg; have hnb95 := NB321_297.out; have hnc95 := NB297_321.out; have hnb96 := NB321_302.out; have hnc96 := NB302_321.out; have hcz97_0 : w94.cell? ⟨gb321, 0, none⟩ = some (.int .i64 0) := (blk_cell BK321.out 0).trans rfl; have hcz97_1 : w94.cell? ⟨gb321, 1, none⟩ = some (.int .i64 0) := (blk_cell BK321.out 1).trans rfl; have hcz97_2 : w94.cell? ⟨gb321, 2, none⟩ = some (.int .i64 0) := (blk_cell BK321.out 2).trans rfl; have hcz97_3 : w94.cell? ⟨gb321, 3, none⟩ = some (.int .i64 0) := (blk_cell BK321.out 3).trans rfl; have hfz97_0 := blk_frozen BK321.out 0; have hfz97_1 := blk_frozen BK321.out 1; have hfz97_2 := blk_frozen BK321.out 2; have hfz97_3 := blk_frozen BK321.out 3))
        go_ret
        exact ⟨by first | rfl | (simp [errW_none, errW_some] <;> rfl) | (simp [*, errW_none, errW_some] <;> rfl), by repeat (first | (with_reducible first | exact HB.out | apply below_alloc | apply pw_below_drewN | apply below_drew1 | refine below_set ?_ GE297.out | refine below_set ?_ GE302.out | refine below_set ?_ GE321.out) | exact HB.out)⟩
      ·replace c25 := Bool.eq_false_iff.mpr c25
       subst c25
       have H1 : (some false) = some r := by rw [if_neg (show ¬ (false = true) by decide)] at H; exact H
       clear H
       have H := H1
       clear H1
       obtain rfl := Option.some.inj H
       have hnb98 := NB302_297.out
       have hnc98 := NB297_302.out
       have hcz99_0 : wc.cell? ⟨gb302, 0, none⟩ = some (.int .i64 (wrap64 (a1_0))) := (blk_cell BK302.out 0).trans rfl
       have hcz99_1 : wc.cell? ⟨gb302, 1, none⟩ = some (.int .i64 (wrap64 (a1_1))) := (blk_cell BK302.out 1).trans rfl
       have hcz99_2 : wc.cell? ⟨gb302, 2, none⟩ = some (.int .i64 (wrap64 (a1_2))) := (blk_cell BK302.out 2).trans rfl
       have hcz99_3 : wc.cell? ⟨gb302, 3, none⟩ = some (.int .i64 (wrap64 (a1_3))) := (blk_cell BK302.out 3).trans rfl
       have hfz99_0 := blk_frozen BK302.out 0
       have hfz99_1 := blk_frozen BK302.out 1
       have hfz99_2 := blk_frozen BK302.out 2
       have hfz99_3 := blk_frozen BK302.out 3
       obtain ⟨Ao100, co100, eo100⟩ := Kd.N_slice HO_7.out
       subst eo100
       go_wp2_with (first | ((with_reducible refine gate_callee (f := 20) rfl ?_); refine goesL_ (some 46) rfl rfl Try.func20 (by kernel_rfl) rfl #[.slice Ao100 x7_9.length co100, .agg #[.int .i64 (wrap64 (a1_0)), .int .i64 (wrap64 (a1_1)), .int .i64 (wrap64 (a1_2)), .int .i64 (wrap64 (a1_3))], .slice A2 l2.length c2] rfl (by (try simp only [List.map_toArray, List.map_cons, List.map_nil]); first | done | rfl | (simp only [List.length_drop, List.length_take]; rfl)) ?_; (with_reducible refine (spec_SpotBytes.calls kj9 _ _ x7_9 (wrap64 (a1_0)) (wrap64 (a1_1)) (wrap64 (a1_2)) (wrap64 (a1_3)) _ _ l2 t309 _ ?side1 ?side2 ?side3 ?side4 A23.out).mono ?_); (case side1 => repeat (first | exact (Kd.N_reads' HO_7.out).2.2 | (with_reducible refine Kd.C_alloc ?_ _) | (with_reducible refine Kd.C_drewN ?_ _) | (with_reducible refine Kd.C_drew ?_))); (case side2 => exact (Kd.N_reads' HO_7.out).2.1); (case side3 => repeat (first | exact (Kd.C_below HR2.out HB.out) | (with_reducible refine Kd.C_alloc ?_ _) | (with_reducible refine Kd.C_drewN ?_ _) | (with_reducible refine Kd.C_drew ?_))); (case side4 => exact HC2.out); rintro e w101 ⟨v310, rfl, ho0, hb⟩; refine ⟨_, rfl, ?_⟩; have n0_ := Aside0.mk (Kd.N_elder' (by (with_reducible repeat (first | apply Kd.N_alloc | apply Kd.N_drewN | apply Kd.N_drew)); exact HO_7.out) (Kd.R_base ho0) hb); have n1_ := Aside0.mk (Kd.R_lower ho0 (below_size (by repeat (first | (with_reducible first | exact HB.out | apply below_alloc | apply pw_below_drewN | apply below_drew1 | refine below_set ?_ GE297.out | refine below_set ?_ GE302.out) | exact HB.out)))); have n2_ := Aside0.mk (blk_below (g := gb297) (o := .cells #[.int .i16 a1_0, .int .i16 a1_1, .int .i16 a1_2, .int .i16 a1_3] 46 (0, 0)) (by (with_reducible repeat (first | refine b1_ ?_ _ | refine b2_ ?_ | refine b3_ ?_ _)); exact BK297.out) hb); have n3_ := Aside0.mk (blk_below (g := gb302) (o := .cells #[.int .i64 (wrap64 (a1_0)), .int .i64 (wrap64 (a1_1)), .int .i64 (wrap64 (a1_2)), .int .i64 (wrap64 (a1_3))] 49 (0, 0)) (by (with_reducible repeat (first | refine b1_ ?_ _ | refine b2_ ?_ | refine b3_ ?_ _)); exact BK302.out) hb); have n4_ := Aside0.mk (below_step (by repeat (first | (with_reducible first | exact HB.out | apply below_alloc | apply pw_below_drewN | apply below_drew1 | refine below_set ?_ GE297.out | refine below_set ?_ GE302.out) | exact HB.out)) hb); clear HO_7; clear BK297; clear BK302; clear HB; have HO_7 := n0_; have HO311 := n1_; have BK297 := n2_; have BK302 := n3_; have HB := n4_; clear n0_ n1_ n2_ n3_ n4_; (try clear hb); (try clear hb2); (try clear hk); (try clear hi); (try clear ho0); obtain ⟨Ao102, co102, eo102⟩ := Kd.R_slice HO311.out; subst eo102) | ((with_reducible refine gate_callee (f := 19) rfl ?_); refine goesL_ (some 47) rfl rfl Try.func19 (by kernel_rfl) rfl #[.slice Ao102 t309.length co102] rfl (by (try simp only [List.map_toArray, List.map_cons, List.map_nil]); first | done | rfl | (simp only [List.length_drop, List.length_take]; rfl)) ?_; (with_reducible refine (impl_GlyphSpots.calls kj9 _ _ t309 t312 t315 t316 t317 t318 false t320 _ ?side1 ?side2 A24.out).mono ?_); (case side1 => repeat (first | exact (Kd.R_reads' HO311.out).2.2 | (with_reducible refine Kd.C_alloc ?_ _) | (with_reducible refine Kd.C_drewN ?_ _) | (with_reducible refine Kd.C_drew ?_))); (case side2 => exact (Kd.R_reads' HO311.out).2.1); rintro e w103 ⟨v313, rfl, ho0, hb⟩; refine ⟨_, rfl, ?_⟩; have n0_ := Aside0.mk (Kd.N_elder' (by (with_reducible repeat (first | apply Kd.N_alloc | apply Kd.N_drewN | apply Kd.N_drew)); exact HO_7.out) (Kd.N_base (Kd.S_N ho0)) hb); have n1_ := Aside0.mk (Kd.R_below (by (with_reducible repeat (first | apply Kd.R_alloc | apply Kd.R_drewN | apply Kd.R_drew)); exact HO311.out) hb); have n2_ := Aside0.mk (Kd.N_lower (Kd.N_mono (ok' := fun k_ => some k_ ≠ (.slice Ao100 x7_9.length co100 : Value).ownBlock ∧ some k_ ≠ (.slice Ao102 t309.length co102 : Value).ownBlock ∧ k_ ≠ gb297 ∧ k_ ≠ gb302) (Kd.S_N (Kd.S_bound ho0)) (fun k_ hk_ => ⟨(Kd.fresh' (Kd.N_lt (by (with_reducible repeat (first | apply Kd.N_alloc | apply Kd.N_drewN | apply Kd.N_drew)); exact HO_7.out)) k_ hk_.2.1), (Kd.fresh' (Kd.R_lt (by (with_reducible repeat (first | apply Kd.R_alloc | apply Kd.R_drewN | apply Kd.R_drew)); exact HO311.out)) k_ hk_.2.1), (Kd.freshB (g := gb297) (o := .cells #[.int .i16 a1_0, .int .i16 a1_1, .int .i16 a1_2, .int .i16 a1_3] 46 (0, 0)) (by (with_reducible repeat (first | refine b1_ ?_ _ | refine b2_ ?_ | refine b3_ ?_ _)); exact BK297.out) k_ hk_.2.1), (Kd.freshB (g := gb302) (o := .cells #[.int .i64 (wrap64 (a1_0)), .int .i64 (wrap64 (a1_1)), .int .i64 (wrap64 (a1_2)), .int .i64 (wrap64 (a1_3))] 49 (0, 0)) (by (with_reducible repeat (first | refine b1_ ?_ _ | refine b2_ ?_ | refine b3_ ?_ _)); exact BK302.out) k_ hk_.2.1)⟩)) (below_size (by repeat (first | (with_reducible first | exact HB.out | apply below_alloc | apply pw_below_drewN | apply below_drew1 | refine below_set ?_ GE297.out | refine below_set ?_ GE302.out) | exact HB.out)))); have n3_ := Aside0.mk (blk_below (g := gb297) (o := .cells #[.int .i16 a1_0, .int .i16 a1_1, .int .i16 a1_2, .int .i16 a1_3] 46 (0, 0)) (by (with_reducible repeat (first | refine b1_ ?_ _ | refine b2_ ?_ | refine b3_ ?_ _)); exact BK297.out) hb); have n4_ := Aside0.mk (blk_below (g := gb302) (o := .cells #[.int .i64 (wrap64 (a1_0)), .int .i64 (wrap64 (a1_1)), .int .i64 (wrap64 (a1_2)), .int .i64 (wrap64 (a1_3))] 49 (0, 0)) (by (with_reducible repeat (first | refine b1_ ?_ _ | refine b2_ ?_ | refine b3_ ?_ _)); exact BK302.out) hb); have n5_ := Aside0.mk (below_step (by repeat (first | (with_reducible first | exact HB.out | apply below_alloc | apply pw_below_drewN | apply below_drew1 | refine below_set ?_ GE297.out | refine below_set ?_ GE302.out) | exact HB.out)) hb); clear HO_7; clear HO311; clear BK297; clear BK302; clear HB; have HO_7 := n0_; have HO311 := n1_; have HO314 := n2_; have BK297 := n3_; have BK302 := n4_; have HB := n5_; clear n0_ n1_ n2_ n3_ n4_ n5_; (try clear hb); (try clear hb2); (try clear hk); (try clear hi); (try clear ho0)) | ((with_reducible refine gate_dst (N := 10) rfl ?_); (try (refine gate_guard (by rfl) ?_; dsimp only)); refine box_event ?hg (N := 10) ?hd (cs := #[.int .i64 0, .int .i64 0, .int .i64 0, .int .i64 0]) (t := 49) ?hr ?_; (case hd => rfl); (case hg => rfl); (case hr => first | (go_simp; done) | (go_simp; rfl)); intro gb321 hg w104 hbox hb; have n0_ := Aside0.mk (Kd.N_below (Kd.N_elderB (by (with_reducible repeat (first | apply Kd.N_alloc | apply Kd.N_drewN | apply Kd.N_drew)); exact HO_7.out) gb321 (Nat.le_of_eq hg.symm)) hb); have n1_ := Aside0.mk (Kd.R_below (by (with_reducible repeat (first | apply Kd.R_alloc | apply Kd.R_drewN | apply Kd.R_drew)); exact HO311.out) hb); have n2_ := Aside0.mk (Kd.N_below (Kd.N_elderB (by (with_reducible repeat (first | apply Kd.N_alloc | apply Kd.N_drewN | apply Kd.N_drew)); exact HO314.out) gb321 (Nat.le_of_eq hg.symm)) hb); have n3_ := Aside0.mk (blk_below (g := gb297) (o := .cells #[.int .i16 a1_0, .int .i16 a1_1, .int .i16 a1_2, .int .i16 a1_3] 46 (0, 0)) (by (with_reducible repeat (first | refine b1_ ?_ _ | refine b2_ ?_ | refine b3_ ?_ _)); exact BK297.out) hb); have n4_ := Aside0.mk (blk_below (g := gb302) (o := .cells #[.int .i64 (wrap64 (a1_0)), .int .i64 (wrap64 (a1_1)), .int .i64 (wrap64 (a1_2)), .int .i64 (wrap64 (a1_3))] 49 (0, 0)) (by (with_reducible repeat (first | refine b1_ ?_ _ | refine b2_ ?_ | refine b3_ ?_ _)); exact BK302.out) hb); have n5_ := Aside0.mk (below_step (by repeat (first | (with_reducible first | exact HB.out | apply below_alloc | apply pw_below_drewN | apply below_drew1 | refine below_set ?_ GE297.out | refine below_set ?_ GE302.out) | exact HB.out)) hb); have n6_ := Aside0.mk (hbox); have n7_ := Aside0.mk ((by rw [hg]; exact (below_size (by repeat (first | (with_reducible first | exact HB.out | apply below_alloc | apply pw_below_drewN | apply below_drew1 | refine below_set ?_ GE297.out | refine below_set ?_ GE302.out) | exact HB.out))) : w.heap.size ≤ gb321)); have n8_ := Aside0.mk ((by rw [hg]; exact (below_size (by repeat (first | (with_reducible first | exact HB.out | apply below_alloc | apply pw_below_drewN | apply below_drew1 | refine below_set ?_ GE297.out | refine below_set ?_ GE302.out) | exact HB.out))) : w.heap.size ≤ gb321)); have n9_ := Aside0.mk ((by rw [hg]; exact Nat.ne_of_lt (blk_lt (g := gb297) (o := .cells #[.int .i16 a1_0, .int .i16 a1_1, .int .i16 a1_2, .int .i16 a1_3] 46 (0, 0)) (by (with_reducible repeat (first | refine b1_ ?_ _ | refine b2_ ?_ | refine b3_ ?_ _)); exact BK297.out)) : gb297 ≠ gb321)); have n10_ := Aside0.mk ((by rw [hg]; exact Nat.ne_of_gt (blk_lt (g := gb297) (o := .cells #[.int .i16 a1_0, .int .i16 a1_1, .int .i16 a1_2, .int .i16 a1_3] 46 (0, 0)) (by (with_reducible repeat (first | refine b1_ ?_ _ | refine b2_ ?_ | refine b3_ ?_ _)); exact BK297.out)) : gb321 ≠ gb297)); have n11_ := Aside0.mk ((by rw [hg]; exact Nat.ne_of_lt (blk_lt (g := gb302) (o := .cells #[.int .i64 (wrap64 (a1_0)), .int .i64 (wrap64 (a1_1)), .int .i64 (wrap64 (a1_2)), .int .i64 (wrap64 (a1_3))] 49 (0, 0)) (by (with_reducible repeat (first | refine b1_ ?_ _ | refine b2_ ?_ | refine b3_ ?_ _)); exact BK302.out)) : gb302 ≠ gb321)); have n12_ := Aside0.mk ((by rw [hg]; exact Nat.ne_of_gt (blk_lt (g := gb302) (o := .cells #[.int .i64 (wrap64 (a1_0)), .int .i64 (wrap64 (a1_1)), .int .i64 (wrap64 (a1_2)), .int .i64 (wrap64 (a1_3))] 49 (0, 0)) (by (with_reducible repeat (first | refine b1_ ?_ _ | refine b2_ ?_ | refine b3_ ?_ _)); exact BK302.out)) : gb321 ≠ gb302)); clear HO_7; clear HO311; clear HO314; clear BK297; clear BK302; clear HB; have HO_7 := n0_; have HO311 := n1_; have HO314 := n2_; have BK297 := n3_; have BK302 := n4_; have HB := n5_; have BK321 := n6_; have GW321 := n7_; have GE321 := n8_; have NB297_321 := n9_; have NB321_297 := n10_; have NB302_321 := n11_; have NB321_302 := n12_; clear n0_ n1_ n2_ n3_ n4_ n5_ n6_ n7_ n8_ n9_ n10_ n11_ n12_; clear hb hbox hg; have hnb105 := NB321_297.out; have hnc105 := NB297_321.out; have hnb106 := NB321_302.out; have hnc106 := NB302_321.out; have hcz107_0 : w104.cell? ⟨gb321, 0, none⟩ = some (.int .i64 0) := (blk_cell BK321.out 0).trans rfl; have hcz107_1 : w104.cell? ⟨gb321, 1, none⟩ = some (.int .i64 0) := (blk_cell BK321.out 1).trans rfl; have hcz107_2 : w104.cell? ⟨gb321, 2, none⟩ = some (.int .i64 0) := (blk_cell BK321.out 2).trans rfl; have hcz107_3 : w104.cell? ⟨gb321, 3, none⟩ = some (.int .i64 0) := (blk_cell BK321.out 3).trans rfl; have hfz107_0 := blk_frozen BK321.out 0; have hfz107_1 := blk_frozen BK321.out 1; have hfz107_2 := blk_frozen BK321.out 2; have hfz107_3 := blk_frozen BK321.out 3))
       go_ret
       exact ⟨by first | rfl | (simp [errW_none, errW_some] <;> rfl) | (simp [*, errW_none, errW_some] <;> rfl), by repeat (first | (with_reducible first | exact HB.out | apply below_alloc | apply pw_below_drewN | apply below_drew1 | refine below_set ?_ GE297.out | refine below_set ?_ GE302.out | refine below_set ?_ GE321.out) | exact HB.out)⟩

/-- THE ONE PURE STATEMENT of laws_FnGlyphSpots: yours. -/
def good51 (x : S51) : Prop := True ∧ (Lit.int .i64 x.f1).wf = true ∧ (Lit.int .i64 x.f2).wf = true
def good46 (x : S46) : Prop := (Lit.int .i16 x.f0).wf = true ∧ (Lit.int .i16 x.f1).wf = true ∧ (Lit.int .i16 x.f2).wf = true ∧ (Lit.int .i16 x.f3).wf = true
def laws_FnGlyphSpots.Pure : Prop := ∀ (l0 : List (List (S51))) (a1_0 : Int) (a1_1 : Int) (a1_2 : Int) (a1_3 : Int) (l2 : List Int), l0.length ≤ maxLen → (∀ y ∈ l0, (y.length ≤ maxLen ∧ ∀ y_ ∈ y, good51 y_)) → (Lit.int .i16 a1_0).wf = true → (Lit.int .i16 a1_1).wf = true → (Lit.int .i16 a1_2).wf = true → (Lit.int .i16 a1_3).wf = true → l2.length ≤ maxLen → l2.length * 1 ≤ 140737488351232 → (∀ x ∈ l2, (Lit.int .u8 x).wf = true) → ∃ k, laws_FnGlyphSpots.f k l0 a1_0 a1_1 a1_2 a1_3 l2 = some true
theorem laws_FnGlyphSpots.walk (P : laws_FnGlyphSpots.Pure) (a0 : Option Addr) (cap0 : Nat) (l0 : List (List (S51))) (a1_0 : Int) (a1_1 : Int) (a1_2 : Int) (a1_3 : Int) (a2 : Option Addr) (len2 cap2 : Nat) (z2 : List Int) (w : World) (hc0 : l0.length ≤ cap0) (hC0 : Kd.C (Kd.slice 51 k51) w a0 l0.length l0) (hm0 : l0.length ≤ maxLen) (hg0 : ∀ y ∈ l0, (y.length ≤ maxLen ∧ ∀ y_ ∈ y, good51 y_)) (w1_0 : (Lit.int .i16 a1_0).wf = true) (w1_1 : (Lit.int .i16 a1_1).wf = true) (w1_2 : (Lit.int .i16 a1_2).wf = true) (w1_3 : (Lit.int .i16 a1_3).wf = true) (w2 : (a2 = none ∧ len2 = 0 ∧ cap2 = 0 ∧ z2 = []) ∨ ∃ x, a2 = some x ∧ len2 ≤ cap2 ∧ cap2 ≤ maxLen ∧ z2.length = cap2 ∧ (∀ i, i < z2.length → w.cell? (x.add i) = some (.int .u8 (z2.getD i 0))) ∧ ∀ n ∈ z2, (Lit.int .u8 n).wf = true) (y2 : len2 * 1 ≤ 140737488351232) :
  Calls Try.prog 6 #[.slice a0 l0.length cap0, .agg #[.int .i16 a1_0, .int .i16 a1_1, .int .i16 a1_2, .int .i16 a1_3], .slice a2 len2 cap2] w fun e w' => e = .returned (.bool true) ∧ Below w.heap.size w w' := by
 obtain ⟨l2, rfl, hr2, hm2, hw2, hc2⟩ := ReadsInt.ofRowC w2
 obtain ⟨k, h⟩ := P l0 a1_0 a1_1 a1_2 a1_3 l2 hm0 hg0 w1_0 w1_1 w1_2 w1_3 hm2 y2 hw2
 refine (laws_FnGlyphSpots.calls k _ _ l0 a1_0 a1_1 a1_2 a1_3 _ _ l2 true w hC0 hc0 (Kd.C_of_reads (d := (0 : Int)) (h1 := fun _ => rfl) hr2) hc2 h).mono ?_
 rintro e w' ⟨rfl, hd⟩
 exact ⟨rfl, hd⟩

end Go.Proofs.Ytchkmmbedgolbaa.PFnGlyphSpots
