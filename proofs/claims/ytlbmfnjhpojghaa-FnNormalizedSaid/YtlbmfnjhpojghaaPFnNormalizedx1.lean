-- Written by a program of this session (xprint) out of the translation; Lean checks it.
import Derived.Test.YtlbmfnjhpojghaaPFnNormalizedx0
namespace Go.Proofs.Ytlbmfnjhpojghaa.PFnNormalized
open Go.RowKit Go.Proofs.YtlbmfnjhpojghaaW.PrintWords Go.Proofs.YtlbmfnjhpojghaaW.PrintLast Go.Proofs.YtlbmfnjhpojghaaW.PrintMore
attribute [local go_sem] max2_int min2_int max_two min_two max_three min_three max_four min_four   -- for this text's walks alone
set_option linter.unusedVariables false
set_option linter.unusedSimpArgs false

attribute [local go_sem] f_add f_sub f_mul f_quo f_conv f_same f_int f_max f_min f_neg f_store
/-! ### laws_zzFits40: function 25 -/
def laws_zzFits40.l0 : Nat → List (List (S164)) → Int → Int → Option (Bool)
 | 0, _, _, _ => none
 | k + 1, x8, x9, x10 => if x10 < x9 then (if 0 ≤ x10 then (if x10 < (x8.length : Int) then (if ((rd_L2 x8 x10).length : Int) > 2147483647 then (some false) else (laws_zzFits40.l0 k x8 x9 (wrap64 (x10 + 1)))) else (none)) else (none)) else (some true)
def laws_zzFits40.f (k : Nat) (l0 : List (List (S164))) : Option (Bool) := if (l0.length : Int) > 2147483647 then (some false) else (laws_zzFits40.l0 k l0 (l0.length : Int) 0)
theorem laws_zzFits40.mono_l : ∀ k, (∀ y0 y1 y2, LeO (laws_zzFits40.l0 k y0 y1 y2) (laws_zzFits40.l0 (k + 1) y0 y1 y2))
 | 0 => fun _ _ _ r h => by simp [laws_zzFits40.l0] at h
 | k + 1 => by
  have ih0 := laws_zzFits40.mono_l k
  ·intro y0 y1 y2
   unfold laws_zzFits40.l0
   repeat' first
   | (with_reducible exact ih0 _ _ _)
   | (with_reducible exact LeO.refl _)
   | (with_reducible exact LeO.none _)
   | (with_reducible refine LeO.ite ?_ ?_)
   | (with_reducible refine LeO.bind ?_ (fun _ => ?_))
   | exact ih0 _ _ _
   | exact LeO.none _
   | refine LeO.ite ?_ ?_
   | refine LeO.bind ?_ (fun _ => ?_)
theorem laws_zzFits40.mono : ∀ a0 k, LeO (laws_zzFits40.f k a0) (laws_zzFits40.f (k + 1) a0) := by
 intro a0 k
 have ih0 := laws_zzFits40.mono_l k
 unfold laws_zzFits40.f
 repeat' first
   | (with_reducible exact ih0 _ _ _)
   | (with_reducible exact LeO.refl _)
   | (with_reducible exact LeO.none _)
   | (with_reducible refine LeO.ite ?_ ?_)
   | (with_reducible refine LeO.bind ?_ (fun _ => ?_))
   | exact ih0 _ _ _
   | exact LeO.none _
   | refine LeO.ite ?_ ?_
   | refine LeO.bind ?_ (fun _ => ?_)
set_option maxHeartbeats 8000000 in
set_option maxRecDepth 100000 in
theorem laws_zzFits40.calls (k : Nat) (A0 : Option Addr) (c0 : Nat) (l0 : List (List (S164))) (r : Bool) (w : World) (hr0 : Kd.C (Kd.slice 164 k164) w A0 l0.length l0) (hc0 : l0.length ≤ c0) (h : laws_zzFits40.f k l0 = some r) :
  Calls Try.prog 25 #[.slice A0 l0.length c0] w fun e w' => e = .returned (.bool r) ∧ Drawn0 w w' := by
 have HR0 := Aside0.mk hr0
 have HC0 := Aside0.mk hc0
 clear hr0 hc0
 have H : (if (l0.length : Int) > 2147483647 then (some false) else (laws_zzFits40.l0 k l0 (l0.length : Int) 0)) = some r := h
 clear h
 by_cases c2 : (l0.length : Int) > 2147483647
 ·rw [if_pos c2] at H
  have c2b0 : decide (2147483647 < (l0.length : Int)) = true := decide_eq_true c2
  have c2b1 : decide (2147483647 < l0.length) = true := decide_eq_true (by omega)
  clear c2
  obtain rfl := Option.some.inj H
  go_enter Try.func25, Try.ntmps25
  go_wp2
  go_ret
  exact ⟨by first | rfl | (simp; done) | (simp [*]; done), by repeat (first | exact Drawn0.refl _ | apply Drawn0.step)⟩
 ·rw [if_neg c2] at H
  have c2b0 : decide (2147483647 < (l0.length : Int)) = false := decide_eq_false c2
  have c2b1 : decide (2147483647 < l0.length) = false := decide_eq_false (by omega)
  clear c2
  have H' := Aside0.mk H
  clear H
  go_enter Try.func25, Try.ntmps25
  go_wp2
  go_loopg [10] k (fun kq v10 w' => ∃ (x10_1 : Int), v10 = .int .i64 x10_1 ∧ Aside0 (laws_zzFits40.l0 kq l0 (l0.length : Int) x10_1 = some r) ∧ Aside0 (kq ≤ k) ∧ Drawn0 w w')
  case atStart => exact ⟨(0), (by first | rfl | (simp; done) | (simp [*]; done)), H', ⟨Nat.le_refl _⟩, by repeat (first | exact Drawn0.refl _ | apply Drawn0.step)⟩
  case round =>
   clear H'
   try clear c2
   try clear c2b0
   try clear c2b1
   try clear p2
   obtain ⟨x10_1, rfl, HA, HK1, ⟨m1, rfl⟩⟩ := hrel
   cases gk with
   | zero => exact absurd HA.out (by simp [laws_zzFits40.l0])
   | succ k1 =>
    have H := HA.out
    clear HA
    simp only [laws_zzFits40.l0] at H
    by_cases c3 : x10_1 < (l0.length : Int)
    ·rw [if_pos c3] at H
     have c3b0 : decide (x10_1 < (l0.length : Int)) = true := decide_eq_true c3
     clear c3
     by_cases c4 : 0 ≤ x10_1
     ·rw [if_pos c4] at H
      have c4b0 : decide (0 ≤ x10_1) = true := decide_eq_true c4
      clear c4
      by_cases c5 : x10_1 < (l0.length : Int)
      ·rw [if_pos c5] at H
       have c5b0 : decide (x10_1 < (l0.length : Int)) = true := decide_eq_true c5
       clear c5
       by_cases c6 : ((rd_L2 l0 x10_1).length : Int) > 2147483647
       ·rw [if_pos c6] at H
        have c6b0 : decide (2147483647 < ((rd_L2 l0 x10_1).length : Int)) = true := decide_eq_true c6
        have c6b1 : decide (2147483647 < (rd_L2 l0 x10_1).length) = true := decide_eq_true (by omega)
        clear c6
        obtain rfl := Option.some.inj H
        have p101 : 0 ≤ (x10_1 : Int) := of_decide_eq_true (by first | (with_reducible assumption) | assumption)
        have q101 : x10_1 < (l0.length : Int) := of_decide_eq_true (by first | (with_reducible assumption) | assumption)
        obtain ⟨ad101, A101_0, c101_0, e101, hx101_0, hl101_0, hi101_0⟩ := at_L2 HR0.out x10_1 p101 q101
        cases e101
        have HR101_0 := Aside0.mk hi101_0
        have HC101_0 := Aside0.mk hl101_0
        clear hi101_0 hl101_0
        replace p101 := eq_true p101
        replace q101 := eq_true q101
        go_wp2
        go_ret
        exact ⟨by first | rfl | (simp; done) | (simp [*]; done), by repeat (first | exact Drawn0.refl _ | apply Drawn0.step)⟩
       ·rw [if_neg c6] at H
        have c6b0 : decide (2147483647 < ((rd_L2 l0 x10_1).length : Int)) = false := decide_eq_false c6
        have c6b1 : decide (2147483647 < (rd_L2 l0 x10_1).length) = false := decide_eq_false (by omega)
        clear c6
        have H' := Aside0.mk H
        clear H
        have p101 : 0 ≤ (x10_1 : Int) := of_decide_eq_true (by first | (with_reducible assumption) | assumption)
        have q101 : x10_1 < (l0.length : Int) := of_decide_eq_true (by first | (with_reducible assumption) | assumption)
        obtain ⟨ad101, A101_0, c101_0, e101, hx101_0, hl101_0, hi101_0⟩ := at_L2 HR0.out x10_1 p101 q101
        cases e101
        have HR101_0 := Aside0.mk hi101_0
        have HC101_0 := Aside0.mk hl101_0
        clear hi101_0 hl101_0
        replace p101 := eq_true p101
        replace q101 := eq_true q101
        go_wp2
        go_roundg k1
        case measure => have := HK1.out; omega
        case rel => exact ⟨(wrap64 (x10_1 + 1)), (by first | rfl | (simp; done) | (simp [*]; done)), H', ⟨by have := HK1.out; omega⟩, by repeat (first | exact Drawn0.refl _ | apply Drawn0.step)⟩
      ·rw [if_neg c5] at H
       exact absurd H (by simp)
     ·rw [if_neg c4] at H
      exact absurd H (by simp)
    ·rw [if_neg c3] at H
     have c3b0 : decide (x10_1 < (l0.length : Int)) = false := decide_eq_false c3
     clear c3
     obtain rfl := Option.some.inj H
     go_wp2
     go_ret
     exact ⟨by first | rfl | (simp; done) | (simp [*]; done), by repeat (first | exact Drawn0.refl _ | apply Drawn0.step)⟩

/-! ### spec_Coord: function 32 -/
def spec_Coord.f (a0 : Int) : Option (Int) := some (mx (-16384) (mn 16384 (wrap64 (a0))))
set_option maxHeartbeats 8000000 in
set_option maxRecDepth 100000 in
theorem spec_Coord.calls (a0 : Int) (r : Int) (w : World) (h : spec_Coord.f a0 = some r) :
  Calls Try.prog 32 #[.int .i16 a0] w fun e w' => e = .returned (.int .i64 r) ∧ Below w.heap.size w w' := by
 have HB := Aside0.mk (Below.refl w.heap.size w)
 have H : (some (mx (-16384) (mn 16384 (wrap64 (a0))))) = some r := h
 clear h
 obtain ⟨ji2, hji2⟩ : ∃ j_ : Int, (mn 16384 (wrap64 (a0))) = j_ := ⟨_, rfl⟩
 replace H : (some (mx (-16384) (ji2))) = some r := by first | (rw [hji2] at H; exact H) | (simp only [hji2] at H ⊢; exact H)
 (try (have hji2h : ji2 ≤ 16384 := by (rw [← hji2]; unfold mn; (repeat' split) <;> omega)))
 (try (have hji2g : ji2 ≤ 64 := by omega))
 have hji2_ : (if (wrap64 (a0)) < 16384 then (wrap64 (a0)) else 16384) = ji2 := hji2
 obtain ⟨ji3, hji3⟩ : ∃ j_ : Int, (mx (-16384) (ji2)) = j_ := ⟨_, rfl⟩
 replace H : (some ji3) = some r := by first | (rw [hji3] at H; exact H) | (simp only [hji3] at H ⊢; exact H)
 have hji3_ : (if (-16384) < (ji2) then (ji2) else (-16384)) = ji3 := hji3
 obtain rfl := Option.some.inj H
 go_enter Try.func32, Try.ntmps32
 go_wp2
 go_ret
 exact ⟨by first | rfl | (simp [errW_none, errW_some] <;> rfl) | (simp only [← hji2, ← hji3]; first | rfl | (simp [errW_none, errW_some] <;> rfl)) | (simp [*, errW_none, errW_some] <;> rfl), by repeat (first | (with_reducible first | exact HB.out | apply below_alloc | apply pw_below_drewN | apply below_drew1) | exact HB.out)⟩

/-! ### cmp_isNaN_int16: function 100 -/
def cmp_isNaN_int16.f (a0 : Int) : Option (Bool) := some (a0 != a0)
set_option maxHeartbeats 8000000 in
set_option maxRecDepth 100000 in
theorem cmp_isNaN_int16.calls (a0 : Int) (r : Bool) (w : World) (h : cmp_isNaN_int16.f a0 = some r) :
  Calls Try.prog 100 #[.int .i16 a0] w fun e w' => e = .returned (.bool r) ∧ Drawn0 w w' := by
 have H : (some (a0 != a0)) = some r := h
 clear h
 obtain rfl := Option.some.inj H
 go_enter Try.func100, Try.ntmps100
 go_wp2
 go_ret
 exact ⟨by first | rfl | (simp; done) | (simp [*]; done), by repeat (first | exact Drawn0.refl _ | apply Drawn0.step)⟩

/-! ### cmp_Less_int16: function 81 -/
def cmp_Less_int16.f (a0 : Int) (a1 : Int) : Option (Bool) := (cmp_isNaN_int16.f a0).bind fun t102 => (if t102 = true then ((cmp_isNaN_int16.f a1).bind fun t103 => (if t103 = true then (some (decide (a0 < a1))) else (some true))) else (some (decide (a0 < a1))))
set_option maxHeartbeats 8000000 in
set_option maxRecDepth 100000 in
theorem cmp_Less_int16.calls (a0 : Int) (a1 : Int) (r : Bool) (w : World) (h : cmp_Less_int16.f a0 a1 = some r) :
  Calls Try.prog 81 #[.int .i16 a0, .int .i16 a1] w fun e w' => e = .returned (.bool r) ∧ Drawn0 w w' := by
 have H : ((cmp_isNaN_int16.f a0).bind fun t102 => (if t102 = true then ((cmp_isNaN_int16.f a1).bind fun t103 => (if t103 = true then (some (decide (a0 < a1))) else (some true))) else (some (decide (a0 < a1))))) = some r := h
 clear h
 replace H := Option.bind_eq_some_iff.mp H
 obtain ⟨t102, A30, H⟩ := H
 replace H : (if t102 = true then ((cmp_isNaN_int16.f a1).bind fun t103 => (if t103 = true then (some (decide (a0 < a1))) else (some true))) else (some (decide (a0 < a1)))) = some r := H
 have A3 := Aside0.mk A30
 clear A30
 by_cases c4 : t102 = true
 ·subst c4
  have H1 : ((cmp_isNaN_int16.f a1).bind fun t103 => (if t103 = true then (some (decide (a0 < a1))) else (some true))) = some r := by rw [if_pos rfl] at H; exact H
  clear H
  have H := H1
  clear H1
  replace H := Option.bind_eq_some_iff.mp H
  obtain ⟨t103, A50, H⟩ := H
  replace H : (if t103 = true then (some (decide (a0 < a1))) else (some true)) = some r := H
  have A5 := Aside0.mk A50
  clear A50
  by_cases c6 : t103 = true
  ·subst c6
   have H1 : (some (decide (a0 < a1))) = some r := by rw [if_pos rfl] at H; exact H
   clear H
   have H := H1
   clear H1
   obtain rfl := Option.some.inj H
   go_enter Try.func81, Try.ntmps81
   go_wp2_with (first | ((with_reducible refine gate_callee (f := 100) rfl ?_); refine goesL_ (some 6) rfl rfl Try.func100 (by kernel_rfl) rfl #[.int .i16 a0] rfl (by (try simp only [List.map_toArray, List.map_cons, List.map_nil]); first | done | rfl | (simp only [List.length_drop, List.length_take]; rfl)) ?_; (with_reducible refine (cmp_isNaN_int16.calls a0 true _ A3.out).mono ?_); rintro e w' ⟨rfl, ⟨nd, rfl⟩⟩; refine ⟨_, rfl, ?_⟩) | (go_at_call 100; (with_reducible refine (cmp_isNaN_int16.calls a1 true _ A5.out).mono ?_); rintro e w' ⟨rfl, ⟨nd, rfl⟩⟩))
   go_ret
   exact ⟨by first | rfl | (simp; done) | (simp [*]; done), by repeat (first | exact Drawn0.refl _ | apply Drawn0.step)⟩
  ·replace c6 := Bool.eq_false_iff.mpr c6
   subst c6
   have H1 : (some true) = some r := by rw [if_neg (show ¬ (false = true) by decide)] at H; exact H
   clear H
   have H := H1
   clear H1
   obtain rfl := Option.some.inj H
   go_enter Try.func81, Try.ntmps81
   go_wp2_with (first | ((with_reducible refine gate_callee (f := 100) rfl ?_); refine goesL_ (some 6) rfl rfl Try.func100 (by kernel_rfl) rfl #[.int .i16 a0] rfl (by (try simp only [List.map_toArray, List.map_cons, List.map_nil]); first | done | rfl | (simp only [List.length_drop, List.length_take]; rfl)) ?_; (with_reducible refine (cmp_isNaN_int16.calls a0 true _ A3.out).mono ?_); rintro e w' ⟨rfl, ⟨nd, rfl⟩⟩; refine ⟨_, rfl, ?_⟩) | (go_at_call 100; (with_reducible refine (cmp_isNaN_int16.calls a1 false _ A5.out).mono ?_); rintro e w' ⟨rfl, ⟨nd, rfl⟩⟩))
   go_ret
   exact ⟨by first | rfl | (simp; done) | (simp [*]; done), by repeat (first | exact Drawn0.refl _ | apply Drawn0.step)⟩
 ·replace c4 := Bool.eq_false_iff.mpr c4
  subst c4
  have H1 : (some (decide (a0 < a1))) = some r := by rw [if_neg (show ¬ (false = true) by decide)] at H; exact H
  clear H
  have H := H1
  clear H1
  obtain rfl := Option.some.inj H
  go_enter Try.func81, Try.ntmps81
  go_wp2_with (first | ((with_reducible refine gate_callee (f := 100) rfl ?_); refine goesL_ (some 6) rfl rfl Try.func100 (by kernel_rfl) rfl #[.int .i16 a0] rfl (by (try simp only [List.map_toArray, List.map_cons, List.map_nil]); first | done | rfl | (simp only [List.length_drop, List.length_take]; rfl)) ?_; (with_reducible refine (cmp_isNaN_int16.calls a0 false _ A3.out).mono ?_); rintro e w' ⟨rfl, ⟨nd, rfl⟩⟩; refine ⟨_, rfl, ?_⟩))
  go_ret
  exact ⟨by first | rfl | (simp; done) | (simp [*]; done), by repeat (first | exact Drawn0.refl _ | apply Drawn0.step)⟩

end Go.Proofs.Ytlbmfnjhpojghaa.PFnNormalized
