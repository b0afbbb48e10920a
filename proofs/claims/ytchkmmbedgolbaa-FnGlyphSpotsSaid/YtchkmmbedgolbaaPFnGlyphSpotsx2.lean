-- Written by a program of this session (xprint) out of the translation; Lean checks it.
import Derived.Test.YtchkmmbedgolbaaPFnGlyphSpotsx0
namespace Go.Proofs.Ytchkmmbedgolbaa.PFnGlyphSpots
open Go.RowKit Go.Proofs.YtchkmmbedgolbaaW.PrintWords Go.Proofs.YtchkmmbedgolbaaW.PrintLast Go.Proofs.YtchkmmbedgolbaaW.PrintMore
attribute [local go_sem] max2_int min2_int max_two min_two max_three min_three max_four min_four   -- for this text's walks alone
set_option linter.unusedVariables false
set_option linter.unusedSimpArgs false

/-! ### laws_zzFits31: function 17 -/
def laws_zzFits31.l0 : Nat → List (List (S51)) → Int → Int → Option (Bool)
 | 0, _, _, _ => none
 | k + 1, x8, x9, x10 => if x10 < x9 then (if 0 ≤ x10 then (if x10 < (x8.length : Int) then (if ((rd_L3 x8 x10).length : Int) > 2147483647 then (some false) else (laws_zzFits31.l0 k x8 x9 (wrap64 (x10 + 1)))) else (none)) else (none)) else (some true)
def laws_zzFits31.f (k : Nat) (l0 : List (List (S51))) : Option (Bool) := if (l0.length : Int) > 2147483647 then (some false) else (laws_zzFits31.l0 k l0 (l0.length : Int) 0)
theorem laws_zzFits31.mono_l : ∀ k, (∀ y0 y1 y2, LeO (laws_zzFits31.l0 k y0 y1 y2) (laws_zzFits31.l0 (k + 1) y0 y1 y2))
 | 0 => fun _ _ _ r h => by simp [laws_zzFits31.l0] at h
 | k + 1 => by
  have ih0 := laws_zzFits31.mono_l k
  ·intro y0 y1 y2
   unfold laws_zzFits31.l0
   repeat' first
   | (with_reducible exact ih0 _ _ _)
   | (with_reducible exact LeO.refl _)
   | (with_reducible exact LeO.none _)
   | (with_reducible refine LeO.ite ?_ ?_)
   | (with_reducible refine LeO.bind ?_ (fun _ => ?_))
   | exact ih0 _ _ _
   | exact LeO.none _
   | refine LeO.ite ?_ ?_
   | refine LeO.bind ?_ (fun _ => ?_)
theorem laws_zzFits31.mono : ∀ a0 k, LeO (laws_zzFits31.f k a0) (laws_zzFits31.f (k + 1) a0) := by
 intro a0 k
 have ih0 := laws_zzFits31.mono_l k
 unfold laws_zzFits31.f
 repeat' first
   | (with_reducible exact ih0 _ _ _)
   | (with_reducible exact LeO.refl _)
   | (with_reducible exact LeO.none _)
   | (with_reducible refine LeO.ite ?_ ?_)
   | (with_reducible refine LeO.bind ?_ (fun _ => ?_))
   | exact ih0 _ _ _
   | exact LeO.none _
   | refine LeO.ite ?_ ?_
   | refine LeO.bind ?_ (fun _ => ?_)
set_option maxHeartbeats 8000000 in
set_option maxRecDepth 100000 in
theorem laws_zzFits31.calls (k : Nat) (A0 : Option Addr) (c0 : Nat) (l0 : List (List (S51))) (r : Bool) (w : World) (hr0 : Kd.C (Kd.slice 51 k51) w A0 l0.length l0) (hc0 : l0.length ≤ c0) (h : laws_zzFits31.f k l0 = some r) :
  Calls Try.prog 17 #[.slice A0 l0.length c0] w fun e w' => e = .returned (.bool r) ∧ Drawn0 w w' := by
 have HR0 := Aside0.mk hr0
 have HC0 := Aside0.mk hc0
 clear hr0 hc0
 have H : (if (l0.length : Int) > 2147483647 then (some false) else (laws_zzFits31.l0 k l0 (l0.length : Int) 0)) = some r := h
 clear h
 by_cases c2 : (l0.length : Int) > 2147483647
 ·rw [if_pos c2] at H
  have c2b0 : decide (2147483647 < (l0.length : Int)) = true := decide_eq_true c2
  have c2b1 : decide (2147483647 < l0.length) = true := decide_eq_true (by omega)
  clear c2
  obtain rfl := Option.some.inj H
  go_enter Try.func17, Try.ntmps17
  go_wp2
  go_ret
  exact ⟨by first | rfl | (simp; done) | (simp [*]; done), by repeat (first | exact Drawn0.refl _ | apply Drawn0.step)⟩
 ·rw [if_neg c2] at H
  have c2b0 : decide (2147483647 < (l0.length : Int)) = false := decide_eq_false c2
  have c2b1 : decide (2147483647 < l0.length) = false := decide_eq_false (by omega)
  clear c2
  have H' := Aside0.mk H
  clear H
  go_enter Try.func17, Try.ntmps17
  go_wp2
  go_loopg [10] k (fun kq v10 w' => ∃ (x10_1 : Int), v10 = .int .i64 x10_1 ∧ Aside0 (laws_zzFits31.l0 kq l0 (l0.length : Int) x10_1 = some r) ∧ Aside0 (kq ≤ k) ∧ Drawn0 w w')
  case atStart => exact ⟨(0), (by first | rfl | (simp; done) | (simp [*]; done)), H', ⟨Nat.le_refl _⟩, by repeat (first | exact Drawn0.refl _ | apply Drawn0.step)⟩
  case round =>
   clear H'
   try clear c1
   try clear c2
   try clear c2b0
   try clear c2b1
   try clear p2
   obtain ⟨x10_1, rfl, HA, HK1, ⟨m1, rfl⟩⟩ := hrel
   cases gk with
   | zero => exact absurd HA.out (by simp [laws_zzFits31.l0])
   | succ k1 =>
    have H := HA.out
    clear HA
    simp only [laws_zzFits31.l0] at H
    by_cases c3 : x10_1 < (l0.length : Int)
    ·rw [if_pos c3] at H
     have c3b0 : decide (x10_1 < (l0.length : Int)) = true := decide_eq_true c3
     clear c3
     by_cases c4 : 0 ≤ x10_1
     ·rw [if_pos c4] at H
      have c4b0 : decide (0 ≤ x10_1) = true := decide_eq_true c4
      clear c4
      by_cases c5 : x10_1 < (l0.length : Int)
      ·rw [if_pos c5] at H
       have c5b0 : decide (x10_1 < (l0.length : Int)) = true := decide_eq_true c5
       clear c5
       by_cases c6 : ((rd_L3 l0 x10_1).length : Int) > 2147483647
       ·rw [if_pos c6] at H
        have c6b0 : decide (2147483647 < ((rd_L3 l0 x10_1).length : Int)) = true := decide_eq_true c6
        have c6b1 : decide (2147483647 < (rd_L3 l0 x10_1).length) = true := decide_eq_true (by omega)
        clear c6
        obtain rfl := Option.some.inj H
        have p101 : 0 ≤ (x10_1 : Int) := of_decide_eq_true (by first | (with_reducible assumption) | assumption)
        have q101 : x10_1 < (l0.length : Int) := of_decide_eq_true (by first | (with_reducible assumption) | assumption)
        obtain ⟨ad101, A101_0, c101_0, e101, hx101_0, hl101_0, hi101_0⟩ := at_L3 HR0.out x10_1 p101 q101
        cases e101
        have HR101_0 := Aside0.mk hi101_0
        have HC101_0 := Aside0.mk hl101_0
        clear hi101_0 hl101_0
        replace p101 := eq_true p101
        replace q101 := eq_true q101
        go_wp2
        go_ret
        exact ⟨by first | rfl | (simp; done) | (simp [*]; done), by repeat (first | exact Drawn0.refl _ | apply Drawn0.step)⟩
       ·rw [if_neg c6] at H
        have c6b0 : decide (2147483647 < ((rd_L3 l0 x10_1).length : Int)) = false := decide_eq_false c6
        have c6b1 : decide (2147483647 < (rd_L3 l0 x10_1).length) = false := decide_eq_false (by omega)
        clear c6
        have H' := Aside0.mk H
        clear H
        have p101 : 0 ≤ (x10_1 : Int) := of_decide_eq_true (by first | (with_reducible assumption) | assumption)
        have q101 : x10_1 < (l0.length : Int) := of_decide_eq_true (by first | (with_reducible assumption) | assumption)
        obtain ⟨ad101, A101_0, c101_0, e101, hx101_0, hl101_0, hi101_0⟩ := at_L3 HR0.out x10_1 p101 q101
        cases e101
        have HR101_0 := Aside0.mk hi101_0
        have HC101_0 := Aside0.mk hl101_0
        clear hi101_0 hl101_0
        replace p101 := eq_true p101
        replace q101 := eq_true q101
        go_wp2
        go_roundg k1
        case measure => have := HK1.out; omega
        case rel => exact ⟨(wrap64 (x10_1 + 1)), (by first | rfl | (simp; done) | (simp [*]; done)), H', ⟨by have := HK1.out; omega⟩, by repeat (first | exact Drawn0.refl _ | apply Drawn0.step)⟩
      ·rw [if_neg c5] at H
       exact absurd H (by simp)
     ·rw [if_neg c4] at H
      exact absurd H (by simp)
    ·rw [if_neg c3] at H
     have c3b0 : decide (x10_1 < (l0.length : Int)) = false := decide_eq_false c3
     clear c3
     obtain rfl := Option.some.inj H
     go_wp2
     go_ret
     exact ⟨by first | rfl | (simp; done) | (simp [*]; done), by repeat (first | exact Drawn0.refl _ | apply Drawn0.step)⟩

/-! ### laws_someSpots: function 18 -/
mutual
def laws_someSpots.l0 : Nat → List (List (S51)) → List (List (S51)) → Int → Option ((List (List (S51))))
 | 0, _, _, _ => none
 | k + 1, x0, x2, x3 => if x3 < (x0.length : Int) then (laws_someSpots.j1 k x0 x2 x3 (decide (x3 < 5))) else (laws_someSpots.j1 k x0 x2 x3 false)
def laws_someSpots.j1 : Nat → List (List (S51)) → List (List (S51)) → Int → Bool → Option ((List (List (S51))))
 | 0, _, _, _, _ => none
 | k + 1, x0, x2, x3, x14 => if x14 = true then (laws_someSpots.l1 k x0 x2 x3 ([] : List (S51)) 0) else (some x2)
def laws_someSpots.l1 : Nat → List (List (S51)) → List (List (S51)) → Int → List (S51) → Int → Option ((List (List (S51))))
 | 0, _, _, _, _, _ => none
 | k + 1, x0, x2, x3, x4, x5 => if 0 ≤ x3 then (if x3 < (x0.length : Int) then (if x5 < ((rd_L3 x0 x3).length : Int) then (laws_someSpots.j3 k x0 x2 x3 x4 x5 (decide (x5 < 12))) else (laws_someSpots.j3 k x0 x2 x3 x4 x5 false)) else (none)) else (none)
def laws_someSpots.j3 : Nat → List (List (S51)) → List (List (S51)) → Int → List (S51) → Int → Bool → Option ((List (List (S51))))
 | 0, _, _, _, _, _, _ => none
 | k + 1, x0, x2, x3, x4, x5, x27 => if x27 = true then (if 0 ≤ x3 then (if x3 < (x0.length : Int) then (if 0 ≤ x5 then (if x5 < ((rd_L3 x0 x3).length : Int) then (if x4.length < 5864062014805 then (laws_someSpots.l1 k x0 x2 x3 (x4 ++ [(⟨(rd_T51 (rd_L3 x0 x3) x5).f0, wrap64 (Int.tdiv (wrap64 (IntKind.i16.wrap ((rd_T51 (rd_L3 x0 x3) x5).f1))) 4), wrap64 (Int.tdiv (wrap64 (IntKind.i16.wrap ((rd_T51 (rd_L3 x0 x3) x5).f2))) 4)⟩ : S51)]) (wrap64 (x5 + 1))) else (none)) else (none)) else (none)) else (none)) else (none)) else (if (x4.length : Int) = 1 then (if 0 < (x4.length : Int) then (laws_someSpots.j4 k x0 x2 x3 (x4.set (0 : Int).toNat (⟨true, (rd_T51 x4 0).f1, (rd_T51 x4 0).f2⟩ : S51))) else (none)) else (laws_someSpots.j4 k x0 x2 x3 x4))
def laws_someSpots.j4 : Nat → List (List (S51)) → List (List (S51)) → Int → List (S51) → Option ((List (List (S51))))
 | 0, _, _, _, _ => none
 | k + 1, x0, x2, x3, x4 => if (x4.length : Int) > 0 then (if x2.length < 5864062014805 then (laws_someSpots.l0 k x0 (x2 ++ [x4]) (wrap64 (x3 + 1))) else (none)) else (laws_someSpots.l0 k x0 x2 (wrap64 (x3 + 1)))
end
def laws_someSpots.f (k : Nat) (l0 : List (List (S51))) : Option ((List (List (S51)))) := laws_someSpots.l0 k l0 ([] : List (List (S51))) 0
theorem laws_someSpots.mono_l : ∀ k, (∀ y0 y1 y2, LeO (laws_someSpots.l0 k y0 y1 y2) (laws_someSpots.l0 (k + 1) y0 y1 y2)) ∧ (∀ y0 y1 y2 y3, LeO (laws_someSpots.j1 k y0 y1 y2 y3) (laws_someSpots.j1 (k + 1) y0 y1 y2 y3)) ∧ (∀ y0 y1 y2 y3 y4, LeO (laws_someSpots.l1 k y0 y1 y2 y3 y4) (laws_someSpots.l1 (k + 1) y0 y1 y2 y3 y4)) ∧ (∀ y0 y1 y2 y3 y4 y5, LeO (laws_someSpots.j3 k y0 y1 y2 y3 y4 y5) (laws_someSpots.j3 (k + 1) y0 y1 y2 y3 y4 y5)) ∧ (∀ y0 y1 y2 y3, LeO (laws_someSpots.j4 k y0 y1 y2 y3) (laws_someSpots.j4 (k + 1) y0 y1 y2 y3))
 | 0 => ⟨fun _ _ _ r h => by simp [laws_someSpots.l0] at h, fun _ _ _ _ r h => by simp [laws_someSpots.j1] at h, fun _ _ _ _ _ r h => by simp [laws_someSpots.l1] at h, fun _ _ _ _ _ _ r h => by simp [laws_someSpots.j3] at h, fun _ _ _ _ r h => by simp [laws_someSpots.j4] at h⟩
 | k + 1 => by
  obtain ⟨ih0, ih1, ih2, ih3, ih4⟩ := laws_someSpots.mono_l k
  refine ⟨?_, ?_, ?_, ?_, ?_⟩
  ·intro y0 y1 y2
   unfold laws_someSpots.l0
   repeat' first
   | (with_reducible exact ih0 _ _ _)
   | (with_reducible exact ih1 _ _ _ _)
   | (with_reducible exact ih2 _ _ _ _ _)
   | (with_reducible exact ih3 _ _ _ _ _ _)
   | (with_reducible exact ih4 _ _ _ _)
   | (with_reducible exact LeO.refl _)
   | (with_reducible exact LeO.none _)
   | (with_reducible refine LeO.ite ?_ ?_)
   | (with_reducible refine LeO.bind ?_ (fun _ => ?_))
   | exact ih0 _ _ _
   | exact ih1 _ _ _ _
   | exact ih2 _ _ _ _ _
   | exact ih3 _ _ _ _ _ _
   | exact ih4 _ _ _ _
   | exact LeO.none _
   | refine LeO.ite ?_ ?_
   | refine LeO.bind ?_ (fun _ => ?_)
  ·intro y0 y1 y2 y3
   unfold laws_someSpots.j1
   repeat' first
   | (with_reducible exact ih0 _ _ _)
   | (with_reducible exact ih1 _ _ _ _)
   | (with_reducible exact ih2 _ _ _ _ _)
   | (with_reducible exact ih3 _ _ _ _ _ _)
   | (with_reducible exact ih4 _ _ _ _)
   | (with_reducible exact LeO.refl _)
   | (with_reducible exact LeO.none _)
   | (with_reducible refine LeO.ite ?_ ?_)
   | (with_reducible refine LeO.bind ?_ (fun _ => ?_))
   | exact ih0 _ _ _
   | exact ih1 _ _ _ _
   | exact ih2 _ _ _ _ _
   | exact ih3 _ _ _ _ _ _
   | exact ih4 _ _ _ _
   | exact LeO.none _
   | refine LeO.ite ?_ ?_
   | refine LeO.bind ?_ (fun _ => ?_)
  ·intro y0 y1 y2 y3 y4
   unfold laws_someSpots.l1
   repeat' first
   | (with_reducible exact ih0 _ _ _)
   | (with_reducible exact ih1 _ _ _ _)
   | (with_reducible exact ih2 _ _ _ _ _)
   | (with_reducible exact ih3 _ _ _ _ _ _)
   | (with_reducible exact ih4 _ _ _ _)
   | (with_reducible exact LeO.refl _)
   | (with_reducible exact LeO.none _)
   | (with_reducible refine LeO.ite ?_ ?_)
   | (with_reducible refine LeO.bind ?_ (fun _ => ?_))
   | exact ih0 _ _ _
   | exact ih1 _ _ _ _
   | exact ih2 _ _ _ _ _
   | exact ih3 _ _ _ _ _ _
   | exact ih4 _ _ _ _
   | exact LeO.none _
   | refine LeO.ite ?_ ?_
   | refine LeO.bind ?_ (fun _ => ?_)
  ·intro y0 y1 y2 y3 y4 y5
   unfold laws_someSpots.j3
   repeat' first
   | (with_reducible exact ih0 _ _ _)
   | (with_reducible exact ih1 _ _ _ _)
   | (with_reducible exact ih2 _ _ _ _ _)
   | (with_reducible exact ih3 _ _ _ _ _ _)
   | (with_reducible exact ih4 _ _ _ _)
   | (with_reducible exact LeO.refl _)
   | (with_reducible exact LeO.none _)
   | (with_reducible refine LeO.ite ?_ ?_)
   | (with_reducible refine LeO.bind ?_ (fun _ => ?_))
   | exact ih0 _ _ _
   | exact ih1 _ _ _ _
   | exact ih2 _ _ _ _ _
   | exact ih3 _ _ _ _ _ _
   | exact ih4 _ _ _ _
   | exact LeO.none _
   | refine LeO.ite ?_ ?_
   | refine LeO.bind ?_ (fun _ => ?_)
  ·intro y0 y1 y2 y3
   unfold laws_someSpots.j4
   repeat' first
   | (with_reducible exact ih0 _ _ _)
   | (with_reducible exact ih1 _ _ _ _)
   | (with_reducible exact ih2 _ _ _ _ _)
   | (with_reducible exact ih3 _ _ _ _ _ _)
   | (with_reducible exact ih4 _ _ _ _)
   | (with_reducible exact LeO.refl _)
   | (with_reducible exact LeO.none _)
   | (with_reducible refine LeO.ite ?_ ?_)
   | (with_reducible refine LeO.bind ?_ (fun _ => ?_))
   | exact ih0 _ _ _
   | exact ih1 _ _ _ _
   | exact ih2 _ _ _ _ _
   | exact ih3 _ _ _ _ _ _
   | exact ih4 _ _ _ _
   | exact LeO.none _
   | refine LeO.ite ?_ ?_
   | refine LeO.bind ?_ (fun _ => ?_)
theorem laws_someSpots.mono : ∀ a0 k, LeO (laws_someSpots.f k a0) (laws_someSpots.f (k + 1) a0) := by
 intro a0 k
 obtain ⟨ih0, ih1, ih2, ih3, ih4⟩ := laws_someSpots.mono_l k
 unfold laws_someSpots.f
 repeat' first
   | (with_reducible exact ih0 _ _ _)
   | (with_reducible exact ih1 _ _ _ _)
   | (with_reducible exact ih2 _ _ _ _ _)
   | (with_reducible exact ih3 _ _ _ _ _ _)
   | (with_reducible exact ih4 _ _ _ _)
   | (with_reducible exact LeO.refl _)
   | (with_reducible exact LeO.none _)
   | (with_reducible refine LeO.ite ?_ ?_)
   | (with_reducible refine LeO.bind ?_ (fun _ => ?_))
   | exact ih0 _ _ _
   | exact ih1 _ _ _ _
   | exact ih2 _ _ _ _ _
   | exact ih3 _ _ _ _ _ _
   | exact ih4 _ _ _ _
   | exact LeO.none _
   | refine LeO.ite ?_ ?_
   | refine LeO.bind ?_ (fun _ => ?_)
set_option maxHeartbeats 8000000 in
set_option maxRecDepth 100000 in
theorem laws_someSpots.calls (k : Nat) (A0 : Option Addr) (c0 : Nat) (l0 : List (List (S51))) (r : List (List (S51))) (w : World) (hr0 : Kd.C (Kd.slice 51 k51) w A0 l0.length l0) (hc0 : l0.length ≤ c0) (h : laws_someSpots.f k l0 = some r) :
  Calls Try.prog 18 #[.slice A0 l0.length c0] w fun e w' => ∃ v0_ : Value, e = .returned (v0_) ∧ Kd.S (Kd.slice 51 k51) 52 w' w.heap.size (fun _ => True) v0_ r ∧ Below w.heap.size w w' := by
 have hu51 := Try.underlying51
 have HR0 := Aside0.mk hr0
 have HC0 := Aside0.mk hc0
 clear hr0 hc0
 have HB := Aside0.mk (Below.refl w.heap.size w)
 have H : (laws_someSpots.l0 k l0 ([] : List (List (S51))) 0) = some r := h
 clear h
 have H' := Aside0.mk H
 clear H
 go_enter Try.func18, Try.ntmps18
 go_wp2
 go_loopg [2, 3] k (fun kq v2 v3 w' => ∃ (x2_1 : List (List (S51))) (x3_1 : Int), v3 = .int .i64 x3_1 ∧ Aside0 (laws_someSpots.l0 kq l0 x2_1 x3_1 = some r) ∧ Aside0 (kq ≤ k) ∧ Aside0 (Kd.S (Kd.slice 51 k51) 52 w' w.heap.size (fun _ => True) v2 x2_1) ∧ Aside0 (Below w.heap.size w w'))
 case atStart => exact ⟨(([] : List (List (S51)))), (0), (by first | rfl | (simp; done) | (simp [*]; done)), H', ⟨Nat.le_refl _⟩, ⟨by first | exact Kd.S_nil _ _ _ _ _ | exact Kd.N_nil _ _ _ _ _ | exact Kd.V_nil _ _ _ _ _ | exact Kd.Q_nil _ _ _ _ _ | exact Kd.R_nil _ _ _ _ _⟩, ⟨by repeat (first | (with_reducible first | exact HB.out | apply below_alloc | apply pw_below_drewN | apply below_drew1) | exact HB.out)⟩⟩
 case round =>
  clear H'
  try clear c1
  obtain ⟨x2_1, x3_1, rfl, HA, HK1, HO_2, HB⟩ := hrel
  cases gk with
  | zero => exact absurd HA.out (by simp [laws_someSpots.l0])
  | succ k1 =>
   have H := HA.out
   clear HA
   simp only [laws_someSpots.l0] at H
   have HC2 := Aside0.mk H
   clear H
   go_upto_region 2 with (fail)
   go_cut [14] (fun v14 wc => ∃ (kq : Nat) (x14_1 : Bool), v14 = .bool x14_1 ∧ Aside0 (laws_someSpots.j1 kq l0 x2_1 x3_1 x14_1 = some r) ∧ Aside0 (kq ≤ k1) ∧ Aside0 (Kd.S (Kd.slice 51 k51) 52 wc w.heap.size (fun _ => True) u2 x2_1) ∧ Aside0 (Below w.heap.size w wc))
   case first =>
    have H := HC2.out
    clear HC2
    by_cases c3 : x3_1 < (l0.length : Int)
    ·rw [if_pos c3] at H
     have c3b0 : decide (x3_1 < (l0.length : Int)) = true := decide_eq_true c3
     clear c3
     (first | rw [c3b0] | (simp only [i64_w, i32_w]; rw [c3b0]) | skip)
     have H' := Aside0.mk H
     clear H
     go_wp2
     go_meet
     case rel => exact ⟨_, (decide (x3_1 < 5)), (by first | rfl | (simp; done) | (simp [*]; done)), H', ⟨by have := HK1.out; first | omega | exact Nat.le_refl _⟩, ⟨by (with_reducible repeat (first | apply Kd.S_alloc | apply Kd.S_drewN | apply Kd.S_drew)); exact HO_2.out⟩, ⟨by repeat (first | (with_reducible first | exact HB.out | apply below_alloc | apply pw_below_drewN | apply below_drew1) | exact HB.out)⟩⟩
    ·rw [if_neg c3] at H
     have c3b0 : decide (x3_1 < (l0.length : Int)) = false := decide_eq_false c3
     clear c3
     (first | rw [c3b0] | (simp only [i64_w, i32_w]; rw [c3b0]) | skip)
     have H' := Aside0.mk H
     clear H
     go_wp2
     go_meet
     case rel => exact ⟨_, (false), (by first | rfl | (simp; done) | (simp [*]; done)), H', ⟨by have := HK1.out; first | omega | exact Nat.le_refl _⟩, ⟨by (with_reducible repeat (first | apply Kd.S_alloc | apply Kd.S_drewN | apply Kd.S_drew)); exact HO_2.out⟩, ⟨by repeat (first | (with_reducible first | exact HB.out | apply below_alloc | apply pw_below_drewN | apply below_drew1) | exact HB.out)⟩⟩
   case rest =>
    clear HC2
    try clear c1
    try clear p2
    try clear c3
    try clear c3b0
    obtain ⟨kq, x14_1, rfl, HA, HJ1, HO_2, HB⟩ := hcut
    cases kq with
    | zero => exact absurd HA.out (by simp [laws_someSpots.j1])
    | succ kj1 =>
     have H := HA.out
     clear HA
     simp only [laws_someSpots.j1] at H
     by_cases c4 : x14_1 = true
     ·subst c4
      have H1 : (laws_someSpots.l1 kj1 l0 x2_1 x3_1 ([] : List (S51)) 0) = some r := by rw [if_pos rfl] at H; exact H
      clear H
      have H := H1
      clear H1
      have H' := Aside0.mk H
      clear H
      go_wp2
      go_loopg [4, 5] kj1 (fun kq v4 v5 w' => ∃ (x4_3 : List (S51)) (x5_3 : Int), v5 = .int .i64 x5_3 ∧ Aside0 (laws_someSpots.l1 kq l0 x2_1 x3_1 x4_3 x5_3 = some r) ∧ Aside0 (kq ≤ kj1) ∧ Aside0 (Kd.S (Kd.slice 51 k51) 52 w' w.heap.size (fun k_ => some k_ ≠ (v4 : Value).ownBlock) u2 x2_1) ∧ Aside0 (Kd.R k51 51 w' w.heap.size (fun _ => True) v4 x4_3) ∧ Aside0 (Below w.heap.size w w'))
      case atStart => exact ⟨(([] : List (S51))), (0), (by first | rfl | (simp; done) | (simp [*]; done)), H', ⟨Nat.le_refl _⟩, ⟨by (with_reducible repeat (first | apply Kd.S_alloc | apply Kd.S_drewN | apply Kd.S_drew)); exact Kd.S_mono HO_2.out (fun _ hk => (by simp [Value.ownBlock]))⟩, ⟨by first | exact Kd.R_nil _ _ _ _ _ | exact Kd.N_nil _ _ _ _ _ | exact Kd.V_nil _ _ _ _ _ | exact Kd.Q_nil _ _ _ _ _ | exact Kd.S_nil _ _ _ _ _⟩, ⟨by repeat (first | (with_reducible first | exact HB.out | apply below_alloc | apply pw_below_drewN | apply below_drew1) | exact HB.out)⟩⟩
      case round =>
       clear H'
       try clear c1
       try clear p2
       try clear c3
       try clear c3b0
       try clear c4
       try clear p2
       obtain ⟨x4_3, x5_3, rfl, HA, HK3, HO_2, HO_4, HB⟩ := hrel
       cases gk with
       | zero => exact absurd HA.out (by simp [laws_someSpots.l1])
       | succ k3 =>
        have H := HA.out
        clear HA
        simp only [laws_someSpots.l1] at H
        have HC5 := Aside0.mk H
        clear H
        go_upto_region 6 with (fail)
        go_cut [27] (fun v27 wc => ∃ (kq : Nat) (x27_4 : Bool), v27 = .bool x27_4 ∧ Aside0 (laws_someSpots.j3 kq l0 x2_1 x3_1 x4_3 x5_3 x27_4 = some r) ∧ Aside0 (kq ≤ k3) ∧ Aside0 (Kd.S (Kd.slice 51 k51) 52 wc w.heap.size (fun k_ => some k_ ≠ (u4 : Value).ownBlock) u2 x2_1) ∧ Aside0 (Kd.R k51 51 wc w.heap.size (fun _ => True) u4 x4_3) ∧ Aside0 (Below w.heap.size w wc))
        case first =>
         have H := HC5.out
         clear HC5
         by_cases c6 : 0 ≤ x3_1
         ·rw [if_pos c6] at H
          have c6b0 : decide (0 ≤ x3_1) = true := decide_eq_true c6
          clear c6
          (first | rw [c6b0] | (simp only [i64_w, i32_w]; rw [c6b0]) | skip)
          by_cases c7 : x3_1 < (l0.length : Int)
          ·rw [if_pos c7] at H
           have c7b0 : decide (x3_1 < (l0.length : Int)) = true := decide_eq_true c7
           clear c7
           by_cases c8 : x5_3 < ((rd_L3 l0 x3_1).length : Int)
           ·rw [if_pos c8] at H
            have c8b0 : decide (x5_3 < ((rd_L3 l0 x3_1).length : Int)) = true := decide_eq_true c8
            clear c8
            have H' := Aside0.mk H
            clear H
            have p102 : 0 ≤ (x3_1 : Int) := of_decide_eq_true (by first | (with_reducible assumption) | assumption)
            have q102 : x3_1 < (l0.length : Int) := of_decide_eq_true (by first | (with_reducible assumption) | assumption)
            obtain ⟨ad102, A102_0, c102_0, e102, hx102_0, hl102_0, hi102_0⟩ := at_L3 HR0.out x3_1 p102 q102
            cases e102
            replace hx102_0 := (HB.out.cell (World.block_lt_of_cell? w _ hx102_0)).trans hx102_0
            have HR102_0 := Aside0.mk hi102_0
            have HC102_0 := Aside0.mk hl102_0
            clear hi102_0 hl102_0
            replace p102 := eq_true p102
            replace q102 := eq_true q102
            go_wp2
            go_meet
            case rel => exact ⟨_, (decide (x5_3 < 12)), (by first | rfl | (simp; done) | (simp [*]; done)), H', ⟨by have := HK1.out; have := HJ1.out; have := HK3.out; first | omega | exact Nat.le_refl _⟩, ⟨by (with_reducible repeat (first | apply Kd.S_alloc | apply Kd.S_drewN | apply Kd.S_drew)); exact HO_2.out⟩, ⟨by (with_reducible repeat (first | apply Kd.R_alloc | apply Kd.R_drewN | apply Kd.R_drew)); exact HO_4.out⟩, ⟨by repeat (first | (with_reducible first | exact HB.out | apply below_alloc | apply pw_below_drewN | apply below_drew1) | exact HB.out)⟩⟩
           ·rw [if_neg c8] at H
            have c8b0 : decide (x5_3 < ((rd_L3 l0 x3_1).length : Int)) = false := decide_eq_false c8
            clear c8
            have H' := Aside0.mk H
            clear H
            have p102 : 0 ≤ (x3_1 : Int) := of_decide_eq_true (by first | (with_reducible assumption) | assumption)
            have q102 : x3_1 < (l0.length : Int) := of_decide_eq_true (by first | (with_reducible assumption) | assumption)
            obtain ⟨ad102, A102_0, c102_0, e102, hx102_0, hl102_0, hi102_0⟩ := at_L3 HR0.out x3_1 p102 q102
            cases e102
            replace hx102_0 := (HB.out.cell (World.block_lt_of_cell? w _ hx102_0)).trans hx102_0
            have HR102_0 := Aside0.mk hi102_0
            have HC102_0 := Aside0.mk hl102_0
            clear hi102_0 hl102_0
            replace p102 := eq_true p102
            replace q102 := eq_true q102
            go_wp2
            go_meet
            case rel => exact ⟨_, (false), (by first | rfl | (simp; done) | (simp [*]; done)), H', ⟨by have := HK1.out; have := HJ1.out; have := HK3.out; first | omega | exact Nat.le_refl _⟩, ⟨by (with_reducible repeat (first | apply Kd.S_alloc | apply Kd.S_drewN | apply Kd.S_drew)); exact HO_2.out⟩, ⟨by (with_reducible repeat (first | apply Kd.R_alloc | apply Kd.R_drewN | apply Kd.R_drew)); exact HO_4.out⟩, ⟨by repeat (first | (with_reducible first | exact HB.out | apply below_alloc | apply pw_below_drewN | apply below_drew1) | exact HB.out)⟩⟩
          ·rw [if_neg c7] at H
           exact absurd H (by simp)
         ·rw [if_neg c6] at H
          exact absurd H (by simp)
        case rest =>
         clear HC5
         try clear c1
         try clear p1
         try clear q1
         try clear hx1
         try clear p2
         try clear c3
         try clear c3b0
         try clear c4
         try clear c6
         try clear c6b0
         try clear c7
         try clear c7b0
         try clear c8
         try clear c8b0
         try clear hx102_0
         try clear p102
         try clear p2
         try clear q102
         obtain ⟨kq, x27_4, rfl, HA, HJ4, HO_2, HO_4, HB⟩ := hcut
         cases kq with
         | zero => exact absurd HA.out (by simp [laws_someSpots.j3])
         | succ kj4 =>
          have H := HA.out
          clear HA
          simp only [laws_someSpots.j3] at H
          by_cases c9 : x27_4 = true
          ·subst c9
           have H1 : (if 0 ≤ x3_1 then (if x3_1 < (l0.length : Int) then (if 0 ≤ x5_3 then (if x5_3 < ((rd_L3 l0 x3_1).length : Int) then (if x4_3.length < 5864062014805 then (laws_someSpots.l1 kj4 l0 x2_1 x3_1 (x4_3 ++ [(⟨(rd_T51 (rd_L3 l0 x3_1) x5_3).f0, wrap64 (Int.tdiv (wrap64 (IntKind.i16.wrap ((rd_T51 (rd_L3 l0 x3_1) x5_3).f1))) 4), wrap64 (Int.tdiv (wrap64 (IntKind.i16.wrap ((rd_T51 (rd_L3 l0 x3_1) x5_3).f2))) 4)⟩ : S51)]) (wrap64 (x5_3 + 1))) else (none)) else (none)) else (none)) else (none)) else (none)) = some r := by rw [if_pos rfl] at H; exact H
           clear H
           have H := H1
           clear H1
           by_cases c10 : 0 ≤ x3_1
           ·rw [if_pos c10] at H
            have c10b0 : decide (0 ≤ x3_1) = true := decide_eq_true c10
            clear c10
            by_cases c11 : x3_1 < (l0.length : Int)
            ·rw [if_pos c11] at H
             have c11b0 : decide (x3_1 < (l0.length : Int)) = true := decide_eq_true c11
             clear c11
             by_cases c12 : 0 ≤ x5_3
             ·rw [if_pos c12] at H
              have c12b0 : decide (0 ≤ x5_3) = true := decide_eq_true c12
              clear c12
              by_cases c13 : x5_3 < ((rd_L3 l0 x3_1).length : Int)
              ·rw [if_pos c13] at H
               have c13b0 : decide (x5_3 < ((rd_L3 l0 x3_1).length : Int)) = true := decide_eq_true c13
               clear c13
               by_cases c14 : x4_3.length < 5864062014805
               ·rw [if_pos c14] at H
                have LMc14 := Aside0.mk c14
                clear c14
                obtain ⟨y106, hy106⟩ : ∃ y_ : List (S51), y_ = (x4_3 ++ [(⟨(rd_T51 (rd_L3 l0 x3_1) x5_3).f0, wrap64 (Int.tdiv (wrap64 (IntKind.i16.wrap ((rd_T51 (rd_L3 l0 x3_1) x5_3).f1))) 4), wrap64 (Int.tdiv (wrap64 (IntKind.i16.wrap ((rd_T51 (rd_L3 l0 x3_1) x5_3).f2))) 4)⟩ : S51)]) := ⟨_, rfl⟩
                replace H : (laws_someSpots.l1 kj4 l0 x2_1 x3_1 y106 (wrap64 (x5_3 + 1))) = some r := by first | (rw [hy106]; with_reducible exact H) | (have H2_ := (Option.bind_some _ _).symm.trans H; rw [hy106]; with_reducible exact H2_) | (have H2_ := (Option.bind_some _ _).symm.trans H; with_reducible exact H2_) | with_reducible exact H | (rw [hy106]; exact H) | exact H
                have Ny106 := Aside0.mk hy106
                clear hy106
                have H' := Aside0.mk H
                clear H
                have p103 : 0 ≤ (x3_1 : Int) := of_decide_eq_true (by first | (with_reducible assumption) | assumption)
                have q103 : x3_1 < (l0.length : Int) := of_decide_eq_true (by first | (with_reducible assumption) | assumption)
                obtain ⟨ad103, A103_0, c103_0, e103, hx103_0, hl103_0, hi103_0⟩ := at_L3 HR0.out x3_1 p103 q103
                cases e103
                replace hx103_0 := (HB.out.cell (World.block_lt_of_cell? w _ hx103_0)).trans hx103_0
                have HR103_0 := Aside0.mk hi103_0
                have HC103_0 := Aside0.mk hl103_0
                clear hi103_0 hl103_0
                replace p103 := eq_true p103
                replace q103 := eq_true q103
                have p104 : 0 ≤ (x5_3 : Int) := of_decide_eq_true (by first | (with_reducible assumption) | assumption)
                have q104 : x5_3 < ((rd_L3 l0 x3_1).length : Int) := of_decide_eq_true (by first | (with_reducible assumption) | assumption)
                obtain ⟨ad104, e104, hx104_0, hx104_1, hx104_2⟩ := at_T51 HR103_0.out x5_3 p104 q104
                cases e104
                replace hx104_0 := (HB.out.cell (World.block_lt_of_cell? w _ hx104_0)).trans hx104_0
                replace hx104_1 := (HB.out.cell (World.block_lt_of_cell? w _ hx104_1)).trans hx104_1
                replace hx104_2 := (HB.out.cell (World.block_lt_of_cell? w _ hx104_2)).trans hx104_2
                replace p104 := eq_true p104
                replace q104 := eq_true q104
                go_wp2_with (first | ((with_reducible refine gate_dst (N := 6) rfl ?_); refine box_event ?hg (N := 6) ?hd (cs := #[.bool false, .int .i64 0, .int .i64 0]) (t := 51) ?hr ?_; (case hd => rfl); (case hg => rfl); (case hr => first | (go_simp; done) | (go_simp; rfl)); intro gb105 hg w15 hbox hb; have n0_ := Aside0.mk (Kd.S_below (Kd.S_elderB (by (with_reducible repeat (first | apply Kd.S_alloc | apply Kd.S_drewN | apply Kd.S_drew)); exact HO_2.out) gb105 (Nat.le_of_eq hg.symm)) hb); have n1_ := Aside0.mk (Kd.R_below (Kd.R_elderB (by (with_reducible repeat (first | apply Kd.R_alloc | apply Kd.R_drewN | apply Kd.R_drew)); exact HO_4.out) gb105 (Nat.le_of_eq hg.symm)) hb); have n2_ := Aside0.mk (below_step (by repeat (first | (with_reducible first | exact HB.out | apply below_alloc | apply pw_below_drewN | apply below_drew1) | exact HB.out)) hb); have n3_ := Aside0.mk (hbox); have n4_ := Aside0.mk ((by rw [hg]; exact (below_size (by repeat (first | (with_reducible first | exact HB.out | apply below_alloc | apply pw_below_drewN | apply below_drew1) | exact HB.out))) : w.heap.size ≤ gb105)); have n5_ := Aside0.mk ((by rw [hg]; exact (below_size (by repeat (first | (with_reducible first | exact HB.out | apply below_alloc | apply pw_below_drewN | apply below_drew1) | exact HB.out))) : w.heap.size ≤ gb105)); clear HO_2; clear HO_4; clear HB; have HO_2 := n0_; have HO_4 := n1_; have HB := n2_; have BK105 := n3_; have GW105 := n4_; have GE105 := n5_; clear n0_ n1_ n2_ n3_ n4_ n5_; clear hb hbox hg; have hcz16_0 : w15.cell? ⟨gb105, 0, none⟩ = some (.bool false) := (blk_cell BK105.out 0).trans rfl; have hcz16_1 : w15.cell? ⟨gb105, 1, none⟩ = some (.int .i64 0) := (blk_cell BK105.out 1).trans rfl; have hcz16_2 : w15.cell? ⟨gb105, 2, none⟩ = some (.int .i64 0) := (blk_cell BK105.out 2).trans rfl; have hfz16_0 := blk_frozen BK105.out 0; have hfz16_1 := blk_frozen BK105.out 1; have hfz16_2 := blk_frozen BK105.out 2) | ((with_reducible refine gate_builtin (b := .append) (xs := #[.tmp 37, .tmp 51]) rfl ?_); at_builtin; refine Kd.R_append k51 (w0 := w) w.heap.size rfl (.tmp 37) (.tmp 51) 52 51 (.agg #[(.bool false), (.int .i64 0), (.int .i64 0)]) 24 rfl Try.underlying52 info51 rfl (by decide) (by omega) u4 x4_3 (⟨(rd_T51 (rd_L3 l0 x3_1) x5_3).f0, wrap64 (Int.tdiv (wrap64 (IntKind.i16.wrap ((rd_T51 (rd_L3 l0 x3_1) x5_3).f1))) 4), wrap64 (Int.tdiv (wrap64 (IntKind.i16.wrap ((rd_T51 (rd_L3 l0 x3_1) x5_3).f2))) 4)⟩ : S51) [.bool ((rd_T51 (rd_L3 l0 x3_1) x5_3).f0), .int .i64 (wrap64 (Int.tdiv (wrap64 (IntKind.i16.wrap ((rd_T51 (rd_L3 l0 x3_1) x5_3).f1))) 4)), .int .i64 (wrap64 (Int.tdiv (wrap64 (IntKind.i16.wrap ((rd_T51 (rd_L3 l0 x3_1) x5_3).f2))) 4))] (fun k_ => k_ ≠ gb105) (fun _ => False) rfl (by first | (go_simp; done) | (go_simp; rfl)) ?aP (fun _ hk => hk.elim) ?aF ?aO ?aB ?aS ?aL ?_; (case aP => exact k51_mkM _ _ _ (⟨(rd_T51 (rd_L3 l0 x3_1) x5_3).f0, wrap64 (Int.tdiv (wrap64 (IntKind.i16.wrap ((rd_T51 (rd_L3 l0 x3_1) x5_3).f1))) 4), wrap64 (Int.tdiv (wrap64 (IntKind.i16.wrap ((rd_T51 (rd_L3 l0 x3_1) x5_3).f2))) 4)⟩ : S51)); (case aB => exact (by repeat (first | (with_reducible first | exact HB.out | apply below_alloc | apply pw_below_drewN | apply below_drew1 | refine below_set ?_ GE105.out) | exact HB.out))); (case aF => exact (fun k_ hk => Kd.freshB (g := gb105) (o := .cells #[.bool ((rd_T51 (rd_L3 l0 x3_1) x5_3).f0), .int .i64 ((rd_T51 (rd_L3 l0 x3_1) x5_3).f1), .int .i64 ((rd_T51 (rd_L3 l0 x3_1) x5_3).f2)] 51 (0, 0)) (by (with_reducible repeat (first | refine b1_ ?_ _ | refine b2_ ?_ | refine b3_ ?_ _)); refine blk_put (cs := #[.bool ((rd_T51 (rd_L3 l0 x3_1) x5_3).f0), .int .i64 ((rd_T51 (rd_L3 l0 x3_1) x5_3).f1), .int .i64 0]) ?_ 2 _ rfl; (with_reducible repeat (first | refine b1_ ?_ _ | refine b2_ ?_ | refine b3_ ?_ _)); refine blk_put (cs := #[.bool ((rd_T51 (rd_L3 l0 x3_1) x5_3).f0), .int .i64 0, .int .i64 0]) ?_ 1 _ rfl; (with_reducible repeat (first | refine b1_ ?_ _ | refine b2_ ?_ | refine b3_ ?_ _)); refine blk_put (cs := #[.bool false, .int .i64 0, .int .i64 0]) ?_ 0 _ rfl; (with_reducible repeat (first | refine b1_ ?_ _ | refine b2_ ?_ | refine b3_ ?_ _)); exact BK105.out) k_ hk)); (case aO => exact (by (with_reducible repeat (first | apply Kd.R_alloc | apply Kd.R_drewN | apply Kd.R_drew)); exact Kd.R_mono (Kd.R_far (p := ⟨gb105, 2, none⟩) (Kd.R_far (p := ⟨gb105, 1, none⟩) (Kd.R_far (p := ⟨gb105, 0, none⟩) (Kd.R_mono HO_4.out (fun k_ hk => (⟨hk, hk.2⟩ : _ ∧ k_ ≠ gb105))) (fun _ hk => hk.2) (.bool ((rd_T51 (rd_L3 l0 x3_1) x5_3).f0))) (fun _ hk => hk.2) (.int .i64 ((rd_T51 (rd_L3 l0 x3_1) x5_3).f1))) (fun _ hk => hk.2) (.int .i64 ((rd_T51 (rd_L3 l0 x3_1) x5_3).f2))) (fun _ hk => hk.1.2))); (case aS => exact (below_size (by repeat (first | (with_reducible first | exact HB.out | apply below_alloc | apply pw_below_drewN | apply below_drew1 | refine below_set ?_ GE105.out) | exact HB.out)))); (case aL => have := LMc14.out; omega); intro v107 w17 ho hb hg hat; rw [← Ny106.out] at ho; have n0_ := Aside0.mk (Kd.S_after (ok := (fun k_ => k_ ≠ gb105)) (by (with_reducible repeat (first | apply Kd.S_alloc | apply Kd.S_drewN | apply Kd.S_drew)); exact Kd.S_mono (Kd.S_far (p := ⟨gb105, 2, none⟩) (Kd.S_far (p := ⟨gb105, 1, none⟩) (Kd.S_far (p := ⟨gb105, 0, none⟩) (Kd.S_mono HO_2.out (fun k_ hk => (⟨hk, hk.2⟩ : _ ∧ k_ ≠ gb105))) (fun _ hk => hk.2) (.bool ((rd_T51 (rd_L3 l0 x3_1) x5_3).f0))) (fun _ hk => hk.2) (.int .i64 ((rd_T51 (rd_L3 l0 x3_1) x5_3).f1))) (fun _ hk => hk.2) (.int .i64 ((rd_T51 (rd_L3 l0 x3_1) x5_3).f2))) (fun _ hk => ⟨hk.1.2, hk.1.1⟩)) hg hat); have n1_ := Aside0.mk (blk_grown (g := gb105) (o := .cells #[.bool ((rd_T51 (rd_L3 l0 x3_1) x5_3).f0), .int .i64 ((rd_T51 (rd_L3 l0 x3_1) x5_3).f1), .int .i64 ((rd_T51 (rd_L3 l0 x3_1) x5_3).f2)] 51 (0, 0)) (by (with_reducible repeat (first | refine b1_ ?_ _ | refine b2_ ?_ | refine b3_ ?_ _)); refine blk_put (cs := #[.bool ((rd_T51 (rd_L3 l0 x3_1) x5_3).f0), .int .i64 ((rd_T51 (rd_L3 l0 x3_1) x5_3).f1), .int .i64 0]) ?_ 2 _ rfl; (with_reducible repeat (first | refine b1_ ?_ _ | refine b2_ ?_ | refine b3_ ?_ _)); refine blk_put (cs := #[.bool ((rd_T51 (rd_L3 l0 x3_1) x5_3).f0), .int .i64 0, .int .i64 0]) ?_ 1 _ rfl; (with_reducible repeat (first | refine b1_ ?_ _ | refine b2_ ?_ | refine b3_ ?_ _)); refine blk_put (cs := #[.bool false, .int .i64 0, .int .i64 0]) ?_ 0 _ rfl; (with_reducible repeat (first | refine b1_ ?_ _ | refine b2_ ?_ | refine b3_ ?_ _)); exact BK105.out) hg (Kd.R_away HO_4.out (fun _ hk => hk.2))); have n2_ := Aside0.mk (hb); have n3_ := Aside0.mk (ho); clear HO_2; clear BK105; clear HB; clear HO_4; have HO_2 := n0_; have BK105 := n1_; have HB := n2_; have HO108 := n3_; clear n0_ n1_ n2_ n3_; clear ho hb hg hat))
                go_roundg kj4
                case measure => have := HK1.out; have := HJ1.out; have := HK3.out; have := HJ4.out; omega
                case rel => exact ⟨(y106), (wrap64 (x5_3 + 1)), (by first | rfl | (simp; done) | (simp [*]; done)), H', ⟨by have := HK1.out; have := HJ1.out; have := HK3.out; have := HJ4.out; omega⟩, ⟨by (with_reducible repeat (first | apply Kd.S_alloc | apply Kd.S_drewN | apply Kd.S_drew)); exact Kd.S_mono HO_2.out (fun _ hk => hk.2)⟩, ⟨by (with_reducible repeat (first | apply Kd.R_alloc | apply Kd.R_drewN | apply Kd.R_drew)); exact Kd.R_mono HO108.out (fun _ hk => trivial)⟩, ⟨by repeat (first | (with_reducible first | exact HB.out | apply below_alloc | apply pw_below_drewN | apply below_drew1 | refine below_set ?_ GE105.out) | exact HB.out)⟩⟩
               ·rw [if_neg c14] at H
                exact absurd H (by simp)
              ·rw [if_neg c13] at H
               exact absurd H (by simp)
             ·rw [if_neg c12] at H
              exact absurd H (by simp)
            ·rw [if_neg c11] at H
             exact absurd H (by simp)
           ·rw [if_neg c10] at H
            exact absurd H (by simp)
          ·replace c9 := Bool.eq_false_iff.mpr c9
           subst c9
           have H1 : (if (x4_3.length : Int) = 1 then (if 0 < (x4_3.length : Int) then (laws_someSpots.j4 kj4 l0 x2_1 x3_1 (x4_3.set (0 : Int).toNat (⟨true, (rd_T51 x4_3 0).f1, (rd_T51 x4_3 0).f2⟩ : S51))) else (none)) else (laws_someSpots.j4 kj4 l0 x2_1 x3_1 x4_3)) = some r := by rw [if_neg (show ¬ (false = true) by decide)] at H; exact H
           clear H
           have H := H1
           clear H1
           have HC18 := Aside0.mk H
           clear H
           obtain ⟨Ao19, co19, eo19⟩ := Kd.R_slice HO_4.out
           subst eo19
           go_upto_if 55 with (fail)
           go_cut [] (fun wc => ∃ (kq : Nat) (x4_17 : List (S51)), Aside0 (laws_someSpots.j4 kq l0 x2_1 x3_1 x4_17 = some r) ∧ Aside0 (kq ≤ kj4) ∧ Aside0 (Kd.S (Kd.slice 51 k51) 52 wc w.heap.size (fun k_ => some k_ ≠ ((.slice Ao19 x4_3.length co19) : Value).ownBlock) u2 x2_1) ∧ Aside0 (Kd.R k51 51 wc w.heap.size (fun _ => True) (.slice Ao19 x4_3.length co19) x4_17) ∧ Aside0 (Below w.heap.size w wc))
           case first =>
            have H := HC18.out
            clear HC18
            by_cases c20 : (x4_3.length : Int) = 1
            ·rw [if_pos c20] at H
             have c20b0 : ((x4_3.length : Int) == 1) = true := beq_iff_eq.mpr c20
             have c20b1 : ((x4_3.length : Int) != 1) = false := bne_eq_false_iff_eq.mpr c20
             clear c20
             (first | rw [c20b0] | (simp only [i64_w, i32_w]; rw [c20b0]) | skip)
             by_cases c21 : 0 < (x4_3.length : Int)
             ·rw [if_pos c21] at H
              have c21b0 : decide (0 < (x4_3.length : Int)) = true := decide_eq_true c21
              have c21b1 : decide (0 < x4_3.length) = true := decide_eq_true (by omega)
              clear c21
              obtain ⟨y109, hy109⟩ : ∃ y_ : List (S51), y_ = (x4_3.set (0 : Int).toNat (⟨true, (rd_T51 x4_3 0).f1, (rd_T51 x4_3 0).f2⟩ : S51)) := ⟨_, rfl⟩
              replace H : (laws_someSpots.j4 kj4 l0 x2_1 x3_1 y109) = some r := by first | (rw [hy109]; with_reducible exact H) | (have H2_ := (Option.bind_some _ _).symm.trans H; rw [hy109]; with_reducible exact H2_) | (have H2_ := (Option.bind_some _ _).symm.trans H; with_reducible exact H2_) | with_reducible exact H | (rw [hy109]; exact H) | exact H
              have Ny109 := Aside0.mk hy109
              clear hy109
              have H' := Aside0.mk H
              clear H
              have p22 : 0 ≤ (0 : Int) := (by omega)
              have q22 : (0 : Int) < ((x4_3.length : Int) : Int) := of_decide_eq_true (by first | (with_reducible assumption) | assumption)
              have qi22 : (0 < x4_3.length) = True := eq_true (by omega)
              obtain ⟨go22, co22, eo22, gb22, gl22, cl22, HG22⟩ := Kd.R_form HO_4.out (by omega)
              (first | cases eo22 | (injection eo22 with ea_ en_ ec_; (first | subst ea_ | (injection ea_ with ea_; subst ea_)); subst ec_; clear en_))
              have GB22 := Aside0.mk gb22
              have GG22 := Aside0.mk HG22
              clear gb22 gl22 HG22
              obtain ⟨ce22, hcl22, hM22, hcc22, hfr22⟩ := Kd.R_elem HO_4.out z51 (0 : Int) p22 q22
              obtain rfl := k51_openM hM22
              have hx22_0 : wc.cell? ⟨go22, (0 : Int).toNat * 3, none⟩ = some (.bool ((rd_T51 x4_3 0).f0)) := hcc22 0 _ rfl
              have hx22_1 : wc.cell? ⟨go22, (0 : Int).toNat * 3 + 1, none⟩ = some (.int .i64 ((rd_T51 x4_3 0).f1)) := hcc22 1 _ rfl
              have hx22_2 : wc.cell? ⟨go22, (0 : Int).toNat * 3 + 2, none⟩ = some (.int .i64 ((rd_T51 x4_3 0).f2)) := hcc22 2 _ rfl
              have hf22_0 : wc.frozen? ⟨go22, (0 : Int).toNat * 3, none⟩ = false := hfr22 0
              have hf22_1 : wc.frozen? ⟨go22, (0 : Int).toNat * 3 + 1, none⟩ = false := hfr22 1
              have hf22_2 : wc.frozen? ⟨go22, (0 : Int).toNat * 3 + 2, none⟩ = false := hfr22 2
              clear hcl22 hcc22 hfr22 hM22
              (try rw [show ((0 : Int)).toNat = 0 from rfl] at hx22_0)
              (try simp only [Nat.reduceMul, Nat.zero_mul, Nat.zero_add, Nat.reduceAdd] at hx22_0)
              (try rw [show ((0 : Int)).toNat = 0 from rfl] at hf22_0)
              (try simp only [Nat.reduceMul, Nat.zero_mul, Nat.zero_add, Nat.reduceAdd] at hf22_0)
              (try rw [show ((0 : Int)).toNat = 0 from rfl] at hx22_1)
              (try simp only [Nat.reduceMul, Nat.zero_mul, Nat.zero_add, Nat.reduceAdd] at hx22_1)
              (try rw [show ((0 : Int)).toNat = 0 from rfl] at hf22_1)
              (try simp only [Nat.reduceMul, Nat.zero_mul, Nat.zero_add, Nat.reduceAdd] at hf22_1)
              (try rw [show ((0 : Int)).toNat = 0 from rfl] at hx22_2)
              (try simp only [Nat.reduceMul, Nat.zero_mul, Nat.zero_add, Nat.reduceAdd] at hx22_2)
              (try rw [show ((0 : Int)).toNat = 0 from rfl] at hf22_2)
              (try simp only [Nat.reduceMul, Nat.zero_mul, Nat.zero_add, Nat.reduceAdd] at hf22_2)
              replace p22 := eq_true p22
              replace q22 := eq_true q22
              have HX23 := Aside0.mk (show Kd.R k51 51 wc w.heap.size (fun _ => True) (.slice (some ⟨go22, 0, none⟩) x4_3.length co19) x4_3 from (by (with_reducible repeat (first | apply Kd.R_alloc | apply Kd.R_drewN | apply Kd.R_drew)); exact HO_4.out))
              obtain ⟨ce23, hcl23, hM23, hcc23, hfr23⟩ := Kd.R_elem HX23.out z51 (0 : Int) (by omega) (by have h_ : (0 : Int) < ((x4_3.length : Int) : Int) := of_decide_eq_true (by first | (with_reducible assumption) | assumption); first | exact h_ | (have e_ := (Kd.R_reads' HO_4.out).1; omega) | simpa using h_)
              obtain rfl := k51_openM hM23
              have HP23 := Kd.R_seg HX23.out (0 : Int) (by omega) (by have h_ : (0 : Int) < ((x4_3.length : Int) : Int) := of_decide_eq_true (by first | (with_reducible assumption) | assumption); first | exact h_ | (have e_ := (Kd.R_reads' HO_4.out).1; omega) | simpa using h_) (seg := [.bool true]) (j := 0) hcl23 hcc23 (show 1 ≤ 3 from by decide) (x' := (⟨true, (rd_T51 x4_3 0).f1, (rd_T51 x4_3 0).f2⟩ : S51)) (k51_mkM _ _ _ (⟨true, (rd_T51 x4_3 0).f1, (rd_T51 x4_3 0).f2⟩ : S51) ) (fun _ hk => hk)
              have hx23_0 := hcc23 0 _ rfl
              (try simp only [show (k51).sz = 3 from rfl, Nat.mul_one, Nat.add_zero] at hx23_0)
              (try rw [show ((0 : Int)).toNat = 0 from rfl] at hx23_0)
              (try simp only [Nat.reduceMul, Nat.zero_mul, Nat.zero_add, Nat.reduceAdd] at hx23_0)
              have hf23_0 := hfr23 0
              (try simp only [show (k51).sz = 3 from rfl, Nat.mul_one, Nat.add_zero] at hf23_0)
              (try rw [show ((0 : Int)).toNat = 0 from rfl] at hf23_0)
              (try simp only [Nat.reduceMul, Nat.zero_mul, Nat.zero_add, Nat.reduceAdd] at hf23_0)
              clear hcl23 hcc23 hfr23 hM23
              go_wp2_with (first | ((with_reducible refine gate_store (t := 4) (p := 58) rfl ?_); refine store_event (t := 4) (p := 58) (v := ?vo_w24) (w1 := (wc.setCell ⟨go22, 0, none⟩ (.bool true))) ?hg ?ho ?hn ?hr ?_; (case ho => rfl); (case hg => rfl); (case hn => rfl); (case hr => first | (go_simp; done) | (go_simp; rfl)); intro w24 hw; have hg : wc.grownBy w24 (some go22) := (by rw [hw]; exact HP23.2); have hp_ : Kd.R k51 51 w24 w.heap.size (fun _ => True) (.slice (some ⟨go22, 0, none⟩) x4_3.length co19) y109 := (by rw [hw, Ny109.out]; exact HP23.1); clear HP23; have n0_ := Aside0.mk (Kd.S_after (v := (.slice (some ⟨go22, 0, none⟩) x4_3.length co19)) (v1 := (.slice (some ⟨go22, 0, none⟩) x4_3.length co19)) (ok := (fun _ => True)) (by (with_reducible repeat (first | apply Kd.S_alloc | apply Kd.S_drewN | apply Kd.S_drew)); exact Kd.S_mono HO_2.out (fun _ hk => ⟨trivial, hk⟩)) hg (.inl rfl)); have n1_ := Aside0.mk (hp_); have n2_ := Aside0.mk ((by rw [hw]; exact below_set (HB.out) GB22.out : Below w.heap.size w w24)); clear HO_2; clear HO_4; clear HB; have HO_2 := n0_; have HO_4 := n1_; have HB := n2_; clear n0_ n1_ n2_; clear hg hw hp_))
              go_meet
              case rel => exact ⟨_, (y109), H', ⟨by have := HK1.out; have := HJ1.out; have := HK3.out; have := HJ4.out; first | omega | exact Nat.le_refl _⟩, ⟨by (with_reducible repeat (first | apply Kd.S_alloc | apply Kd.S_drewN | apply Kd.S_drew)); exact Kd.S_mono HO_2.out (fun _ hk => hk.2)⟩, ⟨by (with_reducible repeat (first | apply Kd.R_alloc | apply Kd.R_drewN | apply Kd.R_drew)); exact HO_4.out⟩, ⟨by repeat (first | (with_reducible first | exact HB.out | apply below_alloc | apply pw_below_drewN | apply below_drew1) | exact HB.out)⟩⟩
             ·rw [if_neg c21] at H
              exact absurd H (by simp)
            ·rw [if_neg c20] at H
             have c20b0 : ((x4_3.length : Int) == 1) = false := beq_eq_false_iff_ne.mpr c20
             have c20b1 : ((x4_3.length : Int) != 1) = true := bne_iff_ne.mpr c20
             (first | rw [c20b0] | (simp only [i64_w, i32_w]; rw [c20b0]) | skip)
             have H' := Aside0.mk H
             clear H
             go_wp2
             go_meet
             case rel => exact ⟨_, (x4_3), H', ⟨by have := HK1.out; have := HJ1.out; have := HK3.out; have := HJ4.out; first | omega | exact Nat.le_refl _⟩, ⟨by (with_reducible repeat (first | apply Kd.S_alloc | apply Kd.S_drewN | apply Kd.S_drew)); exact HO_2.out⟩, ⟨by (with_reducible repeat (first | apply Kd.R_alloc | apply Kd.R_drewN | apply Kd.R_drew)); exact HO_4.out⟩, ⟨by repeat (first | (with_reducible first | exact HB.out | apply below_alloc | apply pw_below_drewN | apply below_drew1) | exact HB.out)⟩⟩
           case rest =>
            clear HC18
            try clear c1
            try clear p1
            try clear q1
            try clear hx1
            try clear c2
            try clear p2
            try clear q2
            try clear hx2
            try clear qi2
            try clear hf2
            try clear c3
            try clear c3b0
            try clear c4
            try clear c6
            try clear c6b0
            try clear p6
            try clear c7
            try clear c7b0
            try clear c8
            try clear c8b0
            try clear c9
            try clear c10
            try clear c10b0
            try clear p10
            try clear q10
            try clear hx10
            try clear c11
            try clear c11b0
            try clear c12
            try clear c12b0
            try clear c13
            try clear c13b0
            try clear c14
            try clear c18
            try clear c20
            try clear c20b0
            try clear c20b1
            try clear c21
            try clear c21b0
            try clear c21b1
            try clear c22
            try clear p22
            try clear q22
            try clear hx22
            try clear qi22
            try clear hf22
            try clear c23
            try clear hx23
            try clear hf23
            try clear hcz16_0
            try clear hcz16_1
            try clear hcz16_2
            try clear hfz16_0
            try clear hfz16_1
            try clear hfz16_2
            try clear hx102_0
            try clear hx103_0
            try clear hx104_0
            try clear hx104_1
            try clear hx104_2
            try clear hx22_0
            try clear hx22_1
            try clear hx22_2
            try clear hx23_0
            try clear p1
            try clear p102
            try clear p103
            try clear p104
            try clear p2
            try clear p22
            try clear q1
            try clear q102
            try clear q103
            try clear q104
            try clear q22
            obtain ⟨kq, x4_17, HA, HJ17, HO_2, HO_4, HB⟩ := hcut
            have hl4_17 := (Kd.R_reads' HO_4.out).1
            rw [hl4_17] at HO_4
            (try simp only [hl4_17])
            (try simp only [hl4_17] at HO_2)
            cases kq with
            | zero => exact absurd HA.out (by simp [laws_someSpots.j4])
            | succ kj17 =>
             have H := HA.out
             clear HA
             simp only [laws_someSpots.j4] at H
             by_cases c25 : (x4_17.length : Int) > 0
             ·rw [if_pos c25] at H
              have c25b0 : decide (0 < (x4_17.length : Int)) = true := decide_eq_true c25
              (try simp only [hl4_17] at c25b0)
              have c25b1 : decide (0 < x4_17.length) = true := decide_eq_true (by omega)
              (try simp only [hl4_17] at c25b1)
              clear c25
              by_cases c26 : x2_1.length < 5864062014805
              ·rw [if_pos c26] at H
               have LMc26 := Aside0.mk c26
               clear c26
               obtain ⟨y110, hy110⟩ : ∃ y_ : List (List (S51)), y_ = (x2_1 ++ [x4_17]) := ⟨_, rfl⟩
               replace H : (laws_someSpots.l0 kj17 l0 y110 (wrap64 (x3_1 + 1))) = some r := by first | (rw [hy110]; with_reducible exact H) | (have H2_ := (Option.bind_some _ _).symm.trans H; rw [hy110]; with_reducible exact H2_) | (have H2_ := (Option.bind_some _ _).symm.trans H; with_reducible exact H2_) | with_reducible exact H | (rw [hy110]; exact H) | exact H
               have Ny110 := Aside0.mk hy110
               clear hy110
               have H' := Aside0.mk H
               clear H
               go_wp2_with (first | ((with_reducible refine gate_builtin (b := .append) (xs := #[.tmp 62, .tmp 64]) rfl ?_); at_builtin; refine Kd.S_append (Kd.slice 51 k51) (w0 := w) w.heap.size rfl (.tmp 62) (.tmp 64) 45 52 (.slice none 0 0) 24 rfl Try.underlying45 info52 rfl (by decide) (by omega) u2 x2_1 x4_17 [.slice Ao19 x4_17.length co19] (fun _ => True) (fun k_ => some k_ = (.slice Ao19 x4_17.length co19 : Value).ownBlock) rfl rfl ?aP (fun k_ hk_ => ((Kd.R_mono (ok' := fun k_ => ((fun _ => True)) k_ ∧ some k_ ≠ (u2 : Value).ownBlock) (Kd.R_apart' (HO_4.out) (Kd.S_typed HO_2.out) (by decide)) (fun k_ hk => ⟨trivial, hk.2⟩))).1 k_ hk_.symm) ?aF ?aO ?aB ?aS ?aL ?_; (case aP => exact Kd.M_row (Kd.R_mono (Kd.R_tight rfl (Kd.R_mono (ok' := fun k_ => ((fun _ => True)) k_ ∧ some k_ ≠ (u2 : Value).ownBlock) (Kd.R_apart' (HO_4.out) (Kd.S_typed HO_2.out) (by decide)) (fun k_ hk => ⟨trivial, hk.2⟩))) (fun _ h_ => h_))); (case aB => exact (by repeat (first | (with_reducible first | exact HB.out | apply below_alloc | apply pw_below_drewN | apply below_drew1) | exact HB.out))); (case aF => exact (fun _ _ => trivial)); (case aO => exact (by (with_reducible repeat (first | apply Kd.S_alloc | apply Kd.S_drewN | apply Kd.S_drew)); exact Kd.S_mono HO_2.out (fun k_ hk => ⟨trivial, fun e_ => hk e_⟩))); (case aS => exact (below_size (by repeat (first | (with_reducible first | exact HB.out | apply below_alloc | apply pw_below_drewN | apply below_drew1) | exact HB.out)))); (case aL => have := LMc26.out; omega); intro v111 w27 ho hb hg hat; rw [← Ny110.out] at ho; have n0_ := Aside0.mk (hb); have n1_ := Aside0.mk (ho); clear HB; clear HO_2; clear HO_4; have HB := n0_; have HO112 := n1_; clear n0_ n1_; clear ho hb hg hat))
               (try simp only [← hl4_17])
               go_roundg kj17
               case measure => have := HK1.out; have := HJ1.out; have := HK3.out; have := HJ4.out; have := HJ17.out; omega
               case rel => exact ⟨(y110), (wrap64 (x3_1 + 1)), (by first | rfl | (simp; done) | (simp [*]; done)), H', ⟨by have := HK1.out; have := HJ1.out; have := HK3.out; have := HJ4.out; have := HJ17.out; omega⟩, ⟨by (try simp only [hl4_17]); (with_reducible repeat (first | apply Kd.S_alloc | apply Kd.S_drewN | apply Kd.S_drew)); exact HO112.out⟩, ⟨by repeat (first | (with_reducible first | exact HB.out | apply below_alloc | apply pw_below_drewN | apply below_drew1) | exact HB.out)⟩⟩
              ·rw [if_neg c26] at H
               exact absurd H (by simp)
             ·rw [if_neg c25] at H
              have c25b0 : decide (0 < (x4_17.length : Int)) = false := decide_eq_false c25
              (try simp only [hl4_17] at c25b0)
              have c25b1 : decide (0 < x4_17.length) = false := decide_eq_false (by omega)
              (try simp only [hl4_17] at c25b1)
              clear c25
              have H' := Aside0.mk H
              clear H
              go_wp2
              (try simp only [← hl4_17])
              go_roundg kj17
              case measure => have := HK1.out; have := HJ1.out; have := HK3.out; have := HJ4.out; have := HJ17.out; omega
              case rel => exact ⟨(x2_1), (wrap64 (x3_1 + 1)), (by first | rfl | (simp; done) | (simp [*]; done)), H', ⟨by have := HK1.out; have := HJ1.out; have := HK3.out; have := HJ4.out; have := HJ17.out; omega⟩, ⟨by (try simp only [hl4_17]); (with_reducible repeat (first | apply Kd.S_alloc | apply Kd.S_drewN | apply Kd.S_drew)); exact Kd.S_mono HO_2.out (fun _ hk => trivial)⟩, ⟨by repeat (first | (with_reducible first | exact HB.out | apply below_alloc | apply pw_below_drewN | apply below_drew1) | exact HB.out)⟩⟩
     ·replace c4 := Bool.eq_false_iff.mpr c4
      subst c4
      have H1 : (some x2_1) = some r := by rw [if_neg (show ¬ (false = true) by decide)] at H; exact H
      clear H
      have H := H1
      clear H1
      obtain rfl := Option.some.inj H
      go_wp2
      go_ret
      exact ⟨_, by first | rfl | (simp [errW_none, errW_some] <;> rfl) | (simp [*, errW_none, errW_some] <;> rfl), by (with_reducible repeat (first | apply Kd.S_alloc | apply Kd.S_drewN | apply Kd.S_drew)); exact HO_2.out, by repeat (first | (with_reducible first | exact HB.out | apply below_alloc | apply pw_below_drewN | apply below_drew1) | exact HB.out)⟩

/-! ### binary_bigEndian_Uint16: function 57 -/
def binary_bigEndian_Uint16.f (l0 : List Int) : Option (Int) := if 2 ≤ l0.length ∧ (0 ≤ rd l0 0 ∧ rd l0 0 ≤ 255) ∧ (0 ≤ rd l0 1 ∧ rd l0 1 ≤ 255) then some (rd l0 0 * 256 + rd l0 1) else none
set_option maxHeartbeats 800000 in
theorem binary_bigEndian_Uint16.calls (A0 : Option Addr) (c0 : Nat) (l0 : List Int) (r : Int) (w : World) (hr0 : Kd.C (Kd.int .u8) w A0 l0.length l0) (hc0 : l0.length ≤ c0) (h : binary_bigEndian_Uint16.f l0 = some r) :
    Calls Try.prog 57 #[.agg #[], .slice A0 l0.length c0] w fun e w' => e = .returned (.int .u16 r) ∧ Below w.heap.size w w' := by
  unfold binary_bigEndian_Uint16.f at h
  split at h
  case isFalse => simp at h
  rename_i hh
  obtain ⟨h2, h0, h1⟩ := hh
  injection h with h
  subst h
  obtain ⟨ad, rfl, d0⟩ := Kd.at_int hr0 0 (by omega) (by omega)
  obtain ⟨ad', he, d1⟩ := Kd.at_int hr0 1 (by omega) (by omega)
  obtain rfl := Option.some.inj he
  generalize rd l0 0 = x at *
  generalize rd l0 1 = y at *
  obtain ⟨b0, hb0, rfl⟩ : ∃ b : Nat, b < 256 ∧ x = (b : Int) := ⟨x.toNat, by omega, by omega⟩
  obtain ⟨b1, hb1, rfl⟩ : ∃ b : Nat, b < 256 ∧ y = (b : Int) := ⟨y.toNat, by omega, by omega⟩
  have d1' : w.cell? { block := ad.block, off := ad.off + 1 } = some (.int .u8 b1) := d1
  have d0' : w.cell? ad = some (.int .u8 b0) := d0
  have a1 := cell?_alloc_old (.cells #[] 154) d1'
  have a0 := cell?_alloc_old (.cells #[] 154) d0'
  have e0 : ((w.alloc (.cells #[] 154)).drew).cell? ad = some (.int .u8 b0) := a0
  have e1 : ((w.alloc (.cells #[] 154)).drew).cell? { block := ad.block, off := ad.off + 1 } = some (.int .u8 b1) := a1
  clear d0 d1 he hr0
  have mixed : Try.prog.follows Departure.mixedOrders = true := by kernel_rfl
  have l1 : (1 : Int) < (l0.length : Int) := by omega
  have l0' : (0 : Int) < (l0.length : Int) := by omega
  go_enter Try.func57, Try.ntmps57
  go_wp2
  go_region_o
  go_wp2
  go_ret
  refine ⟨?_, Below.drew ((Below.refl _ w).alloc (Nat.le_refl _) _)⟩
  have hv := u16_or8 (y := (b1 : Int)) (x := (b0 : Int) * 256) (by omega) (by omega) (by omega) (by omega) (by omega)
  have he : (b1 : Int) + (b0 : Int) * 256 = (b0 : Int) * 256 + (b1 : Int) := by omega
  rw [he] at hv
  simp only [hv]
  rfl

/-! ### errors_New: function 56 -/
def errors_New.f (a0 : ByteArray) : Option (Option Int) := some (some 0)
set_option maxHeartbeats 400000 in
theorem errors_New.calls (a0 : ByteArray) (r : Option Int) (w : World) (h : errors_New.f a0 = some r) :
    Calls Try.prog 56 #[.string a0] w fun e w' => ∃ e0_ : Value, e = .returned e0_ ∧ EV e0_ r ∧ Below w.heap.size w w' := by
  obtain rfl := Option.some.inj h
  go_enter Try.func56, Try.ntmps56
  go_wp2
  go_ret
  exact ⟨_, rfl, ⟨_, _, rfl⟩, (Below.refl _ _).alloc (Nat.le_refl _) _⟩

end Go.Proofs.Ytchkmmbedgolbaa.PFnGlyphSpots
