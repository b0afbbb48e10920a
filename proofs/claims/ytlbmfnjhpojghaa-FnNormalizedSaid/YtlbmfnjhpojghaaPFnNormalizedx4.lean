-- Written by a program of this session (xprint) out of the translation; Lean checks it.
import Derived.Test.YtlbmfnjhpojghaaPFnNormalizedx0
import Derived.Test.YtlbmfnjhpojghaaPFnNormalizedx3
namespace Go.Proofs.Ytlbmfnjhpojghaa.PFnNormalized
open Go.RowKit Go.Proofs.YtlbmfnjhpojghaaW.PrintWords Go.Proofs.YtlbmfnjhpojghaaW.PrintLast Go.Proofs.YtlbmfnjhpojghaaW.PrintMore
attribute [local go_sem] max2_int min2_int max_two min_two max_three min_three max_four min_four   -- for this text's walks alone
set_option linter.unusedVariables false
set_option linter.unusedSimpArgs false

attribute [local go_sem] f_add f_sub f_mul f_quo f_conv f_same f_int f_max f_min f_neg f_store
/-! ### spec_risingMap: function 55 -/
mutual
def spec_risingMap.l0 : Nat → List (S48) → Int → Int → Int → Option ((List (S48)))
 | 0, _, _, _, _ => none
 | k + 1, x0, x1, x2, x7 => if x7 < (x0.length : Int) then (if 0 ≤ (wrap64 (x7 - 1)) then (if (wrap64 (x7 - 1)) < (x0.length : Int) then (if x1 > ((rd_T48 x0 (wrap64 (x7 - 1))).f0) then (if 0 ≤ x7 then (spec_risingMap.j1 k x0 x1 x2 x7 (decide (x1 < ((rd_T48 x0 x7).f0)))) else (none)) else (spec_risingMap.j1 k x0 x1 x2 x7 false)) else (none)) else (none)) else (some x0)
def spec_risingMap.j1 : Nat → List (S48) → Int → Int → Int → Bool → Option ((List (S48)))
 | 0, _, _, _, _, _ => none
 | k + 1, x0, x1, x2, x7, x30 => if x30 = true then (if 0 ≤ (wrap64 (x7 - 1)) then (if (wrap64 (x7 - 1)) < (x0.length : Int) then (if x2 < ((rd_T48 x0 (wrap64 (x7 - 1))).f1) then (spec_risingMap.j2 k x0 x1 x2 x7 true) else (if 0 ≤ x7 then (if x7 < (x0.length : Int) then (spec_risingMap.j2 k x0 x1 x2 x7 (decide (x2 > ((rd_T48 x0 x7).f1)))) else (none)) else (none))) else (none)) else (none)) else (spec_risingMap.l0 k x0 x1 x2 (wrap64 (x7 + 1)))
def spec_risingMap.j2 : Nat → List (S48) → Int → Int → Int → Bool → Option ((List (S48)))
 | 0, _, _, _, _, _ => none
 | k + 1, x0, x1, x2, x7, x47 => if x47 = true then (some x0) else ((slices_Clone_2_int_2_int.f x0).bind fun t124 => ((slices_Insert_2_int_2_int.f t124 x7 (([(⟨x1, x2⟩ : S48)] : List (S48)))).bind fun t130 => (some t130)))
end
def spec_risingMap.f (k : Nat) (l0 : List (S48)) (a1 : Int) (a2 : Int) : Option ((List (S48))) := spec_risingMap.l0 k l0 a1 a2 1
theorem spec_risingMap.mono_l : ∀ k, (∀ y0 y1 y2 y3, LeO (spec_risingMap.l0 k y0 y1 y2 y3) (spec_risingMap.l0 (k + 1) y0 y1 y2 y3)) ∧ (∀ y0 y1 y2 y3 y4, LeO (spec_risingMap.j1 k y0 y1 y2 y3 y4) (spec_risingMap.j1 (k + 1) y0 y1 y2 y3 y4)) ∧ (∀ y0 y1 y2 y3 y4, LeO (spec_risingMap.j2 k y0 y1 y2 y3 y4) (spec_risingMap.j2 (k + 1) y0 y1 y2 y3 y4))
 | 0 => ⟨fun _ _ _ _ r h => by simp [spec_risingMap.l0] at h, fun _ _ _ _ _ r h => by simp [spec_risingMap.j1] at h, fun _ _ _ _ _ r h => by simp [spec_risingMap.j2] at h⟩
 | k + 1 => by
  obtain ⟨ih0, ih1, ih2⟩ := spec_risingMap.mono_l k
  refine ⟨?_, ?_, ?_⟩
  ·intro y0 y1 y2 y3
   unfold spec_risingMap.l0
   repeat' first
   | (with_reducible exact ih0 _ _ _ _)
   | (with_reducible exact ih1 _ _ _ _ _)
   | (with_reducible exact ih2 _ _ _ _ _)
   | (with_reducible exact LeO.refl _)
   | (with_reducible exact LeO.none _)
   | (with_reducible refine LeO.ite ?_ ?_)
   | (with_reducible refine LeO.bind ?_ (fun _ => ?_))
   | exact ih0 _ _ _ _
   | exact ih1 _ _ _ _ _
   | exact ih2 _ _ _ _ _
   | exact LeO.none _
   | refine LeO.ite ?_ ?_
   | refine LeO.bind ?_ (fun _ => ?_)
  ·intro y0 y1 y2 y3 y4
   unfold spec_risingMap.j1
   repeat' first
   | (with_reducible exact ih0 _ _ _ _)
   | (with_reducible exact ih1 _ _ _ _ _)
   | (with_reducible exact ih2 _ _ _ _ _)
   | (with_reducible exact LeO.refl _)
   | (with_reducible exact LeO.none _)
   | (with_reducible refine LeO.ite ?_ ?_)
   | (with_reducible refine LeO.bind ?_ (fun _ => ?_))
   | exact ih0 _ _ _ _
   | exact ih1 _ _ _ _ _
   | exact ih2 _ _ _ _ _
   | exact LeO.none _
   | refine LeO.ite ?_ ?_
   | refine LeO.bind ?_ (fun _ => ?_)
  ·intro y0 y1 y2 y3 y4
   unfold spec_risingMap.j2
   repeat' first
   | (with_reducible exact ih0 _ _ _ _)
   | (with_reducible exact ih1 _ _ _ _ _)
   | (with_reducible exact ih2 _ _ _ _ _)
   | (with_reducible exact LeO.refl _)
   | (with_reducible exact LeO.none _)
   | (with_reducible refine LeO.ite ?_ ?_)
   | (with_reducible refine LeO.bind ?_ (fun _ => ?_))
   | exact ih0 _ _ _ _
   | exact ih1 _ _ _ _ _
   | exact ih2 _ _ _ _ _
   | exact LeO.none _
   | refine LeO.ite ?_ ?_
   | refine LeO.bind ?_ (fun _ => ?_)
theorem spec_risingMap.mono : ∀ a0 a1 a2 k, LeO (spec_risingMap.f k a0 a1 a2) (spec_risingMap.f (k + 1) a0 a1 a2) := by
 intro a0 a1 a2 k
 obtain ⟨ih0, ih1, ih2⟩ := spec_risingMap.mono_l k
 unfold spec_risingMap.f
 repeat' first
   | (with_reducible exact ih0 _ _ _ _)
   | (with_reducible exact ih1 _ _ _ _ _)
   | (with_reducible exact ih2 _ _ _ _ _)
   | (with_reducible exact LeO.refl _)
   | (with_reducible exact LeO.none _)
   | (with_reducible refine LeO.ite ?_ ?_)
   | (with_reducible refine LeO.bind ?_ (fun _ => ?_))
   | exact ih0 _ _ _ _
   | exact ih1 _ _ _ _ _
   | exact ih2 _ _ _ _ _
   | exact LeO.none _
   | refine LeO.ite ?_ ?_
   | refine LeO.bind ?_ (fun _ => ?_)
set_option maxHeartbeats 8000000 in
set_option maxRecDepth 100000 in
theorem spec_risingMap.calls (k : Nat) (P0_ : Nat → Prop) (u9000_ : Value) (l0 : List (S48)) (a1 : Int) (a2 : Int) (r : List (S48)) (w0 w : World) (hB : Below w0.heap.size w0 w) (ho0 : Kd.R k48 48 w w0.heap.size P0_ u9000_ l0) (h : spec_risingMap.f k l0 a1 a2 = some r) :
  Calls Try.prog 55 #[u9000_, .int .i64 a1, .int .i64 a2] w fun e w' => ∃ v0_ : Value, e = .returned (v0_) ∧ Kd.R k48 48 w' w0.heap.size (fun k_ => (P0_ k_ ∨ w.heap.size ≤ k_)) v0_ r ∧ Below w0.heap.size w0 w' ∧ Kept w w' (fun k_ => P0_ k_) := by
 have hu48 := Try.underlying48
 have HO0 := Aside0.mk (show Kd.R k48 48 w w0.heap.size (fun k_ => (P0_ k_ ∨ w.heap.size ≤ k_)) u9000_ l0 from Kd.R_mono ho0 (fun k_ hk => (.inl hk)))
 have HK := Aside0.mk (Kept.refl w (fun k_ => P0_ k_))
 have HW0 := Aside0.mk hB.size
 have HB := Aside0.mk hB
 clear hB
 have H : (spec_risingMap.l0 k l0 a1 a2 1) = some r := h
 clear h
 have H' := Aside0.mk H
 clear H
 go_enter Try.func55, Try.ntmps55
 go_wp2
 go_loopg [7] k (fun kq v7 w' => ∃ (x7_1 : Int), v7 = .int .i64 x7_1 ∧ Aside0 (spec_risingMap.l0 kq l0 a1 a2 x7_1 = some r) ∧ Aside0 (kq ≤ k) ∧ Aside0 (Kd.R k48 48 w' w0.heap.size (fun k_ => (P0_ k_ ∨ w.heap.size ≤ k_)) u9000_ l0) ∧ Aside0 (Kept w w' (fun k_ => P0_ k_)) ∧ Aside0 (Below w0.heap.size w0 w'))
 case atStart => exact ⟨(1), (by first | rfl | (simp; done) | (simp [*]; done)), H', ⟨Nat.le_refl _⟩, ⟨by (with_reducible repeat (first | apply Kd.R_alloc | apply Kd.R_drewN | apply Kd.R_drew)); exact HO0.out⟩, ⟨by repeat (first | (with_reducible first | exact HK.out | apply Kept.alloc | apply Kept.drewN | apply Kept.drew) | exact HK.out)⟩, ⟨by repeat (first | (with_reducible first | exact HB.out | apply below_alloc | apply pw_below_drewN | apply below_drew1) | exact HB.out)⟩⟩
 case round =>
  clear H'
  try clear p2
  obtain ⟨x7_1, rfl, HA, HK1, HO_0, HK, HB⟩ := hrel
  cases gk with
  | zero => exact absurd HA.out (by simp [spec_risingMap.l0])
  | succ k1 =>
   have H := HA.out
   clear HA
   simp only [spec_risingMap.l0] at H
   by_cases c4 : x7_1 < (l0.length : Int)
   ·rw [if_pos c4] at H
    have c4b0 : decide (x7_1 < (l0.length : Int)) = true := decide_eq_true c4
    clear c4
    have HC5 := Aside0.mk H
    clear H
    obtain ⟨Ao6, co6, eo6⟩ := Kd.R_slice HO_0.out
    subst eo6
    go_upto_region 4 with (fail)
    go_cut [30] (fun v30 wc => ∃ (kq : Nat) (x30_4 : Bool), v30 = .bool x30_4 ∧ Aside0 (spec_risingMap.j1 kq l0 a1 a2 x7_1 x30_4 = some r) ∧ Aside0 (kq ≤ k1) ∧ Aside0 (Kd.R k48 48 wc w0.heap.size (fun k_ => (P0_ k_ ∨ w.heap.size ≤ k_)) (.slice Ao6 l0.length co6) l0) ∧ Aside0 (Kept w wc (fun k_ => P0_ k_)) ∧ Aside0 (Below w0.heap.size w0 wc))
    case first =>
     have H := HC5.out
     clear HC5
     obtain ⟨ji7, hji7⟩ : ∃ j_ : Int, (wrap64 (x7_1 - 1)) = j_ := ⟨_, rfl⟩
     replace H : (if 0 ≤ (ji7) then (if (ji7) < (l0.length : Int) then (if a1 > ((rd_T48 l0 (ji7)).f0) then (if 0 ≤ x7_1 then (spec_risingMap.j1 k1 l0 a1 a2 x7_1 (decide (a1 < ((rd_T48 l0 x7_1).f0)))) else (none)) else (spec_risingMap.j1 k1 l0 a1 a2 x7_1 false)) else (none)) else (none)) = some r := by first | (rw [hji7] at H; exact H) | (simp only [hji7] at H ⊢; exact H)
     have hji7w : (IntKind.i64.wrap (x7_1 - 1)) = ji7 := (i64_w _).trans hji7
     by_cases c8 : 0 ≤ (ji7)
     ·rw [if_pos c8] at H
      have c8b0 : decide (0 ≤ (ji7)) = true := decide_eq_true c8
      clear c8
      (first | rw [c8b0] | (simp only [i64_w, i32_w]; rw [c8b0]) | skip)
      by_cases c9 : (ji7) < (l0.length : Int)
      ·rw [if_pos c9] at H
       have c9b0 : decide ((ji7) < (l0.length : Int)) = true := decide_eq_true c9
       clear c9
       by_cases c10 : a1 > ((rd_T48 l0 (ji7)).f0)
       ·rw [if_pos c10] at H
        have c10b0 : decide (((rd_T48 l0 (ji7)).f0) < a1) = true := decide_eq_true c10
        clear c10
        by_cases c11 : 0 ≤ x7_1
        ·rw [if_pos c11] at H
         have c11b0 : decide (0 ≤ x7_1) = true := decide_eq_true c11
         clear c11
         have H' := Aside0.mk H
         clear H
         have p120 : 0 ≤ ((ji7) : Int) := of_decide_eq_true (by first | (with_reducible assumption) | assumption)
         have q120 : (ji7) < (l0.length : Int) := of_decide_eq_true (by first | (with_reducible assumption) | assumption)
         obtain ⟨ad120, e120, hx120_0, hx120_1⟩ := at_T48 (Kd.R_reads' HO_0.out).2.2 (ji7) p120 q120
         cases e120
         replace p120 := eq_true p120
         replace q120 := eq_true q120
         have p121 : 0 ≤ (x7_1 : Int) := of_decide_eq_true (by first | (with_reducible assumption) | assumption)
         have q121 : x7_1 < (l0.length : Int) := of_decide_eq_true (by first | (with_reducible assumption) | assumption)
         obtain ⟨ad121, e121, hx121_0, hx121_1⟩ := at_T48 (Kd.R_reads' HO_0.out).2.2 x7_1 p121 q121
         obtain rfl : ad120 = ad121 := (by injection e121)
         replace p121 := eq_true p121
         replace q121 := eq_true q121
         go_wp2
         go_meet
         case rel => exact ⟨_, (decide (a1 < ((rd_T48 l0 x7_1).f0))), (by first | rfl | (simp; done) | (simp [*]; done)), H', ⟨by have := HK1.out; first | omega | exact Nat.le_refl _⟩, ⟨by (with_reducible repeat (first | apply Kd.R_alloc | apply Kd.R_drewN | apply Kd.R_drew)); exact HO_0.out⟩, ⟨by repeat (first | (with_reducible first | exact HK.out | apply Kept.alloc | apply Kept.drewN | apply Kept.drew) | exact HK.out)⟩, ⟨by repeat (first | (with_reducible first | exact HB.out | apply below_alloc | apply pw_below_drewN | apply below_drew1) | exact HB.out)⟩⟩
        ·rw [if_neg c11] at H
         exact absurd H (by simp)
       ·rw [if_neg c10] at H
        have c10b0 : decide (((rd_T48 l0 (ji7)).f0) < a1) = false := decide_eq_false c10
        clear c10
        have H' := Aside0.mk H
        clear H
        have p120 : 0 ≤ ((ji7) : Int) := of_decide_eq_true (by first | (with_reducible assumption) | assumption)
        have q120 : (ji7) < (l0.length : Int) := of_decide_eq_true (by first | (with_reducible assumption) | assumption)
        obtain ⟨ad120, e120, hx120_0, hx120_1⟩ := at_T48 (Kd.R_reads' HO_0.out).2.2 (ji7) p120 q120
        cases e120
        replace p120 := eq_true p120
        replace q120 := eq_true q120
        go_wp2
        go_meet
        case rel => exact ⟨_, (false), (by first | rfl | (simp; done) | (simp [*]; done)), H', ⟨by have := HK1.out; first | omega | exact Nat.le_refl _⟩, ⟨by (with_reducible repeat (first | apply Kd.R_alloc | apply Kd.R_drewN | apply Kd.R_drew)); exact HO_0.out⟩, ⟨by repeat (first | (with_reducible first | exact HK.out | apply Kept.alloc | apply Kept.drewN | apply Kept.drew) | exact HK.out)⟩, ⟨by repeat (first | (with_reducible first | exact HB.out | apply below_alloc | apply pw_below_drewN | apply below_drew1) | exact HB.out)⟩⟩
      ·rw [if_neg c9] at H
       exact absurd H (by simp)
     ·rw [if_neg c8] at H
      exact absurd H (by simp)
    case rest =>
     clear HC5
     try clear c1
     try clear p1
     try clear q1
     try clear hx1
     try clear p2
     try clear c4
     try clear c4b0
     try clear c5
     try clear p6
     try clear c8
     try clear c8b0
     try clear c9
     try clear c9b0
     try clear c10
     try clear c10b0
     try clear c11
     try clear c11b0
     try clear hx120_0
     try clear hx120_1
     try clear hx121_0
     try clear hx121_1
     try clear p120
     try clear p121
     try clear p2
     try clear q120
     try clear q121
     obtain ⟨kq, x30_4, rfl, HA, HJ4, HO_0, HK, HB⟩ := hcut
     cases kq with
     | zero => exact absurd HA.out (by simp [spec_risingMap.j1])
     | succ kj4 =>
      have H := HA.out
      clear HA
      simp only [spec_risingMap.j1] at H
      by_cases c12 : x30_4 = true
      ·subst c12
       have H1 : (if 0 ≤ (wrap64 (x7_1 - 1)) then (if (wrap64 (x7_1 - 1)) < (l0.length : Int) then (if a2 < ((rd_T48 l0 (wrap64 (x7_1 - 1))).f1) then (spec_risingMap.j2 kj4 l0 a1 a2 x7_1 true) else (if 0 ≤ x7_1 then (if x7_1 < (l0.length : Int) then (spec_risingMap.j2 kj4 l0 a1 a2 x7_1 (decide (a2 > ((rd_T48 l0 x7_1).f1)))) else (none)) else (none))) else (none)) else (none)) = some r := by rw [if_pos rfl] at H; exact H
       clear H
       have H := H1
       clear H1
       have HC13 := Aside0.mk H
       clear H
       go_upto_region 5 with (fail)
       go_cut [47] (fun v47 wc => ∃ (kq : Nat) (x47_12 : Bool), v47 = .bool x47_12 ∧ Aside0 (spec_risingMap.j2 kq l0 a1 a2 x7_1 x47_12 = some r) ∧ Aside0 (kq ≤ kj4) ∧ Aside0 (Kd.R k48 48 wc w0.heap.size (fun k_ => (P0_ k_ ∨ w.heap.size ≤ k_)) (.slice Ao6 l0.length co6) l0) ∧ Aside0 (Kept w wc (fun k_ => P0_ k_)) ∧ Aside0 (Below w0.heap.size w0 wc))
       case first =>
        have H := HC13.out
        clear HC13
        obtain ⟨ji14, hji14⟩ : ∃ j_ : Int, (wrap64 (x7_1 - 1)) = j_ := ⟨_, rfl⟩
        replace H : (if 0 ≤ (ji14) then (if (ji14) < (l0.length : Int) then (if a2 < ((rd_T48 l0 (ji14)).f1) then (spec_risingMap.j2 kj4 l0 a1 a2 x7_1 true) else (if 0 ≤ x7_1 then (if x7_1 < (l0.length : Int) then (spec_risingMap.j2 kj4 l0 a1 a2 x7_1 (decide (a2 > ((rd_T48 l0 x7_1).f1)))) else (none)) else (none))) else (none)) else (none)) = some r := by first | (rw [hji14] at H; exact H) | (simp only [hji14] at H ⊢; exact H)
        have hji14w : (IntKind.i64.wrap (x7_1 - 1)) = ji14 := (i64_w _).trans hji14
        by_cases c15 : 0 ≤ (ji14)
        ·rw [if_pos c15] at H
         have c15b0 : decide (0 ≤ (ji14)) = true := decide_eq_true c15
         clear c15
         (first | rw [c15b0] | (simp only [i64_w, i32_w]; rw [c15b0]) | skip)
         by_cases c16 : (ji14) < (l0.length : Int)
         ·rw [if_pos c16] at H
          have c16b0 : decide ((ji14) < (l0.length : Int)) = true := decide_eq_true c16
          clear c16
          by_cases c17 : a2 < ((rd_T48 l0 (ji14)).f1)
          ·rw [if_pos c17] at H
           have c17b0 : decide (a2 < ((rd_T48 l0 (ji14)).f1)) = true := decide_eq_true c17
           clear c17
           have H' := Aside0.mk H
           clear H
           have p122 : 0 ≤ ((ji14) : Int) := of_decide_eq_true (by first | (with_reducible assumption) | assumption)
           have q122 : (ji14) < (l0.length : Int) := of_decide_eq_true (by first | (with_reducible assumption) | assumption)
           obtain ⟨ad122, e122, hx122_0, hx122_1⟩ := at_T48 (Kd.R_reads' HO_0.out).2.2 (ji14) p122 q122
           cases e122
           replace p122 := eq_true p122
           replace q122 := eq_true q122
           go_wp2
           go_meet
           case rel => exact ⟨_, (true), (by first | rfl | (simp; done) | (simp [*]; done)), H', ⟨by have := HK1.out; have := HJ4.out; first | omega | exact Nat.le_refl _⟩, ⟨by (with_reducible repeat (first | apply Kd.R_alloc | apply Kd.R_drewN | apply Kd.R_drew)); exact HO_0.out⟩, ⟨by repeat (first | (with_reducible first | exact HK.out | apply Kept.alloc | apply Kept.drewN | apply Kept.drew) | exact HK.out)⟩, ⟨by repeat (first | (with_reducible first | exact HB.out | apply below_alloc | apply pw_below_drewN | apply below_drew1) | exact HB.out)⟩⟩
          ·rw [if_neg c17] at H
           have c17b0 : decide (a2 < ((rd_T48 l0 (ji14)).f1)) = false := decide_eq_false c17
           clear c17
           by_cases c18 : 0 ≤ x7_1
           ·rw [if_pos c18] at H
            have c18b0 : decide (0 ≤ x7_1) = true := decide_eq_true c18
            clear c18
            by_cases c19 : x7_1 < (l0.length : Int)
            ·rw [if_pos c19] at H
             have c19b0 : decide (x7_1 < (l0.length : Int)) = true := decide_eq_true c19
             clear c19
             have H' := Aside0.mk H
             clear H
             have p122 : 0 ≤ ((ji14) : Int) := of_decide_eq_true (by first | (with_reducible assumption) | assumption)
             have q122 : (ji14) < (l0.length : Int) := of_decide_eq_true (by first | (with_reducible assumption) | assumption)
             obtain ⟨ad122, e122, hx122_0, hx122_1⟩ := at_T48 (Kd.R_reads' HO_0.out).2.2 (ji14) p122 q122
             cases e122
             replace p122 := eq_true p122
             replace q122 := eq_true q122
             have p123 : 0 ≤ (x7_1 : Int) := of_decide_eq_true (by first | (with_reducible assumption) | assumption)
             have q123 : x7_1 < (l0.length : Int) := of_decide_eq_true (by first | (with_reducible assumption) | assumption)
             obtain ⟨ad123, e123, hx123_0, hx123_1⟩ := at_T48 (Kd.R_reads' HO_0.out).2.2 x7_1 p123 q123
             obtain rfl : ad122 = ad123 := (by injection e123)
             replace p123 := eq_true p123
             replace q123 := eq_true q123
             go_wp2
             go_meet
             case rel => exact ⟨_, (decide (a2 > ((rd_T48 l0 x7_1).f1))), (by first | rfl | (simp; done) | (simp [*]; done)), H', ⟨by have := HK1.out; have := HJ4.out; first | omega | exact Nat.le_refl _⟩, ⟨by (with_reducible repeat (first | apply Kd.R_alloc | apply Kd.R_drewN | apply Kd.R_drew)); exact HO_0.out⟩, ⟨by repeat (first | (with_reducible first | exact HK.out | apply Kept.alloc | apply Kept.drewN | apply Kept.drew) | exact HK.out)⟩, ⟨by repeat (first | (with_reducible first | exact HB.out | apply below_alloc | apply pw_below_drewN | apply below_drew1) | exact HB.out)⟩⟩
            ·rw [if_neg c19] at H
             exact absurd H (by simp)
           ·rw [if_neg c18] at H
            exact absurd H (by simp)
         ·rw [if_neg c16] at H
          exact absurd H (by simp)
        ·rw [if_neg c15] at H
         exact absurd H (by simp)
       case rest =>
        clear HC13
        try clear c1
        try clear p1
        try clear q1
        try clear hx1
        try clear p2
        try clear c4
        try clear c4b0
        try clear c5
        try clear p6
        try clear c8
        try clear c8b0
        try clear c9
        try clear c9b0
        try clear c10
        try clear c10b0
        try clear c11
        try clear c11b0
        try clear c12
        try clear p12
        try clear q12
        try clear hx12
        try clear c15
        try clear c15b0
        try clear c16
        try clear c16b0
        try clear c17
        try clear c17b0
        try clear c18
        try clear c18b0
        try clear c19
        try clear c19b0
        try clear hx120_0
        try clear hx120_1
        try clear hx121_0
        try clear hx121_1
        try clear hx122_0
        try clear hx122_1
        try clear hx123_0
        try clear hx123_1
        try clear p1
        try clear p120
        try clear p121
        try clear p122
        try clear p123
        try clear p2
        try clear p6
        try clear q1
        try clear q120
        try clear q121
        try clear q122
        try clear q123
        obtain ⟨kq, x47_12, rfl, HA, HJ12, HO_0, HK, HB⟩ := hcut
        cases kq with
        | zero => exact absurd HA.out (by simp [spec_risingMap.j2])
        | succ kj12 =>
         have H := HA.out
         clear HA
         simp only [spec_risingMap.j2] at H
         by_cases c20 : x47_12 = true
         ·subst c20
          have H1 : (some l0) = some r := by rw [if_pos rfl] at H; exact H
          clear H
          have H := H1
          clear H1
          obtain rfl := Option.some.inj H
          go_wp2
          go_ret
          exact ⟨_, by first | rfl | (simp [errW_none, errW_some] <;> rfl) | (simp [*, errW_none, errW_some] <;> rfl), by (with_reducible repeat (first | apply Kd.R_alloc | apply Kd.R_drewN | apply Kd.R_drew)); exact HO_0.out, by repeat (first | (with_reducible first | exact HB.out | apply below_alloc | apply pw_below_drewN | apply below_drew1) | exact HB.out), by repeat (first | (with_reducible first | exact HK.out | apply Kept.alloc | apply Kept.drewN | apply Kept.drew) | exact HK.out)⟩
         ·replace c20 := Bool.eq_false_iff.mpr c20
          subst c20
          have H1 : ((slices_Clone_2_int_2_int.f l0).bind fun t124 => ((slices_Insert_2_int_2_int.f t124 x7_1 (([(⟨a1, a2⟩ : S48)] : List (S48)))).bind fun t130 => (some t130))) = some r := by rw [if_neg (show ¬ (false = true) by decide)] at H; exact H
          clear H
          have H := H1
          clear H1
          replace H := Option.bind_eq_some_iff.mp H
          obtain ⟨t124, A210, H⟩ := H
          replace H : ((slices_Insert_2_int_2_int.f t124 x7_1 (([(⟨a1, a2⟩ : S48)] : List (S48)))).bind fun t130 => (some t130)) = some r := H
          have A21 := Aside0.mk A210
          clear A210
          obtain ⟨y127, hy127⟩ : ∃ y_ : List (S48), y_ = (([(⟨a1, a2⟩ : S48)] : List (S48))) := ⟨_, rfl⟩
          replace H : ((slices_Insert_2_int_2_int.f t124 x7_1 y127).bind fun t130 => (some t130)) = some r := by first | (rw [hy127]; with_reducible exact H) | (have H2_ := (Option.bind_some _ _).symm.trans H; rw [hy127]; with_reducible exact H2_) | (have H2_ := (Option.bind_some _ _).symm.trans H; with_reducible exact H2_) | with_reducible exact H | (rw [hy127]; exact H) | exact H
          have Ny127 := Aside0.mk hy127
          clear hy127
          replace H := Option.bind_eq_some_iff.mp H
          obtain ⟨t130, A220, H⟩ := H
          replace H : (some t130) = some r := H
          have A22 := Aside0.mk A220
          clear A220
          obtain rfl := Option.some.inj H
          go_wp2_with (first | ((with_reducible refine gate_callee (f := 67) rfl ?_); refine goesL_ (some 50) rfl rfl Try.func67 (by kernel_rfl) rfl #[.slice Ao6 l0.length co6] rfl (by (try simp only [List.map_toArray, List.map_cons, List.map_nil]); first | done | rfl | (simp only [List.length_drop, List.length_take]; rfl)) ?_; (with_reducible refine (slices_Clone_2_int_2_int.calls _ _ l0 t124 _ ?side1 ?side2 A21.out).mono ?_); (case side1 => repeat (first | exact (Kd.R_reads' HO_0.out).2.2 | (with_reducible refine Kd.C_alloc ?_ _) | (with_reducible refine Kd.C_drewN ?_ _) | (with_reducible refine Kd.C_drew ?_))); (case side2 => exact (Kd.R_reads' HO_0.out).2.1); rintro e w23 ⟨v125, rfl, ho0, hb⟩; refine ⟨_, rfl, ?_⟩; have n0_ := Aside0.mk (Kd.R_elder' (by (with_reducible repeat (first | apply Kd.R_alloc | apply Kd.R_drewN | apply Kd.R_drew)); exact HO_0.out) (Kd.R_base ho0) hb); have n1_ := Aside0.mk (Kd.R_lower (Kd.R_new' (Kd.R_newM (M := fun k_ => (P0_ k_ ∨ w.heap.size ≤ k_)) ho0 (by first | exact HK.out.1 | exact (show Kept w _ (fun k_ => P0_ k_) from by repeat (first | (with_reducible first | exact HK.out | apply Kept.alloc | apply Kept.drewN | apply Kept.drew) | exact HK.out)).1) (fun k_ h_ => .inr h_)) (Kd.R_lt (by (with_reducible repeat (first | apply Kd.R_alloc | apply Kd.R_drewN | apply Kd.R_drew)); exact HO_0.out))) (below_size (by repeat (first | (with_reducible first | exact HB.out | apply below_alloc | apply pw_below_drewN | apply below_drew1) | exact HB.out)))); have n2_ := Aside0.mk (Kept.below (S := (fun k_ => P0_ k_)) (by repeat (first | (with_reducible first | exact HK.out | apply Kept.alloc | apply Kept.drewN | apply Kept.drew) | exact HK.out)) hb); have n3_ := Aside0.mk (below_step (by repeat (first | (with_reducible first | exact HB.out | apply below_alloc | apply pw_below_drewN | apply below_drew1) | exact HB.out)) hb); clear HO_0; clear HK; clear HB; have HO_0 := n0_; have HO126 := n1_; have HK := n2_; have HB := n3_; clear n0_ n1_ n2_ n3_; (try clear hb); (try clear hb2); (try clear hk); (try clear hi); (try clear ho0)) | ((with_reducible refine gate_dst (N := 55) rfl ?_); refine Kd.R_lit k48 _ 48 ?hg (N := 55) ?hd (xs := ([(⟨a1, a2⟩ : S48)] : List (S48))) (inner := [.int .i64 a1, .int .i64 a2]) (ok := fun _ => True) (okp := fun _ => True) ?hr ?hp (fun _ hk => hk) trivial (Below.refl _ _) (Nat.le_refl _) (by simp) ?_; (case hd => rfl); (case hg => rfl); (case hr => first | (go_simp; done) | (go_simp; rfl)); (case hp => exact (Reps.c2 (show Kd.M k48 _ _ _ (⟨a1, a2⟩ : S48) [.int .i64 a1, .int .i64 a2] from (k48_mkM _ _ _ (⟨a1, a2⟩ : S48) )) (Reps.none _ _))); intro v128 w24 ho25 hb hg_ hnew_; clear hg_ hnew_; (first | rw [← Ny127.out] at ho25 | (simp only [Int.reduceToNat] at ho25; rw [← Ny127.out] at ho25)); have n0_ := Aside0.mk (Kd.R_elder' (by (with_reducible repeat (first | apply Kd.R_alloc | apply Kd.R_drewN | apply Kd.R_drew)); exact HO_0.out) (Kd.R_base ho25) hb); have n1_ := Aside0.mk (Kd.R_elder' (by (with_reducible repeat (first | apply Kd.R_alloc | apply Kd.R_drewN | apply Kd.R_drew)); exact HO126.out) (Kd.R_base ho25) hb); have n2_ := Aside0.mk (Kd.R_lower (Kd.R_new' (Kd.R_new' (Kd.R_newM (M := fun k_ => (P0_ k_ ∨ w.heap.size ≤ k_)) ho25 (by first | exact HK.out.1 | exact (show Kept w _ (fun k_ => P0_ k_) from by repeat (first | (with_reducible first | exact HK.out | apply Kept.alloc | apply Kept.drewN | apply Kept.drew) | exact HK.out)).1) (fun k_ h_ => .inr h_)) (Kd.R_lt (by (with_reducible repeat (first | apply Kd.R_alloc | apply Kd.R_drewN | apply Kd.R_drew)); exact HO_0.out))) (Kd.R_lt (by (with_reducible repeat (first | apply Kd.R_alloc | apply Kd.R_drewN | apply Kd.R_drew)); exact HO126.out))) (below_size (by repeat (first | (with_reducible first | exact HB.out | apply below_alloc | apply pw_below_drewN | apply below_drew1) | exact HB.out)))); have n3_ := Aside0.mk (Kept.below (S := (fun k_ => P0_ k_)) (by repeat (first | (with_reducible first | exact HK.out | apply Kept.alloc | apply Kept.drewN | apply Kept.drew) | exact HK.out)) hb); have n4_ := Aside0.mk (below_step (by repeat (first | (with_reducible first | exact HB.out | apply below_alloc | apply pw_below_drewN | apply below_drew1) | exact HB.out)) hb); clear HO_0; clear HO126; clear HK; clear HB; have HO_0 := n0_; have HO126 := n1_; have HO129 := n2_; have HK := n3_; have HB := n4_; clear n0_ n1_ n2_ n3_ n4_; clear hb ho25; obtain ⟨Ao26, co26, eo26⟩ := Kd.R_slice HO126.out; subst eo26; obtain ⟨Ao27, co27, eo27⟩ := Kd.R_slice HO129.out; subst eo27) | ((with_reducible refine gate_callee (f := 66) rfl ?_); refine goesL_ (some 56) rfl rfl Try.func66 (by kernel_rfl) rfl #[.slice Ao26 t124.length co26, .int .i64 x7_1, .slice Ao27 y127.length co27] rfl (by (try simp only [List.map_toArray, List.map_cons, List.map_nil]); first | done | rfl | (simp only [List.length_drop, List.length_take]; rfl)) ?_; (with_reducible refine (slices_Insert_2_int_2_int.calls (fun k_ => some k_ = (.slice Ao26 t124.length co26 : Value).ownBlock) (.slice Ao26 t124.length co26) t124 x7_1 _ _ y127 t130 w0 _ ?side1 ?side2 ?side3 ?side4 A22.out).mono ?_); (case side1 => repeat (first | (with_reducible first | exact HB.out | apply below_alloc | apply pw_below_drewN | apply below_drew1) | exact HB.out)); (case side2 => exact Kd.R_tight rfl HO126.out); (case side3 => exact Kd.R_mono (HO129.out) (fun k_ hk_ hs_ => (hk_.2) hs_)); (case side4 => exact (Kd.R_reads' HO129.out).2.1); rintro e w28 ⟨v131, rfl, ho0, hb, hkp⟩; refine ⟨_, rfl, ?_⟩; have n0_ := Aside0.mk (Kd.R_mono (ok' := fun k_ => (P0_ k_ ∨ w.heap.size ≤ k_) ∧ some k_ ≠ (.slice Ao27 y127.length co27 : Value).ownBlock ∧ some k_ ≠ (v131 : Value).ownBlock) (Kd.R_keptB (HO_0.out) hkp (fun k_ hk_ hs_ => (hk_.1.2) hs_)) (fun k_ hk_ => ⟨hk_.1.1.1, hk_.1.2, fun e_ => Or.elim (ho0.1 k_ e_.symm) (fun hs_ => hk_.2.1 hs_) (fun hn_ => Nat.not_le.2 hk_.2.2 hn_)⟩)); have n1_ := Aside0.mk (Kd.R_mono (ok' := fun k_ => (P0_ k_ ∨ w.heap.size ≤ k_) ∧ some k_ ≠ (.slice Ao6 l0.length co6 : Value).ownBlock ∧ some k_ ≠ (v131 : Value).ownBlock) (Kd.R_keptB (HO129.out) hkp (fun k_ hk_ hs_ => (hk_.2) hs_)) (fun k_ hk_ => ⟨hk_.1.1.1.1, hk_.1.1.2, fun e_ => Or.elim (ho0.1 k_ e_.symm) (fun hs_ => hk_.2.1 hs_) (fun hn_ => Nat.not_le.2 hk_.2.2 hn_)⟩)); have n2_ := Aside0.mk (Kd.R_mono (ok' := fun k_ => (P0_ k_ ∨ w.heap.size ≤ k_) ∧ some k_ ≠ (.slice Ao6 l0.length co6 : Value).ownBlock ∧ some k_ ≠ (.slice Ao27 y127.length co27 : Value).ownBlock) ho0 (fun k_ hk_ => ⟨Or.elim hk_ (fun hs_ => (HO126.out.1 k_ (hs_).symm).1.1.1) (fun hn_ => (.inr (Nat.le_trans (by first | exact HK.out.1 | exact (show Kept w _ (fun k_ => P0_ k_) from by repeat (first | (with_reducible first | exact HK.out | apply Kept.alloc | apply Kept.drewN | apply Kept.drew) | exact HK.out)).1) hn_))), Or.elim hk_ (fun hs_ => fun e_ => (((HO_0.out).1 k_ e_.symm).1.2) hs_) (fun hn_ => (Kd.fresh' (Kd.R_lt (by (with_reducible repeat (first | apply Kd.R_alloc | apply Kd.R_drewN | apply Kd.R_drew)); exact HO_0.out)) k_ hn_)), Or.elim hk_ (fun hs_ => fun e_ => (((HO129.out).1 k_ e_.symm).2) hs_) (fun hn_ => (Kd.fresh' (Kd.R_lt (by (with_reducible repeat (first | apply Kd.R_alloc | apply Kd.R_drewN | apply Kd.R_drew)); exact HO129.out)) k_ hn_))⟩)); have n3_ := Aside0.mk (Kept.then_ (S := (fun k_ => P0_ k_)) (by repeat (first | (with_reducible first | exact HK.out | apply Kept.alloc | apply Kept.drewN | apply Kept.drew) | exact HK.out)) hkp (fun k_ hs_ => (fun e_ => (HO126.out.1 k_ e_.symm).1.1.1) hs_)); have n4_ := Aside0.mk (hb); clear HO_0; clear HO129; clear HK; clear HB; clear HO126; have HO_0 := n0_; have HO129 := n1_; have HO132 := n2_; have HK := n3_; have HB := n4_; clear n0_ n1_ n2_ n3_ n4_; (try clear hb); (try clear hkp); (try clear ho0)))
          go_ret
          exact ⟨_, by first | rfl | (simp [errW_none, errW_some] <;> rfl) | (simp [*, errW_none, errW_some] <;> rfl), by (with_reducible repeat (first | apply Kd.R_alloc | apply Kd.R_drewN | apply Kd.R_drew)); exact Kd.R_mono HO132.out (fun _ hk => hk.1), by repeat (first | (with_reducible first | exact HB.out | apply below_alloc | apply pw_below_drewN | apply below_drew1) | exact HB.out), by repeat (first | (with_reducible first | exact HK.out | apply Kept.alloc | apply Kept.drewN | apply Kept.drew) | exact HK.out)⟩
      ·replace c12 := Bool.eq_false_iff.mpr c12
       subst c12
       have H1 : (spec_risingMap.l0 kj4 l0 a1 a2 (wrap64 (x7_1 + 1))) = some r := by rw [if_neg (show ¬ (false = true) by decide)] at H; exact H
       clear H
       have H := H1
       clear H1
       have H' := Aside0.mk H
       clear H
       go_wp2
       go_roundg kj4
       case measure => have := HK1.out; have := HJ4.out; omega
       case rel => exact ⟨(wrap64 (x7_1 + 1)), (by first | rfl | (simp; done) | (simp [*]; done)), H', ⟨by have := HK1.out; have := HJ4.out; omega⟩, ⟨by (with_reducible repeat (first | apply Kd.R_alloc | apply Kd.R_drewN | apply Kd.R_drew)); exact HO_0.out⟩, ⟨by repeat (first | (with_reducible first | exact HK.out | apply Kept.alloc | apply Kept.drewN | apply Kept.drew) | exact HK.out)⟩, ⟨by repeat (first | (with_reducible first | exact HB.out | apply below_alloc | apply pw_below_drewN | apply below_drew1) | exact HB.out)⟩⟩
   ·rw [if_neg c4] at H
    have c4b0 : decide (x7_1 < (l0.length : Int)) = false := decide_eq_false c4
    clear c4
    obtain rfl := Option.some.inj H
    obtain ⟨Ao29, co29, eo29⟩ := Kd.R_slice HO_0.out
    subst eo29
    go_wp2
    go_ret
    exact ⟨_, by first | rfl | (simp [errW_none, errW_some] <;> rfl) | (simp [*, errW_none, errW_some] <;> rfl), by (with_reducible repeat (first | apply Kd.R_alloc | apply Kd.R_drewN | apply Kd.R_drew)); exact HO_0.out, by repeat (first | (with_reducible first | exact HB.out | apply below_alloc | apply pw_below_drewN | apply below_drew1) | exact HB.out), by repeat (first | (with_reducible first | exact HK.out | apply Kept.alloc | apply Kept.drewN | apply Kept.drew) | exact HK.out)⟩

end Go.Proofs.Ytlbmfnjhpojghaa.PFnNormalized
