-- Written by a program of this session (xprint) out of the translation; Lean checks it.
import Derived.Test.YtkfphiccfnfkdaaPFnLangSplitx0
import Derived.Test.YtkfphiccfnfkdaaPFnLangSplitx1
import Derived.Test.YtkfphiccfnfkdaaPFnLangSplitx2
namespace Go.Proofs.Ytkfphiccfnfkdaa.PFnLangSplit
open Go.RowKit Go.Proofs.YtkfphiccfnfkdaaW.PrintWords Go.Proofs.YtkfphiccfnfkdaaW.PrintLast Go.Proofs.YtkfphiccfnfkdaaW.PrintMore
attribute [local go_sem] max2_int min2_int max_two min_two max_three min_three max_four min_four   -- for this text's walks alone
set_option linter.unusedVariables false
set_option linter.unusedSimpArgs false

/-! ### spec_LangSplit: function 30 -/
mutual
def spec_LangSplit.l0 : Nat → ByteArray → ByteArray → ByteArray → Int → Option (ByteArray × ByteArray)
  | 0, _, _, _, _ => none
  | k + 1, x0, x2, x3, x4 => if x4 ≥ 0 then (if 0 ≤ x4 then (if x4 < (x0.size : Int) then (if (bt x0 x4) = 45 then (if 0 ≤ (wrap64 (x4 + 2)) then (if (wrap64 (x4 + 2)) < (x0.size : Int) then (if (bt x0 (wrap64 (x4 + 2))) = 45 then (if 0 ≤ (wrap64 (x4 + 1)) then (if (wrap64 (x4 + 1)) < (x0.size : Int) then (spec_LangSplit.j1 k x0 x2 x3 x4 ((bt x0 (wrap64 (x4 + 1))) != 45)) else (none)) else (none)) else (spec_LangSplit.j1 k x0 x2 x3 x4 false)) else (none)) else (none)) else (spec_LangSplit.j1 k x0 x2 x3 x4 false)) else (none)) else (none)) else (some (x2, x3))
def spec_LangSplit.j1 : Nat → ByteArray → ByteArray → ByteArray → Int → Bool → Option (ByteArray × ByteArray)
  | 0, _, _, _, _, _ => none
  | k + 1, x0, x2, x3, x4, x30 => if x30 = true then (if 0 ≤ x4 then (if x4 ≤ (x0.size : Int) then (if 0 ≤ (wrap64 (x4 + 1)) then (if (wrap64 (x4 + 1)) < (x0.size : Int) then (if (bt x0 (wrap64 (x4 + 1))) = 120 then (if (wrap64 (x4 + 1)) ≤ (x0.size : Int) then (spec_LangSplit.l0 k x0 (x0.extract 0 (x4 : Int).toNat) (x0.extract ((wrap64 (x4 + 1)) : Int).toNat x0.size) (wrap64 (x4 - 1))) else (none)) else (spec_LangSplit.l0 k x0 (x0.extract 0 (x4 : Int).toNat) x3 (wrap64 (x4 - 1)))) else (none)) else (none)) else (none)) else (none)) else (spec_LangSplit.l0 k x0 x2 x3 (wrap64 (x4 - 1)))
end
def spec_LangSplit.f (k : Nat) (a0 : ByteArray) : Option (ByteArray × ByteArray) := spec_LangSplit.l0 k a0 a0 (⟨#[]⟩ : ByteArray) (wrap64 ((a0.size : Int) - 3))
theorem spec_LangSplit.mono_l : ∀ k, (∀ y0 y1 y2 y3, LeO (spec_LangSplit.l0 k y0 y1 y2 y3) (spec_LangSplit.l0 (k + 1) y0 y1 y2 y3)) ∧ (∀ y0 y1 y2 y3 y4, LeO (spec_LangSplit.j1 k y0 y1 y2 y3 y4) (spec_LangSplit.j1 (k + 1) y0 y1 y2 y3 y4))
  | 0 => ⟨fun _ _ _ _ r h => by simp [spec_LangSplit.l0] at h, fun _ _ _ _ _ r h => by simp [spec_LangSplit.j1] at h⟩
  | k + 1 => by
    obtain ⟨ih0, ih1⟩ := spec_LangSplit.mono_l k
    refine ⟨?_, ?_⟩
    · intro y0 y1 y2 y3
      unfold spec_LangSplit.l0
      repeat' first
      | (with_reducible exact ih0 _ _ _ _)
      | (with_reducible exact ih1 _ _ _ _ _)
      | (with_reducible exact LeO.refl _)
      | (with_reducible exact LeO.none _)
      | (with_reducible refine LeO.ite ?_ ?_)
      | (with_reducible refine LeO.bind ?_ (fun _ => ?_))
      | exact ih0 _ _ _ _
      | exact ih1 _ _ _ _ _
      | exact LeO.none _
      | refine LeO.ite ?_ ?_
      | refine LeO.bind ?_ (fun _ => ?_)
    · intro y0 y1 y2 y3 y4
      unfold spec_LangSplit.j1
      repeat' first
      | (with_reducible exact ih0 _ _ _ _)
      | (with_reducible exact ih1 _ _ _ _ _)
      | (with_reducible exact LeO.refl _)
      | (with_reducible exact LeO.none _)
      | (with_reducible refine LeO.ite ?_ ?_)
      | (with_reducible refine LeO.bind ?_ (fun _ => ?_))
      | exact ih0 _ _ _ _
      | exact ih1 _ _ _ _ _
      | exact LeO.none _
      | refine LeO.ite ?_ ?_
      | refine LeO.bind ?_ (fun _ => ?_)
theorem spec_LangSplit.mono : ∀ a0 k, LeO (spec_LangSplit.f k a0) (spec_LangSplit.f (k + 1) a0) := by
  intro a0 k
  obtain ⟨ih0, ih1⟩ := spec_LangSplit.mono_l k
  unfold spec_LangSplit.f
  repeat' first
      | (with_reducible exact ih0 _ _ _ _)
      | (with_reducible exact ih1 _ _ _ _ _)
      | (with_reducible exact LeO.refl _)
      | (with_reducible exact LeO.none _)
      | (with_reducible refine LeO.ite ?_ ?_)
      | (with_reducible refine LeO.bind ?_ (fun _ => ?_))
      | exact ih0 _ _ _ _
      | exact ih1 _ _ _ _ _
      | exact LeO.none _
      | refine LeO.ite ?_ ?_
      | refine LeO.bind ?_ (fun _ => ?_)
set_option maxHeartbeats 8000000 in
set_option maxRecDepth 100000 in
theorem spec_LangSplit.calls (k : Nat) (a0 : ByteArray) (r1 : ByteArray) (r2 : ByteArray) (w : World) (h : spec_LangSplit.f k a0 = some (r1, r2)) :
    Calls Try.prog 30 #[.string a0] w fun e w' => e = .returned (.tuple #[.string r1, .string r2]) ∧ Drawn0 w w' := by
  have H : (spec_LangSplit.l0 k a0 a0 (⟨#[]⟩ : ByteArray) (wrap64 ((a0.size : Int) - 3))) = some (r1, r2) := h
  clear h
  have H' := Aside0.mk H
  clear H
  go_enter Try.func30, Try.ntmps30
  go_wp2
  go_loopg [2, 3, 4] k (fun kq v2 v3 v4 w' => ∃ (x2_1 : ByteArray) (x3_1 : ByteArray) (x4_1 : Int), v2 = .string x2_1 ∧ v3 = .string x3_1 ∧ v4 = .int .i64 x4_1 ∧ Aside0 (spec_LangSplit.l0 kq a0 x2_1 x3_1 x4_1 = some (r1, r2)) ∧ Aside0 (kq ≤ k) ∧ Drawn0 w w')
  case atStart => exact ⟨(a0), ((⟨#[]⟩ : ByteArray)), (wrap64 ((a0.size : Int) - 3)), (by first | rfl | (simp; done) | (simp [*]; done)), (by first | rfl | (simp; done) | (simp [*]; done)), (by first | rfl | (simp; done) | (simp [*]; done)), H', ⟨Nat.le_refl _⟩, by repeat (first | exact Drawn0.refl _ | apply Drawn0.step)⟩
  case round =>
    clear H'
    obtain ⟨x2_1, x3_1, x4_1, rfl, rfl, rfl, HA, HK1, ⟨m1, rfl⟩⟩ := hrel
    cases gk with
    | zero => exact absurd HA.out (by simp [spec_LangSplit.l0])
    | succ k1 =>
      have H := HA.out
      clear HA
      simp only [spec_LangSplit.l0] at H
      by_cases c2 : x4_1 ≥ 0
      · rw [if_pos c2] at H
        have c2b0 : decide (0 ≤ x4_1) = true := decide_eq_true c2
        clear c2
        have HC3 := Aside0.mk H
        clear H
        go_upto_region 5 with (fail)
        go_cut [30] (fun v30 wc => ∃ (kq : Nat) (x30_2 : Bool), v30 = .bool x30_2 ∧ Aside0 (spec_LangSplit.j1 kq a0 x2_1 x3_1 x4_1 x30_2 = some (r1, r2)) ∧ Aside0 (kq ≤ k1) ∧ Drawn0 w wc)
        case first =>
          have H := HC3.out
          clear HC3
          by_cases c4 : 0 ≤ x4_1
          · rw [if_pos c4] at H
            have c4b0 : decide (0 ≤ x4_1) = true := decide_eq_true c4
            clear c4
            (first | rw [c4b0] | (simp only [i64_w, i32_w]; rw [c4b0]) | skip)
            by_cases c5 : x4_1 < (a0.size : Int)
            · rw [if_pos c5] at H
              have c5b0 : decide (x4_1 < (a0.size : Int)) = true := decide_eq_true c5
              clear c5
              by_cases c7 : (bt a0 x4_1) = 45
              · rw [if_pos c7] at H
                have c7b0 : ((bt a0 x4_1) == 45) = true := beq_iff_eq.mpr c7
                have c7b1 : ((bt a0 x4_1) != 45) = false := bne_eq_false_iff_eq.mpr c7
                clear c7
                obtain ⟨ji8, hji8⟩ : ∃ j_ : Int, (wrap64 (x4_1 + 2)) = j_ := ⟨_, rfl⟩
                replace H : (if 0 ≤ (ji8) then (if (ji8) < (a0.size : Int) then (if (bt a0 (ji8)) = 45 then (if 0 ≤ (wrap64 (x4_1 + 1)) then (if (wrap64 (x4_1 + 1)) < (a0.size : Int) then (spec_LangSplit.j1 k1 a0 x2_1 x3_1 x4_1 ((bt a0 (wrap64 (x4_1 + 1))) != 45)) else (none)) else (none)) else (spec_LangSplit.j1 k1 a0 x2_1 x3_1 x4_1 false)) else (none)) else (none)) = some (r1, r2) := by first | (rw [hji8] at H; exact H) | (simp only [hji8] at H ⊢; exact H)
                have hji8w : (IntKind.i64.wrap (x4_1 + 2)) = ji8 := (i64_w _).trans hji8
                by_cases c9 : 0 ≤ (ji8)
                · rw [if_pos c9] at H
                  have c9b0 : decide (0 ≤ (ji8)) = true := decide_eq_true c9
                  clear c9
                  by_cases c10 : (ji8) < (a0.size : Int)
                  · rw [if_pos c10] at H
                    have c10b0 : decide ((ji8) < (a0.size : Int)) = true := decide_eq_true c10
                    clear c10
                    by_cases c12 : (bt a0 (ji8)) = 45
                    · rw [if_pos c12] at H
                      have c12b0 : ((bt a0 (ji8)) == 45) = true := beq_iff_eq.mpr c12
                      have c12b1 : ((bt a0 (ji8)) != 45) = false := bne_eq_false_iff_eq.mpr c12
                      clear c12
                      obtain ⟨ji13, hji13⟩ : ∃ j_ : Int, (wrap64 (x4_1 + 1)) = j_ := ⟨_, rfl⟩
                      replace H : (if 0 ≤ (ji13) then (if (ji13) < (a0.size : Int) then (spec_LangSplit.j1 k1 a0 x2_1 x3_1 x4_1 ((bt a0 (ji13)) != 45)) else (none)) else (none)) = some (r1, r2) := by first | (rw [hji13] at H; exact H) | (simp only [hji13] at H ⊢; exact H)
                      have hji13w : (IntKind.i64.wrap (x4_1 + 1)) = ji13 := (i64_w _).trans hji13
                      by_cases c14 : 0 ≤ (ji13)
                      · rw [if_pos c14] at H
                        have c14b0 : decide (0 ≤ (ji13)) = true := decide_eq_true c14
                        clear c14
                        by_cases c15 : (ji13) < (a0.size : Int)
                        · rw [if_pos c15] at H
                          have c15b0 : decide ((ji13) < (a0.size : Int)) = true := decide_eq_true c15
                          clear c15
                          have H' := Aside0.mk H
                          clear H
                          have p6 : 0 ≤ (x4_1 : Int) := of_decide_eq_true (by first | (with_reducible assumption) | assumption)
                          have q6 : x4_1 < (a0.size : Int) := of_decide_eq_true (by first | (with_reducible assumption) | assumption)
                          have hx6 := bt_at a0 x4_1
                          replace p6 := eq_true p6
                          replace q6 := eq_true q6
                          have p11 : 0 ≤ ((ji8) : Int) := of_decide_eq_true (by first | (with_reducible assumption) | assumption)
                          have q11 : (ji8) < (a0.size : Int) := of_decide_eq_true (by first | (with_reducible assumption) | assumption)
                          have hx11 := bt_at a0 (ji8)
                          replace p11 := eq_true p11
                          replace q11 := eq_true q11
                          have p16 : 0 ≤ ((ji13) : Int) := of_decide_eq_true (by first | (with_reducible assumption) | assumption)
                          have q16 : (ji13) < (a0.size : Int) := of_decide_eq_true (by first | (with_reducible assumption) | assumption)
                          have hx16 := bt_at a0 (ji13)
                          replace p16 := eq_true p16
                          replace q16 := eq_true q16
                          go_wp2
                          go_meet
                          case rel => exact ⟨_, (((bt a0 (ji13)) != 45)), (by first | rfl | (simp; done) | (simp only [← hji13] <;> (first | rfl | simp)) | (simp [*]; done)), H', ⟨by have := HK1.out; first | omega | exact Nat.le_refl _⟩, by repeat (first | exact Drawn0.refl _ | apply Drawn0.step)⟩
                        · rw [if_neg c15] at H
                          exact absurd H (by simp)
                      · rw [if_neg c14] at H
                        exact absurd H (by simp)
                    · rw [if_neg c12] at H
                      have c12b0 : ((bt a0 (ji8)) == 45) = false := beq_eq_false_iff_ne.mpr c12
                      have c12b1 : ((bt a0 (ji8)) != 45) = true := bne_iff_ne.mpr c12
                      have H' := Aside0.mk H
                      clear H
                      have p6 : 0 ≤ (x4_1 : Int) := of_decide_eq_true (by first | (with_reducible assumption) | assumption)
                      have q6 : x4_1 < (a0.size : Int) := of_decide_eq_true (by first | (with_reducible assumption) | assumption)
                      have hx6 := bt_at a0 x4_1
                      replace p6 := eq_true p6
                      replace q6 := eq_true q6
                      have p11 : 0 ≤ ((ji8) : Int) := of_decide_eq_true (by first | (with_reducible assumption) | assumption)
                      have q11 : (ji8) < (a0.size : Int) := of_decide_eq_true (by first | (with_reducible assumption) | assumption)
                      have hx11 := bt_at a0 (ji8)
                      replace p11 := eq_true p11
                      replace q11 := eq_true q11
                      go_wp2
                      go_meet
                      case rel => exact ⟨_, (false), (by first | rfl | (simp; done) | (simp [*]; done)), H', ⟨by have := HK1.out; first | omega | exact Nat.le_refl _⟩, by repeat (first | exact Drawn0.refl _ | apply Drawn0.step)⟩
                  · rw [if_neg c10] at H
                    exact absurd H (by simp)
                · rw [if_neg c9] at H
                  exact absurd H (by simp)
              · rw [if_neg c7] at H
                have c7b0 : ((bt a0 x4_1) == 45) = false := beq_eq_false_iff_ne.mpr c7
                have c7b1 : ((bt a0 x4_1) != 45) = true := bne_iff_ne.mpr c7
                have H' := Aside0.mk H
                clear H
                have p6 : 0 ≤ (x4_1 : Int) := of_decide_eq_true (by first | (with_reducible assumption) | assumption)
                have q6 : x4_1 < (a0.size : Int) := of_decide_eq_true (by first | (with_reducible assumption) | assumption)
                have hx6 := bt_at a0 x4_1
                replace p6 := eq_true p6
                replace q6 := eq_true q6
                go_wp2
                go_meet
                case rel => exact ⟨_, (false), (by first | rfl | (simp; done) | (simp [*]; done)), H', ⟨by have := HK1.out; first | omega | exact Nat.le_refl _⟩, by repeat (first | exact Drawn0.refl _ | apply Drawn0.step)⟩
            · rw [if_neg c5] at H
              exact absurd H (by simp)
          · rw [if_neg c4] at H
            exact absurd H (by simp)
        case rest =>
          clear HC3
          try clear c1
          try clear p1
          try clear q1
          try clear hx1
          try clear c2
          try clear c2b0
          try clear p2
          try clear c3
          try clear c4
          try clear c4b0
          try clear c5
          try clear c5b0
          try clear p6
          try clear q6
          try clear hx6
          try clear c7
          try clear c7b0
          try clear c7b1
          try clear c9
          try clear c9b0
          try clear c10
          try clear c10b0
          try clear p11
          try clear q11
          try clear hx11
          try clear c12
          try clear c12b0
          try clear c12b1
          try clear c14
          try clear c14b0
          try clear c15
          try clear c15b0
          try clear p16
          try clear q16
          try clear hx16
          try clear p11
          try clear p16
          try clear p6
          try clear q11
          try clear q16
          try clear q6
          obtain ⟨kq, x30_2, rfl, HA, HJ2, ⟨mc2, rfl⟩⟩ := hcut
          cases kq with
          | zero => exact absurd HA.out (by simp [spec_LangSplit.j1])
          | succ kj2 =>
            have H := HA.out
            clear HA
            simp only [spec_LangSplit.j1] at H
            by_cases c17 : x30_2 = true
            · subst c17
              have H1 : (if 0 ≤ x4_1 then (if x4_1 ≤ (a0.size : Int) then (if 0 ≤ (wrap64 (x4_1 + 1)) then (if (wrap64 (x4_1 + 1)) < (a0.size : Int) then (if (bt a0 (wrap64 (x4_1 + 1))) = 120 then (if (wrap64 (x4_1 + 1)) ≤ (a0.size : Int) then (spec_LangSplit.l0 kj2 a0 (a0.extract 0 (x4_1 : Int).toNat) (a0.extract ((wrap64 (x4_1 + 1)) : Int).toNat a0.size) (wrap64 (x4_1 - 1))) else (none)) else (spec_LangSplit.l0 kj2 a0 (a0.extract 0 (x4_1 : Int).toNat) x3_1 (wrap64 (x4_1 - 1)))) else (none)) else (none)) else (none)) else (none)) = some (r1, r2) := by rw [if_pos rfl] at H; exact H
              clear H
              have H := H1
              clear H1
              by_cases c18 : 0 ≤ x4_1
              · rw [if_pos c18] at H
                have c18b0 := eq_true c18
                have c18b1 : decide (0 ≤ x4_1) = true := decide_eq_true c18
                clear c18
                by_cases c19 : x4_1 ≤ (a0.size : Int)
                · rw [if_pos c19] at H
                  have c19b0 := eq_true c19
                  have c19b1 : decide (x4_1 ≤ (a0.size : Int)) = true := decide_eq_true c19
                  clear c19
                  obtain ⟨ji20, hji20⟩ : ∃ j_ : Int, (wrap64 (x4_1 + 1)) = j_ := ⟨_, rfl⟩
                  replace H : (if 0 ≤ (ji20) then (if (ji20) < (a0.size : Int) then (if (bt a0 (ji20)) = 120 then (if (ji20) ≤ (a0.size : Int) then (spec_LangSplit.l0 kj2 a0 (a0.extract 0 (x4_1 : Int).toNat) (a0.extract ((ji20) : Int).toNat a0.size) (wrap64 (x4_1 - 1))) else (none)) else (spec_LangSplit.l0 kj2 a0 (a0.extract 0 (x4_1 : Int).toNat) x3_1 (wrap64 (x4_1 - 1)))) else (none)) else (none)) = some (r1, r2) := by first | (rw [hji20] at H; exact H) | (simp only [hji20] at H ⊢; exact H)
                  have hji20w : (IntKind.i64.wrap (x4_1 + 1)) = ji20 := (i64_w _).trans hji20
                  by_cases c21 : 0 ≤ (ji20)
                  · rw [if_pos c21] at H
                    have c21b0 : decide (0 ≤ (ji20)) = true := decide_eq_true c21
                    clear c21
                    by_cases c22 : (ji20) < (a0.size : Int)
                    · rw [if_pos c22] at H
                      have c22b0 : decide ((ji20) < (a0.size : Int)) = true := decide_eq_true c22
                      clear c22
                      by_cases c24 : (bt a0 (ji20)) = 120
                      · rw [if_pos c24] at H
                        have c24b0 : ((bt a0 (ji20)) == 120) = true := beq_iff_eq.mpr c24
                        have c24b1 : ((bt a0 (ji20)) != 120) = false := bne_eq_false_iff_eq.mpr c24
                        clear c24
                        have c25b0 := eq_true (of_decide_eq_true (by first | (with_reducible assumption) | assumption) : 0 ≤ (ji20))
                        by_cases c26 : (ji20) ≤ (a0.size : Int)
                        · rw [if_pos c26] at H
                          have c26b0 := eq_true c26
                          have c26b1 : decide ((ji20) ≤ (a0.size : Int)) = true := decide_eq_true c26
                          clear c26
                          have H' := Aside0.mk H
                          clear H
                          have p23 : 0 ≤ ((ji20) : Int) := of_decide_eq_true (by first | (with_reducible assumption) | assumption)
                          have q23 : (ji20) < (a0.size : Int) := of_decide_eq_true (by first | (with_reducible assumption) | assumption)
                          have hx23 := bt_at a0 (ji20)
                          replace p23 := eq_true p23
                          replace q23 := eq_true q23
                          go_wp2
                          go_roundg kj2
                          case measure => have := HK1.out; have := HJ2.out; omega
                          case rel => exact ⟨(a0.extract 0 (x4_1 : Int).toNat), (a0.extract ((ji20) : Int).toNat a0.size), (wrap64 (x4_1 - 1)), (by first | rfl | (simp; done) | (simp [*]; done)), (by first | rfl | (simp; done) | (simp only [← hji20] <;> (first | rfl | simp)) | (simp [*]; done)), (by first | rfl | (simp; done) | (simp [*]; done)), H', ⟨by have := HK1.out; have := HJ2.out; omega⟩, by repeat (first | exact Drawn0.refl _ | apply Drawn0.step)⟩
                        · rw [if_neg c26] at H
                          exact absurd H (by simp)
                      · rw [if_neg c24] at H
                        have c24b0 : ((bt a0 (ji20)) == 120) = false := beq_eq_false_iff_ne.mpr c24
                        have c24b1 : ((bt a0 (ji20)) != 120) = true := bne_iff_ne.mpr c24
                        have H' := Aside0.mk H
                        clear H
                        have p23 : 0 ≤ ((ji20) : Int) := of_decide_eq_true (by first | (with_reducible assumption) | assumption)
                        have q23 : (ji20) < (a0.size : Int) := of_decide_eq_true (by first | (with_reducible assumption) | assumption)
                        have hx23 := bt_at a0 (ji20)
                        replace p23 := eq_true p23
                        replace q23 := eq_true q23
                        go_wp2
                        go_roundg kj2
                        case measure => have := HK1.out; have := HJ2.out; omega
                        case rel => exact ⟨(a0.extract 0 (x4_1 : Int).toNat), (x3_1), (wrap64 (x4_1 - 1)), (by first | rfl | (simp; done) | (simp [*]; done)), (by first | rfl | (simp; done) | (simp [*]; done)), (by first | rfl | (simp; done) | (simp [*]; done)), H', ⟨by have := HK1.out; have := HJ2.out; omega⟩, by repeat (first | exact Drawn0.refl _ | apply Drawn0.step)⟩
                    · rw [if_neg c22] at H
                      exact absurd H (by simp)
                  · rw [if_neg c21] at H
                    exact absurd H (by simp)
                · rw [if_neg c19] at H
                  exact absurd H (by simp)
              · rw [if_neg c18] at H
                exact absurd H (by simp)
            · replace c17 := Bool.eq_false_iff.mpr c17
              subst c17
              have H1 : (spec_LangSplit.l0 kj2 a0 x2_1 x3_1 (wrap64 (x4_1 - 1))) = some (r1, r2) := by rw [if_neg (show ¬ (false = true) by decide)] at H; exact H
              clear H
              have H := H1
              clear H1
              have H' := Aside0.mk H
              clear H
              go_wp2
              go_roundg kj2
              case measure => have := HK1.out; have := HJ2.out; omega
              case rel => exact ⟨(x2_1), (x3_1), (wrap64 (x4_1 - 1)), (by first | rfl | (simp; done) | (simp [*]; done)), (by first | rfl | (simp; done) | (simp [*]; done)), (by first | rfl | (simp; done) | (simp [*]; done)), H', ⟨by have := HK1.out; have := HJ2.out; omega⟩, by repeat (first | exact Drawn0.refl _ | apply Drawn0.step)⟩
      · rw [if_neg c2] at H
        have c2b0 : decide (0 ≤ x4_1) = false := decide_eq_false c2
        clear c2
        simp only [Option.some.injEq, Prod.mk.injEq] at H
        obtain ⟨rfl, rfl⟩ := H
        go_wp2
        go_ret2
        exact ⟨by first | rfl | (simp; done) | (simp [*]; done), by repeat (first | exact Drawn0.refl _ | apply Drawn0.step)⟩

/-! ### laws_FnLangSplit: function 11 -/
def laws_FnLangSplit.l0 : Nat → ByteArray → Int → Option (Bool)
  | 0, _, _ => none
  | k + 1, x3, x4 => if x4 < (x3.size : Int) then (if 0 ≤ x4 then (if (bt x3 x4) = 45 then (if x4 = 1 then ((impl_LangDerived.f (⟨#[102, 114, 45, 98, 101]⟩ : ByteArray) (⟨#[102, 114]⟩ : ByteArray)).bind fun t135 => (some t135)) else (if 0 ≤ (wrap64 (x4 - 1)) then (if (wrap64 (x4 - 1)) < (x3.size : Int) then (if (bt x3 (wrap64 (x4 - 1))) = 45 then ((impl_LangDerived.f (⟨#[102, 114, 45, 98, 101]⟩ : ByteArray) (⟨#[102, 114]⟩ : ByteArray)).bind fun t136 => (some t136)) else (if x4 = (wrap64 ((x3.size : Int) - 1)) then ((impl_LangDerived.f (⟨#[102, 114, 45, 98, 101]⟩ : ByteArray) (⟨#[102, 114]⟩ : ByteArray)).bind fun t137 => (some t137)) else (laws_FnLangSplit.l0 k x3 (wrap64 (x4 + 1))))) else (none)) else (none))) else (laws_FnLangSplit.l0 k x3 (wrap64 (x4 + 1)))) else (none)) else ((impl_LangSplit.f k x3).bind fun bt138 => ((spec_LangSplit.f k x3).bind fun bt140 => (if bt138.1.toList = bt140.1.toList then (if bt138.2.toList = bt140.2.toList then ((impl_LangDerived.f (⟨#[102, 114, 45, 98, 101]⟩ : ByteArray) (⟨#[102, 114]⟩ : ByteArray)).bind fun t142 => (some t142)) else (some false)) else (some false))))
def laws_FnLangSplit.f (k : Nat) (a0 : ByteArray) : Option (Bool) := if (a0.size : Int) > 2147483647 then (some true) else ((laws_tag.f k a0).bind fun t134 => (laws_FnLangSplit.l0 k t134 1))
theorem laws_FnLangSplit.mono_l : ∀ k, (∀ y0 y1, LeO (laws_FnLangSplit.l0 k y0 y1) (laws_FnLangSplit.l0 (k + 1) y0 y1))
  | 0 => fun _ _ r h => by simp [laws_FnLangSplit.l0] at h
  | k + 1 => by
    have ih0 := laws_FnLangSplit.mono_l k
    · intro y0 y1
      unfold laws_FnLangSplit.l0
      repeat' first
      | (with_reducible exact ih0 _ _)
      | (with_reducible exact impl_LangSplit.mono _ _)
      | (with_reducible exact laws_tag.mono _ _)
      | (with_reducible exact spec_LangSplit.mono _ _)
      | (with_reducible exact LeO.refl _)
      | (with_reducible exact LeO.none _)
      | (with_reducible refine LeO.ite ?_ ?_)
      | (with_reducible refine LeO.bind ?_ (fun _ => ?_))
      | exact ih0 _ _
      | exact impl_LangSplit.mono _ _
      | exact laws_tag.mono _ _
      | exact spec_LangSplit.mono _ _
      | exact LeO.none _
      | refine LeO.ite ?_ ?_
      | refine LeO.bind ?_ (fun _ => ?_)
theorem laws_FnLangSplit.mono : ∀ a0 k, LeO (laws_FnLangSplit.f k a0) (laws_FnLangSplit.f (k + 1) a0) := by
  intro a0 k
  have ih0 := laws_FnLangSplit.mono_l k
  unfold laws_FnLangSplit.f
  repeat' first
      | (with_reducible exact ih0 _ _)
      | (with_reducible exact impl_LangSplit.mono _ _)
      | (with_reducible exact laws_tag.mono _ _)
      | (with_reducible exact spec_LangSplit.mono _ _)
      | (with_reducible exact LeO.refl _)
      | (with_reducible exact LeO.none _)
      | (with_reducible refine LeO.ite ?_ ?_)
      | (with_reducible refine LeO.bind ?_ (fun _ => ?_))
      | exact ih0 _ _
      | exact impl_LangSplit.mono _ _
      | exact laws_tag.mono _ _
      | exact spec_LangSplit.mono _ _
      | exact LeO.none _
      | refine LeO.ite ?_ ?_
      | refine LeO.bind ?_ (fun _ => ?_)
set_option maxHeartbeats 8000000 in
set_option maxRecDepth 100000 in
theorem laws_FnLangSplit.calls (k : Nat) (a0 : ByteArray) (r : Bool) (w : World) (h : laws_FnLangSplit.f k a0 = some r) :
    Calls Try.prog 11 #[.string a0] w fun e w' => e = .returned (.bool r) ∧ Below w.heap.size w w' := by
  have HB := Aside0.mk (Below.refl w.heap.size w)
  have H : (if (a0.size : Int) > 2147483647 then (some true) else ((laws_tag.f k a0).bind fun t134 => (laws_FnLangSplit.l0 k t134 1))) = some r := h
  clear h
  by_cases c2 : (a0.size : Int) > 2147483647
  · rw [if_pos c2] at H
    have c2b0 : decide (2147483647 < (a0.size : Int)) = true := decide_eq_true c2
    have c2b1 : decide (2147483647 < a0.size) = true := decide_eq_true (by omega)
    clear c2
    obtain rfl := Option.some.inj H
    go_enter Try.func11, Try.ntmps11
    go_wp2
    go_ret
    exact ⟨by first | rfl | (simp [errW_none, errW_some] <;> rfl) | (simp [*, errW_none, errW_some] <;> rfl), by repeat (first | (with_reducible first | exact HB.out | apply below_alloc | apply pw_below_drewN | apply below_drew1) | exact HB.out)⟩
  · rw [if_neg c2] at H
    have c2b0 : decide (2147483647 < (a0.size : Int)) = false := decide_eq_false c2
    have c2b1 : decide (2147483647 < a0.size) = false := decide_eq_false (by omega)
    clear c2
    replace H := Option.bind_eq_some_iff.mp H
    obtain ⟨t134, A30, H⟩ := H
    replace H : (laws_FnLangSplit.l0 k t134 1) = some r := H
    have A3 := Aside0.mk A30
    clear A30
    have H' := Aside0.mk H
    clear H
    go_enter Try.func11, Try.ntmps11
    go_wp2_with (first | ((with_reducible refine gate_callee (f := 15) rfl ?_); refine goesL_ (some 13) rfl rfl Try.func15 (by kernel_rfl) rfl #[.string a0] rfl (by (try simp only [List.map_toArray, List.map_cons, List.map_nil]); first | done | rfl | (simp only [List.length_drop, List.length_take]; rfl)) ?_; (with_reducible refine (laws_tag.calls k a0 t134 _ A3.out).mono ?_); rintro e w4 ⟨rfl, hb⟩; refine ⟨_, rfl, ?_⟩; have n0_ := Aside0.mk (below_step (by repeat (first | (with_reducible first | exact HB.out | apply below_alloc | apply pw_below_drewN | apply below_drew1) | exact HB.out)) hb); clear HB; have HB := n0_; clear n0_; (try clear hb); (try clear hb2); (try clear hk); (try clear hi)))
    go_loopg [4] k (fun kq v4 w' => ∃ (x4_1 : Int), v4 = .int .i64 x4_1 ∧ Aside0 (laws_FnLangSplit.l0 kq t134 x4_1 = some r) ∧ Aside0 (kq ≤ k) ∧ Aside0 (Below w.heap.size w w'))
    case atStart => exact ⟨(1), (by first | rfl | (simp; done) | (simp [*]; done)), H', ⟨Nat.le_refl _⟩, ⟨by repeat (first | (with_reducible first | exact HB.out | apply below_alloc | apply pw_below_drewN | apply below_drew1) | exact HB.out)⟩⟩
    case round =>
      clear H'
      try clear c1
      try clear c2
      try clear c2b0
      try clear c2b1
      try clear p2
      obtain ⟨x4_1, rfl, HA, HK1, HB⟩ := hrel
      cases gk with
      | zero => exact absurd HA.out (by simp [laws_FnLangSplit.l0])
      | succ k1 =>
        have H := HA.out
        clear HA
        simp only [laws_FnLangSplit.l0] at H
        by_cases c5 : x4_1 < (t134.size : Int)
        · rw [if_pos c5] at H
          have c5b0 : decide (x4_1 < (t134.size : Int)) = true := decide_eq_true c5
          clear c5
          by_cases c6 : 0 ≤ x4_1
          · rw [if_pos c6] at H
            have c6b0 : decide (0 ≤ x4_1) = true := decide_eq_true c6
            clear c6
            by_cases c8 : (bt t134 x4_1) = 45
            · rw [if_pos c8] at H
              have c8b0 : ((bt t134 x4_1) == 45) = true := beq_iff_eq.mpr c8
              have c8b1 : ((bt t134 x4_1) != 45) = false := bne_eq_false_iff_eq.mpr c8
              clear c8
              by_cases c9 : x4_1 = 1
              · rw [if_pos c9] at H
                have c9b0 : (x4_1 == 1) = true := beq_iff_eq.mpr c9
                have c9b1 : (x4_1 != 1) = false := bne_eq_false_iff_eq.mpr c9
                clear c9
                replace H := Option.bind_eq_some_iff.mp H
                obtain ⟨t135, A100, H⟩ := H
                replace H : (some t135) = some r := H
                have A10 := Aside0.mk A100
                clear A100
                obtain rfl := Option.some.inj H
                have p7 : 0 ≤ (x4_1 : Int) := of_decide_eq_true (by first | (with_reducible assumption) | assumption)
                have q7 : x4_1 < (t134.size : Int) := of_decide_eq_true (by first | (with_reducible assumption) | assumption)
                have hx7 := bt_at t134 x4_1
                replace p7 := eq_true p7
                replace q7 := eq_true q7
                go_wp2_with (first | ((with_reducible refine gate_callee (f := 16) rfl ?_); refine goesL_ (some 42) rfl rfl Try.func16 (by kernel_rfl) rfl #[.string (⟨#[102, 114, 45, 98, 101]⟩ : ByteArray), .string (⟨#[102, 114]⟩ : ByteArray)] rfl (by (try simp only [List.map_toArray, List.map_cons, List.map_nil]); first | done | rfl | (simp only [List.length_drop, List.length_take]; rfl)) ?_; (with_reducible refine (impl_LangDerived.calls (⟨#[102, 114, 45, 98, 101]⟩ : ByteArray) (⟨#[102, 114]⟩ : ByteArray) t135 _ A10.out).mono ?_); rintro e w' ⟨rfl, ⟨nd, rfl⟩⟩; refine ⟨_, rfl, ?_⟩))
                go_ret
                exact ⟨by first | rfl | (simp [errW_none, errW_some] <;> rfl) | (simp [*, errW_none, errW_some] <;> rfl), by repeat (first | (with_reducible first | exact HB.out | apply below_alloc | apply pw_below_drewN | apply below_drew1) | exact HB.out)⟩
              · rw [if_neg c9] at H
                have c9b0 : (x4_1 == 1) = false := beq_eq_false_iff_ne.mpr c9
                have c9b1 : (x4_1 != 1) = true := bne_iff_ne.mpr c9
                obtain ⟨ji11, hji11⟩ : ∃ j_ : Int, (wrap64 (x4_1 - 1)) = j_ := ⟨_, rfl⟩
                replace H : (if 0 ≤ (ji11) then (if (ji11) < (t134.size : Int) then (if (bt t134 (ji11)) = 45 then ((impl_LangDerived.f (⟨#[102, 114, 45, 98, 101]⟩ : ByteArray) (⟨#[102, 114]⟩ : ByteArray)).bind fun t136 => (some t136)) else (if x4_1 = (wrap64 ((t134.size : Int) - 1)) then ((impl_LangDerived.f (⟨#[102, 114, 45, 98, 101]⟩ : ByteArray) (⟨#[102, 114]⟩ : ByteArray)).bind fun t137 => (some t137)) else (laws_FnLangSplit.l0 k1 t134 (wrap64 (x4_1 + 1))))) else (none)) else (none)) = some r := by first | (rw [hji11] at H; exact H) | (simp only [hji11] at H ⊢; exact H)
                have hji11w : (IntKind.i64.wrap (x4_1 - 1)) = ji11 := (i64_w _).trans hji11
                by_cases c12 : 0 ≤ (ji11)
                · rw [if_pos c12] at H
                  have c12b0 : decide (0 ≤ (ji11)) = true := decide_eq_true c12
                  clear c12
                  by_cases c13 : (ji11) < (t134.size : Int)
                  · rw [if_pos c13] at H
                    have c13b0 : decide ((ji11) < (t134.size : Int)) = true := decide_eq_true c13
                    clear c13
                    by_cases c15 : (bt t134 (ji11)) = 45
                    · rw [if_pos c15] at H
                      have c15b0 : ((bt t134 (ji11)) == 45) = true := beq_iff_eq.mpr c15
                      have c15b1 : ((bt t134 (ji11)) != 45) = false := bne_eq_false_iff_eq.mpr c15
                      clear c15
                      replace H := Option.bind_eq_some_iff.mp H
                      obtain ⟨t136, A160, H⟩ := H
                      replace H : (some t136) = some r := H
                      have A16 := Aside0.mk A160
                      clear A160
                      obtain rfl := Option.some.inj H
                      have p7 : 0 ≤ (x4_1 : Int) := of_decide_eq_true (by first | (with_reducible assumption) | assumption)
                      have q7 : x4_1 < (t134.size : Int) := of_decide_eq_true (by first | (with_reducible assumption) | assumption)
                      have hx7 := bt_at t134 x4_1
                      replace p7 := eq_true p7
                      replace q7 := eq_true q7
                      have p14 : 0 ≤ ((ji11) : Int) := of_decide_eq_true (by first | (with_reducible assumption) | assumption)
                      have q14 : (ji11) < (t134.size : Int) := of_decide_eq_true (by first | (with_reducible assumption) | assumption)
                      have hx14 := bt_at t134 (ji11)
                      replace p14 := eq_true p14
                      replace q14 := eq_true q14
                      go_wp2_with (first | ((with_reducible refine gate_callee (f := 16) rfl ?_); refine goesL_ (some 42) rfl rfl Try.func16 (by kernel_rfl) rfl #[.string (⟨#[102, 114, 45, 98, 101]⟩ : ByteArray), .string (⟨#[102, 114]⟩ : ByteArray)] rfl (by (try simp only [List.map_toArray, List.map_cons, List.map_nil]); first | done | rfl | (simp only [List.length_drop, List.length_take]; rfl)) ?_; (with_reducible refine (impl_LangDerived.calls (⟨#[102, 114, 45, 98, 101]⟩ : ByteArray) (⟨#[102, 114]⟩ : ByteArray) t136 _ A16.out).mono ?_); rintro e w' ⟨rfl, ⟨nd, rfl⟩⟩; refine ⟨_, rfl, ?_⟩))
                      go_ret
                      exact ⟨by first | rfl | (simp [errW_none, errW_some] <;> rfl) | (simp only [← hji11]; first | rfl | (simp [errW_none, errW_some] <;> rfl)) | (simp [*, errW_none, errW_some] <;> rfl), by repeat (first | (with_reducible first | exact HB.out | apply below_alloc | apply pw_below_drewN | apply below_drew1) | exact HB.out)⟩
                    · rw [if_neg c15] at H
                      have c15b0 : ((bt t134 (ji11)) == 45) = false := beq_eq_false_iff_ne.mpr c15
                      have c15b1 : ((bt t134 (ji11)) != 45) = true := bne_iff_ne.mpr c15
                      by_cases c17 : x4_1 = (wrap64 ((t134.size : Int) - 1))
                      · rw [if_pos c17] at H
                        have c17b0 : (x4_1 == (wrap64 ((t134.size : Int) - 1))) = true := beq_iff_eq.mpr c17
                        have c17b1 : (x4_1 != (wrap64 ((t134.size : Int) - 1))) = false := bne_eq_false_iff_eq.mpr c17
                        clear c17
                        replace H := Option.bind_eq_some_iff.mp H
                        obtain ⟨t137, A180, H⟩ := H
                        replace H : (some t137) = some r := H
                        have A18 := Aside0.mk A180
                        clear A180
                        obtain rfl := Option.some.inj H
                        have p7 : 0 ≤ (x4_1 : Int) := of_decide_eq_true (by first | (with_reducible assumption) | assumption)
                        have q7 : x4_1 < (t134.size : Int) := of_decide_eq_true (by first | (with_reducible assumption) | assumption)
                        have hx7 := bt_at t134 x4_1
                        replace p7 := eq_true p7
                        replace q7 := eq_true q7
                        have p14 : 0 ≤ ((ji11) : Int) := of_decide_eq_true (by first | (with_reducible assumption) | assumption)
                        have q14 : (ji11) < (t134.size : Int) := of_decide_eq_true (by first | (with_reducible assumption) | assumption)
                        have hx14 := bt_at t134 (ji11)
                        replace p14 := eq_true p14
                        replace q14 := eq_true q14
                        go_wp2_with (first | ((with_reducible refine gate_callee (f := 16) rfl ?_); refine goesL_ (some 42) rfl rfl Try.func16 (by kernel_rfl) rfl #[.string (⟨#[102, 114, 45, 98, 101]⟩ : ByteArray), .string (⟨#[102, 114]⟩ : ByteArray)] rfl (by (try simp only [List.map_toArray, List.map_cons, List.map_nil]); first | done | rfl | (simp only [List.length_drop, List.length_take]; rfl)) ?_; (with_reducible refine (impl_LangDerived.calls (⟨#[102, 114, 45, 98, 101]⟩ : ByteArray) (⟨#[102, 114]⟩ : ByteArray) t137 _ A18.out).mono ?_); rintro e w' ⟨rfl, ⟨nd, rfl⟩⟩; refine ⟨_, rfl, ?_⟩))
                        go_ret
                        exact ⟨by first | rfl | (simp [errW_none, errW_some] <;> rfl) | (simp only [← hji11]; first | rfl | (simp [errW_none, errW_some] <;> rfl)) | (simp [*, errW_none, errW_some] <;> rfl), by repeat (first | (with_reducible first | exact HB.out | apply below_alloc | apply pw_below_drewN | apply below_drew1) | exact HB.out)⟩
                      · rw [if_neg c17] at H
                        have c17b0 : (x4_1 == (wrap64 ((t134.size : Int) - 1))) = false := beq_eq_false_iff_ne.mpr c17
                        have c17b1 : (x4_1 != (wrap64 ((t134.size : Int) - 1))) = true := bne_iff_ne.mpr c17
                        have H' := Aside0.mk H
                        clear H
                        have p7 : 0 ≤ (x4_1 : Int) := of_decide_eq_true (by first | (with_reducible assumption) | assumption)
                        have q7 : x4_1 < (t134.size : Int) := of_decide_eq_true (by first | (with_reducible assumption) | assumption)
                        have hx7 := bt_at t134 x4_1
                        replace p7 := eq_true p7
                        replace q7 := eq_true q7
                        have p14 : 0 ≤ ((ji11) : Int) := of_decide_eq_true (by first | (with_reducible assumption) | assumption)
                        have q14 : (ji11) < (t134.size : Int) := of_decide_eq_true (by first | (with_reducible assumption) | assumption)
                        have hx14 := bt_at t134 (ji11)
                        replace p14 := eq_true p14
                        replace q14 := eq_true q14
                        go_wp2
                        go_roundg k1
                        case measure => have := HK1.out; omega
                        case rel => exact ⟨(wrap64 (x4_1 + 1)), (by first | rfl | (simp; done) | (simp [*]; done)), H', ⟨by have := HK1.out; omega⟩, ⟨by repeat (first | (with_reducible first | exact HB.out | apply below_alloc | apply pw_below_drewN | apply below_drew1) | exact HB.out)⟩⟩
                  · rw [if_neg c13] at H
                    exact absurd H (by simp)
                · rw [if_neg c12] at H
                  exact absurd H (by simp)
            · rw [if_neg c8] at H
              have c8b0 : ((bt t134 x4_1) == 45) = false := beq_eq_false_iff_ne.mpr c8
              have c8b1 : ((bt t134 x4_1) != 45) = true := bne_iff_ne.mpr c8
              have H' := Aside0.mk H
              clear H
              have p7 : 0 ≤ (x4_1 : Int) := of_decide_eq_true (by first | (with_reducible assumption) | assumption)
              have q7 : x4_1 < (t134.size : Int) := of_decide_eq_true (by first | (with_reducible assumption) | assumption)
              have hx7 := bt_at t134 x4_1
              replace p7 := eq_true p7
              replace q7 := eq_true q7
              go_wp2
              go_roundg k1
              case measure => have := HK1.out; omega
              case rel => exact ⟨(wrap64 (x4_1 + 1)), (by first | rfl | (simp; done) | (simp [*]; done)), H', ⟨by have := HK1.out; omega⟩, ⟨by repeat (first | (with_reducible first | exact HB.out | apply below_alloc | apply pw_below_drewN | apply below_drew1) | exact HB.out)⟩⟩
          · rw [if_neg c6] at H
            exact absurd H (by simp)
        · rw [if_neg c5] at H
          have c5b0 : decide (x4_1 < (t134.size : Int)) = false := decide_eq_false c5
          clear c5
          replace H := Option.bind_eq_some_iff.mp H
          obtain ⟨⟨t138, t139⟩, A190, H⟩ := H
          replace H : ((spec_LangSplit.f k1 t134).bind fun bt140 => (if t138.toList = bt140.1.toList then (if t139.toList = bt140.2.toList then ((impl_LangDerived.f (⟨#[102, 114, 45, 98, 101]⟩ : ByteArray) (⟨#[102, 114]⟩ : ByteArray)).bind fun t142 => (some t142)) else (some false)) else (some false))) = some r := H
          have A19 := Aside0.mk A190
          clear A190
          replace H := Option.bind_eq_some_iff.mp H
          obtain ⟨⟨t140, t141⟩, A200, H⟩ := H
          replace H : (if t138.toList = t140.toList then (if t139.toList = t141.toList then ((impl_LangDerived.f (⟨#[102, 114, 45, 98, 101]⟩ : ByteArray) (⟨#[102, 114]⟩ : ByteArray)).bind fun t142 => (some t142)) else (some false)) else (some false)) = some r := H
          have A20 := Aside0.mk A200
          clear A200
          by_cases c21 : t138.toList = t140.toList
          · rw [if_pos c21] at H
            have c21b0 : (t138.toList == t140.toList) = true := beq_iff_eq.mpr c21
            have c21b1 : (t138.toList != t140.toList) = false := bne_eq_false_iff_eq.mpr c21
            clear c21
            by_cases c22 : t139.toList = t141.toList
            · rw [if_pos c22] at H
              have c22b0 : (t139.toList == t141.toList) = true := beq_iff_eq.mpr c22
              have c22b1 : (t139.toList != t141.toList) = false := bne_eq_false_iff_eq.mpr c22
              clear c22
              replace H := Option.bind_eq_some_iff.mp H
              obtain ⟨t142, A230, H⟩ := H
              replace H : (some t142) = some r := H
              have A23 := Aside0.mk A230
              clear A230
              obtain rfl := Option.some.inj H
              go_wp2_with (first | ((with_reducible refine gate_callee (f := 29) rfl ?_); refine goesL_ (some 45) rfl rfl Try.func29 (by kernel_rfl) rfl #[.string t134] rfl (by (try simp only [List.map_toArray, List.map_cons, List.map_nil]); first | done | rfl | (simp only [List.length_drop, List.length_take]; rfl)) ?_; (with_reducible refine (impl_LangSplit.calls k1 t134 t138 t139 _ A19.out).mono ?_); rintro e w' ⟨rfl, ⟨nd, rfl⟩⟩; refine ⟨_, rfl, ?_⟩) | ((with_reducible refine gate_callee (f := 30) rfl ?_); refine goesL_ (some 50) rfl rfl Try.func30 (by kernel_rfl) rfl #[.string t134] rfl (by (try simp only [List.map_toArray, List.map_cons, List.map_nil]); first | done | rfl | (simp only [List.length_drop, List.length_take]; rfl)) ?_; (with_reducible refine (spec_LangSplit.calls k1 t134 t140 t141 _ A20.out).mono ?_); rintro e w' ⟨rfl, ⟨nd, rfl⟩⟩; refine ⟨_, rfl, ?_⟩) | (go_at_call 16; (with_reducible refine (impl_LangDerived.calls (⟨#[102, 114, 45, 98, 101]⟩ : ByteArray) (⟨#[102, 114]⟩ : ByteArray) t142 _ A23.out).mono ?_); rintro e w' ⟨rfl, ⟨nd, rfl⟩⟩))
              go_ret
              exact ⟨by first | rfl | (simp [errW_none, errW_some] <;> rfl) | (simp [*, errW_none, errW_some] <;> rfl), by repeat (first | (with_reducible first | exact HB.out | apply below_alloc | apply pw_below_drewN | apply below_drew1) | exact HB.out)⟩
            · rw [if_neg c22] at H
              have c22b0 : (t139.toList == t141.toList) = false := beq_eq_false_iff_ne.mpr c22
              have c22b1 : (t139.toList != t141.toList) = true := bne_iff_ne.mpr c22
              obtain rfl := Option.some.inj H
              go_wp2_with (first | ((with_reducible refine gate_callee (f := 29) rfl ?_); refine goesL_ (some 45) rfl rfl Try.func29 (by kernel_rfl) rfl #[.string t134] rfl (by (try simp only [List.map_toArray, List.map_cons, List.map_nil]); first | done | rfl | (simp only [List.length_drop, List.length_take]; rfl)) ?_; (with_reducible refine (impl_LangSplit.calls k1 t134 t138 t139 _ A19.out).mono ?_); rintro e w' ⟨rfl, ⟨nd, rfl⟩⟩; refine ⟨_, rfl, ?_⟩) | ((with_reducible refine gate_callee (f := 30) rfl ?_); refine goesL_ (some 50) rfl rfl Try.func30 (by kernel_rfl) rfl #[.string t134] rfl (by (try simp only [List.map_toArray, List.map_cons, List.map_nil]); first | done | rfl | (simp only [List.length_drop, List.length_take]; rfl)) ?_; (with_reducible refine (spec_LangSplit.calls k1 t134 t140 t141 _ A20.out).mono ?_); rintro e w' ⟨rfl, ⟨nd, rfl⟩⟩; refine ⟨_, rfl, ?_⟩))
              go_ret
              exact ⟨by first | rfl | (simp [errW_none, errW_some] <;> rfl) | (simp [*, errW_none, errW_some] <;> rfl), by repeat (first | (with_reducible first | exact HB.out | apply below_alloc | apply pw_below_drewN | apply below_drew1) | exact HB.out)⟩
          · rw [if_neg c21] at H
            have c21b0 : (t138.toList == t140.toList) = false := beq_eq_false_iff_ne.mpr c21
            have c21b1 : (t138.toList != t140.toList) = true := bne_iff_ne.mpr c21
            obtain rfl := Option.some.inj H
            go_wp2_with (first | ((with_reducible refine gate_callee (f := 29) rfl ?_); refine goesL_ (some 45) rfl rfl Try.func29 (by kernel_rfl) rfl #[.string t134] rfl (by (try simp only [List.map_toArray, List.map_cons, List.map_nil]); first | done | rfl | (simp only [List.length_drop, List.length_take]; rfl)) ?_; (with_reducible refine (impl_LangSplit.calls k1 t134 t138 t139 _ A19.out).mono ?_); rintro e w' ⟨rfl, ⟨nd, rfl⟩⟩; refine ⟨_, rfl, ?_⟩) | ((with_reducible refine gate_callee (f := 30) rfl ?_); refine goesL_ (some 50) rfl rfl Try.func30 (by kernel_rfl) rfl #[.string t134] rfl (by (try simp only [List.map_toArray, List.map_cons, List.map_nil]); first | done | rfl | (simp only [List.length_drop, List.length_take]; rfl)) ?_; (with_reducible refine (spec_LangSplit.calls k1 t134 t140 t141 _ A20.out).mono ?_); rintro e w' ⟨rfl, ⟨nd, rfl⟩⟩; refine ⟨_, rfl, ?_⟩))
            go_ret
            exact ⟨by first | rfl | (simp [errW_none, errW_some] <;> rfl) | (simp [*, errW_none, errW_some] <;> rfl), by repeat (first | (with_reducible first | exact HB.out | apply below_alloc | apply pw_below_drewN | apply below_drew1) | exact HB.out)⟩

/-- THE ONE PURE STATEMENT of laws_FnLangSplit: yours. -/
def laws_FnLangSplit.Pure : Prop := ∀ (a0 : ByteArray), a0.size ≤ 140737488351232 → ∃ k, laws_FnLangSplit.f k a0 = some true
theorem laws_FnLangSplit.walk (P : laws_FnLangSplit.Pure) (a0 : ByteArray) (w : World) (w0 : a0.size ≤ 140737488351232) :
    Calls Try.prog 11 #[.string a0] w fun e w' => e = .returned (.bool true) ∧ Below w.heap.size w w' := by
  obtain ⟨k, h⟩ := P a0 w0
  refine (laws_FnLangSplit.calls k a0 true w h).mono ?_
  rintro e w' ⟨rfl, hd⟩
  exact ⟨rfl, hd⟩

end Go.Proofs.Ytkfphiccfnfkdaa.PFnLangSplit
