-- Written by a program of this session (xprint) out of the translation; Lean checks it.
import Derived.Test.YtkfphiccfnfkdaaPFnLangSplitx0
namespace Go.Proofs.Ytkfphiccfnfkdaa.PFnLangSplit
open Go.RowKit Go.Proofs.YtkfphiccfnfkdaaW.PrintWords Go.Proofs.YtkfphiccfnfkdaaW.PrintLast Go.Proofs.YtkfphiccfnfkdaaW.PrintMore
attribute [local go_sem] max2_int min2_int max_two min_two max_three min_three max_four min_four   -- for this text's walks alone
set_option linter.unusedVariables false
set_option linter.unusedSimpArgs false

/-! ### language_Language_SplitExtensionTags: function 56 -/
mutual
def language_Language_SplitExtensionTags.j0 : Nat → ByteArray → Bool → Option (ByteArray × ByteArray)
  | 0, _, _ => none
  | k + 1, x0, x18 => if x18 = true then (some ((⟨#[]⟩ : ByteArray), x0)) else (language_Language_SplitExtensionTags.l0 k x0 (-1) 0)
def language_Language_SplitExtensionTags.l0 : Nat → ByteArray → Int → Int → Option (ByteArray × ByteArray)
  | 0, _, _, _ => none
  | k + 1, x0, x4, x5 => if (wrap64 (x5 + 3)) < (x0.size : Int) then (if 0 ≤ x5 then (if x5 < (x0.size : Int) then (if (bt x0 x5) = 45 then (if 0 ≤ (wrap64 (x5 + 2)) then (if (wrap64 (x5 + 2)) < (x0.size : Int) then (language_Language_SplitExtensionTags.j2 k x0 x4 x5 ((bt x0 (wrap64 (x5 + 2))) == 45)) else (none)) else (none)) else (language_Language_SplitExtensionTags.j2 k x0 x4 x5 false)) else (none)) else (none)) else (if x4 = (-1) then (some (x0, (⟨#[]⟩ : ByteArray))) else (if 0 ≤ x4 then (if x4 ≤ (x0.size : Int) then (some (x0.extract 0 (x4 : Int).toNat, (⟨#[]⟩ : ByteArray))) else (none)) else (none)))
def language_Language_SplitExtensionTags.j2 : Nat → ByteArray → Int → Int → Bool → Option (ByteArray × ByteArray)
  | 0, _, _, _, _ => none
  | k + 1, x0, x4, x5, x37 => if x37 = true then (if x4 = (-1) then (if 0 ≤ (wrap64 (x5 + 1)) then (if (wrap64 (x5 + 1)) < (x0.size : Int) then (if (bt x0 (wrap64 (x5 + 1))) = 120 then (if 0 ≤ x5 then (if x5 ≤ (x0.size : Int) then (if (wrap64 (x5 + 1)) ≤ (x0.size : Int) then (some (x0.extract 0 (x5 : Int).toNat, x0.extract ((wrap64 (x5 + 1)) : Int).toNat x0.size)) else (none)) else (none)) else (none)) else (language_Language_SplitExtensionTags.l0 k x0 x5 (wrap64 (x5 + 1)))) else (none)) else (none)) else (if 0 ≤ (wrap64 (x5 + 1)) then (if (wrap64 (x5 + 1)) < (x0.size : Int) then (if (bt x0 (wrap64 (x5 + 1))) = 120 then (if 0 ≤ x4 then (if x4 ≤ (x0.size : Int) then (if (wrap64 (x5 + 1)) ≤ (x0.size : Int) then (some (x0.extract 0 (x4 : Int).toNat, x0.extract ((wrap64 (x5 + 1)) : Int).toNat x0.size)) else (none)) else (none)) else (none)) else (language_Language_SplitExtensionTags.l0 k x0 x4 (wrap64 (x5 + 1)))) else (none)) else (none))) else (language_Language_SplitExtensionTags.l0 k x0 x4 (wrap64 (x5 + 1)))
end
def language_Language_SplitExtensionTags.f (k : Nat) (a0 : ByteArray) : Option (ByteArray × ByteArray) := if (a0.size : Int) ≥ 2 then (if 0 < (a0.size : Int) then (if (bt a0 0) = 120 then (if 1 < (a0.size : Int) then (language_Language_SplitExtensionTags.j0 k a0 ((bt a0 1) == 45)) else (none)) else (language_Language_SplitExtensionTags.j0 k a0 false)) else (none)) else (language_Language_SplitExtensionTags.j0 k a0 false)
theorem language_Language_SplitExtensionTags.mono_l : ∀ k, (∀ y0 y1, LeO (language_Language_SplitExtensionTags.j0 k y0 y1) (language_Language_SplitExtensionTags.j0 (k + 1) y0 y1)) ∧ (∀ y0 y1 y2, LeO (language_Language_SplitExtensionTags.l0 k y0 y1 y2) (language_Language_SplitExtensionTags.l0 (k + 1) y0 y1 y2)) ∧ (∀ y0 y1 y2 y3, LeO (language_Language_SplitExtensionTags.j2 k y0 y1 y2 y3) (language_Language_SplitExtensionTags.j2 (k + 1) y0 y1 y2 y3))
  | 0 => ⟨fun _ _ r h => by simp [language_Language_SplitExtensionTags.j0] at h, fun _ _ _ r h => by simp [language_Language_SplitExtensionTags.l0] at h, fun _ _ _ _ r h => by simp [language_Language_SplitExtensionTags.j2] at h⟩
  | k + 1 => by
    obtain ⟨ih0, ih1, ih2⟩ := language_Language_SplitExtensionTags.mono_l k
    refine ⟨?_, ?_, ?_⟩
    · intro y0 y1
      unfold language_Language_SplitExtensionTags.j0
      repeat' first
      | (with_reducible exact ih0 _ _)
      | (with_reducible exact ih1 _ _ _)
      | (with_reducible exact ih2 _ _ _ _)
      | (with_reducible exact LeO.refl _)
      | (with_reducible exact LeO.none _)
      | (with_reducible refine LeO.ite ?_ ?_)
      | (with_reducible refine LeO.bind ?_ (fun _ => ?_))
      | exact ih0 _ _
      | exact ih1 _ _ _
      | exact ih2 _ _ _ _
      | exact LeO.none _
      | refine LeO.ite ?_ ?_
      | refine LeO.bind ?_ (fun _ => ?_)
    · intro y0 y1 y2
      unfold language_Language_SplitExtensionTags.l0
      repeat' first
      | (with_reducible exact ih0 _ _)
      | (with_reducible exact ih1 _ _ _)
      | (with_reducible exact ih2 _ _ _ _)
      | (with_reducible exact LeO.refl _)
      | (with_reducible exact LeO.none _)
      | (with_reducible refine LeO.ite ?_ ?_)
      | (with_reducible refine LeO.bind ?_ (fun _ => ?_))
      | exact ih0 _ _
      | exact ih1 _ _ _
      | exact ih2 _ _ _ _
      | exact LeO.none _
      | refine LeO.ite ?_ ?_
      | refine LeO.bind ?_ (fun _ => ?_)
    · intro y0 y1 y2 y3
      unfold language_Language_SplitExtensionTags.j2
      repeat' first
      | (with_reducible exact ih0 _ _)
      | (with_reducible exact ih1 _ _ _)
      | (with_reducible exact ih2 _ _ _ _)
      | (with_reducible exact LeO.refl _)
      | (with_reducible exact LeO.none _)
      | (with_reducible refine LeO.ite ?_ ?_)
      | (with_reducible refine LeO.bind ?_ (fun _ => ?_))
      | exact ih0 _ _
      | exact ih1 _ _ _
      | exact ih2 _ _ _ _
      | exact LeO.none _
      | refine LeO.ite ?_ ?_
      | refine LeO.bind ?_ (fun _ => ?_)
theorem language_Language_SplitExtensionTags.mono : ∀ a0 k, LeO (language_Language_SplitExtensionTags.f k a0) (language_Language_SplitExtensionTags.f (k + 1) a0) := by
  intro a0 k
  obtain ⟨ih0, ih1, ih2⟩ := language_Language_SplitExtensionTags.mono_l k
  unfold language_Language_SplitExtensionTags.f
  repeat' first
      | (with_reducible exact ih0 _ _)
      | (with_reducible exact ih1 _ _ _)
      | (with_reducible exact ih2 _ _ _ _)
      | (with_reducible exact LeO.refl _)
      | (with_reducible exact LeO.none _)
      | (with_reducible refine LeO.ite ?_ ?_)
      | (with_reducible refine LeO.bind ?_ (fun _ => ?_))
      | exact ih0 _ _
      | exact ih1 _ _ _
      | exact ih2 _ _ _ _
      | exact LeO.none _
      | refine LeO.ite ?_ ?_
      | refine LeO.bind ?_ (fun _ => ?_)
set_option maxHeartbeats 8000000 in
set_option maxRecDepth 100000 in
theorem language_Language_SplitExtensionTags.calls (k : Nat) (a0 : ByteArray) (r1 : ByteArray) (r2 : ByteArray) (w : World) (h : language_Language_SplitExtensionTags.f k a0 = some (r1, r2)) :
    Calls Try.prog 56 #[.string a0] w fun e w' => e = .returned (.tuple #[.string r1, .string r2]) ∧ Drawn0 w w' := by
  have H : (if (a0.size : Int) ≥ 2 then (if 0 < (a0.size : Int) then (if (bt a0 0) = 120 then (if 1 < (a0.size : Int) then (language_Language_SplitExtensionTags.j0 k a0 ((bt a0 1) == 45)) else (none)) else (language_Language_SplitExtensionTags.j0 k a0 false)) else (none)) else (language_Language_SplitExtensionTags.j0 k a0 false)) = some (r1, r2) := h
  clear h
  have HC2 := Aside0.mk H
  clear H
  go_enter Try.func56, Try.ntmps56
  go_upto_region 1 with (fail)
  repeat (go_quiet (fail); go_upto_region 1 with (fail))
  go_cut [18] (fun v18 wc => ∃ (kq : Nat) (x18_1 : Bool), v18 = .bool x18_1 ∧ Aside0 (language_Language_SplitExtensionTags.j0 kq a0 x18_1 = some (r1, r2)) ∧ Aside0 (kq ≤ k) ∧ Drawn0 w wc)
  case first =>
    have H := HC2.out
    clear HC2
    by_cases c3 : (a0.size : Int) ≥ 2
    · rw [if_pos c3] at H
      have c3b0 : decide (2 ≤ (a0.size : Int)) = true := decide_eq_true c3
      have c3b1 : decide (2 ≤ a0.size) = true := decide_eq_true (by omega)
      clear c3
      (first | rw [c3b0] | (simp only [i64_w, i32_w]; rw [c3b0]) | skip)
      by_cases c4 : 0 < (a0.size : Int)
      · rw [if_pos c4] at H
        have c4b0 : decide (0 < (a0.size : Int)) = true := decide_eq_true c4
        have c4b1 : decide (0 < a0.size) = true := decide_eq_true (by omega)
        clear c4
        by_cases c6 : (bt a0 0) = 120
        · rw [if_pos c6] at H
          have c6b0 : ((bt a0 0) == 120) = true := beq_iff_eq.mpr c6
          have c6b1 : ((bt a0 0) != 120) = false := bne_eq_false_iff_eq.mpr c6
          clear c6
          by_cases c7 : 1 < (a0.size : Int)
          · rw [if_pos c7] at H
            have c7b0 : decide (1 < (a0.size : Int)) = true := decide_eq_true c7
            have c7b1 : decide (1 < a0.size) = true := decide_eq_true (by omega)
            clear c7
            have H' := Aside0.mk H
            clear H
            have p5 : 0 ≤ (0 : Int) := (by omega)
            have q5 : 0 < a0.size := (by have : (0 : Int) < (a0.size : Int) := of_decide_eq_true (by first | (with_reducible assumption) | assumption); omega)
            have hx5 : ∀ h : 0 < a0.size, ((a0[0]'h).toNat : Int) = bt a0 0 := bt_at a0 0
            clear p5
            have qi5 : (0 < (a0.size : Int)) = True := eq_true (of_decide_eq_true (by first | (with_reducible assumption) | assumption))
            replace q5 := eq_true q5
            have p8 : 0 ≤ (1 : Int) := (by omega)
            have q8 : 1 < a0.size := (by have : (1 : Int) < (a0.size : Int) := of_decide_eq_true (by first | (with_reducible assumption) | assumption); omega)
            have hx8 : ∀ h : 1 < a0.size, ((a0[1]'h).toNat : Int) = bt a0 1 := bt_at a0 1
            clear p8
            have qi8 : (1 < (a0.size : Int)) = True := eq_true (of_decide_eq_true (by first | (with_reducible assumption) | assumption))
            replace q8 := eq_true q8
            go_wp2
            repeat (go_quiet (fail); try go_wp2)
            go_meet
            case rel => exact ⟨_, (((bt a0 1) == 45)), (by first | rfl | (simp; done) | (simp [*]; done)), H', ⟨by first | omega | exact Nat.le_refl _⟩, by repeat (first | exact Drawn0.refl _ | apply Drawn0.step)⟩
          · rw [if_neg c7] at H
            exact absurd H (by simp)
        · rw [if_neg c6] at H
          have c6b0 : ((bt a0 0) == 120) = false := beq_eq_false_iff_ne.mpr c6
          have c6b1 : ((bt a0 0) != 120) = true := bne_iff_ne.mpr c6
          have H' := Aside0.mk H
          clear H
          have p5 : 0 ≤ (0 : Int) := (by omega)
          have q5 : 0 < a0.size := (by have : (0 : Int) < (a0.size : Int) := of_decide_eq_true (by first | (with_reducible assumption) | assumption); omega)
          have hx5 : ∀ h : 0 < a0.size, ((a0[0]'h).toNat : Int) = bt a0 0 := bt_at a0 0
          clear p5
          have qi5 : (0 < (a0.size : Int)) = True := eq_true (of_decide_eq_true (by first | (with_reducible assumption) | assumption))
          replace q5 := eq_true q5
          go_wp2
          repeat (go_quiet (fail); try go_wp2)
          go_meet
          case rel => exact ⟨_, (false), (by first | rfl | (simp; done) | (simp [*]; done)), H', ⟨by first | omega | exact Nat.le_refl _⟩, by repeat (first | exact Drawn0.refl _ | apply Drawn0.step)⟩
      · rw [if_neg c4] at H
        exact absurd H (by simp)
    · rw [if_neg c3] at H
      have c3b0 : decide (2 ≤ (a0.size : Int)) = false := decide_eq_false c3
      have c3b1 : decide (2 ≤ a0.size) = false := decide_eq_false (by omega)
      clear c3
      (first | rw [c3b0] | (simp only [i64_w, i32_w]; rw [c3b0]) | skip)
      have H' := Aside0.mk H
      clear H
      go_wp2
      repeat (go_quiet (fail); try go_wp2)
      go_meet
      case rel => exact ⟨_, (false), (by first | rfl | (simp; done) | (simp [*]; done)), H', ⟨by first | omega | exact Nat.le_refl _⟩, by repeat (first | exact Drawn0.refl _ | apply Drawn0.step)⟩
  case rest =>
    clear HC2
    try clear p2
    try clear c3
    try clear c3b0
    try clear c3b1
    try clear c4
    try clear c4b0
    try clear c4b1
    try clear c5
    try clear p5
    try clear q5
    try clear hx5
    try clear qi5
    try clear c6
    try clear c6b0
    try clear c6b1
    try clear c7
    try clear c7b0
    try clear c7b1
    try clear p8
    try clear q8
    try clear hx8
    try clear qi8
    try clear p5
    try clear p8
    try clear q5
    try clear q8
    obtain ⟨kq, x18_1, rfl, HA, HJ1, ⟨mc1, rfl⟩⟩ := hcut
    cases kq with
    | zero => exact absurd HA.out (by simp [language_Language_SplitExtensionTags.j0])
    | succ kj1 =>
      have H := HA.out
      clear HA
      simp only [language_Language_SplitExtensionTags.j0] at H
      by_cases c9 : x18_1 = true
      · subst c9
        have H1 : (some ((⟨#[]⟩ : ByteArray), a0)) = some (r1, r2) := by rw [if_pos rfl] at H; exact H
        clear H
        have H := H1
        clear H1
        simp only [Option.some.injEq, Prod.mk.injEq] at H
        obtain ⟨rfl, rfl⟩ := H
        go_wp2
        repeat (go_quiet (fail); try go_wp2)
        go_ret2
        exact ⟨by first | rfl | (simp; done) | (simp [*]; done), by repeat (first | exact Drawn0.refl _ | apply Drawn0.step)⟩
      · replace c9 := Bool.eq_false_iff.mpr c9
        subst c9
        have H1 : (language_Language_SplitExtensionTags.l0 kj1 a0 (-1) 0) = some (r1, r2) := by rw [if_neg (show ¬ (false = true) by decide)] at H; exact H
        clear H
        have H := H1
        clear H1
        have H' := Aside0.mk H
        clear H
        go_wp2
        repeat (go_quiet (fail); try go_wp2)
        go_loopg [4, 5] kj1 (fun kq v4 v5 w' => ∃ (x4_2 : Int) (x5_2 : Int), v4 = .int .i64 x4_2 ∧ v5 = .int .i64 x5_2 ∧ Aside0 (language_Language_SplitExtensionTags.l0 kq a0 x4_2 x5_2 = some (r1, r2)) ∧ Aside0 (kq ≤ kj1) ∧ Drawn0 w w')
        case atStart => exact ⟨((-1)), (0), (by first | rfl | (simp; done) | (simp [*]; done)), (by first | rfl | (simp; done) | (simp [*]; done)), H', ⟨Nat.le_refl _⟩, by repeat (first | exact Drawn0.refl _ | apply Drawn0.step)⟩
        case round =>
          clear H'
          try clear c1
          try clear p2
          try clear c3
          try clear c3b0
          try clear c3b1
          try clear c4
          try clear c4b0
          try clear c4b1
          try clear c5
          try clear p5
          try clear q5
          try clear hx5
          try clear qi5
          try clear c6
          try clear c6b0
          try clear c6b1
          try clear c7
          try clear c7b0
          try clear c7b1
          try clear p8
          try clear q8
          try clear hx8
          try clear qi8
          try clear c9
          try clear p2
          try clear p5
          try clear p8
          try clear q5
          try clear q8
          obtain ⟨x4_2, x5_2, rfl, rfl, HA, HK2, ⟨m2, rfl⟩⟩ := hrel
          cases gk with
          | zero => exact absurd HA.out (by simp [language_Language_SplitExtensionTags.l0])
          | succ k2 =>
            have H := HA.out
            clear HA
            simp only [language_Language_SplitExtensionTags.l0] at H
            by_cases c10 : (wrap64 (x5_2 + 3)) < (a0.size : Int)
            · rw [if_pos c10] at H
              have c10b0 : decide ((wrap64 (x5_2 + 3)) < (a0.size : Int)) = true := decide_eq_true c10
              clear c10
              have HC11 := Aside0.mk H
              clear H
              go_upto_region 7 with (fail)
              repeat (go_quiet (fail); go_upto_region 7 with (fail))
              go_cut [37] (fun v37 wc => ∃ (kq : Nat) (x37_10 : Bool), v37 = .bool x37_10 ∧ Aside0 (language_Language_SplitExtensionTags.j2 kq a0 x4_2 x5_2 x37_10 = some (r1, r2)) ∧ Aside0 (kq ≤ k2) ∧ Drawn0 w wc)
              case first =>
                have H := HC11.out
                clear HC11
                by_cases c12 : 0 ≤ x5_2
                · rw [if_pos c12] at H
                  have c12b0 : decide (0 ≤ x5_2) = true := decide_eq_true c12
                  clear c12
                  (first | rw [c12b0] | (simp only [i64_w, i32_w]; rw [c12b0]) | skip)
                  by_cases c13 : x5_2 < (a0.size : Int)
                  · rw [if_pos c13] at H
                    have c13b0 : decide (x5_2 < (a0.size : Int)) = true := decide_eq_true c13
                    clear c13
                    by_cases c15 : (bt a0 x5_2) = 45
                    · rw [if_pos c15] at H
                      have c15b0 : ((bt a0 x5_2) == 45) = true := beq_iff_eq.mpr c15
                      have c15b1 : ((bt a0 x5_2) != 45) = false := bne_eq_false_iff_eq.mpr c15
                      clear c15
                      obtain ⟨ji16, hji16⟩ : ∃ j_ : Int, (wrap64 (x5_2 + 2)) = j_ := ⟨_, rfl⟩
                      replace H : (if 0 ≤ (ji16) then (if (ji16) < (a0.size : Int) then (language_Language_SplitExtensionTags.j2 k2 a0 x4_2 x5_2 ((bt a0 (ji16)) == 45)) else (none)) else (none)) = some (r1, r2) := by first | (rw [hji16] at H; exact H) | (simp only [hji16] at H ⊢; exact H)
                      have hji16w : (IntKind.i64.wrap (x5_2 + 2)) = ji16 := (i64_w _).trans hji16
                      by_cases c17 : 0 ≤ (ji16)
                      · rw [if_pos c17] at H
                        have c17b0 : decide (0 ≤ (ji16)) = true := decide_eq_true c17
                        clear c17
                        by_cases c18 : (ji16) < (a0.size : Int)
                        · rw [if_pos c18] at H
                          have c18b0 : decide ((ji16) < (a0.size : Int)) = true := decide_eq_true c18
                          clear c18
                          have H' := Aside0.mk H
                          clear H
                          have p14 : 0 ≤ (x5_2 : Int) := of_decide_eq_true (by first | (with_reducible assumption) | assumption)
                          have q14 : x5_2 < (a0.size : Int) := of_decide_eq_true (by first | (with_reducible assumption) | assumption)
                          have hx14 := bt_at a0 x5_2
                          replace p14 := eq_true p14
                          replace q14 := eq_true q14
                          have p19 : 0 ≤ ((ji16) : Int) := of_decide_eq_true (by first | (with_reducible assumption) | assumption)
                          have q19 : (ji16) < (a0.size : Int) := of_decide_eq_true (by first | (with_reducible assumption) | assumption)
                          have hx19 := bt_at a0 (ji16)
                          replace p19 := eq_true p19
                          replace q19 := eq_true q19
                          go_wp2
                          repeat (go_quiet (fail); try go_wp2)
                          go_meet
                          case rel => exact ⟨_, (((bt a0 (ji16)) == 45)), (by first | rfl | (simp; done) | (simp only [← hji16] <;> (first | rfl | simp)) | (simp [*]; done)), H', ⟨by have := HJ1.out; have := HK2.out; first | omega | exact Nat.le_refl _⟩, by repeat (first | exact Drawn0.refl _ | apply Drawn0.step)⟩
                        · rw [if_neg c18] at H
                          exact absurd H (by simp)
                      · rw [if_neg c17] at H
                        exact absurd H (by simp)
                    · rw [if_neg c15] at H
                      have c15b0 : ((bt a0 x5_2) == 45) = false := beq_eq_false_iff_ne.mpr c15
                      have c15b1 : ((bt a0 x5_2) != 45) = true := bne_iff_ne.mpr c15
                      have H' := Aside0.mk H
                      clear H
                      have p14 : 0 ≤ (x5_2 : Int) := of_decide_eq_true (by first | (with_reducible assumption) | assumption)
                      have q14 : x5_2 < (a0.size : Int) := of_decide_eq_true (by first | (with_reducible assumption) | assumption)
                      have hx14 := bt_at a0 x5_2
                      replace p14 := eq_true p14
                      replace q14 := eq_true q14
                      go_wp2
                      repeat (go_quiet (fail); try go_wp2)
                      go_meet
                      case rel => exact ⟨_, (false), (by first | rfl | (simp; done) | (simp [*]; done)), H', ⟨by have := HJ1.out; have := HK2.out; first | omega | exact Nat.le_refl _⟩, by repeat (first | exact Drawn0.refl _ | apply Drawn0.step)⟩
                  · rw [if_neg c13] at H
                    exact absurd H (by simp)
                · rw [if_neg c12] at H
                  exact absurd H (by simp)
              case rest =>
                clear HC11
                try clear c1
                try clear p1
                try clear q1
                try clear hx1
                try clear p2
                try clear c3
                try clear c3b0
                try clear c3b1
                try clear c4
                try clear c4b0
                try clear c4b1
                try clear c5
                try clear p5
                try clear q5
                try clear hx5
                try clear qi5
                try clear c6
                try clear c6b0
                try clear c6b1
                try clear p6
                try clear c7
                try clear c7b0
                try clear c7b1
                try clear p8
                try clear q8
                try clear hx8
                try clear qi8
                try clear c9
                try clear c10
                try clear c10b0
                try clear c12
                try clear c12b0
                try clear c13
                try clear c13b0
                try clear p14
                try clear q14
                try clear hx14
                try clear c15
                try clear c15b0
                try clear c15b1
                try clear c17
                try clear c17b0
                try clear c18
                try clear c18b0
                try clear p19
                try clear q19
                try clear hx19
                try clear p14
                try clear p19
                try clear p2
                try clear p5
                try clear p8
                try clear q14
                try clear q19
                try clear q5
                try clear q8
                obtain ⟨kq, x37_10, rfl, HA, HJ10, ⟨mc10, rfl⟩⟩ := hcut
                cases kq with
                | zero => exact absurd HA.out (by simp [language_Language_SplitExtensionTags.j2])
                | succ kj10 =>
                  have H := HA.out
                  clear HA
                  simp only [language_Language_SplitExtensionTags.j2] at H
                  by_cases c20 : x37_10 = true
                  · subst c20
                    have H1 : (if x4_2 = (-1) then (if 0 ≤ (wrap64 (x5_2 + 1)) then (if (wrap64 (x5_2 + 1)) < (a0.size : Int) then (if (bt a0 (wrap64 (x5_2 + 1))) = 120 then (if 0 ≤ x5_2 then (if x5_2 ≤ (a0.size : Int) then (if (wrap64 (x5_2 + 1)) ≤ (a0.size : Int) then (some (a0.extract 0 (x5_2 : Int).toNat, a0.extract ((wrap64 (x5_2 + 1)) : Int).toNat a0.size)) else (none)) else (none)) else (none)) else (language_Language_SplitExtensionTags.l0 kj10 a0 x5_2 (wrap64 (x5_2 + 1)))) else (none)) else (none)) else (if 0 ≤ (wrap64 (x5_2 + 1)) then (if (wrap64 (x5_2 + 1)) < (a0.size : Int) then (if (bt a0 (wrap64 (x5_2 + 1))) = 120 then (if 0 ≤ x4_2 then (if x4_2 ≤ (a0.size : Int) then (if (wrap64 (x5_2 + 1)) ≤ (a0.size : Int) then (some (a0.extract 0 (x4_2 : Int).toNat, a0.extract ((wrap64 (x5_2 + 1)) : Int).toNat a0.size)) else (none)) else (none)) else (none)) else (language_Language_SplitExtensionTags.l0 kj10 a0 x4_2 (wrap64 (x5_2 + 1)))) else (none)) else (none))) = some (r1, r2) := by rw [if_pos rfl] at H; exact H
                    clear H
                    have H := H1
                    clear H1
                    by_cases c21 : x4_2 = (-1)
                    · rw [if_pos c21] at H
                      have c21b0 : (x4_2 == (-1)) = true := beq_iff_eq.mpr c21
                      have c21b1 : (x4_2 != (-1)) = false := bne_eq_false_iff_eq.mpr c21
                      clear c21
                      obtain ⟨ji22, hji22⟩ : ∃ j_ : Int, (wrap64 (x5_2 + 1)) = j_ := ⟨_, rfl⟩
                      replace H : (if 0 ≤ (ji22) then (if (ji22) < (a0.size : Int) then (if (bt a0 (ji22)) = 120 then (if 0 ≤ x5_2 then (if x5_2 ≤ (a0.size : Int) then (if (ji22) ≤ (a0.size : Int) then (some (a0.extract 0 (x5_2 : Int).toNat, a0.extract ((ji22) : Int).toNat a0.size)) else (none)) else (none)) else (none)) else (language_Language_SplitExtensionTags.l0 kj10 a0 x5_2 ji22)) else (none)) else (none)) = some (r1, r2) := by first | (rw [hji22] at H; exact H) | (simp only [hji22] at H ⊢; exact H)
                      have hji22w : (IntKind.i64.wrap (x5_2 + 1)) = ji22 := (i64_w _).trans hji22
                      by_cases c23 : 0 ≤ (ji22)
                      · rw [if_pos c23] at H
                        have c23b0 : decide (0 ≤ (ji22)) = true := decide_eq_true c23
                        clear c23
                        by_cases c24 : (ji22) < (a0.size : Int)
                        · rw [if_pos c24] at H
                          have c24b0 : decide ((ji22) < (a0.size : Int)) = true := decide_eq_true c24
                          clear c24
                          by_cases c26 : (bt a0 (ji22)) = 120
                          · rw [if_pos c26] at H
                            have c26b0 : ((bt a0 (ji22)) == 120) = true := beq_iff_eq.mpr c26
                            have c26b1 : ((bt a0 (ji22)) != 120) = false := bne_eq_false_iff_eq.mpr c26
                            clear c26
                            by_cases c27 : 0 ≤ x5_2
                            · rw [if_pos c27] at H
                              have c27b0 := eq_true c27
                              have c27b1 : decide (0 ≤ x5_2) = true := decide_eq_true c27
                              clear c27
                              by_cases c28 : x5_2 ≤ (a0.size : Int)
                              · rw [if_pos c28] at H
                                have c28b0 := eq_true c28
                                have c28b1 : decide (x5_2 ≤ (a0.size : Int)) = true := decide_eq_true c28
                                clear c28
                                have c29b0 := eq_true (of_decide_eq_true (by first | (with_reducible assumption) | assumption) : 0 ≤ (ji22))
                                by_cases c30 : (ji22) ≤ (a0.size : Int)
                                · rw [if_pos c30] at H
                                  have c30b0 := eq_true c30
                                  have c30b1 : decide ((ji22) ≤ (a0.size : Int)) = true := decide_eq_true c30
                                  clear c30
                                  simp only [Option.some.injEq, Prod.mk.injEq] at H
                                  obtain ⟨rfl, rfl⟩ := H
                                  have p25 : 0 ≤ ((ji22) : Int) := of_decide_eq_true (by first | (with_reducible assumption) | assumption)
                                  have q25 : (ji22) < (a0.size : Int) := of_decide_eq_true (by first | (with_reducible assumption) | assumption)
                                  have hx25 := bt_at a0 (ji22)
                                  replace p25 := eq_true p25
                                  replace q25 := eq_true q25
                                  go_wp2
                                  repeat (go_quiet (fail); try go_wp2)
                                  go_ret2
                                  exact ⟨by first | rfl | (simp; done) | (simp only [← hji22] <;> (first | rfl | simp)) | (simp [*]; done), by repeat (first | exact Drawn0.refl _ | apply Drawn0.step)⟩
                                · rw [if_neg c30] at H
                                  exact absurd H (by simp)
                              · rw [if_neg c28] at H
                                exact absurd H (by simp)
                            · rw [if_neg c27] at H
                              exact absurd H (by simp)
                          · rw [if_neg c26] at H
                            have c26b0 : ((bt a0 (ji22)) == 120) = false := beq_eq_false_iff_ne.mpr c26
                            have c26b1 : ((bt a0 (ji22)) != 120) = true := bne_iff_ne.mpr c26
                            have H' := Aside0.mk H
                            clear H
                            have p25 : 0 ≤ ((ji22) : Int) := of_decide_eq_true (by first | (with_reducible assumption) | assumption)
                            have q25 : (ji22) < (a0.size : Int) := of_decide_eq_true (by first | (with_reducible assumption) | assumption)
                            have hx25 := bt_at a0 (ji22)
                            replace p25 := eq_true p25
                            replace q25 := eq_true q25
                            go_wp2
                            repeat (go_quiet (fail); try go_wp2)
                            go_roundg kj10
                            case measure => have := HJ1.out; have := HK2.out; have := HJ10.out; omega
                            case rel => exact ⟨(x5_2), (ji22), (by first | rfl | (simp; done) | (simp [*]; done)), (by first | rfl | (simp; done) | (simp only [← hji22] <;> (first | rfl | simp)) | (simp [*]; done)), H', ⟨by have := HJ1.out; have := HK2.out; have := HJ10.out; omega⟩, by repeat (first | exact Drawn0.refl _ | apply Drawn0.step)⟩
                        · rw [if_neg c24] at H
                          exact absurd H (by simp)
                      · rw [if_neg c23] at H
                        exact absurd H (by simp)
                    · rw [if_neg c21] at H
                      have c21b0 : (x4_2 == (-1)) = false := beq_eq_false_iff_ne.mpr c21
                      have c21b1 : (x4_2 != (-1)) = true := bne_iff_ne.mpr c21
                      obtain ⟨ji31, hji31⟩ : ∃ j_ : Int, (wrap64 (x5_2 + 1)) = j_ := ⟨_, rfl⟩
                      replace H : (if 0 ≤ (ji31) then (if (ji31) < (a0.size : Int) then (if (bt a0 (ji31)) = 120 then (if 0 ≤ x4_2 then (if x4_2 ≤ (a0.size : Int) then (if (ji31) ≤ (a0.size : Int) then (some (a0.extract 0 (x4_2 : Int).toNat, a0.extract ((ji31) : Int).toNat a0.size)) else (none)) else (none)) else (none)) else (language_Language_SplitExtensionTags.l0 kj10 a0 x4_2 ji31)) else (none)) else (none)) = some (r1, r2) := by first | (rw [hji31] at H; exact H) | (simp only [hji31] at H ⊢; exact H)
                      have hji31w : (IntKind.i64.wrap (x5_2 + 1)) = ji31 := (i64_w _).trans hji31
                      by_cases c32 : 0 ≤ (ji31)
                      · rw [if_pos c32] at H
                        have c32b0 : decide (0 ≤ (ji31)) = true := decide_eq_true c32
                        clear c32
                        by_cases c33 : (ji31) < (a0.size : Int)
                        · rw [if_pos c33] at H
                          have c33b0 : decide ((ji31) < (a0.size : Int)) = true := decide_eq_true c33
                          clear c33
                          by_cases c35 : (bt a0 (ji31)) = 120
                          · rw [if_pos c35] at H
                            have c35b0 : ((bt a0 (ji31)) == 120) = true := beq_iff_eq.mpr c35
                            have c35b1 : ((bt a0 (ji31)) != 120) = false := bne_eq_false_iff_eq.mpr c35
                            clear c35
                            by_cases c36 : 0 ≤ x4_2
                            · rw [if_pos c36] at H
                              have c36b0 := eq_true c36
                              have c36b1 : decide (0 ≤ x4_2) = true := decide_eq_true c36
                              clear c36
                              by_cases c37 : x4_2 ≤ (a0.size : Int)
                              · rw [if_pos c37] at H
                                have c37b0 := eq_true c37
                                have c37b1 : decide (x4_2 ≤ (a0.size : Int)) = true := decide_eq_true c37
                                clear c37
                                have c38b0 := eq_true (of_decide_eq_true (by first | (with_reducible assumption) | assumption) : 0 ≤ (ji31))
                                by_cases c39 : (ji31) ≤ (a0.size : Int)
                                · rw [if_pos c39] at H
                                  have c39b0 := eq_true c39
                                  have c39b1 : decide ((ji31) ≤ (a0.size : Int)) = true := decide_eq_true c39
                                  clear c39
                                  simp only [Option.some.injEq, Prod.mk.injEq] at H
                                  obtain ⟨rfl, rfl⟩ := H
                                  have p34 : 0 ≤ ((ji31) : Int) := of_decide_eq_true (by first | (with_reducible assumption) | assumption)
                                  have q34 : (ji31) < (a0.size : Int) := of_decide_eq_true (by first | (with_reducible assumption) | assumption)
                                  have hx34 := bt_at a0 (ji31)
                                  replace p34 := eq_true p34
                                  replace q34 := eq_true q34
                                  go_wp2
                                  repeat (go_quiet (fail); try go_wp2)
                                  go_ret2
                                  exact ⟨by first | rfl | (simp; done) | (simp only [← hji31] <;> (first | rfl | simp)) | (simp [*]; done), by repeat (first | exact Drawn0.refl _ | apply Drawn0.step)⟩
                                · rw [if_neg c39] at H
                                  exact absurd H (by simp)
                              · rw [if_neg c37] at H
                                exact absurd H (by simp)
                            · rw [if_neg c36] at H
                              exact absurd H (by simp)
                          · rw [if_neg c35] at H
                            have c35b0 : ((bt a0 (ji31)) == 120) = false := beq_eq_false_iff_ne.mpr c35
                            have c35b1 : ((bt a0 (ji31)) != 120) = true := bne_iff_ne.mpr c35
                            have H' := Aside0.mk H
                            clear H
                            have p34 : 0 ≤ ((ji31) : Int) := of_decide_eq_true (by first | (with_reducible assumption) | assumption)
                            have q34 : (ji31) < (a0.size : Int) := of_decide_eq_true (by first | (with_reducible assumption) | assumption)
                            have hx34 := bt_at a0 (ji31)
                            replace p34 := eq_true p34
                            replace q34 := eq_true q34
                            go_wp2
                            repeat (go_quiet (fail); try go_wp2)
                            go_roundg kj10
                            case measure => have := HJ1.out; have := HK2.out; have := HJ10.out; omega
                            case rel => exact ⟨(x4_2), (ji31), (by first | rfl | (simp; done) | (simp [*]; done)), (by first | rfl | (simp; done) | (simp only [← hji31] <;> (first | rfl | simp)) | (simp [*]; done)), H', ⟨by have := HJ1.out; have := HK2.out; have := HJ10.out; omega⟩, by repeat (first | exact Drawn0.refl _ | apply Drawn0.step)⟩
                        · rw [if_neg c33] at H
                          exact absurd H (by simp)
                      · rw [if_neg c32] at H
                        exact absurd H (by simp)
                  · replace c20 := Bool.eq_false_iff.mpr c20
                    subst c20
                    have H1 : (language_Language_SplitExtensionTags.l0 kj10 a0 x4_2 (wrap64 (x5_2 + 1))) = some (r1, r2) := by rw [if_neg (show ¬ (false = true) by decide)] at H; exact H
                    clear H
                    have H := H1
                    clear H1
                    have H' := Aside0.mk H
                    clear H
                    go_wp2
                    repeat (go_quiet (fail); try go_wp2)
                    go_roundg kj10
                    case measure => have := HJ1.out; have := HK2.out; have := HJ10.out; omega
                    case rel => exact ⟨(x4_2), (wrap64 (x5_2 + 1)), (by first | rfl | (simp; done) | (simp [*]; done)), (by first | rfl | (simp; done) | (simp [*]; done)), H', ⟨by have := HJ1.out; have := HK2.out; have := HJ10.out; omega⟩, by repeat (first | exact Drawn0.refl _ | apply Drawn0.step)⟩
            · rw [if_neg c10] at H
              have c10b0 : decide ((wrap64 (x5_2 + 3)) < (a0.size : Int)) = false := decide_eq_false c10
              clear c10
              by_cases c40 : x4_2 = (-1)
              · rw [if_pos c40] at H
                have c40b0 : (x4_2 == (-1)) = true := beq_iff_eq.mpr c40
                have c40b1 : (x4_2 != (-1)) = false := bne_eq_false_iff_eq.mpr c40
                clear c40
                simp only [Option.some.injEq, Prod.mk.injEq] at H
                obtain ⟨rfl, rfl⟩ := H
                go_wp2
                repeat (go_quiet (fail); try go_wp2)
                go_ret2
                exact ⟨by first | rfl | (simp; done) | (simp [*]; done), by repeat (first | exact Drawn0.refl _ | apply Drawn0.step)⟩
              · rw [if_neg c40] at H
                have c40b0 : (x4_2 == (-1)) = false := beq_eq_false_iff_ne.mpr c40
                have c40b1 : (x4_2 != (-1)) = true := bne_iff_ne.mpr c40
                by_cases c41 : 0 ≤ x4_2
                · rw [if_pos c41] at H
                  have c41b0 := eq_true c41
                  have c41b1 : decide (0 ≤ x4_2) = true := decide_eq_true c41
                  clear c41
                  by_cases c42 : x4_2 ≤ (a0.size : Int)
                  · rw [if_pos c42] at H
                    have c42b0 := eq_true c42
                    have c42b1 : decide (x4_2 ≤ (a0.size : Int)) = true := decide_eq_true c42
                    clear c42
                    simp only [Option.some.injEq, Prod.mk.injEq] at H
                    obtain ⟨rfl, rfl⟩ := H
                    go_wp2
                    repeat (go_quiet (fail); try go_wp2)
                    go_ret2
                    exact ⟨by first | rfl | (simp; done) | (simp [*]; done), by repeat (first | exact Drawn0.refl _ | apply Drawn0.step)⟩
                  · rw [if_neg c42] at H
                    exact absurd H (by simp)
                · rw [if_neg c41] at H
                  exact absurd H (by simp)

/-! ### impl_LangSplit: function 29 -/
def impl_LangSplit.f (k : Nat) (a0 : ByteArray) : Option (ByteArray × ByteArray) := (language_Language_SplitExtensionTags.f k a0).bind fun bt132 => (some (bt132.1, bt132.2))
theorem impl_LangSplit.mono : ∀ a0 k, LeO (impl_LangSplit.f k a0) (impl_LangSplit.f (k + 1) a0) := by
  intro a0 k
  unfold impl_LangSplit.f
  repeat' first
      | (with_reducible exact language_Language_SplitExtensionTags.mono _ _)
      | (with_reducible exact LeO.refl _)
      | (with_reducible exact LeO.none _)
      | (with_reducible refine LeO.ite ?_ ?_)
      | (with_reducible refine LeO.bind ?_ (fun _ => ?_))
      | exact language_Language_SplitExtensionTags.mono _ _
      | exact LeO.none _
      | refine LeO.ite ?_ ?_
      | refine LeO.bind ?_ (fun _ => ?_)
set_option maxHeartbeats 8000000 in
set_option maxRecDepth 100000 in
theorem impl_LangSplit.calls (k : Nat) (a0 : ByteArray) (r1 : ByteArray) (r2 : ByteArray) (w : World) (h : impl_LangSplit.f k a0 = some (r1, r2)) :
    Calls Try.prog 29 #[.string a0] w fun e w' => e = .returned (.tuple #[.string r1, .string r2]) ∧ Drawn0 w w' := by
  have H : ((language_Language_SplitExtensionTags.f k a0).bind fun bt132 => (some (bt132.1, bt132.2))) = some (r1, r2) := h
  clear h
  replace H := Option.bind_eq_some_iff.mp H
  obtain ⟨⟨t132, t133⟩, A20, H⟩ := H
  replace H : (some (t132, t133)) = some (r1, r2) := H
  have A2 := Aside0.mk A20
  clear A20
  simp only [Option.some.injEq, Prod.mk.injEq] at H
  obtain ⟨rfl, rfl⟩ := H
  go_enter Try.func29, Try.ntmps29
  go_wp2_with (first | ((with_reducible refine gate_callee (f := 56) rfl ?_); refine goesL_ (some 8) rfl rfl Try.func56 (by kernel_rfl) rfl #[.string a0] rfl (by (try simp only [List.map_toArray, List.map_cons, List.map_nil]); first | done | rfl | (simp only [List.length_drop, List.length_take]; rfl)) ?_; (with_reducible refine (language_Language_SplitExtensionTags.calls k a0 t132 t133 _ A2.out).mono ?_); rintro e w' ⟨rfl, ⟨nd, rfl⟩⟩; refine ⟨_, rfl, ?_⟩))
  go_ret2
  exact ⟨by first | rfl | (simp; done) | (simp [*]; done), by repeat (first | exact Drawn0.refl _ | apply Drawn0.step)⟩

end Go.Proofs.Ytkfphiccfnfkdaa.PFnLangSplit
