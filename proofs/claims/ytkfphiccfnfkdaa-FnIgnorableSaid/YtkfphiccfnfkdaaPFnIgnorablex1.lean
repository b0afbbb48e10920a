-- Written by a program of this session (xprint) out of the translation; Lean checks it.
import Derived.Test.YtkfphiccfnfkdaaPFnIgnorablex0
namespace Go.Proofs.Ytkfphiccfnfkdaa.PFnIgnorable
open Go.RowKit Go.Proofs.YtkfphiccfnfkdaaW.PrintWords Go.Proofs.YtkfphiccfnfkdaaW.PrintLast Go.Proofs.YtkfphiccfnfkdaaW.PrintMore
attribute [local go_sem] max2_int min2_int max_two min_two max_three min_three max_four min_four   -- for this text's walks alone
set_option linter.unusedVariables false
set_option linter.unusedSimpArgs false

/-! ### harfbuzz_IsDefaultIgnorable: function 57 -/
def harfbuzz_IsDefaultIgnorable.f (a0 : Int) : Option (Bool) := if (a0 / 65536) = 0 then (if (a0 / 256) = 0 then (some (a0 == 173)) else (if (a0 / 256) = 3 then (some (a0 == 847)) else (if (a0 / 256) = 6 then (some (a0 == 1564)) else (if (a0 / 256) = 23 then (if 6068 ≤ a0 then (some (decide (a0 ≤ 6069))) else (some false)) else (if (a0 / 256) = 24 then (if 6155 ≤ a0 then (some (decide (a0 ≤ 6158))) else (some false)) else (if (a0 / 256) = 32 then (if 8203 ≤ a0 then (if a0 ≤ 8207 then (some true) else (if 8234 ≤ a0 then (if a0 ≤ 8238 then (some true) else (if 8288 ≤ a0 then (some (decide (a0 ≤ 8303))) else (some false))) else (if 8288 ≤ a0 then (some (decide (a0 ≤ 8303))) else (some false)))) else (if 8234 ≤ a0 then (if a0 ≤ 8238 then (some true) else (if 8288 ≤ a0 then (some (decide (a0 ≤ 8303))) else (some false))) else (if 8288 ≤ a0 then (some (decide (a0 ≤ 8303))) else (some false)))) else (if (a0 / 256) = 254 then (if 65024 ≤ a0 then (if a0 ≤ 65039 then (some true) else (some (a0 == 65279))) else (some (a0 == 65279))) else (if (a0 / 256) = 255 then (if 65520 ≤ a0 then (some (decide (a0 ≤ 65528))) else (some false)) else (some false))))))))) else (if (a0 / 65536) = 1 then (if 119155 ≤ a0 then (some (decide (a0 ≤ 119162))) else (some false)) else (if (a0 / 65536) = 14 then (if 917504 ≤ a0 then (some (decide (a0 ≤ 921599))) else (some false)) else (some false)))
set_option maxHeartbeats 8000000 in
set_option maxRecDepth 100000 in
theorem harfbuzz_IsDefaultIgnorable.calls (a0 : Int) (r : Bool) (w : World) (h : harfbuzz_IsDefaultIgnorable.f a0 = some r) :
    Calls Try.prog 57 #[.int .i32 a0] w fun e w' => e = .returned (.bool r) ∧ Drawn0 w w' := by
  have H : (if (a0 / 65536) = 0 then (if (a0 / 256) = 0 then (some (a0 == 173)) else (if (a0 / 256) = 3 then (some (a0 == 847)) else (if (a0 / 256) = 6 then (some (a0 == 1564)) else (if (a0 / 256) = 23 then (if 6068 ≤ a0 then (some (decide (a0 ≤ 6069))) else (some false)) else (if (a0 / 256) = 24 then (if 6155 ≤ a0 then (some (decide (a0 ≤ 6158))) else (some false)) else (if (a0 / 256) = 32 then (if 8203 ≤ a0 then (if a0 ≤ 8207 then (some true) else (if 8234 ≤ a0 then (if a0 ≤ 8238 then (some true) else (if 8288 ≤ a0 then (some (decide (a0 ≤ 8303))) else (some false))) else (if 8288 ≤ a0 then (some (decide (a0 ≤ 8303))) else (some false)))) else (if 8234 ≤ a0 then (if a0 ≤ 8238 then (some true) else (if 8288 ≤ a0 then (some (decide (a0 ≤ 8303))) else (some false))) else (if 8288 ≤ a0 then (some (decide (a0 ≤ 8303))) else (some false)))) else (if (a0 / 256) = 254 then (if 65024 ≤ a0 then (if a0 ≤ 65039 then (some true) else (some (a0 == 65279))) else (some (a0 == 65279))) else (if (a0 / 256) = 255 then (if 65520 ≤ a0 then (some (decide (a0 ≤ 65528))) else (some false)) else (some false))))))))) else (if (a0 / 65536) = 1 then (if 119155 ≤ a0 then (some (decide (a0 ≤ 119162))) else (some false)) else (if (a0 / 65536) = 14 then (if 917504 ≤ a0 then (some (decide (a0 ≤ 921599))) else (some false)) else (some false)))) = some r := h
  clear h
  by_cases c2 : (a0 / 65536) = 0
  · rw [if_pos c2] at H
    have c2b0 : ((a0 / 65536) == 0) = true := beq_iff_eq.mpr c2
    have c2b1 : ((a0 / 65536) != 0) = false := bne_eq_false_iff_eq.mpr c2
    clear c2
    by_cases c3 : (a0 / 256) = 0
    · rw [if_pos c3] at H
      have c3b0 : ((a0 / 256) == 0) = true := beq_iff_eq.mpr c3
      have c3b1 : ((a0 / 256) != 0) = false := bne_eq_false_iff_eq.mpr c3
      clear c3
      obtain rfl := Option.some.inj H
      go_enter Try.func57, Try.ntmps57
      go_wp2
      go_ret
      exact ⟨by first | rfl | (simp; done) | (simp [*]; done), by repeat (first | exact Drawn0.refl _ | apply Drawn0.step)⟩
    · rw [if_neg c3] at H
      have c3b0 : ((a0 / 256) == 0) = false := beq_eq_false_iff_ne.mpr c3
      have c3b1 : ((a0 / 256) != 0) = true := bne_iff_ne.mpr c3
      by_cases c4 : (a0 / 256) = 3
      · rw [if_pos c4] at H
        have c4b0 : ((a0 / 256) == 3) = true := beq_iff_eq.mpr c4
        have c4b1 : ((a0 / 256) != 3) = false := bne_eq_false_iff_eq.mpr c4
        clear c4
        obtain rfl := Option.some.inj H
        go_enter Try.func57, Try.ntmps57
        go_wp2
        go_ret
        exact ⟨by first | rfl | (simp; done) | (simp [*]; done), by repeat (first | exact Drawn0.refl _ | apply Drawn0.step)⟩
      · rw [if_neg c4] at H
        have c4b0 : ((a0 / 256) == 3) = false := beq_eq_false_iff_ne.mpr c4
        have c4b1 : ((a0 / 256) != 3) = true := bne_iff_ne.mpr c4
        by_cases c5 : (a0 / 256) = 6
        · rw [if_pos c5] at H
          have c5b0 : ((a0 / 256) == 6) = true := beq_iff_eq.mpr c5
          have c5b1 : ((a0 / 256) != 6) = false := bne_eq_false_iff_eq.mpr c5
          clear c5
          obtain rfl := Option.some.inj H
          go_enter Try.func57, Try.ntmps57
          go_wp2
          go_ret
          exact ⟨by first | rfl | (simp; done) | (simp [*]; done), by repeat (first | exact Drawn0.refl _ | apply Drawn0.step)⟩
        · rw [if_neg c5] at H
          have c5b0 : ((a0 / 256) == 6) = false := beq_eq_false_iff_ne.mpr c5
          have c5b1 : ((a0 / 256) != 6) = true := bne_iff_ne.mpr c5
          by_cases c6 : (a0 / 256) = 23
          · rw [if_pos c6] at H
            have c6b0 : ((a0 / 256) == 23) = true := beq_iff_eq.mpr c6
            have c6b1 : ((a0 / 256) != 23) = false := bne_eq_false_iff_eq.mpr c6
            clear c6
            by_cases c7 : 6068 ≤ a0
            · rw [if_pos c7] at H
              have c7b0 : decide (6068 ≤ a0) = true := decide_eq_true c7
              clear c7
              obtain rfl := Option.some.inj H
              go_enter Try.func57, Try.ntmps57
              go_wp2
              go_ret
              exact ⟨by first | rfl | (simp; done) | (simp [*]; done), by repeat (first | exact Drawn0.refl _ | apply Drawn0.step)⟩
            · rw [if_neg c7] at H
              have c7b0 : decide (6068 ≤ a0) = false := decide_eq_false c7
              clear c7
              obtain rfl := Option.some.inj H
              go_enter Try.func57, Try.ntmps57
              go_wp2
              go_ret
              exact ⟨by first | rfl | (simp; done) | (simp [*]; done), by repeat (first | exact Drawn0.refl _ | apply Drawn0.step)⟩
          · rw [if_neg c6] at H
            have c6b0 : ((a0 / 256) == 23) = false := beq_eq_false_iff_ne.mpr c6
            have c6b1 : ((a0 / 256) != 23) = true := bne_iff_ne.mpr c6
            by_cases c8 : (a0 / 256) = 24
            · rw [if_pos c8] at H
              have c8b0 : ((a0 / 256) == 24) = true := beq_iff_eq.mpr c8
              have c8b1 : ((a0 / 256) != 24) = false := bne_eq_false_iff_eq.mpr c8
              clear c8
              by_cases c9 : 6155 ≤ a0
              · rw [if_pos c9] at H
                have c9b0 : decide (6155 ≤ a0) = true := decide_eq_true c9
                clear c9
                obtain rfl := Option.some.inj H
                go_enter Try.func57, Try.ntmps57
                go_wp2
                go_ret
                exact ⟨by first | rfl | (simp; done) | (simp [*]; done), by repeat (first | exact Drawn0.refl _ | apply Drawn0.step)⟩
              · rw [if_neg c9] at H
                have c9b0 : decide (6155 ≤ a0) = false := decide_eq_false c9
                clear c9
                obtain rfl := Option.some.inj H
                go_enter Try.func57, Try.ntmps57
                go_wp2
                go_ret
                exact ⟨by first | rfl | (simp; done) | (simp [*]; done), by repeat (first | exact Drawn0.refl _ | apply Drawn0.step)⟩
            · rw [if_neg c8] at H
              have c8b0 : ((a0 / 256) == 24) = false := beq_eq_false_iff_ne.mpr c8
              have c8b1 : ((a0 / 256) != 24) = true := bne_iff_ne.mpr c8
              by_cases c10 : (a0 / 256) = 32
              · rw [if_pos c10] at H
                have c10b0 : ((a0 / 256) == 32) = true := beq_iff_eq.mpr c10
                have c10b1 : ((a0 / 256) != 32) = false := bne_eq_false_iff_eq.mpr c10
                clear c10
                by_cases c11 : 8203 ≤ a0
                · rw [if_pos c11] at H
                  have c11b0 : decide (8203 ≤ a0) = true := decide_eq_true c11
                  clear c11
                  by_cases c12 : a0 ≤ 8207
                  · rw [if_pos c12] at H
                    have c12b0 : decide (a0 ≤ 8207) = true := decide_eq_true c12
                    clear c12
                    obtain rfl := Option.some.inj H
                    go_enter Try.func57, Try.ntmps57
                    go_wp2
                    go_ret
                    exact ⟨by first | rfl | (simp; done) | (simp [*]; done), by repeat (first | exact Drawn0.refl _ | apply Drawn0.step)⟩
                  · rw [if_neg c12] at H
                    have c12b0 : decide (a0 ≤ 8207) = false := decide_eq_false c12
                    clear c12
                    by_cases c13 : 8234 ≤ a0
                    · rw [if_pos c13] at H
                      have c13b0 : decide (8234 ≤ a0) = true := decide_eq_true c13
                      clear c13
                      by_cases c14 : a0 ≤ 8238
                      · rw [if_pos c14] at H
                        have c14b0 : decide (a0 ≤ 8238) = true := decide_eq_true c14
                        clear c14
                        obtain rfl := Option.some.inj H
                        go_enter Try.func57, Try.ntmps57
                        go_wp2
                        go_ret
                        exact ⟨by first | rfl | (simp; done) | (simp [*]; done), by repeat (first | exact Drawn0.refl _ | apply Drawn0.step)⟩
                      · rw [if_neg c14] at H
                        have c14b0 : decide (a0 ≤ 8238) = false := decide_eq_false c14
                        clear c14
                        by_cases c15 : 8288 ≤ a0
                        · rw [if_pos c15] at H
                          have c15b0 : decide (8288 ≤ a0) = true := decide_eq_true c15
                          clear c15
                          obtain rfl := Option.some.inj H
                          go_enter Try.func57, Try.ntmps57
                          go_wp2
                          go_ret
                          exact ⟨by first | rfl | (simp; done) | (simp [*]; done), by repeat (first | exact Drawn0.refl _ | apply Drawn0.step)⟩
                        · rw [if_neg c15] at H
                          have c15b0 : decide (8288 ≤ a0) = false := decide_eq_false c15
                          clear c15
                          obtain rfl := Option.some.inj H
                          go_enter Try.func57, Try.ntmps57
                          go_wp2
                          go_ret
                          exact ⟨by first | rfl | (simp; done) | (simp [*]; done), by repeat (first | exact Drawn0.refl _ | apply Drawn0.step)⟩
                    · rw [if_neg c13] at H
                      have c13b0 : decide (8234 ≤ a0) = false := decide_eq_false c13
                      clear c13
                      by_cases c16 : 8288 ≤ a0
                      · rw [if_pos c16] at H
                        have c16b0 : decide (8288 ≤ a0) = true := decide_eq_true c16
                        clear c16
                        obtain rfl := Option.some.inj H
                        go_enter Try.func57, Try.ntmps57
                        go_wp2
                        go_ret
                        exact ⟨by first | rfl | (simp; done) | (simp [*]; done), by repeat (first | exact Drawn0.refl _ | apply Drawn0.step)⟩
                      · rw [if_neg c16] at H
                        have c16b0 : decide (8288 ≤ a0) = false := decide_eq_false c16
                        clear c16
                        obtain rfl := Option.some.inj H
                        go_enter Try.func57, Try.ntmps57
                        go_wp2
                        go_ret
                        exact ⟨by first | rfl | (simp; done) | (simp [*]; done), by repeat (first | exact Drawn0.refl _ | apply Drawn0.step)⟩
                · rw [if_neg c11] at H
                  have c11b0 : decide (8203 ≤ a0) = false := decide_eq_false c11
                  clear c11
                  by_cases c17 : 8234 ≤ a0
                  · rw [if_pos c17] at H
                    have c17b0 : decide (8234 ≤ a0) = true := decide_eq_true c17
                    clear c17
                    by_cases c18 : a0 ≤ 8238
                    · rw [if_pos c18] at H
                      have c18b0 : decide (a0 ≤ 8238) = true := decide_eq_true c18
                      clear c18
                      obtain rfl := Option.some.inj H
                      go_enter Try.func57, Try.ntmps57
                      go_wp2
                      go_ret
                      exact ⟨by first | rfl | (simp; done) | (simp [*]; done), by repeat (first | exact Drawn0.refl _ | apply Drawn0.step)⟩
                    · rw [if_neg c18] at H
                      have c18b0 : decide (a0 ≤ 8238) = false := decide_eq_false c18
                      clear c18
                      by_cases c19 : 8288 ≤ a0
                      · rw [if_pos c19] at H
                        have c19b0 : decide (8288 ≤ a0) = true := decide_eq_true c19
                        clear c19
                        obtain rfl := Option.some.inj H
                        go_enter Try.func57, Try.ntmps57
                        go_wp2
                        go_ret
                        exact ⟨by first | rfl | (simp; done) | (simp [*]; done), by repeat (first | exact Drawn0.refl _ | apply Drawn0.step)⟩
                      · rw [if_neg c19] at H
                        have c19b0 : decide (8288 ≤ a0) = false := decide_eq_false c19
                        clear c19
                        obtain rfl := Option.some.inj H
                        go_enter Try.func57, Try.ntmps57
                        go_wp2
                        go_ret
                        exact ⟨by first | rfl | (simp; done) | (simp [*]; done), by repeat (first | exact Drawn0.refl _ | apply Drawn0.step)⟩
                  · rw [if_neg c17] at H
                    have c17b0 : decide (8234 ≤ a0) = false := decide_eq_false c17
                    clear c17
                    by_cases c20 : 8288 ≤ a0
                    · rw [if_pos c20] at H
                      have c20b0 : decide (8288 ≤ a0) = true := decide_eq_true c20
                      clear c20
                      obtain rfl := Option.some.inj H
                      go_enter Try.func57, Try.ntmps57
                      go_wp2
                      go_ret
                      exact ⟨by first | rfl | (simp; done) | (simp [*]; done), by repeat (first | exact Drawn0.refl _ | apply Drawn0.step)⟩
                    · rw [if_neg c20] at H
                      have c20b0 : decide (8288 ≤ a0) = false := decide_eq_false c20
                      clear c20
                      obtain rfl := Option.some.inj H
                      go_enter Try.func57, Try.ntmps57
                      go_wp2
                      go_ret
                      exact ⟨by first | rfl | (simp; done) | (simp [*]; done), by repeat (first | exact Drawn0.refl _ | apply Drawn0.step)⟩
              · rw [if_neg c10] at H
                have c10b0 : ((a0 / 256) == 32) = false := beq_eq_false_iff_ne.mpr c10
                have c10b1 : ((a0 / 256) != 32) = true := bne_iff_ne.mpr c10
                by_cases c21 : (a0 / 256) = 254
                · rw [if_pos c21] at H
                  have c21b0 : ((a0 / 256) == 254) = true := beq_iff_eq.mpr c21
                  have c21b1 : ((a0 / 256) != 254) = false := bne_eq_false_iff_eq.mpr c21
                  clear c21
                  by_cases c22 : 65024 ≤ a0
                  · rw [if_pos c22] at H
                    have c22b0 : decide (65024 ≤ a0) = true := decide_eq_true c22
                    clear c22
                    by_cases c23 : a0 ≤ 65039
                    · rw [if_pos c23] at H
                      have c23b0 : decide (a0 ≤ 65039) = true := decide_eq_true c23
                      clear c23
                      obtain rfl := Option.some.inj H
                      go_enter Try.func57, Try.ntmps57
                      go_wp2
                      go_ret
                      exact ⟨by first | rfl | (simp; done) | (simp [*]; done), by repeat (first | exact Drawn0.refl _ | apply Drawn0.step)⟩
                    · rw [if_neg c23] at H
                      have c23b0 : decide (a0 ≤ 65039) = false := decide_eq_false c23
                      clear c23
                      obtain rfl := Option.some.inj H
                      go_enter Try.func57, Try.ntmps57
                      go_wp2
                      go_ret
                      exact ⟨by first | rfl | (simp; done) | (simp [*]; done), by repeat (first | exact Drawn0.refl _ | apply Drawn0.step)⟩
                  · rw [if_neg c22] at H
                    have c22b0 : decide (65024 ≤ a0) = false := decide_eq_false c22
                    clear c22
                    obtain rfl := Option.some.inj H
                    go_enter Try.func57, Try.ntmps57
                    go_wp2
                    go_ret
                    exact ⟨by first | rfl | (simp; done) | (simp [*]; done), by repeat (first | exact Drawn0.refl _ | apply Drawn0.step)⟩
                · rw [if_neg c21] at H
                  have c21b0 : ((a0 / 256) == 254) = false := beq_eq_false_iff_ne.mpr c21
                  have c21b1 : ((a0 / 256) != 254) = true := bne_iff_ne.mpr c21
                  by_cases c24 : (a0 / 256) = 255
                  · rw [if_pos c24] at H
                    have c24b0 : ((a0 / 256) == 255) = true := beq_iff_eq.mpr c24
                    have c24b1 : ((a0 / 256) != 255) = false := bne_eq_false_iff_eq.mpr c24
                    clear c24
                    by_cases c25 : 65520 ≤ a0
                    · rw [if_pos c25] at H
                      have c25b0 : decide (65520 ≤ a0) = true := decide_eq_true c25
                      clear c25
                      obtain rfl := Option.some.inj H
                      go_enter Try.func57, Try.ntmps57
                      go_wp2
                      go_ret
                      exact ⟨by first | rfl | (simp; done) | (simp [*]; done), by repeat (first | exact Drawn0.refl _ | apply Drawn0.step)⟩
                    · rw [if_neg c25] at H
                      have c25b0 : decide (65520 ≤ a0) = false := decide_eq_false c25
                      clear c25
                      obtain rfl := Option.some.inj H
                      go_enter Try.func57, Try.ntmps57
                      go_wp2
                      go_ret
                      exact ⟨by first | rfl | (simp; done) | (simp [*]; done), by repeat (first | exact Drawn0.refl _ | apply Drawn0.step)⟩
                  · rw [if_neg c24] at H
                    have c24b0 : ((a0 / 256) == 255) = false := beq_eq_false_iff_ne.mpr c24
                    have c24b1 : ((a0 / 256) != 255) = true := bne_iff_ne.mpr c24
                    obtain rfl := Option.some.inj H
                    go_enter Try.func57, Try.ntmps57
                    go_wp2
                    go_ret
                    exact ⟨by first | rfl | (simp; done) | (simp [*]; done), by repeat (first | exact Drawn0.refl _ | apply Drawn0.step)⟩
  · rw [if_neg c2] at H
    have c2b0 : ((a0 / 65536) == 0) = false := beq_eq_false_iff_ne.mpr c2
    have c2b1 : ((a0 / 65536) != 0) = true := bne_iff_ne.mpr c2
    by_cases c26 : (a0 / 65536) = 1
    · rw [if_pos c26] at H
      have c26b0 : ((a0 / 65536) == 1) = true := beq_iff_eq.mpr c26
      have c26b1 : ((a0 / 65536) != 1) = false := bne_eq_false_iff_eq.mpr c26
      clear c26
      by_cases c27 : 119155 ≤ a0
      · rw [if_pos c27] at H
        have c27b0 : decide (119155 ≤ a0) = true := decide_eq_true c27
        clear c27
        obtain rfl := Option.some.inj H
        go_enter Try.func57, Try.ntmps57
        go_wp2
        go_ret
        exact ⟨by first | rfl | (simp; done) | (simp [*]; done), by repeat (first | exact Drawn0.refl _ | apply Drawn0.step)⟩
      · rw [if_neg c27] at H
        have c27b0 : decide (119155 ≤ a0) = false := decide_eq_false c27
        clear c27
        obtain rfl := Option.some.inj H
        go_enter Try.func57, Try.ntmps57
        go_wp2
        go_ret
        exact ⟨by first | rfl | (simp; done) | (simp [*]; done), by repeat (first | exact Drawn0.refl _ | apply Drawn0.step)⟩
    · rw [if_neg c26] at H
      have c26b0 : ((a0 / 65536) == 1) = false := beq_eq_false_iff_ne.mpr c26
      have c26b1 : ((a0 / 65536) != 1) = true := bne_iff_ne.mpr c26
      by_cases c28 : (a0 / 65536) = 14
      · rw [if_pos c28] at H
        have c28b0 : ((a0 / 65536) == 14) = true := beq_iff_eq.mpr c28
        have c28b1 : ((a0 / 65536) != 14) = false := bne_eq_false_iff_eq.mpr c28
        clear c28
        by_cases c29 : 917504 ≤ a0
        · rw [if_pos c29] at H
          have c29b0 : decide (917504 ≤ a0) = true := decide_eq_true c29
          clear c29
          obtain rfl := Option.some.inj H
          go_enter Try.func57, Try.ntmps57
          go_wp2
          go_ret
          exact ⟨by first | rfl | (simp; done) | (simp [*]; done), by repeat (first | exact Drawn0.refl _ | apply Drawn0.step)⟩
        · rw [if_neg c29] at H
          have c29b0 : decide (917504 ≤ a0) = false := decide_eq_false c29
          clear c29
          obtain rfl := Option.some.inj H
          go_enter Try.func57, Try.ntmps57
          go_wp2
          go_ret
          exact ⟨by first | rfl | (simp; done) | (simp [*]; done), by repeat (first | exact Drawn0.refl _ | apply Drawn0.step)⟩
      · rw [if_neg c28] at H
        have c28b0 : ((a0 / 65536) == 14) = false := beq_eq_false_iff_ne.mpr c28
        have c28b1 : ((a0 / 65536) != 14) = true := bne_iff_ne.mpr c28
        obtain rfl := Option.some.inj H
        go_enter Try.func57, Try.ntmps57
        go_wp2
        go_ret
        exact ⟨by first | rfl | (simp; done) | (simp [*]; done), by repeat (first | exact Drawn0.refl _ | apply Drawn0.step)⟩

/-! ### impl_Ignorable: function 31 -/
def impl_Ignorable.f (a0 : Int) : Option (Bool) := (harfbuzz_IsDefaultIgnorable.f a0).bind fun t101 => (some t101)
set_option maxHeartbeats 8000000 in
set_option maxRecDepth 100000 in
theorem impl_Ignorable.calls (a0 : Int) (r : Bool) (w : World) (h : impl_Ignorable.f a0 = some r) :
    Calls Try.prog 31 #[.int .i32 a0] w fun e w' => e = .returned (.bool r) ∧ Drawn0 w w' := by
  have H : ((harfbuzz_IsDefaultIgnorable.f a0).bind fun t101 => (some t101)) = some r := h
  clear h
  replace H := Option.bind_eq_some_iff.mp H
  obtain ⟨t101, A20, H⟩ := H
  replace H : (some t101) = some r := H
  have A2 := Aside0.mk A20
  clear A20
  obtain rfl := Option.some.inj H
  go_enter Try.func31, Try.ntmps31
  go_wp2_with (first | ((with_reducible refine gate_callee (f := 57) rfl ?_); refine goesL_ (some 4) rfl rfl Try.func57 (by kernel_rfl) rfl #[.int .i32 a0] rfl (by (try simp only [List.map_toArray, List.map_cons, List.map_nil]); first | done | rfl | (simp only [List.length_drop, List.length_take]; rfl)) ?_; (with_reducible refine (harfbuzz_IsDefaultIgnorable.calls a0 t101 _ A2.out).mono ?_); rintro e w' ⟨rfl, ⟨nd, rfl⟩⟩; refine ⟨_, rfl, ?_⟩))
  go_ret
  exact ⟨by first | rfl | (simp; done) | (simp [*]; done), by repeat (first | exact Drawn0.refl _ | apply Drawn0.step)⟩

/-! ### laws_ignorable: function 32 -/
def laws_ignorable.f  : Option ((List (S60))) := some (([(⟨173, 173⟩ : S60), (⟨847, 847⟩ : S60), (⟨1564, 1564⟩ : S60), (⟨4447, 4448⟩ : S60), (⟨6068, 6069⟩ : S60), (⟨6155, 6159⟩ : S60), (⟨8203, 8207⟩ : S60), (⟨8234, 8238⟩ : S60), (⟨8288, 8303⟩ : S60), (⟨12644, 12644⟩ : S60), (⟨65024, 65039⟩ : S60), (⟨65279, 65279⟩ : S60), (⟨65440, 65440⟩ : S60), (⟨65520, 65528⟩ : S60), (⟨113824, 113827⟩ : S60), (⟨119155, 119162⟩ : S60), (⟨917504, 921599⟩ : S60)] : List (S60)))
set_option maxHeartbeats 8000000 in
set_option maxRecDepth 100000 in
theorem laws_ignorable.calls  (r : List (S60)) (w : World) (h : laws_ignorable.f  = some r) :
    Calls Try.prog 32 #[] w fun e w' => ∃ v0_ : Value, e = .returned (v0_) ∧ Kd.R k60 60 w' w.heap.size (fun _ => True) v0_ r ∧ Below w.heap.size w w' := by
  have hu60 := Try.underlying60
  have HB := Aside0.mk (Below.refl w.heap.size w)
  have H : (some (([(⟨173, 173⟩ : S60), (⟨847, 847⟩ : S60), (⟨1564, 1564⟩ : S60), (⟨4447, 4448⟩ : S60), (⟨6068, 6069⟩ : S60), (⟨6155, 6159⟩ : S60), (⟨8203, 8207⟩ : S60), (⟨8234, 8238⟩ : S60), (⟨8288, 8303⟩ : S60), (⟨12644, 12644⟩ : S60), (⟨65024, 65039⟩ : S60), (⟨65279, 65279⟩ : S60), (⟨65440, 65440⟩ : S60), (⟨65520, 65528⟩ : S60), (⟨113824, 113827⟩ : S60), (⟨119155, 119162⟩ : S60), (⟨917504, 921599⟩ : S60)] : List (S60)))) = some r := h
  clear h
  obtain ⟨y102, hy102⟩ : ∃ y_ : List (S60), y_ = (([(⟨173, 173⟩ : S60), (⟨847, 847⟩ : S60), (⟨1564, 1564⟩ : S60), (⟨4447, 4448⟩ : S60), (⟨6068, 6069⟩ : S60), (⟨6155, 6159⟩ : S60), (⟨8203, 8207⟩ : S60), (⟨8234, 8238⟩ : S60), (⟨8288, 8303⟩ : S60), (⟨12644, 12644⟩ : S60), (⟨65024, 65039⟩ : S60), (⟨65279, 65279⟩ : S60), (⟨65440, 65440⟩ : S60), (⟨65520, 65528⟩ : S60), (⟨113824, 113827⟩ : S60), (⟨119155, 119162⟩ : S60), (⟨917504, 921599⟩ : S60)] : List (S60))) := ⟨_, rfl⟩
  replace H : (some y102) = some r := by first | (rw [hy102]; with_reducible exact H) | (have H2_ := (Option.bind_some _ _).symm.trans H; rw [hy102]; with_reducible exact H2_) | (have H2_ := (Option.bind_some _ _).symm.trans H; with_reducible exact H2_) | with_reducible exact H | (rw [hy102]; exact H) | exact H
  have Ny102 := Aside0.mk hy102
  clear hy102
  obtain rfl := Option.some.inj H
  go_enter Try.func32, Try.ntmps32
  go_wp2_with (first | ((with_reducible refine gate_dst (N := 18) rfl ?_); refine Kd.R_lit k60 _ 60 ?hg (N := 18) ?hd (xs := ([(⟨173, 173⟩ : S60), (⟨847, 847⟩ : S60), (⟨1564, 1564⟩ : S60), (⟨4447, 4448⟩ : S60), (⟨6068, 6069⟩ : S60), (⟨6155, 6159⟩ : S60), (⟨8203, 8207⟩ : S60), (⟨8234, 8238⟩ : S60), (⟨8288, 8303⟩ : S60), (⟨12644, 12644⟩ : S60), (⟨65024, 65039⟩ : S60), (⟨65279, 65279⟩ : S60), (⟨65440, 65440⟩ : S60), (⟨65520, 65528⟩ : S60), (⟨113824, 113827⟩ : S60), (⟨119155, 119162⟩ : S60), (⟨917504, 921599⟩ : S60)] : List (S60))) (inner := [.int .i32 173, .int .i32 173, .int .i32 847, .int .i32 847, .int .i32 1564, .int .i32 1564, .int .i32 4447, .int .i32 4448, .int .i32 6068, .int .i32 6069, .int .i32 6155, .int .i32 6159, .int .i32 8203, .int .i32 8207, .int .i32 8234, .int .i32 8238, .int .i32 8288, .int .i32 8303, .int .i32 12644, .int .i32 12644, .int .i32 65024, .int .i32 65039, .int .i32 65279, .int .i32 65279, .int .i32 65440, .int .i32 65440, .int .i32 65520, .int .i32 65528, .int .i32 113824, .int .i32 113827, .int .i32 119155, .int .i32 119162, .int .i32 917504, .int .i32 921599]) (ok := fun _ => True) (okp := fun _ => True) ?hr ?hp (fun _ hk => hk) trivial (Below.refl _ _) (Nat.le_refl _) (by simp) ?_; (case hd => rfl); (case hg => rfl); (case hr => first | (go_simp; done) | (go_simp; rfl)); (case hp => exact (Reps.c2 (show Kd.M k60 _ _ _ (⟨173, 173⟩ : S60) [.int .i32 173, .int .i32 173] from (k60_mkM _ _ _ (⟨173, 173⟩ : S60) )) (Reps.c2 (show Kd.M k60 _ _ _ (⟨847, 847⟩ : S60) [.int .i32 847, .int .i32 847] from (k60_mkM _ _ _ (⟨847, 847⟩ : S60) )) (Reps.c2 (show Kd.M k60 _ _ _ (⟨1564, 1564⟩ : S60) [.int .i32 1564, .int .i32 1564] from (k60_mkM _ _ _ (⟨1564, 1564⟩ : S60) )) (Reps.c2 (show Kd.M k60 _ _ _ (⟨4447, 4448⟩ : S60) [.int .i32 4447, .int .i32 4448] from (k60_mkM _ _ _ (⟨4447, 4448⟩ : S60) )) (Reps.c2 (show Kd.M k60 _ _ _ (⟨6068, 6069⟩ : S60) [.int .i32 6068, .int .i32 6069] from (k60_mkM _ _ _ (⟨6068, 6069⟩ : S60) )) (Reps.c2 (show Kd.M k60 _ _ _ (⟨6155, 6159⟩ : S60) [.int .i32 6155, .int .i32 6159] from (k60_mkM _ _ _ (⟨6155, 6159⟩ : S60) )) (Reps.c2 (show Kd.M k60 _ _ _ (⟨8203, 8207⟩ : S60) [.int .i32 8203, .int .i32 8207] from (k60_mkM _ _ _ (⟨8203, 8207⟩ : S60) )) (Reps.c2 (show Kd.M k60 _ _ _ (⟨8234, 8238⟩ : S60) [.int .i32 8234, .int .i32 8238] from (k60_mkM _ _ _ (⟨8234, 8238⟩ : S60) )) (Reps.c2 (show Kd.M k60 _ _ _ (⟨8288, 8303⟩ : S60) [.int .i32 8288, .int .i32 8303] from (k60_mkM _ _ _ (⟨8288, 8303⟩ : S60) )) (Reps.c2 (show Kd.M k60 _ _ _ (⟨12644, 12644⟩ : S60) [.int .i32 12644, .int .i32 12644] from (k60_mkM _ _ _ (⟨12644, 12644⟩ : S60) )) (Reps.c2 (show Kd.M k60 _ _ _ (⟨65024, 65039⟩ : S60) [.int .i32 65024, .int .i32 65039] from (k60_mkM _ _ _ (⟨65024, 65039⟩ : S60) )) (Reps.c2 (show Kd.M k60 _ _ _ (⟨65279, 65279⟩ : S60) [.int .i32 65279, .int .i32 65279] from (k60_mkM _ _ _ (⟨65279, 65279⟩ : S60) )) (Reps.c2 (show Kd.M k60 _ _ _ (⟨65440, 65440⟩ : S60) [.int .i32 65440, .int .i32 65440] from (k60_mkM _ _ _ (⟨65440, 65440⟩ : S60) )) (Reps.c2 (show Kd.M k60 _ _ _ (⟨65520, 65528⟩ : S60) [.int .i32 65520, .int .i32 65528] from (k60_mkM _ _ _ (⟨65520, 65528⟩ : S60) )) (Reps.c2 (show Kd.M k60 _ _ _ (⟨113824, 113827⟩ : S60) [.int .i32 113824, .int .i32 113827] from (k60_mkM _ _ _ (⟨113824, 113827⟩ : S60) )) (Reps.c2 (show Kd.M k60 _ _ _ (⟨119155, 119162⟩ : S60) [.int .i32 119155, .int .i32 119162] from (k60_mkM _ _ _ (⟨119155, 119162⟩ : S60) )) (Reps.c2 (show Kd.M k60 _ _ _ (⟨917504, 921599⟩ : S60) [.int .i32 917504, .int .i32 921599] from (k60_mkM _ _ _ (⟨917504, 921599⟩ : S60) )) (Reps.none _ _))))))))))))))))))); intro v103 w1 ho2 hb hg_ hnew_; clear hg_ hnew_; (first | rw [← Ny102.out] at ho2 | (simp only [Int.reduceToNat] at ho2; rw [← Ny102.out] at ho2)); have n0_ := Aside0.mk (Kd.R_lower ho2 (below_size (by repeat (first | (with_reducible first | exact HB.out | apply below_alloc | apply pw_below_drewN | apply below_drew1) | exact HB.out)))); have n1_ := Aside0.mk (below_step (by repeat (first | (with_reducible first | exact HB.out | apply below_alloc | apply pw_below_drewN | apply below_drew1) | exact HB.out)) hb); clear HB; have HO104 := n0_; have HB := n1_; clear n0_ n1_; clear hb ho2))
  go_ret
  exact ⟨_, by first | rfl | (simp [errW_none, errW_some] <;> rfl) | (simp [*, errW_none, errW_some] <;> rfl), by (with_reducible repeat (first | apply Kd.R_alloc | apply Kd.R_drewN | apply Kd.R_drew)); exact HO104.out, by repeat (first | (with_reducible first | exact HB.out | apply below_alloc | apply pw_below_drewN | apply below_drew1) | exact HB.out)⟩

/-! ### laws_FnIgnorable: function 12 -/
mutual
def laws_FnIgnorable.j0 : Nat → Int → Option (Bool)
  | 0, _ => none
  | k + 1, x3 => (laws_ignorable.f).bind fun t111 => (laws_FnIgnorable.l0 k x3 false t111 (t111.length : Int) 0)
def laws_FnIgnorable.l0 : Nat → Int → Bool → List (S60) → Int → Int → Option (Bool)
  | 0, _, _, _, _, _ => none
  | k + 1, x3, x4, x28, x29, x30 => if x30 < x29 then (if 0 ≤ x30 then (if x30 < (x28.length : Int) then (if x4 = true then (laws_FnIgnorable.l0 k x3 true x28 x29 (wrap64 (x30 + 1))) else (if x3 ≥ ((rd_T60 x28 x30).f0) then (laws_FnIgnorable.l0 k x3 (decide (x3 ≤ ((rd_T60 x28 x30).f1))) x28 x29 (wrap64 (x30 + 1))) else (laws_FnIgnorable.l0 k x3 false x28 x29 (wrap64 (x30 + 1))))) else (none)) else (none)) else ((impl_Ignorable.f x3).bind fun t116 => (if (t116 == x4) = true then ((impl_Ignorable.f 173).bind fun t117 => (some t117)) else (some false)))
end
def laws_FnIgnorable.f (k : Nat) (a0 : Int) : Option (Bool) := if (wrap32 (Int.tmod a0 1114112)) = 6159 then ((impl_Ignorable.f 173).bind fun t105 => (some t105)) else (if (wrap32 (Int.tmod a0 1114112)) = 4447 then ((impl_Ignorable.f 173).bind fun t106 => (some t106)) else (if (wrap32 (Int.tmod a0 1114112)) = 4448 then ((impl_Ignorable.f 173).bind fun t107 => (some t107)) else (if (wrap32 (Int.tmod a0 1114112)) = 12644 then ((impl_Ignorable.f 173).bind fun t108 => (some t108)) else (if (wrap32 (Int.tmod a0 1114112)) = 65440 then ((impl_Ignorable.f 173).bind fun t109 => (some t109)) else (if (wrap32 (Int.tmod a0 1114112)) ≥ 113824 then (if (wrap32 (Int.tmod a0 1114112)) ≤ 113827 then ((impl_Ignorable.f 173).bind fun t110 => (some t110)) else (laws_FnIgnorable.j0 k (wrap32 (Int.tmod a0 1114112)))) else (laws_FnIgnorable.j0 k (wrap32 (Int.tmod a0 1114112))))))))
theorem laws_FnIgnorable.mono_l : ∀ k, (∀ y0, LeO (laws_FnIgnorable.j0 k y0) (laws_FnIgnorable.j0 (k + 1) y0)) ∧ (∀ y0 y1 y2 y3 y4, LeO (laws_FnIgnorable.l0 k y0 y1 y2 y3 y4) (laws_FnIgnorable.l0 (k + 1) y0 y1 y2 y3 y4))
  | 0 => ⟨fun _ r h => by simp [laws_FnIgnorable.j0] at h, fun _ _ _ _ _ r h => by simp [laws_FnIgnorable.l0] at h⟩
  | k + 1 => by
    obtain ⟨ih0, ih1⟩ := laws_FnIgnorable.mono_l k
    refine ⟨?_, ?_⟩
    · intro y0
      unfold laws_FnIgnorable.j0
      repeat' first
      | (with_reducible exact ih0 _)
      | (with_reducible exact ih1 _ _ _ _ _)
      | (with_reducible exact LeO.refl _)
      | (with_reducible exact LeO.none _)
      | (with_reducible refine LeO.ite ?_ ?_)
      | (with_reducible refine LeO.bind ?_ (fun _ => ?_))
      | exact ih0 _
      | exact ih1 _ _ _ _ _
      | exact LeO.none _
      | refine LeO.ite ?_ ?_
      | refine LeO.bind ?_ (fun _ => ?_)
    · intro y0 y1 y2 y3 y4
      unfold laws_FnIgnorable.l0
      repeat' first
      | (with_reducible exact ih0 _)
      | (with_reducible exact ih1 _ _ _ _ _)
      | (with_reducible exact LeO.refl _)
      | (with_reducible exact LeO.none _)
      | (with_reducible refine LeO.ite ?_ ?_)
      | (with_reducible refine LeO.bind ?_ (fun _ => ?_))
      | exact ih0 _
      | exact ih1 _ _ _ _ _
      | exact LeO.none _
      | refine LeO.ite ?_ ?_
      | refine LeO.bind ?_ (fun _ => ?_)
theorem laws_FnIgnorable.mono : ∀ a0 k, LeO (laws_FnIgnorable.f k a0) (laws_FnIgnorable.f (k + 1) a0) := by
  intro a0 k
  obtain ⟨ih0, ih1⟩ := laws_FnIgnorable.mono_l k
  unfold laws_FnIgnorable.f
  repeat' first
      | (with_reducible exact ih0 _)
      | (with_reducible exact ih1 _ _ _ _ _)
      | (with_reducible exact LeO.refl _)
      | (with_reducible exact LeO.none _)
      | (with_reducible refine LeO.ite ?_ ?_)
      | (with_reducible refine LeO.bind ?_ (fun _ => ?_))
      | exact ih0 _
      | exact ih1 _ _ _ _ _
      | exact LeO.none _
      | refine LeO.ite ?_ ?_
      | refine LeO.bind ?_ (fun _ => ?_)
set_option maxHeartbeats 8000000 in
set_option maxRecDepth 100000 in
theorem laws_FnIgnorable.calls (k : Nat) (a0 : Int) (r : Bool) (w : World) (h : laws_FnIgnorable.f k a0 = some r) :
    Calls Try.prog 12 #[.int .u32 a0] w fun e w' => e = .returned (.bool r) ∧ Below w.heap.size w w' := by
  have hu60 := Try.underlying60
  have HB := Aside0.mk (Below.refl w.heap.size w)
  have H : (if (wrap32 (Int.tmod a0 1114112)) = 6159 then ((impl_Ignorable.f 173).bind fun t105 => (some t105)) else (if (wrap32 (Int.tmod a0 1114112)) = 4447 then ((impl_Ignorable.f 173).bind fun t106 => (some t106)) else (if (wrap32 (Int.tmod a0 1114112)) = 4448 then ((impl_Ignorable.f 173).bind fun t107 => (some t107)) else (if (wrap32 (Int.tmod a0 1114112)) = 12644 then ((impl_Ignorable.f 173).bind fun t108 => (some t108)) else (if (wrap32 (Int.tmod a0 1114112)) = 65440 then ((impl_Ignorable.f 173).bind fun t109 => (some t109)) else (if (wrap32 (Int.tmod a0 1114112)) ≥ 113824 then (if (wrap32 (Int.tmod a0 1114112)) ≤ 113827 then ((impl_Ignorable.f 173).bind fun t110 => (some t110)) else (laws_FnIgnorable.j0 k (wrap32 (Int.tmod a0 1114112)))) else (laws_FnIgnorable.j0 k (wrap32 (Int.tmod a0 1114112))))))))) = some r := h
  clear h
  have HC2 := Aside0.mk H
  clear H
  go_enter Try.func12, Try.ntmps12
  go_upto_block 0 with (fail)
  go_cut [] (fun wc => ∃ (kq : Nat), Aside0 (laws_FnIgnorable.j0 kq (wrap32 (Int.tmod a0 1114112)) = some r) ∧ Aside0 (kq ≤ k) ∧ Aside0 (Below w.heap.size w wc))
  case first =>
    have H := HC2.out
    clear HC2
    by_cases c3 : (wrap32 (Int.tmod a0 1114112)) = 6159
    · rw [if_pos c3] at H
      have c3b0 : ((wrap32 (Int.tmod a0 1114112)) == 6159) = true := beq_iff_eq.mpr c3
      have c3b1 : ((wrap32 (Int.tmod a0 1114112)) != 6159) = false := bne_eq_false_iff_eq.mpr c3
      clear c3
      (first | rw [c3b0] | (simp only [i64_w, i32_w]; rw [c3b0]) | skip)
      replace H := Option.bind_eq_some_iff.mp H
      obtain ⟨t105, A40, H⟩ := H
      replace H : (some t105) = some r := H
      have A4 := Aside0.mk A40
      clear A40
      obtain rfl := Option.some.inj H
      go_wp2_with (first | ((with_reducible refine gate_callee (f := 31) rfl ?_); refine goesL_ (some 27) rfl rfl Try.func31 (by kernel_rfl) rfl #[.int .i32 173] rfl (by (try simp only [List.map_toArray, List.map_cons, List.map_nil]); first | done | rfl | (simp only [List.length_drop, List.length_take]; rfl)) ?_; (with_reducible refine (impl_Ignorable.calls 173 t105 _ A4.out).mono ?_); rintro e w' ⟨rfl, ⟨nd, rfl⟩⟩; refine ⟨_, rfl, ?_⟩))
      go_ret
      exact ⟨by first | rfl | (simp [errW_none, errW_some] <;> rfl) | (simp [*, errW_none, errW_some] <;> rfl), by repeat (first | (with_reducible first | exact HB.out | apply below_alloc | apply pw_below_drewN | apply below_drew1) | exact HB.out)⟩
    · rw [if_neg c3] at H
      have c3b0 : ((wrap32 (Int.tmod a0 1114112)) == 6159) = false := beq_eq_false_iff_ne.mpr c3
      have c3b1 : ((wrap32 (Int.tmod a0 1114112)) != 6159) = true := bne_iff_ne.mpr c3
      (first | rw [c3b0] | (simp only [i64_w, i32_w]; rw [c3b0]) | skip)
      by_cases c5 : (wrap32 (Int.tmod a0 1114112)) = 4447
      · rw [if_pos c5] at H
        have c5b0 : ((wrap32 (Int.tmod a0 1114112)) == 4447) = true := beq_iff_eq.mpr c5
        have c5b1 : ((wrap32 (Int.tmod a0 1114112)) != 4447) = false := bne_eq_false_iff_eq.mpr c5
        clear c5
        replace H := Option.bind_eq_some_iff.mp H
        obtain ⟨t106, A60, H⟩ := H
        replace H : (some t106) = some r := H
        have A6 := Aside0.mk A60
        clear A60
        obtain rfl := Option.some.inj H
        go_wp2_with (first | ((with_reducible refine gate_callee (f := 31) rfl ?_); refine goesL_ (some 27) rfl rfl Try.func31 (by kernel_rfl) rfl #[.int .i32 173] rfl (by (try simp only [List.map_toArray, List.map_cons, List.map_nil]); first | done | rfl | (simp only [List.length_drop, List.length_take]; rfl)) ?_; (with_reducible refine (impl_Ignorable.calls 173 t106 _ A6.out).mono ?_); rintro e w' ⟨rfl, ⟨nd, rfl⟩⟩; refine ⟨_, rfl, ?_⟩))
        go_ret
        exact ⟨by first | rfl | (simp [errW_none, errW_some] <;> rfl) | (simp [*, errW_none, errW_some] <;> rfl), by repeat (first | (with_reducible first | exact HB.out | apply below_alloc | apply pw_below_drewN | apply below_drew1) | exact HB.out)⟩
      · rw [if_neg c5] at H
        have c5b0 : ((wrap32 (Int.tmod a0 1114112)) == 4447) = false := beq_eq_false_iff_ne.mpr c5
        have c5b1 : ((wrap32 (Int.tmod a0 1114112)) != 4447) = true := bne_iff_ne.mpr c5
        by_cases c7 : (wrap32 (Int.tmod a0 1114112)) = 4448
        · rw [if_pos c7] at H
          have c7b0 : ((wrap32 (Int.tmod a0 1114112)) == 4448) = true := beq_iff_eq.mpr c7
          have c7b1 : ((wrap32 (Int.tmod a0 1114112)) != 4448) = false := bne_eq_false_iff_eq.mpr c7
          clear c7
          replace H := Option.bind_eq_some_iff.mp H
          obtain ⟨t107, A80, H⟩ := H
          replace H : (some t107) = some r := H
          have A8 := Aside0.mk A80
          clear A80
          obtain rfl := Option.some.inj H
          go_wp2_with (first | ((with_reducible refine gate_callee (f := 31) rfl ?_); refine goesL_ (some 27) rfl rfl Try.func31 (by kernel_rfl) rfl #[.int .i32 173] rfl (by (try simp only [List.map_toArray, List.map_cons, List.map_nil]); first | done | rfl | (simp only [List.length_drop, List.length_take]; rfl)) ?_; (with_reducible refine (impl_Ignorable.calls 173 t107 _ A8.out).mono ?_); rintro e w' ⟨rfl, ⟨nd, rfl⟩⟩; refine ⟨_, rfl, ?_⟩))
          go_ret
          exact ⟨by first | rfl | (simp [errW_none, errW_some] <;> rfl) | (simp [*, errW_none, errW_some] <;> rfl), by repeat (first | (with_reducible first | exact HB.out | apply below_alloc | apply pw_below_drewN | apply below_drew1) | exact HB.out)⟩
        · rw [if_neg c7] at H
          have c7b0 : ((wrap32 (Int.tmod a0 1114112)) == 4448) = false := beq_eq_false_iff_ne.mpr c7
          have c7b1 : ((wrap32 (Int.tmod a0 1114112)) != 4448) = true := bne_iff_ne.mpr c7
          by_cases c9 : (wrap32 (Int.tmod a0 1114112)) = 12644
          · rw [if_pos c9] at H
            have c9b0 : ((wrap32 (Int.tmod a0 1114112)) == 12644) = true := beq_iff_eq.mpr c9
            have c9b1 : ((wrap32 (Int.tmod a0 1114112)) != 12644) = false := bne_eq_false_iff_eq.mpr c9
            clear c9
            replace H := Option.bind_eq_some_iff.mp H
            obtain ⟨t108, A100, H⟩ := H
            replace H : (some t108) = some r := H
            have A10 := Aside0.mk A100
            clear A100
            obtain rfl := Option.some.inj H
            go_wp2_with (first | ((with_reducible refine gate_callee (f := 31) rfl ?_); refine goesL_ (some 27) rfl rfl Try.func31 (by kernel_rfl) rfl #[.int .i32 173] rfl (by (try simp only [List.map_toArray, List.map_cons, List.map_nil]); first | done | rfl | (simp only [List.length_drop, List.length_take]; rfl)) ?_; (with_reducible refine (impl_Ignorable.calls 173 t108 _ A10.out).mono ?_); rintro e w' ⟨rfl, ⟨nd, rfl⟩⟩; refine ⟨_, rfl, ?_⟩))
            go_ret
            exact ⟨by first | rfl | (simp [errW_none, errW_some] <;> rfl) | (simp [*, errW_none, errW_some] <;> rfl), by repeat (first | (with_reducible first | exact HB.out | apply below_alloc | apply pw_below_drewN | apply below_drew1) | exact HB.out)⟩
          · rw [if_neg c9] at H
            have c9b0 : ((wrap32 (Int.tmod a0 1114112)) == 12644) = false := beq_eq_false_iff_ne.mpr c9
            have c9b1 : ((wrap32 (Int.tmod a0 1114112)) != 12644) = true := bne_iff_ne.mpr c9
            by_cases c11 : (wrap32 (Int.tmod a0 1114112)) = 65440
            · rw [if_pos c11] at H
              have c11b0 : ((wrap32 (Int.tmod a0 1114112)) == 65440) = true := beq_iff_eq.mpr c11
              have c11b1 : ((wrap32 (Int.tmod a0 1114112)) != 65440) = false := bne_eq_false_iff_eq.mpr c11
              clear c11
              replace H := Option.bind_eq_some_iff.mp H
              obtain ⟨t109, A120, H⟩ := H
              replace H : (some t109) = some r := H
              have A12 := Aside0.mk A120
              clear A120
              obtain rfl := Option.some.inj H
              go_wp2_with (first | ((with_reducible refine gate_callee (f := 31) rfl ?_); refine goesL_ (some 27) rfl rfl Try.func31 (by kernel_rfl) rfl #[.int .i32 173] rfl (by (try simp only [List.map_toArray, List.map_cons, List.map_nil]); first | done | rfl | (simp only [List.length_drop, List.length_take]; rfl)) ?_; (with_reducible refine (impl_Ignorable.calls 173 t109 _ A12.out).mono ?_); rintro e w' ⟨rfl, ⟨nd, rfl⟩⟩; refine ⟨_, rfl, ?_⟩))
              go_ret
              exact ⟨by first | rfl | (simp [errW_none, errW_some] <;> rfl) | (simp [*, errW_none, errW_some] <;> rfl), by repeat (first | (with_reducible first | exact HB.out | apply below_alloc | apply pw_below_drewN | apply below_drew1) | exact HB.out)⟩
            · rw [if_neg c11] at H
              have c11b0 : ((wrap32 (Int.tmod a0 1114112)) == 65440) = false := beq_eq_false_iff_ne.mpr c11
              have c11b1 : ((wrap32 (Int.tmod a0 1114112)) != 65440) = true := bne_iff_ne.mpr c11
              by_cases c13 : (wrap32 (Int.tmod a0 1114112)) ≥ 113824
              · rw [if_pos c13] at H
                have c13b0 : decide (113824 ≤ (wrap32 (Int.tmod a0 1114112))) = true := decide_eq_true c13
                clear c13
                by_cases c14 : (wrap32 (Int.tmod a0 1114112)) ≤ 113827
                · rw [if_pos c14] at H
                  have c14b0 : decide ((wrap32 (Int.tmod a0 1114112)) ≤ 113827) = true := decide_eq_true c14
                  clear c14
                  replace H := Option.bind_eq_some_iff.mp H
                  obtain ⟨t110, A150, H⟩ := H
                  replace H : (some t110) = some r := H
                  have A15 := Aside0.mk A150
                  clear A150
                  obtain rfl := Option.some.inj H
                  go_wp2_with (first | ((with_reducible refine gate_callee (f := 31) rfl ?_); refine goesL_ (some 27) rfl rfl Try.func31 (by kernel_rfl) rfl #[.int .i32 173] rfl (by (try simp only [List.map_toArray, List.map_cons, List.map_nil]); first | done | rfl | (simp only [List.length_drop, List.length_take]; rfl)) ?_; (with_reducible refine (impl_Ignorable.calls 173 t110 _ A15.out).mono ?_); rintro e w' ⟨rfl, ⟨nd, rfl⟩⟩; refine ⟨_, rfl, ?_⟩))
                  go_ret
                  exact ⟨by first | rfl | (simp [errW_none, errW_some] <;> rfl) | (simp [*, errW_none, errW_some] <;> rfl), by repeat (first | (with_reducible first | exact HB.out | apply below_alloc | apply pw_below_drewN | apply below_drew1) | exact HB.out)⟩
                · rw [if_neg c14] at H
                  have c14b0 : decide ((wrap32 (Int.tmod a0 1114112)) ≤ 113827) = false := decide_eq_false c14
                  clear c14
                  have H' := Aside0.mk H
                  clear H
                  go_wp2
                  go_meet
                  case rel => exact ⟨_, H', ⟨by first | omega | exact Nat.le_refl _⟩, ⟨by repeat (first | (with_reducible first | exact HB.out | apply below_alloc | apply pw_below_drewN | apply below_drew1) | exact HB.out)⟩⟩
              · rw [if_neg c13] at H
                have c13b0 : decide (113824 ≤ (wrap32 (Int.tmod a0 1114112))) = false := decide_eq_false c13
                clear c13
                have H' := Aside0.mk H
                clear H
                go_wp2
                go_meet
                case rel => exact ⟨_, H', ⟨by first | omega | exact Nat.le_refl _⟩, ⟨by repeat (first | (with_reducible first | exact HB.out | apply below_alloc | apply pw_below_drewN | apply below_drew1) | exact HB.out)⟩⟩
  case rest =>
    clear HC2
    try clear c1
    try clear p2
    try clear c3
    try clear c3b0
    try clear c3b1
    try clear p3
    try clear c5
    try clear c5b0
    try clear c5b1
    try clear c7
    try clear c7b0
    try clear c7b1
    try clear c9
    try clear c9b0
    try clear c9b1
    try clear c11
    try clear c11b0
    try clear c11b1
    try clear c12
    try clear c13
    try clear c13b0
    try clear c14
    try clear c14b0
    obtain ⟨kq, HA, HJ1, HB⟩ := hcut
    cases kq with
    | zero => exact absurd HA.out (by simp [laws_FnIgnorable.j0])
    | succ kj1 =>
      have H := HA.out
      clear HA
      simp only [laws_FnIgnorable.j0] at H
      replace H := Option.bind_eq_some_iff.mp H
      obtain ⟨t111, A160, H⟩ := H
      replace H : (laws_FnIgnorable.l0 kj1 (wrap32 (Int.tmod a0 1114112)) false t111 (t111.length : Int) 0) = some r := H
      have A16 := Aside0.mk A160
      clear A160
      have H' := Aside0.mk H
      clear H
      go_wp2_with (first | ((with_reducible refine gate_callee (f := 32) rfl ?_); refine goesL_ (some 28) rfl rfl Try.func32 (by kernel_rfl) rfl #[] rfl (by (try simp only [List.map_toArray, List.map_cons, List.map_nil]); first | done | rfl | (simp only [List.length_drop, List.length_take]; rfl)) ?_; (with_reducible refine (laws_ignorable.calls  t111 _ A16.out).mono ?_); rintro e w17 ⟨v112, rfl, ho0, hb⟩; refine ⟨_, rfl, ?_⟩; have n0_ := Aside0.mk (Kd.R_lower ho0 (below_size (by repeat (first | (with_reducible first | exact HB.out | apply below_alloc | apply pw_below_drewN | apply below_drew1) | exact HB.out)))); have n1_ := Aside0.mk (below_step (by repeat (first | (with_reducible first | exact HB.out | apply below_alloc | apply pw_below_drewN | apply below_drew1) | exact HB.out)) hb); clear HB; have HO113 := n0_; have HB := n1_; clear n0_ n1_; (try clear hb); (try clear hb2); (try clear hk); (try clear hi); (try clear ho0); obtain ⟨Ao18, co18, eo18⟩ := Kd.R_slice HO113.out; subst eo18))
      go_loopg [4, 30] kj1 (fun kq v4 v30 w' => ∃ (x4_2 : Bool) (x30_2 : Int), v4 = .bool x4_2 ∧ v30 = .int .i64 x30_2 ∧ Aside0 (laws_FnIgnorable.l0 kq (wrap32 (Int.tmod a0 1114112)) x4_2 t111 (t111.length : Int) x30_2 = some r) ∧ Aside0 (kq ≤ kj1) ∧ Aside0 (Kd.R k60 60 w' w.heap.size (fun _ => True) (.slice Ao18 t111.length co18) t111) ∧ Aside0 (Below w.heap.size w w'))
      case atStart => exact ⟨(false), (0), (by first | rfl | (simp; done) | (simp [*]; done)), (by first | rfl | (simp; done) | (simp [*]; done)), H', ⟨Nat.le_refl _⟩, ⟨by (with_reducible repeat (first | apply Kd.R_alloc | apply Kd.R_drewN | apply Kd.R_drew)); exact HO113.out⟩, ⟨by repeat (first | (with_reducible first | exact HB.out | apply below_alloc | apply pw_below_drewN | apply below_drew1) | exact HB.out)⟩⟩
      case round =>
        clear H'
        try clear c1
        try clear p2
        try clear c3
        try clear c3b0
        try clear c3b1
        try clear p3
        try clear c5
        try clear c5b0
        try clear c5b1
        try clear c7
        try clear c7b0
        try clear c7b1
        try clear c9
        try clear c9b0
        try clear c9b1
        try clear c11
        try clear c11b0
        try clear c11b1
        try clear c12
        try clear c13
        try clear c13b0
        try clear c14
        try clear c14b0
        try clear p2
        try clear p3
        obtain ⟨x4_2, x30_2, rfl, rfl, HA, HK2, HO_28, HB⟩ := hrel
        cases gk with
        | zero => exact absurd HA.out (by simp [laws_FnIgnorable.l0])
        | succ k2 =>
          have H := HA.out
          clear HA
          simp only [laws_FnIgnorable.l0] at H
          by_cases c19 : x30_2 < (t111.length : Int)
          · rw [if_pos c19] at H
            have c19b0 : decide (x30_2 < (t111.length : Int)) = true := decide_eq_true c19
            clear c19
            by_cases c20 : 0 ≤ x30_2
            · rw [if_pos c20] at H
              have c20b0 : decide (0 ≤ x30_2) = true := decide_eq_true c20
              clear c20
              by_cases c21 : x30_2 < (t111.length : Int)
              · rw [if_pos c21] at H
                have c21b0 : decide (x30_2 < (t111.length : Int)) = true := decide_eq_true c21
                clear c21
                by_cases c22 : x4_2 = true
                · subst c22
                  have H1 : (laws_FnIgnorable.l0 k2 (wrap32 (Int.tmod a0 1114112)) true t111 (t111.length : Int) (wrap64 (x30_2 + 1))) = some r := by rw [if_pos rfl] at H; exact H
                  clear H
                  have H := H1
                  clear H1
                  have H' := Aside0.mk H
                  clear H
                  have p114 : 0 ≤ (x30_2 : Int) := of_decide_eq_true (by first | (with_reducible assumption) | assumption)
                  have q114 : x30_2 < (t111.length : Int) := of_decide_eq_true (by first | (with_reducible assumption) | assumption)
                  obtain ⟨ad114, e114, hx114_0, hx114_1⟩ := at_T60 (Kd.R_reads' HO_28.out).2.2 x30_2 p114 q114
                  cases e114
                  replace p114 := eq_true p114
                  replace q114 := eq_true q114
                  go_wp2_with (first | ((with_reducible refine gate_dst (N := 6) rfl ?_); refine box_event ?hg (N := 6) ?hd (cs := #[.int .i32 0, .int .i32 0]) (t := 60) ?hr ?_; (case hd => rfl); (case hg => rfl); (case hr => first | (go_simp; done) | (go_simp; rfl)); intro gb115 hg w23 hbox hb; have n0_ := Aside0.mk (Kd.R_below (Kd.R_elderB (by (with_reducible repeat (first | apply Kd.R_alloc | apply Kd.R_drewN | apply Kd.R_drew)); exact HO_28.out) gb115 (Nat.le_of_eq hg.symm)) hb); have n1_ := Aside0.mk (below_step (by repeat (first | (with_reducible first | exact HB.out | apply below_alloc | apply pw_below_drewN | apply below_drew1) | exact HB.out)) hb); have n2_ := Aside0.mk (hbox); have n3_ := Aside0.mk ((by rw [hg]; exact (below_size (by repeat (first | (with_reducible first | exact HB.out | apply below_alloc | apply pw_below_drewN | apply below_drew1) | exact HB.out))) : w.heap.size ≤ gb115)); have n4_ := Aside0.mk ((by rw [hg]; exact (below_size (by repeat (first | (with_reducible first | exact HB.out | apply below_alloc | apply pw_below_drewN | apply below_drew1) | exact HB.out))) : w.heap.size ≤ gb115)); clear HO_28; clear HB; have HO_28 := n0_; have HB := n1_; have BK115 := n2_; have GW115 := n3_; have GE115 := n4_; clear n0_ n1_ n2_ n3_ n4_; clear hb hbox hg; have hcz24_0 : w23.cell? ⟨gb115, 0, none⟩ = some (.int .i32 0) := (blk_cell BK115.out 0).trans rfl; have hcz24_1 : w23.cell? ⟨gb115, 1, none⟩ = some (.int .i32 0) := (blk_cell BK115.out 1).trans rfl; have hfz24_0 := blk_frozen BK115.out 0; have hfz24_1 := blk_frozen BK115.out 1))
                  go_roundg k2
                  case measure => have := HJ1.out; have := HK2.out; omega
                  case rel => exact ⟨(true), (wrap64 (x30_2 + 1)), (by first | rfl | (simp; done) | (simp [*]; done)), (by first | rfl | (simp; done) | (simp [*]; done)), H', ⟨by have := HJ1.out; have := HK2.out; omega⟩, ⟨by (with_reducible repeat (first | apply Kd.R_alloc | apply Kd.R_drewN | apply Kd.R_drew)); exact Kd.R_mono (Kd.R_far (p := ⟨gb115, 1, none⟩) (Kd.R_far (p := ⟨gb115, 0, none⟩) (Kd.R_mono HO_28.out (fun k_ hk => (⟨hk, hk.2⟩ : _ ∧ k_ ≠ gb115))) (fun _ hk => hk.2) (.int .i32 ((rd_T60 t111 x30_2).f0))) (fun _ hk => hk.2) (.int .i32 ((rd_T60 t111 x30_2).f1))) (fun _ hk => trivial)⟩, ⟨by repeat (first | (with_reducible first | exact HB.out | apply below_alloc | apply pw_below_drewN | apply below_drew1 | refine below_set ?_ GE115.out) | exact HB.out)⟩⟩
                · replace c22 := Bool.eq_false_iff.mpr c22
                  subst c22
                  have H1 : (if (wrap32 (Int.tmod a0 1114112)) ≥ ((rd_T60 t111 x30_2).f0) then (laws_FnIgnorable.l0 k2 (wrap32 (Int.tmod a0 1114112)) (decide ((wrap32 (Int.tmod a0 1114112)) ≤ ((rd_T60 t111 x30_2).f1))) t111 (t111.length : Int) (wrap64 (x30_2 + 1))) else (laws_FnIgnorable.l0 k2 (wrap32 (Int.tmod a0 1114112)) false t111 (t111.length : Int) (wrap64 (x30_2 + 1)))) = some r := by rw [if_neg (show ¬ (false = true) by decide)] at H; exact H
                  clear H
                  have H := H1
                  clear H1
                  by_cases c25 : (wrap32 (Int.tmod a0 1114112)) ≥ ((rd_T60 t111 x30_2).f0)
                  · rw [if_pos c25] at H
                    have c25b0 : decide (((rd_T60 t111 x30_2).f0) ≤ (wrap32 (Int.tmod a0 1114112))) = true := decide_eq_true c25
                    clear c25
                    have H' := Aside0.mk H
                    clear H
                    have p114 : 0 ≤ (x30_2 : Int) := of_decide_eq_true (by first | (with_reducible assumption) | assumption)
                    have q114 : x30_2 < (t111.length : Int) := of_decide_eq_true (by first | (with_reducible assumption) | assumption)
                    obtain ⟨ad114, e114, hx114_0, hx114_1⟩ := at_T60 (Kd.R_reads' HO_28.out).2.2 x30_2 p114 q114
                    cases e114
                    replace p114 := eq_true p114
                    replace q114 := eq_true q114
                    go_wp2_with (first | ((with_reducible refine gate_dst (N := 6) rfl ?_); refine box_event ?hg (N := 6) ?hd (cs := #[.int .i32 0, .int .i32 0]) (t := 60) ?hr ?_; (case hd => rfl); (case hg => rfl); (case hr => first | (go_simp; done) | (go_simp; rfl)); intro gb115 hg w26 hbox hb; have n0_ := Aside0.mk (Kd.R_below (Kd.R_elderB (by (with_reducible repeat (first | apply Kd.R_alloc | apply Kd.R_drewN | apply Kd.R_drew)); exact HO_28.out) gb115 (Nat.le_of_eq hg.symm)) hb); have n1_ := Aside0.mk (below_step (by repeat (first | (with_reducible first | exact HB.out | apply below_alloc | apply pw_below_drewN | apply below_drew1) | exact HB.out)) hb); have n2_ := Aside0.mk (hbox); have n3_ := Aside0.mk ((by rw [hg]; exact (below_size (by repeat (first | (with_reducible first | exact HB.out | apply below_alloc | apply pw_below_drewN | apply below_drew1) | exact HB.out))) : w.heap.size ≤ gb115)); have n4_ := Aside0.mk ((by rw [hg]; exact (below_size (by repeat (first | (with_reducible first | exact HB.out | apply below_alloc | apply pw_below_drewN | apply below_drew1) | exact HB.out))) : w.heap.size ≤ gb115)); clear HO_28; clear HB; have HO_28 := n0_; have HB := n1_; have BK115 := n2_; have GW115 := n3_; have GE115 := n4_; clear n0_ n1_ n2_ n3_ n4_; clear hb hbox hg; have hcz27_0 : w26.cell? ⟨gb115, 0, none⟩ = some (.int .i32 0) := (blk_cell BK115.out 0).trans rfl; have hcz27_1 : w26.cell? ⟨gb115, 1, none⟩ = some (.int .i32 0) := (blk_cell BK115.out 1).trans rfl; have hfz27_0 := blk_frozen BK115.out 0; have hfz27_1 := blk_frozen BK115.out 1))
                    go_roundg k2
                    case measure => have := HJ1.out; have := HK2.out; omega
                    case rel => exact ⟨(decide ((wrap32 (Int.tmod a0 1114112)) ≤ ((rd_T60 t111 x30_2).f1))), (wrap64 (x30_2 + 1)), (by first | rfl | (simp; done) | (simp [*]; done)), (by first | rfl | (simp; done) | (simp [*]; done)), H', ⟨by have := HJ1.out; have := HK2.out; omega⟩, ⟨by (with_reducible repeat (first | apply Kd.R_alloc | apply Kd.R_drewN | apply Kd.R_drew)); exact Kd.R_mono (Kd.R_far (p := ⟨gb115, 1, none⟩) (Kd.R_far (p := ⟨gb115, 0, none⟩) (Kd.R_mono HO_28.out (fun k_ hk => (⟨hk, hk.2⟩ : _ ∧ k_ ≠ gb115))) (fun _ hk => hk.2) (.int .i32 ((rd_T60 t111 x30_2).f0))) (fun _ hk => hk.2) (.int .i32 ((rd_T60 t111 x30_2).f1))) (fun _ hk => trivial)⟩, ⟨by repeat (first | (with_reducible first | exact HB.out | apply below_alloc | apply pw_below_drewN | apply below_drew1 | refine below_set ?_ GE115.out) | exact HB.out)⟩⟩
                  · rw [if_neg c25] at H
                    have c25b0 : decide (((rd_T60 t111 x30_2).f0) ≤ (wrap32 (Int.tmod a0 1114112))) = false := decide_eq_false c25
                    clear c25
                    have H' := Aside0.mk H
                    clear H
                    have p114 : 0 ≤ (x30_2 : Int) := of_decide_eq_true (by first | (with_reducible assumption) | assumption)
                    have q114 : x30_2 < (t111.length : Int) := of_decide_eq_true (by first | (with_reducible assumption) | assumption)
                    obtain ⟨ad114, e114, hx114_0, hx114_1⟩ := at_T60 (Kd.R_reads' HO_28.out).2.2 x30_2 p114 q114
                    cases e114
                    replace p114 := eq_true p114
                    replace q114 := eq_true q114
                    go_wp2_with (first | ((with_reducible refine gate_dst (N := 6) rfl ?_); refine box_event ?hg (N := 6) ?hd (cs := #[.int .i32 0, .int .i32 0]) (t := 60) ?hr ?_; (case hd => rfl); (case hg => rfl); (case hr => first | (go_simp; done) | (go_simp; rfl)); intro gb115 hg w28 hbox hb; have n0_ := Aside0.mk (Kd.R_below (Kd.R_elderB (by (with_reducible repeat (first | apply Kd.R_alloc | apply Kd.R_drewN | apply Kd.R_drew)); exact HO_28.out) gb115 (Nat.le_of_eq hg.symm)) hb); have n1_ := Aside0.mk (below_step (by repeat (first | (with_reducible first | exact HB.out | apply below_alloc | apply pw_below_drewN | apply below_drew1) | exact HB.out)) hb); have n2_ := Aside0.mk (hbox); have n3_ := Aside0.mk ((by rw [hg]; exact (below_size (by repeat (first | (with_reducible first | exact HB.out | apply below_alloc | apply pw_below_drewN | apply below_drew1) | exact HB.out))) : w.heap.size ≤ gb115)); have n4_ := Aside0.mk ((by rw [hg]; exact (below_size (by repeat (first | (with_reducible first | exact HB.out | apply below_alloc | apply pw_below_drewN | apply below_drew1) | exact HB.out))) : w.heap.size ≤ gb115)); clear HO_28; clear HB; have HO_28 := n0_; have HB := n1_; have BK115 := n2_; have GW115 := n3_; have GE115 := n4_; clear n0_ n1_ n2_ n3_ n4_; clear hb hbox hg; have hcz29_0 : w28.cell? ⟨gb115, 0, none⟩ = some (.int .i32 0) := (blk_cell BK115.out 0).trans rfl; have hcz29_1 : w28.cell? ⟨gb115, 1, none⟩ = some (.int .i32 0) := (blk_cell BK115.out 1).trans rfl; have hfz29_0 := blk_frozen BK115.out 0; have hfz29_1 := blk_frozen BK115.out 1))
                    go_roundg k2
                    case measure => have := HJ1.out; have := HK2.out; omega
                    case rel => exact ⟨(false), (wrap64 (x30_2 + 1)), (by first | rfl | (simp; done) | (simp [*]; done)), (by first | rfl | (simp; done) | (simp [*]; done)), H', ⟨by have := HJ1.out; have := HK2.out; omega⟩, ⟨by (with_reducible repeat (first | apply Kd.R_alloc | apply Kd.R_drewN | apply Kd.R_drew)); exact Kd.R_mono (Kd.R_far (p := ⟨gb115, 1, none⟩) (Kd.R_far (p := ⟨gb115, 0, none⟩) (Kd.R_mono HO_28.out (fun k_ hk => (⟨hk, hk.2⟩ : _ ∧ k_ ≠ gb115))) (fun _ hk => hk.2) (.int .i32 ((rd_T60 t111 x30_2).f0))) (fun _ hk => hk.2) (.int .i32 ((rd_T60 t111 x30_2).f1))) (fun _ hk => trivial)⟩, ⟨by repeat (first | (with_reducible first | exact HB.out | apply below_alloc | apply pw_below_drewN | apply below_drew1 | refine below_set ?_ GE115.out) | exact HB.out)⟩⟩
              · rw [if_neg c21] at H
                exact absurd H (by simp)
            · rw [if_neg c20] at H
              exact absurd H (by simp)
          · rw [if_neg c19] at H
            have c19b0 : decide (x30_2 < (t111.length : Int)) = false := decide_eq_false c19
            clear c19
            replace H := Option.bind_eq_some_iff.mp H
            obtain ⟨t116, A300, H⟩ := H
            replace H : (if (t116 == x4_2) = true then ((impl_Ignorable.f 173).bind fun t117 => (some t117)) else (some false)) = some r := H
            have A30 := Aside0.mk A300
            clear A300
            by_cases c31 : (t116 == x4_2) = true
            · rw [if_pos c31] at H
              have c31b0 : (t116 == x4_2) = true := c31
              (try (have c31b1 : decide (t116 = x4_2) = true := by simpa using c31))
              (try (have c31b2 : (t116 == x4_2) = true := by simpa using c31))
              clear c31
              replace H := Option.bind_eq_some_iff.mp H
              obtain ⟨t117, A320, H⟩ := H
              replace H : (some t117) = some r := H
              have A32 := Aside0.mk A320
              clear A320
              obtain rfl := Option.some.inj H
              go_wp2_with (first | ((with_reducible refine gate_callee (f := 31) rfl ?_); refine goesL_ (some 49) rfl rfl Try.func31 (by kernel_rfl) rfl #[.int .i32 (wrap32 (Int.tmod a0 1114112))] rfl (by (try simp only [List.map_toArray, List.map_cons, List.map_nil]); first | done | rfl | (simp only [List.length_drop, List.length_take]; rfl)) ?_; (with_reducible refine (impl_Ignorable.calls (wrap32 (Int.tmod a0 1114112)) t116 _ A30.out).mono ?_); rintro e w' ⟨rfl, ⟨nd, rfl⟩⟩; refine ⟨_, rfl, ?_⟩) | (go_at_call 31; (with_reducible refine (impl_Ignorable.calls 173 t117 _ A32.out).mono ?_); rintro e w' ⟨rfl, ⟨nd, rfl⟩⟩))
              go_ret
              exact ⟨by first | rfl | (simp [errW_none, errW_some] <;> rfl) | (simp [*, errW_none, errW_some] <;> rfl), by repeat (first | (with_reducible first | exact HB.out | apply below_alloc | apply pw_below_drewN | apply below_drew1) | exact HB.out)⟩
            · rw [if_neg c31] at H
              have c31b0 : (t116 == x4_2) = false := by simpa using c31
              (try (have c31b1 : decide (t116 = x4_2) = false := by simpa using c31))
              (try (have c31b2 : (t116 == x4_2) = false := by simpa using c31))
              (try (have c31b3 : ¬ (t116 = x4_2) := by simpa using c31))
              clear c31
              obtain rfl := Option.some.inj H
              go_wp2_with (first | ((with_reducible refine gate_callee (f := 31) rfl ?_); refine goesL_ (some 49) rfl rfl Try.func31 (by kernel_rfl) rfl #[.int .i32 (wrap32 (Int.tmod a0 1114112))] rfl (by (try simp only [List.map_toArray, List.map_cons, List.map_nil]); first | done | rfl | (simp only [List.length_drop, List.length_take]; rfl)) ?_; (with_reducible refine (impl_Ignorable.calls (wrap32 (Int.tmod a0 1114112)) t116 _ A30.out).mono ?_); rintro e w' ⟨rfl, ⟨nd, rfl⟩⟩; refine ⟨_, rfl, ?_⟩))
              go_ret
              exact ⟨by first | rfl | (simp [errW_none, errW_some] <;> rfl) | (simp [*, errW_none, errW_some] <;> rfl), by repeat (first | (with_reducible first | exact HB.out | apply below_alloc | apply pw_below_drewN | apply below_drew1) | exact HB.out)⟩

/-- THE ONE PURE STATEMENT of laws_FnIgnorable: yours. -/
def laws_FnIgnorable.Pure : Prop := ∀ (a0 : Int), (Lit.int .u32 a0).wf = true → ∃ k, laws_FnIgnorable.f k a0 = some true
theorem laws_FnIgnorable.walk (P : laws_FnIgnorable.Pure) (a0 : Int) (w : World) (w0 : (Lit.int .u32 a0).wf = true) :
    Calls Try.prog 12 #[.int .u32 a0] w fun e w' => e = .returned (.bool true) ∧ Below w.heap.size w w' := by
  obtain ⟨k, h⟩ := P a0 w0
  refine (laws_FnIgnorable.calls k a0 true w h).mono ?_
  rintro e w' ⟨rfl, hd⟩
  exact ⟨rfl, hd⟩

end Go.Proofs.Ytkfphiccfnfkdaa.PFnIgnorable
