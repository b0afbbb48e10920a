-- Written by a program of this session (xprint) out of the translation; Lean checks it.
import Derived.Test.YtkfphiccfnfkdaaPFnLangSplitx0
namespace Go.Proofs.Ytkfphiccfnfkdaa.PFnLangSplit
open Go.RowKit Go.Proofs.YtkfphiccfnfkdaaW.PrintWords Go.Proofs.YtkfphiccfnfkdaaW.PrintLast Go.Proofs.YtkfphiccfnfkdaaW.PrintMore
attribute [local go_sem] max2_int min2_int max_two min_two max_three min_three max_four min_four   -- for this text's walks alone
set_option linter.unusedVariables false
set_option linter.unusedSimpArgs false

/-! ### spec_LangNew: function 40 -/
mutual
def spec_LangNew.l0 : Nat → ByteArray → List Int → Int → Int → Option (ByteArray)
  | 0, _, _, _, _ => none
  | k + 1, x0, x3, x7, x8 => if x8 < x7 then (if 0 ≤ x8 then (if x8 < (x0.size : Int) then (if (bt x0 x8) ≥ 65 then (spec_LangNew.j1 k x0 x3 (bt x0 x8) x7 x8 (decide ((bt x0 x8) ≤ 90))) else (spec_LangNew.j1 k x0 x3 (bt x0 x8) x7 x8 false)) else (none)) else (none)) else (some (strOfNums x3))
def spec_LangNew.j1 : Nat → ByteArray → List Int → Int → Int → Int → Bool → Option (ByteArray)
  | 0, _, _, _, _, _, _ => none
  | k + 1, x0, x3, x5, x7, x8, x14 => if x14 = true then (if x3.length < 140737488355328 then (spec_LangNew.l0 k x0 (x3 ++ [(x5 + 32) % 256]) x7 (wrap64 (x8 + 1))) else (none)) else (if x5 = 95 then (if x3.length < 140737488355328 then (spec_LangNew.l0 k x0 (x3 ++ [45]) x7 (wrap64 (x8 + 1))) else (none)) else (if x5 ≥ 97 then (if x5 ≤ 122 then (if x3.length < 140737488355328 then (spec_LangNew.l0 k x0 (x3 ++ [x5]) x7 (wrap64 (x8 + 1))) else (none)) else (if x5 ≥ 48 then (if x5 ≤ 57 then (if x3.length < 140737488355328 then (spec_LangNew.l0 k x0 (x3 ++ [x5]) x7 (wrap64 (x8 + 1))) else (none)) else (if x5 = 45 then (if x3.length < 140737488355328 then (spec_LangNew.l0 k x0 (x3 ++ [x5]) x7 (wrap64 (x8 + 1))) else (none)) else (spec_LangNew.l0 k x0 x3 x7 (wrap64 (x8 + 1))))) else (if x5 = 45 then (if x3.length < 140737488355328 then (spec_LangNew.l0 k x0 (x3 ++ [x5]) x7 (wrap64 (x8 + 1))) else (none)) else (spec_LangNew.l0 k x0 x3 x7 (wrap64 (x8 + 1)))))) else (if x5 ≥ 48 then (if x5 ≤ 57 then (if x3.length < 140737488355328 then (spec_LangNew.l0 k x0 (x3 ++ [x5]) x7 (wrap64 (x8 + 1))) else (none)) else (if x5 = 45 then (if x3.length < 140737488355328 then (spec_LangNew.l0 k x0 (x3 ++ [x5]) x7 (wrap64 (x8 + 1))) else (none)) else (spec_LangNew.l0 k x0 x3 x7 (wrap64 (x8 + 1))))) else (if x5 = 45 then (if x3.length < 140737488355328 then (spec_LangNew.l0 k x0 (x3 ++ [x5]) x7 (wrap64 (x8 + 1))) else (none)) else (spec_LangNew.l0 k x0 x3 x7 (wrap64 (x8 + 1)))))))
end
def spec_LangNew.f (k : Nat) (a0 : ByteArray) : Option (ByteArray) := spec_LangNew.l0 k a0 ([] : List Int) (a0.size : Int) 0
theorem spec_LangNew.mono_l : ∀ k, (∀ y0 y1 y2 y3, LeO (spec_LangNew.l0 k y0 y1 y2 y3) (spec_LangNew.l0 (k + 1) y0 y1 y2 y3)) ∧ (∀ y0 y1 y2 y3 y4 y5, LeO (spec_LangNew.j1 k y0 y1 y2 y3 y4 y5) (spec_LangNew.j1 (k + 1) y0 y1 y2 y3 y4 y5))
  | 0 => ⟨fun _ _ _ _ r h => by simp [spec_LangNew.l0] at h, fun _ _ _ _ _ _ r h => by simp [spec_LangNew.j1] at h⟩
  | k + 1 => by
    obtain ⟨ih0, ih1⟩ := spec_LangNew.mono_l k
    refine ⟨?_, ?_⟩
    · intro y0 y1 y2 y3
      unfold spec_LangNew.l0
      repeat' first
      | (with_reducible exact ih0 _ _ _ _)
      | (with_reducible exact ih1 _ _ _ _ _ _)
      | (with_reducible exact LeO.refl _)
      | (with_reducible exact LeO.none _)
      | (with_reducible refine LeO.ite ?_ ?_)
      | (with_reducible refine LeO.bind ?_ (fun _ => ?_))
      | exact ih0 _ _ _ _
      | exact ih1 _ _ _ _ _ _
      | exact LeO.none _
      | refine LeO.ite ?_ ?_
      | refine LeO.bind ?_ (fun _ => ?_)
    · intro y0 y1 y2 y3 y4 y5
      unfold spec_LangNew.j1
      repeat' first
      | (with_reducible exact ih0 _ _ _ _)
      | (with_reducible exact ih1 _ _ _ _ _ _)
      | (with_reducible exact LeO.refl _)
      | (with_reducible exact LeO.none _)
      | (with_reducible refine LeO.ite ?_ ?_)
      | (with_reducible refine LeO.bind ?_ (fun _ => ?_))
      | exact ih0 _ _ _ _
      | exact ih1 _ _ _ _ _ _
      | exact LeO.none _
      | refine LeO.ite ?_ ?_
      | refine LeO.bind ?_ (fun _ => ?_)
theorem spec_LangNew.mono : ∀ a0 k, LeO (spec_LangNew.f k a0) (spec_LangNew.f (k + 1) a0) := by
  intro a0 k
  obtain ⟨ih0, ih1⟩ := spec_LangNew.mono_l k
  unfold spec_LangNew.f
  repeat' first
      | (with_reducible exact ih0 _ _ _ _)
      | (with_reducible exact ih1 _ _ _ _ _ _)
      | (with_reducible exact LeO.refl _)
      | (with_reducible exact LeO.none _)
      | (with_reducible refine LeO.ite ?_ ?_)
      | (with_reducible refine LeO.bind ?_ (fun _ => ?_))
      | exact ih0 _ _ _ _
      | exact ih1 _ _ _ _ _ _
      | exact LeO.none _
      | refine LeO.ite ?_ ?_
      | refine LeO.bind ?_ (fun _ => ?_)
set_option maxHeartbeats 8000000 in
set_option maxRecDepth 100000 in
theorem spec_LangNew.calls (k : Nat) (a0 : ByteArray) (r : ByteArray) (w : World) (h : spec_LangNew.f k a0 = some r) :
    Calls Try.prog 40 #[.string a0] w fun e w' => e = .returned (.string r) ∧ Below w.heap.size w w' := by
  have HB := Aside0.mk (Below.refl w.heap.size w)
  have H : (spec_LangNew.l0 k a0 ([] : List Int) (a0.size : Int) 0) = some r := h
  clear h
  have H' := Aside0.mk H
  clear H
  go_enter Try.func40, Try.ntmps40
  go_wp2
  go_loopg [3, 8] k (fun kq v3 v8 w' => ∃ (x3_1 : List Int) (x8_1 : Int), v8 = .int .i64 x8_1 ∧ Aside0 (spec_LangNew.l0 kq a0 x3_1 (a0.size : Int) x8_1 = some r) ∧ Aside0 (kq ≤ k) ∧ Aside0 (Kd.R (Kd.int .u8) 5 w' w.heap.size (fun _ => True) v3 x3_1) ∧ Aside0 (Below w.heap.size w w'))
  case atStart => exact ⟨(([] : List Int)), (0), (by first | rfl | (simp; done) | (simp [*]; done)), H', ⟨Nat.le_refl _⟩, ⟨by first | exact Kd.R_nil _ _ _ _ _ | exact Kd.N_nil _ _ _ _ _ | exact Kd.V_nil _ _ _ _ _ | exact Kd.Q_nil _ _ _ _ _ | exact Kd.S_nil _ _ _ _ _⟩, ⟨by repeat (first | (with_reducible first | exact HB.out | apply below_alloc | apply pw_below_drewN | apply below_drew1) | exact HB.out)⟩⟩
  case round =>
    clear H'
    obtain ⟨x3_1, x8_1, rfl, HA, HK1, HO_3, HB⟩ := hrel
    cases gk with
    | zero => exact absurd HA.out (by simp [spec_LangNew.l0])
    | succ k1 =>
      have H := HA.out
      clear HA
      simp only [spec_LangNew.l0] at H
      by_cases c2 : x8_1 < (a0.size : Int)
      · rw [if_pos c2] at H
        have c2b0 : decide (x8_1 < (a0.size : Int)) = true := decide_eq_true c2
        clear c2
        by_cases c3 : 0 ≤ x8_1
        · rw [if_pos c3] at H
          have c3b0 : decide (0 ≤ x8_1) = true := decide_eq_true c3
          clear c3
          by_cases c4 : x8_1 < (a0.size : Int)
          · rw [if_pos c4] at H
            have c4b0 : decide (x8_1 < (a0.size : Int)) = true := decide_eq_true c4
            clear c4
            have HC6 := Aside0.mk H
            clear H
            have p5 : 0 ≤ (x8_1 : Int) := of_decide_eq_true (by first | (with_reducible assumption) | assumption)
            have q5 : x8_1 < (a0.size : Int) := of_decide_eq_true (by first | (with_reducible assumption) | assumption)
            have hx5 := bt_at a0 x8_1
            replace p5 := eq_true p5
            replace q5 := eq_true q5
            go_upto_region 6 with (fail)
            go_cut [14] (fun v14 wc => ∃ (kq : Nat) (x14_5 : Bool), v14 = .bool x14_5 ∧ Aside0 (spec_LangNew.j1 kq a0 x3_1 (bt a0 x8_1) (a0.size : Int) x8_1 x14_5 = some r) ∧ Aside0 (kq ≤ k1) ∧ Aside0 (Kd.R (Kd.int .u8) 5 wc w.heap.size (fun _ => True) u3 x3_1) ∧ Aside0 (Below w.heap.size w wc))
            case first =>
              have H := HC6.out
              clear HC6
              by_cases c7 : (bt a0 x8_1) ≥ 65
              · rw [if_pos c7] at H
                have c7b0 : decide (65 ≤ (bt a0 x8_1)) = true := decide_eq_true c7
                clear c7
                (first | rw [c7b0] | (simp only [i64_w, i32_w]; rw [c7b0]) | skip)
                have H' := Aside0.mk H
                clear H
                go_wp2
                go_meet
                case rel => exact ⟨_, (decide ((bt a0 x8_1) ≤ 90)), (by first | rfl | (simp; done) | (simp [*]; done)), H', ⟨by have := HK1.out; first | omega | exact Nat.le_refl _⟩, ⟨by (with_reducible repeat (first | apply Kd.R_alloc | apply Kd.R_drewN | apply Kd.R_drew)); exact HO_3.out⟩, ⟨by repeat (first | (with_reducible first | exact HB.out | apply below_alloc | apply pw_below_drewN | apply below_drew1) | exact HB.out)⟩⟩
              · rw [if_neg c7] at H
                have c7b0 : decide (65 ≤ (bt a0 x8_1)) = false := decide_eq_false c7
                clear c7
                (first | rw [c7b0] | (simp only [i64_w, i32_w]; rw [c7b0]) | skip)
                have H' := Aside0.mk H
                clear H
                go_wp2
                go_meet
                case rel => exact ⟨_, (false), (by first | rfl | (simp; done) | (simp [*]; done)), H', ⟨by have := HK1.out; first | omega | exact Nat.le_refl _⟩, ⟨by (with_reducible repeat (first | apply Kd.R_alloc | apply Kd.R_drewN | apply Kd.R_drew)); exact HO_3.out⟩, ⟨by repeat (first | (with_reducible first | exact HB.out | apply below_alloc | apply pw_below_drewN | apply below_drew1) | exact HB.out)⟩⟩
            case rest =>
              clear HC6
              try clear c2
              try clear c2b0
              try clear p2
              try clear c3
              try clear c3b0
              try clear c4
              try clear c4b0
              try clear p5
              try clear q5
              try clear hx5
              try clear c7
              try clear c7b0
              try clear p5
              try clear q5
              obtain ⟨kq, x14_5, rfl, HA, HJ5, HO_3, HB⟩ := hcut
              cases kq with
              | zero => exact absurd HA.out (by simp [spec_LangNew.j1])
              | succ kj5 =>
                have H := HA.out
                clear HA
                simp only [spec_LangNew.j1] at H
                by_cases c8 : x14_5 = true
                · subst c8
                  have H1 : (if x3_1.length < 140737488355328 then (spec_LangNew.l0 kj5 a0 (x3_1 ++ [((bt a0 x8_1) + 32) % 256]) (a0.size : Int) (wrap64 (x8_1 + 1))) else (none)) = some r := by rw [if_pos rfl] at H; exact H
                  clear H
                  have H := H1
                  clear H1
                  by_cases c9 : x3_1.length < 140737488355328
                  · rw [if_pos c9] at H
                    have LMc9 := Aside0.mk c9
                    clear c9
                    obtain ⟨y101, hy101⟩ : ∃ y_ : List Int, y_ = (x3_1 ++ [((bt a0 x8_1) + 32) % 256]) := ⟨_, rfl⟩
                    replace H : (spec_LangNew.l0 kj5 a0 y101 (a0.size : Int) (wrap64 (x8_1 + 1))) = some r := by first | (rw [hy101]; with_reducible exact H) | (have H2_ := (Option.bind_some _ _).symm.trans H; rw [hy101]; with_reducible exact H2_) | (have H2_ := (Option.bind_some _ _).symm.trans H; with_reducible exact H2_) | with_reducible exact H | (rw [hy101]; exact H) | exact H
                    have Ny101 := Aside0.mk hy101
                    clear hy101
                    have H' := Aside0.mk H
                    clear H
                    go_wp2_with (first | ((with_reducible refine gate_builtin (b := .append) (xs := #[.tmp 21, .tmp 24]) rfl ?_); at_builtin; refine Kd.R_append (Kd.int .u8) (w0 := w) w.heap.size rfl (.tmp 21) (.tmp 24) 47 5 (.int .u8 0) 1 rfl Try.underlying47 info5 rfl (by decide) (by omega) u3 x3_1 (((bt a0 x8_1) + 32) % 256) [.int .u8 (((bt a0 x8_1) + 32) % 256)] (fun _ => True) (fun _ => False) rfl rfl ?aP (fun _ hk => hk.elim) ?aF ?aO ?aB ?aS ?aL ?_; (case aP => exact rfl); (case aB => exact (by repeat (first | (with_reducible first | exact HB.out | apply below_alloc | apply pw_below_drewN | apply below_drew1) | exact HB.out))); (case aF => exact (fun _ _ => trivial)); (case aO => exact (by (with_reducible repeat (first | apply Kd.R_alloc | apply Kd.R_drewN | apply Kd.R_drew)); exact HO_3.out)); (case aS => exact (below_size (by repeat (first | (with_reducible first | exact HB.out | apply below_alloc | apply pw_below_drewN | apply below_drew1) | exact HB.out)))); (case aL => have := LMc9.out; omega); intro v102 w10 ho hb hg hat; rw [← Ny101.out] at ho; have n0_ := Aside0.mk (hb); have n1_ := Aside0.mk (ho); clear HB; clear HO_3; have HB := n0_; have HO103 := n1_; clear n0_ n1_; clear ho hb hg hat))
                    go_roundg kj5
                    case measure => have := HK1.out; have := HJ5.out; omega
                    case rel => exact ⟨(y101), (wrap64 (x8_1 + 1)), (by first | rfl | (simp; done) | (simp [*]; done)), H', ⟨by have := HK1.out; have := HJ5.out; omega⟩, ⟨by (with_reducible repeat (first | apply Kd.R_alloc | apply Kd.R_drewN | apply Kd.R_drew)); exact HO103.out⟩, ⟨by repeat (first | (with_reducible first | exact HB.out | apply below_alloc | apply pw_below_drewN | apply below_drew1) | exact HB.out)⟩⟩
                  · rw [if_neg c9] at H
                    exact absurd H (by simp)
                · replace c8 := Bool.eq_false_iff.mpr c8
                  subst c8
                  have H1 : (if (bt a0 x8_1) = 95 then (if x3_1.length < 140737488355328 then (spec_LangNew.l0 kj5 a0 (x3_1 ++ [45]) (a0.size : Int) (wrap64 (x8_1 + 1))) else (none)) else (if (bt a0 x8_1) ≥ 97 then (if (bt a0 x8_1) ≤ 122 then (if x3_1.length < 140737488355328 then (spec_LangNew.l0 kj5 a0 (x3_1 ++ [(bt a0 x8_1)]) (a0.size : Int) (wrap64 (x8_1 + 1))) else (none)) else (if (bt a0 x8_1) ≥ 48 then (if (bt a0 x8_1) ≤ 57 then (if x3_1.length < 140737488355328 then (spec_LangNew.l0 kj5 a0 (x3_1 ++ [(bt a0 x8_1)]) (a0.size : Int) (wrap64 (x8_1 + 1))) else (none)) else (if (bt a0 x8_1) = 45 then (if x3_1.length < 140737488355328 then (spec_LangNew.l0 kj5 a0 (x3_1 ++ [(bt a0 x8_1)]) (a0.size : Int) (wrap64 (x8_1 + 1))) else (none)) else (spec_LangNew.l0 kj5 a0 x3_1 (a0.size : Int) (wrap64 (x8_1 + 1))))) else (if (bt a0 x8_1) = 45 then (if x3_1.length < 140737488355328 then (spec_LangNew.l0 kj5 a0 (x3_1 ++ [(bt a0 x8_1)]) (a0.size : Int) (wrap64 (x8_1 + 1))) else (none)) else (spec_LangNew.l0 kj5 a0 x3_1 (a0.size : Int) (wrap64 (x8_1 + 1)))))) else (if (bt a0 x8_1) ≥ 48 then (if (bt a0 x8_1) ≤ 57 then (if x3_1.length < 140737488355328 then (spec_LangNew.l0 kj5 a0 (x3_1 ++ [(bt a0 x8_1)]) (a0.size : Int) (wrap64 (x8_1 + 1))) else (none)) else (if (bt a0 x8_1) = 45 then (if x3_1.length < 140737488355328 then (spec_LangNew.l0 kj5 a0 (x3_1 ++ [(bt a0 x8_1)]) (a0.size : Int) (wrap64 (x8_1 + 1))) else (none)) else (spec_LangNew.l0 kj5 a0 x3_1 (a0.size : Int) (wrap64 (x8_1 + 1))))) else (if (bt a0 x8_1) = 45 then (if x3_1.length < 140737488355328 then (spec_LangNew.l0 kj5 a0 (x3_1 ++ [(bt a0 x8_1)]) (a0.size : Int) (wrap64 (x8_1 + 1))) else (none)) else (spec_LangNew.l0 kj5 a0 x3_1 (a0.size : Int) (wrap64 (x8_1 + 1))))))) = some r := by rw [if_neg (show ¬ (false = true) by decide)] at H; exact H
                  clear H
                  have H := H1
                  clear H1
                  by_cases c11 : (bt a0 x8_1) = 95
                  · rw [if_pos c11] at H
                    have c11b0 : ((bt a0 x8_1) == 95) = true := beq_iff_eq.mpr c11
                    have c11b1 : ((bt a0 x8_1) != 95) = false := bne_eq_false_iff_eq.mpr c11
                    clear c11
                    by_cases c12 : x3_1.length < 140737488355328
                    · rw [if_pos c12] at H
                      have LMc12 := Aside0.mk c12
                      clear c12
                      obtain ⟨y104, hy104⟩ : ∃ y_ : List Int, y_ = (x3_1 ++ [45]) := ⟨_, rfl⟩
                      replace H : (spec_LangNew.l0 kj5 a0 y104 (a0.size : Int) (wrap64 (x8_1 + 1))) = some r := by first | (rw [hy104]; with_reducible exact H) | (have H2_ := (Option.bind_some _ _).symm.trans H; rw [hy104]; with_reducible exact H2_) | (have H2_ := (Option.bind_some _ _).symm.trans H; with_reducible exact H2_) | with_reducible exact H | (rw [hy104]; exact H) | exact H
                      have Ny104 := Aside0.mk hy104
                      clear hy104
                      have H' := Aside0.mk H
                      clear H
                      go_wp2_with (first | ((with_reducible refine gate_builtin (b := .append) (xs := #[.tmp 29, .tmp 30]) rfl ?_); at_builtin; refine Kd.R_append (Kd.int .u8) (w0 := w) w.heap.size rfl (.tmp 29) (.tmp 30) 47 5 (.int .u8 0) 1 rfl Try.underlying47 info5 rfl (by decide) (by omega) u3 x3_1 45 [.int .u8 45] (fun _ => True) (fun _ => False) rfl rfl ?aP (fun _ hk => hk.elim) ?aF ?aO ?aB ?aS ?aL ?_; (case aP => exact rfl); (case aB => exact (by repeat (first | (with_reducible first | exact HB.out | apply below_alloc | apply pw_below_drewN | apply below_drew1) | exact HB.out))); (case aF => exact (fun _ _ => trivial)); (case aO => exact (by (with_reducible repeat (first | apply Kd.R_alloc | apply Kd.R_drewN | apply Kd.R_drew)); exact HO_3.out)); (case aS => exact (below_size (by repeat (first | (with_reducible first | exact HB.out | apply below_alloc | apply pw_below_drewN | apply below_drew1) | exact HB.out)))); (case aL => have := LMc12.out; omega); intro v105 w13 ho hb hg hat; rw [← Ny104.out] at ho; have n0_ := Aside0.mk (hb); have n1_ := Aside0.mk (ho); clear HB; clear HO_3; have HB := n0_; have HO106 := n1_; clear n0_ n1_; clear ho hb hg hat))
                      go_roundg kj5
                      case measure => have := HK1.out; have := HJ5.out; omega
                      case rel => exact ⟨(y104), (wrap64 (x8_1 + 1)), (by first | rfl | (simp; done) | (simp [*]; done)), H', ⟨by have := HK1.out; have := HJ5.out; omega⟩, ⟨by (with_reducible repeat (first | apply Kd.R_alloc | apply Kd.R_drewN | apply Kd.R_drew)); exact HO106.out⟩, ⟨by repeat (first | (with_reducible first | exact HB.out | apply below_alloc | apply pw_below_drewN | apply below_drew1) | exact HB.out)⟩⟩
                    · rw [if_neg c12] at H
                      exact absurd H (by simp)
                  · rw [if_neg c11] at H
                    have c11b0 : ((bt a0 x8_1) == 95) = false := beq_eq_false_iff_ne.mpr c11
                    have c11b1 : ((bt a0 x8_1) != 95) = true := bne_iff_ne.mpr c11
                    by_cases c14 : (bt a0 x8_1) ≥ 97
                    · rw [if_pos c14] at H
                      have c14b0 : decide (97 ≤ (bt a0 x8_1)) = true := decide_eq_true c14
                      clear c14
                      by_cases c15 : (bt a0 x8_1) ≤ 122
                      · rw [if_pos c15] at H
                        have c15b0 : decide ((bt a0 x8_1) ≤ 122) = true := decide_eq_true c15
                        clear c15
                        by_cases c16 : x3_1.length < 140737488355328
                        · rw [if_pos c16] at H
                          have LMc16 := Aside0.mk c16
                          clear c16
                          obtain ⟨y107, hy107⟩ : ∃ y_ : List Int, y_ = (x3_1 ++ [(bt a0 x8_1)]) := ⟨_, rfl⟩
                          replace H : (spec_LangNew.l0 kj5 a0 y107 (a0.size : Int) (wrap64 (x8_1 + 1))) = some r := by first | (rw [hy107]; with_reducible exact H) | (have H2_ := (Option.bind_some _ _).symm.trans H; rw [hy107]; with_reducible exact H2_) | (have H2_ := (Option.bind_some _ _).symm.trans H; with_reducible exact H2_) | with_reducible exact H | (rw [hy107]; exact H) | exact H
                          have Ny107 := Aside0.mk hy107
                          clear hy107
                          have H' := Aside0.mk H
                          clear H
                          go_wp2_with (first | ((with_reducible refine gate_builtin (b := .append) (xs := #[.tmp 51, .tmp 53]) rfl ?_); at_builtin; refine Kd.R_append (Kd.int .u8) (w0 := w) w.heap.size rfl (.tmp 51) (.tmp 53) 47 5 (.int .u8 0) 1 rfl Try.underlying47 info5 rfl (by decide) (by omega) u3 x3_1 (bt a0 x8_1) [.int .u8 (bt a0 x8_1)] (fun _ => True) (fun _ => False) rfl rfl ?aP (fun _ hk => hk.elim) ?aF ?aO ?aB ?aS ?aL ?_; (case aP => exact rfl); (case aB => exact (by repeat (first | (with_reducible first | exact HB.out | apply below_alloc | apply pw_below_drewN | apply below_drew1) | exact HB.out))); (case aF => exact (fun _ _ => trivial)); (case aO => exact (by (with_reducible repeat (first | apply Kd.R_alloc | apply Kd.R_drewN | apply Kd.R_drew)); exact HO_3.out)); (case aS => exact (below_size (by repeat (first | (with_reducible first | exact HB.out | apply below_alloc | apply pw_below_drewN | apply below_drew1) | exact HB.out)))); (case aL => have := LMc16.out; omega); intro v108 w17 ho hb hg hat; rw [← Ny107.out] at ho; have n0_ := Aside0.mk (hb); have n1_ := Aside0.mk (ho); clear HB; clear HO_3; have HB := n0_; have HO109 := n1_; clear n0_ n1_; clear ho hb hg hat))
                          go_roundg kj5
                          case measure => have := HK1.out; have := HJ5.out; omega
                          case rel => exact ⟨(y107), (wrap64 (x8_1 + 1)), (by first | rfl | (simp; done) | (simp [*]; done)), H', ⟨by have := HK1.out; have := HJ5.out; omega⟩, ⟨by (with_reducible repeat (first | apply Kd.R_alloc | apply Kd.R_drewN | apply Kd.R_drew)); exact HO109.out⟩, ⟨by repeat (first | (with_reducible first | exact HB.out | apply below_alloc | apply pw_below_drewN | apply below_drew1) | exact HB.out)⟩⟩
                        · rw [if_neg c16] at H
                          exact absurd H (by simp)
                      · rw [if_neg c15] at H
                        have c15b0 : decide ((bt a0 x8_1) ≤ 122) = false := decide_eq_false c15
                        clear c15
                        by_cases c18 : (bt a0 x8_1) ≥ 48
                        · rw [if_pos c18] at H
                          have c18b0 : decide (48 ≤ (bt a0 x8_1)) = true := decide_eq_true c18
                          clear c18
                          by_cases c19 : (bt a0 x8_1) ≤ 57
                          · rw [if_pos c19] at H
                            have c19b0 : decide ((bt a0 x8_1) ≤ 57) = true := decide_eq_true c19
                            clear c19
                            by_cases c20 : x3_1.length < 140737488355328
                            · rw [if_pos c20] at H
                              have LMc20 := Aside0.mk c20
                              clear c20
                              obtain ⟨y110, hy110⟩ : ∃ y_ : List Int, y_ = (x3_1 ++ [(bt a0 x8_1)]) := ⟨_, rfl⟩
                              replace H : (spec_LangNew.l0 kj5 a0 y110 (a0.size : Int) (wrap64 (x8_1 + 1))) = some r := by first | (rw [hy110]; with_reducible exact H) | (have H2_ := (Option.bind_some _ _).symm.trans H; rw [hy110]; with_reducible exact H2_) | (have H2_ := (Option.bind_some _ _).symm.trans H; with_reducible exact H2_) | with_reducible exact H | (rw [hy110]; exact H) | exact H
                              have Ny110 := Aside0.mk hy110
                              clear hy110
                              have H' := Aside0.mk H
                              clear H
                              go_wp2_with (first | ((with_reducible refine gate_builtin (b := .append) (xs := #[.tmp 51, .tmp 53]) rfl ?_); at_builtin; refine Kd.R_append (Kd.int .u8) (w0 := w) w.heap.size rfl (.tmp 51) (.tmp 53) 47 5 (.int .u8 0) 1 rfl Try.underlying47 info5 rfl (by decide) (by omega) u3 x3_1 (bt a0 x8_1) [.int .u8 (bt a0 x8_1)] (fun _ => True) (fun _ => False) rfl rfl ?aP (fun _ hk => hk.elim) ?aF ?aO ?aB ?aS ?aL ?_; (case aP => exact rfl); (case aB => exact (by repeat (first | (with_reducible first | exact HB.out | apply below_alloc | apply pw_below_drewN | apply below_drew1) | exact HB.out))); (case aF => exact (fun _ _ => trivial)); (case aO => exact (by (with_reducible repeat (first | apply Kd.R_alloc | apply Kd.R_drewN | apply Kd.R_drew)); exact HO_3.out)); (case aS => exact (below_size (by repeat (first | (with_reducible first | exact HB.out | apply below_alloc | apply pw_below_drewN | apply below_drew1) | exact HB.out)))); (case aL => have := LMc20.out; omega); intro v111 w21 ho hb hg hat; rw [← Ny110.out] at ho; have n0_ := Aside0.mk (hb); have n1_ := Aside0.mk (ho); clear HB; clear HO_3; have HB := n0_; have HO112 := n1_; clear n0_ n1_; clear ho hb hg hat))
                              go_roundg kj5
                              case measure => have := HK1.out; have := HJ5.out; omega
                              case rel => exact ⟨(y110), (wrap64 (x8_1 + 1)), (by first | rfl | (simp; done) | (simp [*]; done)), H', ⟨by have := HK1.out; have := HJ5.out; omega⟩, ⟨by (with_reducible repeat (first | apply Kd.R_alloc | apply Kd.R_drewN | apply Kd.R_drew)); exact HO112.out⟩, ⟨by repeat (first | (with_reducible first | exact HB.out | apply below_alloc | apply pw_below_drewN | apply below_drew1) | exact HB.out)⟩⟩
                            · rw [if_neg c20] at H
                              exact absurd H (by simp)
                          · rw [if_neg c19] at H
                            have c19b0 : decide ((bt a0 x8_1) ≤ 57) = false := decide_eq_false c19
                            clear c19
                            by_cases c22 : (bt a0 x8_1) = 45
                            · rw [if_pos c22] at H
                              have c22b0 : ((bt a0 x8_1) == 45) = true := beq_iff_eq.mpr c22
                              have c22b1 : ((bt a0 x8_1) != 45) = false := bne_eq_false_iff_eq.mpr c22
                              clear c22
                              by_cases c23 : x3_1.length < 140737488355328
                              · rw [if_pos c23] at H
                                have LMc23 := Aside0.mk c23
                                clear c23
                                obtain ⟨y113, hy113⟩ : ∃ y_ : List Int, y_ = (x3_1 ++ [(bt a0 x8_1)]) := ⟨_, rfl⟩
                                replace H : (spec_LangNew.l0 kj5 a0 y113 (a0.size : Int) (wrap64 (x8_1 + 1))) = some r := by first | (rw [hy113]; with_reducible exact H) | (have H2_ := (Option.bind_some _ _).symm.trans H; rw [hy113]; with_reducible exact H2_) | (have H2_ := (Option.bind_some _ _).symm.trans H; with_reducible exact H2_) | with_reducible exact H | (rw [hy113]; exact H) | exact H
                                have Ny113 := Aside0.mk hy113
                                clear hy113
                                have H' := Aside0.mk H
                                clear H
                                go_wp2_with (first | ((with_reducible refine gate_builtin (b := .append) (xs := #[.tmp 51, .tmp 53]) rfl ?_); at_builtin; refine Kd.R_append (Kd.int .u8) (w0 := w) w.heap.size rfl (.tmp 51) (.tmp 53) 47 5 (.int .u8 0) 1 rfl Try.underlying47 info5 rfl (by decide) (by omega) u3 x3_1 (bt a0 x8_1) [.int .u8 (bt a0 x8_1)] (fun _ => True) (fun _ => False) rfl rfl ?aP (fun _ hk => hk.elim) ?aF ?aO ?aB ?aS ?aL ?_; (case aP => exact rfl); (case aB => exact (by repeat (first | (with_reducible first | exact HB.out | apply below_alloc | apply pw_below_drewN | apply below_drew1) | exact HB.out))); (case aF => exact (fun _ _ => trivial)); (case aO => exact (by (with_reducible repeat (first | apply Kd.R_alloc | apply Kd.R_drewN | apply Kd.R_drew)); exact HO_3.out)); (case aS => exact (below_size (by repeat (first | (with_reducible first | exact HB.out | apply below_alloc | apply pw_below_drewN | apply below_drew1) | exact HB.out)))); (case aL => have := LMc23.out; omega); intro v114 w24 ho hb hg hat; rw [← Ny113.out] at ho; have n0_ := Aside0.mk (hb); have n1_ := Aside0.mk (ho); clear HB; clear HO_3; have HB := n0_; have HO115 := n1_; clear n0_ n1_; clear ho hb hg hat))
                                go_roundg kj5
                                case measure => have := HK1.out; have := HJ5.out; omega
                                case rel => exact ⟨(y113), (wrap64 (x8_1 + 1)), (by first | rfl | (simp; done) | (simp [*]; done)), H', ⟨by have := HK1.out; have := HJ5.out; omega⟩, ⟨by (with_reducible repeat (first | apply Kd.R_alloc | apply Kd.R_drewN | apply Kd.R_drew)); exact HO115.out⟩, ⟨by repeat (first | (with_reducible first | exact HB.out | apply below_alloc | apply pw_below_drewN | apply below_drew1) | exact HB.out)⟩⟩
                              · rw [if_neg c23] at H
                                exact absurd H (by simp)
                            · rw [if_neg c22] at H
                              have c22b0 : ((bt a0 x8_1) == 45) = false := beq_eq_false_iff_ne.mpr c22
                              have c22b1 : ((bt a0 x8_1) != 45) = true := bne_iff_ne.mpr c22
                              have H' := Aside0.mk H
                              clear H
                              go_wp2
                              go_roundg kj5
                              case measure => have := HK1.out; have := HJ5.out; omega
                              case rel => exact ⟨(x3_1), (wrap64 (x8_1 + 1)), (by first | rfl | (simp; done) | (simp [*]; done)), H', ⟨by have := HK1.out; have := HJ5.out; omega⟩, ⟨by (with_reducible repeat (first | apply Kd.R_alloc | apply Kd.R_drewN | apply Kd.R_drew)); exact HO_3.out⟩, ⟨by repeat (first | (with_reducible first | exact HB.out | apply below_alloc | apply pw_below_drewN | apply below_drew1) | exact HB.out)⟩⟩
                        · rw [if_neg c18] at H
                          have c18b0 : decide (48 ≤ (bt a0 x8_1)) = false := decide_eq_false c18
                          clear c18
                          by_cases c25 : (bt a0 x8_1) = 45
                          · rw [if_pos c25] at H
                            have c25b0 : ((bt a0 x8_1) == 45) = true := beq_iff_eq.mpr c25
                            have c25b1 : ((bt a0 x8_1) != 45) = false := bne_eq_false_iff_eq.mpr c25
                            clear c25
                            by_cases c26 : x3_1.length < 140737488355328
                            · rw [if_pos c26] at H
                              have LMc26 := Aside0.mk c26
                              clear c26
                              obtain ⟨y116, hy116⟩ : ∃ y_ : List Int, y_ = (x3_1 ++ [(bt a0 x8_1)]) := ⟨_, rfl⟩
                              replace H : (spec_LangNew.l0 kj5 a0 y116 (a0.size : Int) (wrap64 (x8_1 + 1))) = some r := by first | (rw [hy116]; with_reducible exact H) | (have H2_ := (Option.bind_some _ _).symm.trans H; rw [hy116]; with_reducible exact H2_) | (have H2_ := (Option.bind_some _ _).symm.trans H; with_reducible exact H2_) | with_reducible exact H | (rw [hy116]; exact H) | exact H
                              have Ny116 := Aside0.mk hy116
                              clear hy116
                              have H' := Aside0.mk H
                              clear H
                              go_wp2_with (first | ((with_reducible refine gate_builtin (b := .append) (xs := #[.tmp 51, .tmp 53]) rfl ?_); at_builtin; refine Kd.R_append (Kd.int .u8) (w0 := w) w.heap.size rfl (.tmp 51) (.tmp 53) 47 5 (.int .u8 0) 1 rfl Try.underlying47 info5 rfl (by decide) (by omega) u3 x3_1 (bt a0 x8_1) [.int .u8 (bt a0 x8_1)] (fun _ => True) (fun _ => False) rfl rfl ?aP (fun _ hk => hk.elim) ?aF ?aO ?aB ?aS ?aL ?_; (case aP => exact rfl); (case aB => exact (by repeat (first | (with_reducible first | exact HB.out | apply below_alloc | apply pw_below_drewN | apply below_drew1) | exact HB.out))); (case aF => exact (fun _ _ => trivial)); (case aO => exact (by (with_reducible repeat (first | apply Kd.R_alloc | apply Kd.R_drewN | apply Kd.R_drew)); exact HO_3.out)); (case aS => exact (below_size (by repeat (first | (with_reducible first | exact HB.out | apply below_alloc | apply pw_below_drewN | apply below_drew1) | exact HB.out)))); (case aL => have := LMc26.out; omega); intro v117 w27 ho hb hg hat; rw [← Ny116.out] at ho; have n0_ := Aside0.mk (hb); have n1_ := Aside0.mk (ho); clear HB; clear HO_3; have HB := n0_; have HO118 := n1_; clear n0_ n1_; clear ho hb hg hat))
                              go_roundg kj5
                              case measure => have := HK1.out; have := HJ5.out; omega
                              case rel => exact ⟨(y116), (wrap64 (x8_1 + 1)), (by first | rfl | (simp; done) | (simp [*]; done)), H', ⟨by have := HK1.out; have := HJ5.out; omega⟩, ⟨by (with_reducible repeat (first | apply Kd.R_alloc | apply Kd.R_drewN | apply Kd.R_drew)); exact HO118.out⟩, ⟨by repeat (first | (with_reducible first | exact HB.out | apply below_alloc | apply pw_below_drewN | apply below_drew1) | exact HB.out)⟩⟩
                            · rw [if_neg c26] at H
                              exact absurd H (by simp)
                          · rw [if_neg c25] at H
                            have c25b0 : ((bt a0 x8_1) == 45) = false := beq_eq_false_iff_ne.mpr c25
                            have c25b1 : ((bt a0 x8_1) != 45) = true := bne_iff_ne.mpr c25
                            have H' := Aside0.mk H
                            clear H
                            go_wp2
                            go_roundg kj5
                            case measure => have := HK1.out; have := HJ5.out; omega
                            case rel => exact ⟨(x3_1), (wrap64 (x8_1 + 1)), (by first | rfl | (simp; done) | (simp [*]; done)), H', ⟨by have := HK1.out; have := HJ5.out; omega⟩, ⟨by (with_reducible repeat (first | apply Kd.R_alloc | apply Kd.R_drewN | apply Kd.R_drew)); exact HO_3.out⟩, ⟨by repeat (first | (with_reducible first | exact HB.out | apply below_alloc | apply pw_below_drewN | apply below_drew1) | exact HB.out)⟩⟩
                    · rw [if_neg c14] at H
                      have c14b0 : decide (97 ≤ (bt a0 x8_1)) = false := decide_eq_false c14
                      clear c14
                      by_cases c28 : (bt a0 x8_1) ≥ 48
                      · rw [if_pos c28] at H
                        have c28b0 : decide (48 ≤ (bt a0 x8_1)) = true := decide_eq_true c28
                        clear c28
                        by_cases c29 : (bt a0 x8_1) ≤ 57
                        · rw [if_pos c29] at H
                          have c29b0 : decide ((bt a0 x8_1) ≤ 57) = true := decide_eq_true c29
                          clear c29
                          by_cases c30 : x3_1.length < 140737488355328
                          · rw [if_pos c30] at H
                            have LMc30 := Aside0.mk c30
                            clear c30
                            obtain ⟨y119, hy119⟩ : ∃ y_ : List Int, y_ = (x3_1 ++ [(bt a0 x8_1)]) := ⟨_, rfl⟩
                            replace H : (spec_LangNew.l0 kj5 a0 y119 (a0.size : Int) (wrap64 (x8_1 + 1))) = some r := by first | (rw [hy119]; with_reducible exact H) | (have H2_ := (Option.bind_some _ _).symm.trans H; rw [hy119]; with_reducible exact H2_) | (have H2_ := (Option.bind_some _ _).symm.trans H; with_reducible exact H2_) | with_reducible exact H | (rw [hy119]; exact H) | exact H
                            have Ny119 := Aside0.mk hy119
                            clear hy119
                            have H' := Aside0.mk H
                            clear H
                            go_wp2_with (first | ((with_reducible refine gate_builtin (b := .append) (xs := #[.tmp 51, .tmp 53]) rfl ?_); at_builtin; refine Kd.R_append (Kd.int .u8) (w0 := w) w.heap.size rfl (.tmp 51) (.tmp 53) 47 5 (.int .u8 0) 1 rfl Try.underlying47 info5 rfl (by decide) (by omega) u3 x3_1 (bt a0 x8_1) [.int .u8 (bt a0 x8_1)] (fun _ => True) (fun _ => False) rfl rfl ?aP (fun _ hk => hk.elim) ?aF ?aO ?aB ?aS ?aL ?_; (case aP => exact rfl); (case aB => exact (by repeat (first | (with_reducible first | exact HB.out | apply below_alloc | apply pw_below_drewN | apply below_drew1) | exact HB.out))); (case aF => exact (fun _ _ => trivial)); (case aO => exact (by (with_reducible repeat (first | apply Kd.R_alloc | apply Kd.R_drewN | apply Kd.R_drew)); exact HO_3.out)); (case aS => exact (below_size (by repeat (first | (with_reducible first | exact HB.out | apply below_alloc | apply pw_below_drewN | apply below_drew1) | exact HB.out)))); (case aL => have := LMc30.out; omega); intro v120 w31 ho hb hg hat; rw [← Ny119.out] at ho; have n0_ := Aside0.mk (hb); have n1_ := Aside0.mk (ho); clear HB; clear HO_3; have HB := n0_; have HO121 := n1_; clear n0_ n1_; clear ho hb hg hat))
                            go_roundg kj5
                            case measure => have := HK1.out; have := HJ5.out; omega
                            case rel => exact ⟨(y119), (wrap64 (x8_1 + 1)), (by first | rfl | (simp; done) | (simp [*]; done)), H', ⟨by have := HK1.out; have := HJ5.out; omega⟩, ⟨by (with_reducible repeat (first | apply Kd.R_alloc | apply Kd.R_drewN | apply Kd.R_drew)); exact HO121.out⟩, ⟨by repeat (first | (with_reducible first | exact HB.out | apply below_alloc | apply pw_below_drewN | apply below_drew1) | exact HB.out)⟩⟩
                          · rw [if_neg c30] at H
                            exact absurd H (by simp)
                        · rw [if_neg c29] at H
                          have c29b0 : decide ((bt a0 x8_1) ≤ 57) = false := decide_eq_false c29
                          clear c29
                          by_cases c32 : (bt a0 x8_1) = 45
                          · rw [if_pos c32] at H
                            have c32b0 : ((bt a0 x8_1) == 45) = true := beq_iff_eq.mpr c32
                            have c32b1 : ((bt a0 x8_1) != 45) = false := bne_eq_false_iff_eq.mpr c32
                            clear c32
                            by_cases c33 : x3_1.length < 140737488355328
                            · rw [if_pos c33] at H
                              have LMc33 := Aside0.mk c33
                              clear c33
                              obtain ⟨y122, hy122⟩ : ∃ y_ : List Int, y_ = (x3_1 ++ [(bt a0 x8_1)]) := ⟨_, rfl⟩
                              replace H : (spec_LangNew.l0 kj5 a0 y122 (a0.size : Int) (wrap64 (x8_1 + 1))) = some r := by first | (rw [hy122]; with_reducible exact H) | (have H2_ := (Option.bind_some _ _).symm.trans H; rw [hy122]; with_reducible exact H2_) | (have H2_ := (Option.bind_some _ _).symm.trans H; with_reducible exact H2_) | with_reducible exact H | (rw [hy122]; exact H) | exact H
                              have Ny122 := Aside0.mk hy122
                              clear hy122
                              have H' := Aside0.mk H
                              clear H
                              go_wp2_with (first | ((with_reducible refine gate_builtin (b := .append) (xs := #[.tmp 51, .tmp 53]) rfl ?_); at_builtin; refine Kd.R_append (Kd.int .u8) (w0 := w) w.heap.size rfl (.tmp 51) (.tmp 53) 47 5 (.int .u8 0) 1 rfl Try.underlying47 info5 rfl (by decide) (by omega) u3 x3_1 (bt a0 x8_1) [.int .u8 (bt a0 x8_1)] (fun _ => True) (fun _ => False) rfl rfl ?aP (fun _ hk => hk.elim) ?aF ?aO ?aB ?aS ?aL ?_; (case aP => exact rfl); (case aB => exact (by repeat (first | (with_reducible first | exact HB.out | apply below_alloc | apply pw_below_drewN | apply below_drew1) | exact HB.out))); (case aF => exact (fun _ _ => trivial)); (case aO => exact (by (with_reducible repeat (first | apply Kd.R_alloc | apply Kd.R_drewN | apply Kd.R_drew)); exact HO_3.out)); (case aS => exact (below_size (by repeat (first | (with_reducible first | exact HB.out | apply below_alloc | apply pw_below_drewN | apply below_drew1) | exact HB.out)))); (case aL => have := LMc33.out; omega); intro v123 w34 ho hb hg hat; rw [← Ny122.out] at ho; have n0_ := Aside0.mk (hb); have n1_ := Aside0.mk (ho); clear HB; clear HO_3; have HB := n0_; have HO124 := n1_; clear n0_ n1_; clear ho hb hg hat))
                              go_roundg kj5
                              case measure => have := HK1.out; have := HJ5.out; omega
                              case rel => exact ⟨(y122), (wrap64 (x8_1 + 1)), (by first | rfl | (simp; done) | (simp [*]; done)), H', ⟨by have := HK1.out; have := HJ5.out; omega⟩, ⟨by (with_reducible repeat (first | apply Kd.R_alloc | apply Kd.R_drewN | apply Kd.R_drew)); exact HO124.out⟩, ⟨by repeat (first | (with_reducible first | exact HB.out | apply below_alloc | apply pw_below_drewN | apply below_drew1) | exact HB.out)⟩⟩
                            · rw [if_neg c33] at H
                              exact absurd H (by simp)
                          · rw [if_neg c32] at H
                            have c32b0 : ((bt a0 x8_1) == 45) = false := beq_eq_false_iff_ne.mpr c32
                            have c32b1 : ((bt a0 x8_1) != 45) = true := bne_iff_ne.mpr c32
                            have H' := Aside0.mk H
                            clear H
                            go_wp2
                            go_roundg kj5
                            case measure => have := HK1.out; have := HJ5.out; omega
                            case rel => exact ⟨(x3_1), (wrap64 (x8_1 + 1)), (by first | rfl | (simp; done) | (simp [*]; done)), H', ⟨by have := HK1.out; have := HJ5.out; omega⟩, ⟨by (with_reducible repeat (first | apply Kd.R_alloc | apply Kd.R_drewN | apply Kd.R_drew)); exact HO_3.out⟩, ⟨by repeat (first | (with_reducible first | exact HB.out | apply below_alloc | apply pw_below_drewN | apply below_drew1) | exact HB.out)⟩⟩
                      · rw [if_neg c28] at H
                        have c28b0 : decide (48 ≤ (bt a0 x8_1)) = false := decide_eq_false c28
                        clear c28
                        by_cases c35 : (bt a0 x8_1) = 45
                        · rw [if_pos c35] at H
                          have c35b0 : ((bt a0 x8_1) == 45) = true := beq_iff_eq.mpr c35
                          have c35b1 : ((bt a0 x8_1) != 45) = false := bne_eq_false_iff_eq.mpr c35
                          clear c35
                          by_cases c36 : x3_1.length < 140737488355328
                          · rw [if_pos c36] at H
                            have LMc36 := Aside0.mk c36
                            clear c36
                            obtain ⟨y125, hy125⟩ : ∃ y_ : List Int, y_ = (x3_1 ++ [(bt a0 x8_1)]) := ⟨_, rfl⟩
                            replace H : (spec_LangNew.l0 kj5 a0 y125 (a0.size : Int) (wrap64 (x8_1 + 1))) = some r := by first | (rw [hy125]; with_reducible exact H) | (have H2_ := (Option.bind_some _ _).symm.trans H; rw [hy125]; with_reducible exact H2_) | (have H2_ := (Option.bind_some _ _).symm.trans H; with_reducible exact H2_) | with_reducible exact H | (rw [hy125]; exact H) | exact H
                            have Ny125 := Aside0.mk hy125
                            clear hy125
                            have H' := Aside0.mk H
                            clear H
                            go_wp2_with (first | ((with_reducible refine gate_builtin (b := .append) (xs := #[.tmp 51, .tmp 53]) rfl ?_); at_builtin; refine Kd.R_append (Kd.int .u8) (w0 := w) w.heap.size rfl (.tmp 51) (.tmp 53) 47 5 (.int .u8 0) 1 rfl Try.underlying47 info5 rfl (by decide) (by omega) u3 x3_1 (bt a0 x8_1) [.int .u8 (bt a0 x8_1)] (fun _ => True) (fun _ => False) rfl rfl ?aP (fun _ hk => hk.elim) ?aF ?aO ?aB ?aS ?aL ?_; (case aP => exact rfl); (case aB => exact (by repeat (first | (with_reducible first | exact HB.out | apply below_alloc | apply pw_below_drewN | apply below_drew1) | exact HB.out))); (case aF => exact (fun _ _ => trivial)); (case aO => exact (by (with_reducible repeat (first | apply Kd.R_alloc | apply Kd.R_drewN | apply Kd.R_drew)); exact HO_3.out)); (case aS => exact (below_size (by repeat (first | (with_reducible first | exact HB.out | apply below_alloc | apply pw_below_drewN | apply below_drew1) | exact HB.out)))); (case aL => have := LMc36.out; omega); intro v126 w37 ho hb hg hat; rw [← Ny125.out] at ho; have n0_ := Aside0.mk (hb); have n1_ := Aside0.mk (ho); clear HB; clear HO_3; have HB := n0_; have HO127 := n1_; clear n0_ n1_; clear ho hb hg hat))
                            go_roundg kj5
                            case measure => have := HK1.out; have := HJ5.out; omega
                            case rel => exact ⟨(y125), (wrap64 (x8_1 + 1)), (by first | rfl | (simp; done) | (simp [*]; done)), H', ⟨by have := HK1.out; have := HJ5.out; omega⟩, ⟨by (with_reducible repeat (first | apply Kd.R_alloc | apply Kd.R_drewN | apply Kd.R_drew)); exact HO127.out⟩, ⟨by repeat (first | (with_reducible first | exact HB.out | apply below_alloc | apply pw_below_drewN | apply below_drew1) | exact HB.out)⟩⟩
                          · rw [if_neg c36] at H
                            exact absurd H (by simp)
                        · rw [if_neg c35] at H
                          have c35b0 : ((bt a0 x8_1) == 45) = false := beq_eq_false_iff_ne.mpr c35
                          have c35b1 : ((bt a0 x8_1) != 45) = true := bne_iff_ne.mpr c35
                          have H' := Aside0.mk H
                          clear H
                          go_wp2
                          go_roundg kj5
                          case measure => have := HK1.out; have := HJ5.out; omega
                          case rel => exact ⟨(x3_1), (wrap64 (x8_1 + 1)), (by first | rfl | (simp; done) | (simp [*]; done)), H', ⟨by have := HK1.out; have := HJ5.out; omega⟩, ⟨by (with_reducible repeat (first | apply Kd.R_alloc | apply Kd.R_drewN | apply Kd.R_drew)); exact HO_3.out⟩, ⟨by repeat (first | (with_reducible first | exact HB.out | apply below_alloc | apply pw_below_drewN | apply below_drew1) | exact HB.out)⟩⟩
          · rw [if_neg c4] at H
            exact absurd H (by simp)
        · rw [if_neg c3] at H
          exact absurd H (by simp)
      · rw [if_neg c2] at H
        have c2b0 : decide (x8_1 < (a0.size : Int)) = false := decide_eq_false c2
        clear c2
        obtain rfl := Option.some.inj H
        have hcv38 := own_string (P := Try.prog) Try.underlying47 Try.underlying5 Try.underlying9 (Kd.own_of_R HO_3.out)
        go_wp2
        go_ret
        exact ⟨by first | rfl | (simp [errW_none, errW_some] <;> rfl) | (simp [*, errW_none, errW_some] <;> rfl), by repeat (first | (with_reducible first | exact HB.out | apply below_alloc | apply pw_below_drewN | apply below_drew1) | exact HB.out)⟩

/-! ### laws_tag: function 15 -/
def laws_tag.f (k : Nat) (a0 : ByteArray) : Option (ByteArray) := if 0 ≤ (mn (a0.size : Int) 100) then (if (mn (a0.size : Int) 100) ≤ (a0.size : Int) then ((spec_LangNew.f k (a0.extract 0 ((mn (a0.size : Int) 100) : Int).toNat)).bind fun t128 => (some t128)) else (none)) else (none)
theorem laws_tag.mono : ∀ a0 k, LeO (laws_tag.f k a0) (laws_tag.f (k + 1) a0) := by
  intro a0 k
  unfold laws_tag.f
  repeat' first
      | (with_reducible exact spec_LangNew.mono _ _)
      | (with_reducible exact LeO.refl _)
      | (with_reducible exact LeO.none _)
      | (with_reducible refine LeO.ite ?_ ?_)
      | (with_reducible refine LeO.bind ?_ (fun _ => ?_))
      | exact spec_LangNew.mono _ _
      | exact LeO.none _
      | refine LeO.ite ?_ ?_
      | refine LeO.bind ?_ (fun _ => ?_)
set_option maxHeartbeats 8000000 in
set_option maxRecDepth 100000 in
theorem laws_tag.calls (k : Nat) (a0 : ByteArray) (r : ByteArray) (w : World) (h : laws_tag.f k a0 = some r) :
    Calls Try.prog 15 #[.string a0] w fun e w' => e = .returned (.string r) ∧ Below w.heap.size w w' := by
  have HB := Aside0.mk (Below.refl w.heap.size w)
  have H : (if 0 ≤ (mn (a0.size : Int) 100) then (if (mn (a0.size : Int) 100) ≤ (a0.size : Int) then ((spec_LangNew.f k (a0.extract 0 ((mn (a0.size : Int) 100) : Int).toNat)).bind fun t128 => (some t128)) else (none)) else (none)) = some r := h
  clear h
  obtain ⟨ji2, hji2⟩ : ∃ j_ : Int, (mn (a0.size : Int) 100) = j_ := ⟨_, rfl⟩
  replace H : (if 0 ≤ (ji2) then (if (ji2) ≤ (a0.size : Int) then ((spec_LangNew.f k (a0.extract 0 ((ji2) : Int).toNat)).bind fun t128 => (some t128)) else (none)) else (none)) = some r := by first | (rw [hji2] at H; exact H) | (simp only [hji2] at H ⊢; exact H)
  (try (have hji2h : ji2 ≤ 100 := by (rw [← hji2]; unfold mn; (repeat' split) <;> omega)))
  (try (have hji2g : ji2 ≤ 64 := by omega))
  (try (have hji2l : 0 ≤ ji2 := by (rw [← hji2]; unfold mn; (repeat' split) <;> omega)))
  (try (have hji2m : 0 ≤ ji2 := by omega))
  have hji2_ : (if 100 < (a0.size : Int) then 100 else (a0.size : Int)) = ji2 := hji2
  by_cases c3 : 0 ≤ (ji2)
  · rw [if_pos c3] at H
    have c3b0 := eq_true c3
    have c3b1 : decide (0 ≤ (ji2)) = true := decide_eq_true c3
    clear c3
    by_cases c4 : (ji2) ≤ (a0.size : Int)
    · rw [if_pos c4] at H
      have c4b0 := eq_true c4
      have c4b1 : decide ((ji2) ≤ (a0.size : Int)) = true := decide_eq_true c4
      clear c4
      replace H := Option.bind_eq_some_iff.mp H
      obtain ⟨t128, A50, H⟩ := H
      replace H : (some t128) = some r := H
      have A5 := Aside0.mk A50
      clear A50
      obtain rfl := Option.some.inj H
      go_enter Try.func15, Try.ntmps15
      go_wp2_with (first | ((with_reducible refine gate_callee (f := 40) rfl ?_); refine goesL_ (some 8) rfl rfl Try.func40 (by kernel_rfl) rfl #[.string (a0.extract 0 ((ji2) : Int).toNat)] rfl (by (try simp only [List.map_toArray, List.map_cons, List.map_nil]); first | done | (simp only [hji2]; rfl) | rfl | (simp only [List.length_drop, List.length_take]; rfl)) ?_; (with_reducible refine (spec_LangNew.calls k (a0.extract 0 ((ji2) : Int).toNat) t128 _ A5.out).mono ?_); rintro e w6 ⟨rfl, hb⟩; refine ⟨_, rfl, ?_⟩; have n0_ := Aside0.mk (below_step (by repeat (first | (with_reducible first | exact HB.out | apply below_alloc | apply pw_below_drewN | apply below_drew1) | exact HB.out)) hb); clear HB; have HB := n0_; clear n0_; (try clear hb); (try clear hb2); (try clear hk); (try clear hi)))
      go_ret
      exact ⟨by first | rfl | (simp [errW_none, errW_some] <;> rfl) | (simp only [← hji2]; first | rfl | (simp [errW_none, errW_some] <;> rfl)) | (simp [*, errW_none, errW_some] <;> rfl), by repeat (first | (with_reducible first | exact HB.out | apply below_alloc | apply pw_below_drewN | apply below_drew1) | exact HB.out)⟩
    · rw [if_neg c4] at H
      exact absurd H (by simp)
  · rw [if_neg c3] at H
    exact absurd H (by simp)

-- NOT PRINTED: function 75 (bytealg_IndexByteString)

-- NOT PRINTED: function 73 (stringslite_IndexByte)

/-! ### strings_IndexByte: function 69 -/
def strings_IndexByte.f (a0 : ByteArray) (a1 : Int) : Option (Int) := some (Go.Lib.indexByte a0.data.toList a1.toNat.toUInt8)
theorem strings_IndexByte.calls (a0 : ByteArray) (a1 : Int) (r : Int) (w : World) (h : strings_IndexByte.f a0 a1 = some r) :
    Calls Try.prog 69 #[.string a0, .int .u8 a1] w fun e w' => e = .returned (.int .i64 r) ∧ Drawn0 w w' := by
  obtain rfl := Option.some.inj h
  refine (Try.strings_IndexByte a0 a1 w).mono ?_
  rintro e w' ⟨rfl, rfl⟩
  exact ⟨rfl, Drawn0.refl _⟩

/-! ### language_Language_Primary: function 43 -/
def language_Language_Primary.f (a0 : ByteArray) : Option (ByteArray) := (strings_IndexByte.f a0 45).bind fun t129 => (if t129 = (-1) then (some a0) else (if 0 ≤ t129 then (if t129 ≤ (a0.size : Int) then (some (a0.extract 0 (t129 : Int).toNat)) else (none)) else (none)))
set_option maxHeartbeats 8000000 in
set_option maxRecDepth 100000 in
theorem language_Language_Primary.calls (a0 : ByteArray) (r : ByteArray) (w : World) (h : language_Language_Primary.f a0 = some r) :
    Calls Try.prog 43 #[.string a0] w fun e w' => e = .returned (.string r) ∧ Drawn0 w w' := by
  have H : ((strings_IndexByte.f a0 45).bind fun t129 => (if t129 = (-1) then (some a0) else (if 0 ≤ t129 then (if t129 ≤ (a0.size : Int) then (some (a0.extract 0 (t129 : Int).toNat)) else (none)) else (none)))) = some r := h
  clear h
  replace H := Option.bind_eq_some_iff.mp H
  obtain ⟨t129, A20, H⟩ := H
  replace H : (if t129 = (-1) then (some a0) else (if 0 ≤ t129 then (if t129 ≤ (a0.size : Int) then (some (a0.extract 0 (t129 : Int).toNat)) else (none)) else (none))) = some r := H
  have A2 := Aside0.mk A20
  clear A20
  by_cases c3 : t129 = (-1)
  · rw [if_pos c3] at H
    have c3b0 : (t129 == (-1)) = true := beq_iff_eq.mpr c3
    have c3b1 : (t129 != (-1)) = false := bne_eq_false_iff_eq.mpr c3
    clear c3
    obtain rfl := Option.some.inj H
    go_enter Try.func43, Try.ntmps43
    go_wp2_with (first | ((with_reducible refine gate_callee (f := 69) rfl ?_); refine goesL_ (some 5) rfl rfl Try.func69 (by kernel_rfl) rfl #[.string a0, .int .u8 45] rfl (by (try simp only [List.map_toArray, List.map_cons, List.map_nil]); first | done | rfl | (simp only [List.length_drop, List.length_take]; rfl)) ?_; (with_reducible refine (strings_IndexByte.calls a0 45 t129 _ A2.out).mono ?_); rintro e w' ⟨rfl, ⟨nd, rfl⟩⟩; refine ⟨_, rfl, ?_⟩))
    go_ret
    exact ⟨by first | rfl | (simp; done) | (simp [*]; done), by repeat (first | exact Drawn0.refl _ | apply Drawn0.step)⟩
  · rw [if_neg c3] at H
    have c3b0 : (t129 == (-1)) = false := beq_eq_false_iff_ne.mpr c3
    have c3b1 : (t129 != (-1)) = true := bne_iff_ne.mpr c3
    by_cases c4 : 0 ≤ t129
    · rw [if_pos c4] at H
      have c4b0 := eq_true c4
      have c4b1 : decide (0 ≤ t129) = true := decide_eq_true c4
      clear c4
      by_cases c5 : t129 ≤ (a0.size : Int)
      · rw [if_pos c5] at H
        have c5b0 := eq_true c5
        have c5b1 : decide (t129 ≤ (a0.size : Int)) = true := decide_eq_true c5
        clear c5
        obtain rfl := Option.some.inj H
        go_enter Try.func43, Try.ntmps43
        go_wp2_with (first | ((with_reducible refine gate_callee (f := 69) rfl ?_); refine goesL_ (some 5) rfl rfl Try.func69 (by kernel_rfl) rfl #[.string a0, .int .u8 45] rfl (by (try simp only [List.map_toArray, List.map_cons, List.map_nil]); first | done | rfl | (simp only [List.length_drop, List.length_take]; rfl)) ?_; (with_reducible refine (strings_IndexByte.calls a0 45 t129 _ A2.out).mono ?_); rintro e w' ⟨rfl, ⟨nd, rfl⟩⟩; refine ⟨_, rfl, ?_⟩))
        go_ret
        exact ⟨by first | rfl | (simp; done) | (simp [*]; done), by repeat (first | exact Drawn0.refl _ | apply Drawn0.step)⟩
      · rw [if_neg c5] at H
        exact absurd H (by simp)
    · rw [if_neg c4] at H
      exact absurd H (by simp)

/-! ### language_Language_IsDerivedFrom: function 41 -/
def language_Language_IsDerivedFrom.f (a0 : ByteArray) (a1 : ByteArray) : Option (Bool) := (language_Language_Primary.f a0).bind fun t130 => (some (t130.toList == a1.toList))
set_option maxHeartbeats 8000000 in
set_option maxRecDepth 100000 in
theorem language_Language_IsDerivedFrom.calls (a0 : ByteArray) (a1 : ByteArray) (r : Bool) (w : World) (h : language_Language_IsDerivedFrom.f a0 a1 = some r) :
    Calls Try.prog 41 #[.string a0, .string a1] w fun e w' => e = .returned (.bool r) ∧ Drawn0 w w' := by
  have H : ((language_Language_Primary.f a0).bind fun t130 => (some (t130.toList == a1.toList))) = some r := h
  clear h
  replace H := Option.bind_eq_some_iff.mp H
  obtain ⟨t130, A30, H⟩ := H
  replace H : (some (t130.toList == a1.toList)) = some r := H
  have A3 := Aside0.mk A30
  clear A30
  obtain rfl := Option.some.inj H
  go_enter Try.func41, Try.ntmps41
  go_wp2_with (first | ((with_reducible refine gate_callee (f := 43) rfl ?_); refine goesL_ (some 6) rfl rfl Try.func43 (by kernel_rfl) rfl #[.string a0] rfl (by (try simp only [List.map_toArray, List.map_cons, List.map_nil]); first | done | rfl | (simp only [List.length_drop, List.length_take]; rfl)) ?_; (with_reducible refine (language_Language_Primary.calls a0 t130 _ A3.out).mono ?_); rintro e w' ⟨rfl, ⟨nd, rfl⟩⟩; refine ⟨_, rfl, ?_⟩))
  go_ret
  exact ⟨by first | rfl | (simp; done) | (simp [*]; done), by repeat (first | exact Drawn0.refl _ | apply Drawn0.step)⟩

/-! ### impl_LangDerived: function 16 -/
def impl_LangDerived.f (a0 : ByteArray) (a1 : ByteArray) : Option (Bool) := (language_Language_IsDerivedFrom.f a0 a1).bind fun t131 => (some t131)
set_option maxHeartbeats 8000000 in
set_option maxRecDepth 100000 in
theorem impl_LangDerived.calls (a0 : ByteArray) (a1 : ByteArray) (r : Bool) (w : World) (h : impl_LangDerived.f a0 a1 = some r) :
    Calls Try.prog 16 #[.string a0, .string a1] w fun e w' => e = .returned (.bool r) ∧ Drawn0 w w' := by
  have H : ((language_Language_IsDerivedFrom.f a0 a1).bind fun t131 => (some t131)) = some r := h
  clear h
  replace H := Option.bind_eq_some_iff.mp H
  obtain ⟨t131, A30, H⟩ := H
  replace H : (some t131) = some r := H
  have A3 := Aside0.mk A30
  clear A30
  obtain rfl := Option.some.inj H
  go_enter Try.func16, Try.ntmps16
  go_wp2_with (first | ((with_reducible refine gate_callee (f := 41) rfl ?_); refine goesL_ (some 7) rfl rfl Try.func41 (by kernel_rfl) rfl #[.string a0, .string a1] rfl (by (try simp only [List.map_toArray, List.map_cons, List.map_nil]); first | done | rfl | (simp only [List.length_drop, List.length_take]; rfl)) ?_; (with_reducible refine (language_Language_IsDerivedFrom.calls a0 a1 t131 _ A3.out).mono ?_); rintro e w' ⟨rfl, ⟨nd, rfl⟩⟩; refine ⟨_, rfl, ?_⟩))
  go_ret
  exact ⟨by first | rfl | (simp; done) | (simp [*]; done), by repeat (first | exact Drawn0.refl _ | apply Drawn0.step)⟩

end Go.Proofs.Ytkfphiccfnfkdaa.PFnLangSplit
