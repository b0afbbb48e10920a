-- Written by a program of this session (xprint) out of the translation; Lean checks it.
import Derived.Test.YtklkpekjnkjcdaaPFnLangInheritsx0
namespace Go.Proofs.Ytklkpekjnkjcdaa.PFnLangInherits
open Go.RowKit Go.Proofs.YtklkpekjnkjcdaaW.PrintWords Go.Proofs.YtklkpekjnkjcdaaW.PrintLast Go.Proofs.YtklkpekjnkjcdaaW.PrintMore
attribute [local go_sem] max2_int min2_int max_two min_two max_three min_three max_four min_four   -- for this text's walks alone
set_option linter.unusedVariables false
set_option linter.unusedSimpArgs false

/-! ### spec_LangNew: function 7 -/
mutual
def spec_LangNew.l0 : Nat → ByteArray → List Int → Int → Int → Option (ByteArray)
  | 0, _, _, _, _ => none
  | k + 1, x0, x3, x7, x8 => if x8 < x7 then (if 0 ≤ x8 then (if x8 < (x0.size : Int) then (if (bt x0 x8) ≥ 65 then (spec_LangNew.j1 k x0 x3 (bt x0 x8) x7 x8 (decide ((bt x0 x8) ≤ 90))) else (spec_LangNew.j1 k x0 x3 (bt x0 x8) x7 x8 false)) else (none)) else (none)) else (some (strOfNums x3))
def spec_LangNew.j1 : Nat → ByteArray → List Int → Int → Int → Int → Bool → Option (ByteArray)
  | 0, _, _, _, _, _, _ => none
  | k + 1, x0, x3, x5, x7, x8, x14 => if x14 = true then (if x3.length < 140737488355328 then (spec_LangNew.l0 k x0 (x3 ++ [(x5 + 32) % 256]) x7 (wrap64 (x8 + 1))) else (none)) else (if x5 = 95 then (if x3.length < 140737488355328 then (spec_LangNew.l0 k x0 (x3 ++ [45]) x7 (wrap64 (x8 + 1))) else (none)) else (if x5 ≥ 97 then (if x5 ≤ 122 then (spec_LangNew.j2 k x0 x3 x5 x7 x8 true) else (if x5 ≥ 48 then (if x5 ≤ 57 then (spec_LangNew.j2 k x0 x3 x5 x7 x8 true) else (spec_LangNew.j2 k x0 x3 x5 x7 x8 (x5 == 45))) else (spec_LangNew.j2 k x0 x3 x5 x7 x8 (x5 == 45)))) else (if x5 ≥ 48 then (if x5 ≤ 57 then (spec_LangNew.j2 k x0 x3 x5 x7 x8 true) else (spec_LangNew.j2 k x0 x3 x5 x7 x8 (x5 == 45))) else (spec_LangNew.j2 k x0 x3 x5 x7 x8 (x5 == 45)))))
def spec_LangNew.j2 : Nat → ByteArray → List Int → Int → Int → Int → Bool → Option (ByteArray)
  | 0, _, _, _, _, _, _ => none
  | k + 1, x0, x3, x5, x7, x8, x32 => if x32 = true then (if x3.length < 140737488355328 then (spec_LangNew.l0 k x0 (x3 ++ [x5]) x7 (wrap64 (x8 + 1))) else (none)) else (spec_LangNew.l0 k x0 x3 x7 (wrap64 (x8 + 1)))
end
def spec_LangNew.f (k : Nat) (a0 : ByteArray) : Option (ByteArray) := spec_LangNew.l0 k a0 ([] : List Int) (a0.size : Int) 0
theorem spec_LangNew.mono_l : ∀ k, (∀ y0 y1 y2 y3, LeO (spec_LangNew.l0 k y0 y1 y2 y3) (spec_LangNew.l0 (k + 1) y0 y1 y2 y3)) ∧ (∀ y0 y1 y2 y3 y4 y5, LeO (spec_LangNew.j1 k y0 y1 y2 y3 y4 y5) (spec_LangNew.j1 (k + 1) y0 y1 y2 y3 y4 y5)) ∧ (∀ y0 y1 y2 y3 y4 y5, LeO (spec_LangNew.j2 k y0 y1 y2 y3 y4 y5) (spec_LangNew.j2 (k + 1) y0 y1 y2 y3 y4 y5))
  | 0 => ⟨fun _ _ _ _ r h => by simp [spec_LangNew.l0] at h, fun _ _ _ _ _ _ r h => by simp [spec_LangNew.j1] at h, fun _ _ _ _ _ _ r h => by simp [spec_LangNew.j2] at h⟩
  | k + 1 => by
    obtain ⟨ih0, ih1, ih2⟩ := spec_LangNew.mono_l k
    refine ⟨?_, ?_, ?_⟩
    · intro y0 y1 y2 y3
      unfold spec_LangNew.l0
      repeat' first
      | (with_reducible exact ih0 _ _ _ _)
      | (with_reducible exact ih1 _ _ _ _ _ _)
      | (with_reducible exact ih2 _ _ _ _ _ _)
      | (with_reducible exact LeO.refl _)
      | (with_reducible exact LeO.none _)
      | (with_reducible refine LeO.ite ?_ ?_)
      | (with_reducible refine LeO.bind ?_ (fun _ => ?_))
      | exact ih0 _ _ _ _
      | exact ih1 _ _ _ _ _ _
      | exact ih2 _ _ _ _ _ _
      | exact LeO.none _
      | refine LeO.ite ?_ ?_
      | refine LeO.bind ?_ (fun _ => ?_)
    · intro y0 y1 y2 y3 y4 y5
      unfold spec_LangNew.j1
      repeat' first
      | (with_reducible exact ih0 _ _ _ _)
      | (with_reducible exact ih1 _ _ _ _ _ _)
      | (with_reducible exact ih2 _ _ _ _ _ _)
      | (with_reducible exact LeO.refl _)
      | (with_reducible exact LeO.none _)
      | (with_reducible refine LeO.ite ?_ ?_)
      | (with_reducible refine LeO.bind ?_ (fun _ => ?_))
      | exact ih0 _ _ _ _
      | exact ih1 _ _ _ _ _ _
      | exact ih2 _ _ _ _ _ _
      | exact LeO.none _
      | refine LeO.ite ?_ ?_
      | refine LeO.bind ?_ (fun _ => ?_)
    · intro y0 y1 y2 y3 y4 y5
      unfold spec_LangNew.j2
      repeat' first
      | (with_reducible exact ih0 _ _ _ _)
      | (with_reducible exact ih1 _ _ _ _ _ _)
      | (with_reducible exact ih2 _ _ _ _ _ _)
      | (with_reducible exact LeO.refl _)
      | (with_reducible exact LeO.none _)
      | (with_reducible refine LeO.ite ?_ ?_)
      | (with_reducible refine LeO.bind ?_ (fun _ => ?_))
      | exact ih0 _ _ _ _
      | exact ih1 _ _ _ _ _ _
      | exact ih2 _ _ _ _ _ _
      | exact LeO.none _
      | refine LeO.ite ?_ ?_
      | refine LeO.bind ?_ (fun _ => ?_)
theorem spec_LangNew.mono : ∀ a0 k, LeO (spec_LangNew.f k a0) (spec_LangNew.f (k + 1) a0) := by
  intro a0 k
  obtain ⟨ih0, ih1, ih2⟩ := spec_LangNew.mono_l k
  unfold spec_LangNew.f
  repeat' first
      | (with_reducible exact ih0 _ _ _ _)
      | (with_reducible exact ih1 _ _ _ _ _ _)
      | (with_reducible exact ih2 _ _ _ _ _ _)
      | (with_reducible exact LeO.refl _)
      | (with_reducible exact LeO.none _)
      | (with_reducible refine LeO.ite ?_ ?_)
      | (with_reducible refine LeO.bind ?_ (fun _ => ?_))
      | exact ih0 _ _ _ _
      | exact ih1 _ _ _ _ _ _
      | exact ih2 _ _ _ _ _ _
      | exact LeO.none _
      | refine LeO.ite ?_ ?_
      | refine LeO.bind ?_ (fun _ => ?_)
set_option maxHeartbeats 8000000 in
set_option maxRecDepth 100000 in
theorem spec_LangNew.calls (k : Nat) (a0 : ByteArray) (r : ByteArray) (w : World) (h : spec_LangNew.f k a0 = some r) :
    Calls Try.prog 7 #[.string a0] w fun e w' => e = .returned (.string r) ∧ Below w.heap.size w w' := by
  have HB := Aside0.mk (Below.refl w.heap.size w)
  have H : (spec_LangNew.l0 k a0 ([] : List Int) (a0.size : Int) 0) = some r := h
  clear h
  have H' := Aside0.mk H
  clear H
  go_enter Try.func7, Try.ntmps7
  go_wp2
  go_loopg [3, 8] k (fun kq v3 v8 w' => ∃ (x3_1 : List Int) (x8_1 : Int), v8 = .int .i64 x8_1 ∧ Aside0 (spec_LangNew.l0 kq a0 x3_1 (a0.size : Int) x8_1 = some r) ∧ Aside0 (kq ≤ k) ∧ Aside0 (Kd.R (Kd.int .u8) 5 w' w.heap.size (fun _ => True) v3 x3_1) ∧ Aside0 (Below w.heap.size w w'))
  case atStart => exact ⟨(([] : List Int)), (0), (by first | rfl | (simp; done) | (simp [*]; done)), H', ⟨Nat.le_refl _⟩, ⟨by first | exact Kd.R_nil _ _ _ _ _ | exact Kd.N_nil _ _ _ _ _ | exact Kd.V_nil _ _ _ _ _ | exact Kd.Q_nil _ _ _ _ _ | exact Kd.S_nil _ _ _ _ _⟩, ⟨by repeat (first | (with_reducible first | exact HB.out | apply below_alloc | apply pw_below_drewN | apply below_drew1) | exact HB.out)⟩⟩
  case round =>
    clear H'
    obtain ⟨x3_1, x8_1, rfl, HA, HK1, HO_3, HB⟩ := hrel
    cases gk with
    | zero => exact absurd HA.out (by simp [spec_LangNew.l0])
    | succ k1 =>
      have H := HA.out
      clear HA
      simp only [spec_LangNew.l0] at H
      by_cases c2 : x8_1 < (a0.size : Int)
      · rw [if_pos c2] at H
        have c2b0 : decide (x8_1 < (a0.size : Int)) = true := decide_eq_true c2
        clear c2
        by_cases c3 : 0 ≤ x8_1
        · rw [if_pos c3] at H
          have c3b0 : decide (0 ≤ x8_1) = true := decide_eq_true c3
          clear c3
          by_cases c4 : x8_1 < (a0.size : Int)
          · rw [if_pos c4] at H
            have c4b0 : decide (x8_1 < (a0.size : Int)) = true := decide_eq_true c4
            clear c4
            have HC6 := Aside0.mk H
            clear H
            have p5 : 0 ≤ (x8_1 : Int) := of_decide_eq_true (by first | (with_reducible assumption) | assumption)
            have q5 : x8_1 < (a0.size : Int) := of_decide_eq_true (by first | (with_reducible assumption) | assumption)
            have hx5 := bt_at a0 x8_1
            replace p5 := eq_true p5
            replace q5 := eq_true q5
            go_upto_region 6 with (fail)
            go_cut [14] (fun v14 wc => ∃ (kq : Nat) (x14_5 : Bool), v14 = .bool x14_5 ∧ Aside0 (spec_LangNew.j1 kq a0 x3_1 (bt a0 x8_1) (a0.size : Int) x8_1 x14_5 = some r) ∧ Aside0 (kq ≤ k1) ∧ Aside0 (Kd.R (Kd.int .u8) 5 wc w.heap.size (fun _ => True) u3 x3_1) ∧ Aside0 (Below w.heap.size w wc))
            case first =>
              have H := HC6.out
              clear HC6
              by_cases c7 : (bt a0 x8_1) ≥ 65
              · rw [if_pos c7] at H
                have c7b0 : decide (65 ≤ (bt a0 x8_1)) = true := decide_eq_true c7
                clear c7
                (first | rw [c7b0] | (simp only [i64_w, i32_w]; rw [c7b0]) | skip)
                have H' := Aside0.mk H
                clear H
                go_wp2
                go_meet
                case rel => exact ⟨_, (decide ((bt a0 x8_1) ≤ 90)), (by first | rfl | (simp; done) | (simp [*]; done)), H', ⟨by have := HK1.out; first | omega | exact Nat.le_refl _⟩, ⟨by (with_reducible repeat (first | apply Kd.R_alloc | apply Kd.R_drewN | apply Kd.R_drew)); exact HO_3.out⟩, ⟨by repeat (first | (with_reducible first | exact HB.out | apply below_alloc | apply pw_below_drewN | apply below_drew1) | exact HB.out)⟩⟩
              · rw [if_neg c7] at H
                have c7b0 : decide (65 ≤ (bt a0 x8_1)) = false := decide_eq_false c7
                clear c7
                (first | rw [c7b0] | (simp only [i64_w, i32_w]; rw [c7b0]) | skip)
                have H' := Aside0.mk H
                clear H
                go_wp2
                go_meet
                case rel => exact ⟨_, (false), (by first | rfl | (simp; done) | (simp [*]; done)), H', ⟨by have := HK1.out; first | omega | exact Nat.le_refl _⟩, ⟨by (with_reducible repeat (first | apply Kd.R_alloc | apply Kd.R_drewN | apply Kd.R_drew)); exact HO_3.out⟩, ⟨by repeat (first | (with_reducible first | exact HB.out | apply below_alloc | apply pw_below_drewN | apply below_drew1) | exact HB.out)⟩⟩
            case rest =>
              clear HC6
              try clear c2
              try clear c2b0
              try clear p2
              try clear c3
              try clear c3b0
              try clear c4
              try clear c4b0
              try clear p5
              try clear q5
              try clear hx5
              try clear c7
              try clear c7b0
              try clear p5
              try clear q5
              obtain ⟨kq, x14_5, rfl, HA, HJ5, HO_3, HB⟩ := hcut
              cases kq with
              | zero => exact absurd HA.out (by simp [spec_LangNew.j1])
              | succ kj5 =>
                have H := HA.out
                clear HA
                simp only [spec_LangNew.j1] at H
                by_cases c8 : x14_5 = true
                · subst c8
                  have H1 : (if x3_1.length < 140737488355328 then (spec_LangNew.l0 kj5 a0 (x3_1 ++ [((bt a0 x8_1) + 32) % 256]) (a0.size : Int) (wrap64 (x8_1 + 1))) else (none)) = some r := by rw [if_pos rfl] at H; exact H
                  clear H
                  have H := H1
                  clear H1
                  by_cases c9 : x3_1.length < 140737488355328
                  · rw [if_pos c9] at H
                    have LMc9 := Aside0.mk c9
                    clear c9
                    obtain ⟨y101, hy101⟩ : ∃ y_ : List Int, y_ = (x3_1 ++ [((bt a0 x8_1) + 32) % 256]) := ⟨_, rfl⟩
                    replace H : (spec_LangNew.l0 kj5 a0 y101 (a0.size : Int) (wrap64 (x8_1 + 1))) = some r := by first | (rw [hy101]; with_reducible exact H) | (have H2_ := (Option.bind_some _ _).symm.trans H; rw [hy101]; with_reducible exact H2_) | (have H2_ := (Option.bind_some _ _).symm.trans H; with_reducible exact H2_) | with_reducible exact H | (rw [hy101]; exact H) | exact H
                    have Ny101 := Aside0.mk hy101
                    clear hy101
                    have H' := Aside0.mk H
                    clear H
                    go_wp2_with (first | ((with_reducible refine gate_builtin (b := .append) (xs := #[.tmp 21, .tmp 24]) rfl ?_); at_builtin; refine Kd.R_append (Kd.int .u8) (w0 := w) w.heap.size rfl (.tmp 21) (.tmp 24) 29 5 (.int .u8 0) 1 rfl Try.underlying29 info5 rfl (by decide) (by omega) u3 x3_1 (((bt a0 x8_1) + 32) % 256) [.int .u8 (((bt a0 x8_1) + 32) % 256)] (fun _ => True) (fun _ => False) rfl rfl ?aP (fun _ hk => hk.elim) ?aF ?aO ?aB ?aS ?aL ?_; (case aP => exact rfl); (case aB => exact (by repeat (first | (with_reducible first | exact HB.out | apply below_alloc | apply pw_below_drewN | apply below_drew1) | exact HB.out))); (case aF => exact (fun _ _ => trivial)); (case aO => exact (by (with_reducible repeat (first | apply Kd.R_alloc | apply Kd.R_drewN | apply Kd.R_drew)); exact HO_3.out)); (case aS => exact (below_size (by repeat (first | (with_reducible first | exact HB.out | apply below_alloc | apply pw_below_drewN | apply below_drew1) | exact HB.out)))); (case aL => have := LMc9.out; omega); intro v102 w10 ho hb hg hat; rw [← Ny101.out] at ho; have n0_ := Aside0.mk (hb); have n1_ := Aside0.mk (ho); clear HB; clear HO_3; have HB := n0_; have HO103 := n1_; clear n0_ n1_; clear ho hb hg hat))
                    go_roundg kj5
                    case measure => have := HK1.out; have := HJ5.out; omega
                    case rel => exact ⟨(y101), (wrap64 (x8_1 + 1)), (by first | rfl | (simp; done) | (simp [*]; done)), H', ⟨by have := HK1.out; have := HJ5.out; omega⟩, ⟨by (with_reducible repeat (first | apply Kd.R_alloc | apply Kd.R_drewN | apply Kd.R_drew)); exact HO103.out⟩, ⟨by repeat (first | (with_reducible first | exact HB.out | apply below_alloc | apply pw_below_drewN | apply below_drew1) | exact HB.out)⟩⟩
                  · rw [if_neg c9] at H
                    exact absurd H (by simp)
                · replace c8 := Bool.eq_false_iff.mpr c8
                  subst c8
                  have H1 : (if (bt a0 x8_1) = 95 then (if x3_1.length < 140737488355328 then (spec_LangNew.l0 kj5 a0 (x3_1 ++ [45]) (a0.size : Int) (wrap64 (x8_1 + 1))) else (none)) else (if (bt a0 x8_1) ≥ 97 then (if (bt a0 x8_1) ≤ 122 then (spec_LangNew.j2 kj5 a0 x3_1 (bt a0 x8_1) (a0.size : Int) x8_1 true) else (if (bt a0 x8_1) ≥ 48 then (if (bt a0 x8_1) ≤ 57 then (spec_LangNew.j2 kj5 a0 x3_1 (bt a0 x8_1) (a0.size : Int) x8_1 true) else (spec_LangNew.j2 kj5 a0 x3_1 (bt a0 x8_1) (a0.size : Int) x8_1 ((bt a0 x8_1) == 45))) else (spec_LangNew.j2 kj5 a0 x3_1 (bt a0 x8_1) (a0.size : Int) x8_1 ((bt a0 x8_1) == 45)))) else (if (bt a0 x8_1) ≥ 48 then (if (bt a0 x8_1) ≤ 57 then (spec_LangNew.j2 kj5 a0 x3_1 (bt a0 x8_1) (a0.size : Int) x8_1 true) else (spec_LangNew.j2 kj5 a0 x3_1 (bt a0 x8_1) (a0.size : Int) x8_1 ((bt a0 x8_1) == 45))) else (spec_LangNew.j2 kj5 a0 x3_1 (bt a0 x8_1) (a0.size : Int) x8_1 ((bt a0 x8_1) == 45))))) = some r := by rw [if_neg (show ¬ (false = true) by decide)] at H; exact H
                  clear H
                  have H := H1
                  clear H1
                  by_cases c11 : (bt a0 x8_1) = 95
                  · rw [if_pos c11] at H
                    have c11b0 : ((bt a0 x8_1) == 95) = true := beq_iff_eq.mpr c11
                    have c11b1 : ((bt a0 x8_1) != 95) = false := bne_eq_false_iff_eq.mpr c11
                    clear c11
                    by_cases c12 : x3_1.length < 140737488355328
                    · rw [if_pos c12] at H
                      have LMc12 := Aside0.mk c12
                      clear c12
                      obtain ⟨y104, hy104⟩ : ∃ y_ : List Int, y_ = (x3_1 ++ [45]) := ⟨_, rfl⟩
                      replace H : (spec_LangNew.l0 kj5 a0 y104 (a0.size : Int) (wrap64 (x8_1 + 1))) = some r := by first | (rw [hy104]; with_reducible exact H) | (have H2_ := (Option.bind_some _ _).symm.trans H; rw [hy104]; with_reducible exact H2_) | (have H2_ := (Option.bind_some _ _).symm.trans H; with_reducible exact H2_) | with_reducible exact H | (rw [hy104]; exact H) | exact H
                      have Ny104 := Aside0.mk hy104
                      clear hy104
                      have H' := Aside0.mk H
                      clear H
                      go_wp2_with (first | ((with_reducible refine gate_builtin (b := .append) (xs := #[.tmp 29, .tmp 30]) rfl ?_); at_builtin; refine Kd.R_append (Kd.int .u8) (w0 := w) w.heap.size rfl (.tmp 29) (.tmp 30) 29 5 (.int .u8 0) 1 rfl Try.underlying29 info5 rfl (by decide) (by omega) u3 x3_1 45 [.int .u8 45] (fun _ => True) (fun _ => False) rfl rfl ?aP (fun _ hk => hk.elim) ?aF ?aO ?aB ?aS ?aL ?_; (case aP => exact rfl); (case aB => exact (by repeat (first | (with_reducible first | exact HB.out | apply below_alloc | apply pw_below_drewN | apply below_drew1) | exact HB.out))); (case aF => exact (fun _ _ => trivial)); (case aO => exact (by (with_reducible repeat (first | apply Kd.R_alloc | apply Kd.R_drewN | apply Kd.R_drew)); exact HO_3.out)); (case aS => exact (below_size (by repeat (first | (with_reducible first | exact HB.out | apply below_alloc | apply pw_below_drewN | apply below_drew1) | exact HB.out)))); (case aL => have := LMc12.out; omega); intro v105 w13 ho hb hg hat; rw [← Ny104.out] at ho; have n0_ := Aside0.mk (hb); have n1_ := Aside0.mk (ho); clear HB; clear HO_3; have HB := n0_; have HO106 := n1_; clear n0_ n1_; clear ho hb hg hat))
                      go_roundg kj5
                      case measure => have := HK1.out; have := HJ5.out; omega
                      case rel => exact ⟨(y104), (wrap64 (x8_1 + 1)), (by first | rfl | (simp; done) | (simp [*]; done)), H', ⟨by have := HK1.out; have := HJ5.out; omega⟩, ⟨by (with_reducible repeat (first | apply Kd.R_alloc | apply Kd.R_drewN | apply Kd.R_drew)); exact HO106.out⟩, ⟨by repeat (first | (with_reducible first | exact HB.out | apply below_alloc | apply pw_below_drewN | apply below_drew1) | exact HB.out)⟩⟩
                    · rw [if_neg c12] at H
                      exact absurd H (by simp)
                  · rw [if_neg c11] at H
                    have c11b0 : ((bt a0 x8_1) == 95) = false := beq_eq_false_iff_ne.mpr c11
                    have c11b1 : ((bt a0 x8_1) != 95) = true := bne_iff_ne.mpr c11
                    have HC14 := Aside0.mk H
                    clear H
                    go_upto_region 10 with (fail)
                    go_cut [32] (fun v32 wc => ∃ (kq : Nat) (x32_13 : Bool), v32 = .bool x32_13 ∧ Aside0 (spec_LangNew.j2 kq a0 x3_1 (bt a0 x8_1) (a0.size : Int) x8_1 x32_13 = some r) ∧ Aside0 (kq ≤ kj5) ∧ Aside0 (Kd.R (Kd.int .u8) 5 wc w.heap.size (fun _ => True) u3 x3_1) ∧ Aside0 (Below w.heap.size w wc))
                    case first =>
                      have H := HC14.out
                      clear HC14
                      by_cases c15 : (bt a0 x8_1) ≥ 97
                      · rw [if_pos c15] at H
                        have c15b0 : decide (97 ≤ (bt a0 x8_1)) = true := decide_eq_true c15
                        clear c15
                        (first | rw [c15b0] | (simp only [i64_w, i32_w]; rw [c15b0]) | skip)
                        by_cases c16 : (bt a0 x8_1) ≤ 122
                        · rw [if_pos c16] at H
                          have c16b0 : decide ((bt a0 x8_1) ≤ 122) = true := decide_eq_true c16
                          clear c16
                          have H' := Aside0.mk H
                          clear H
                          go_wp2
                          go_meet
                          case rel => exact ⟨_, (true), (by first | rfl | (simp; done) | (simp [*]; done)), H', ⟨by have := HK1.out; have := HJ5.out; first | omega | exact Nat.le_refl _⟩, ⟨by (with_reducible repeat (first | apply Kd.R_alloc | apply Kd.R_drewN | apply Kd.R_drew)); exact HO_3.out⟩, ⟨by repeat (first | (with_reducible first | exact HB.out | apply below_alloc | apply pw_below_drewN | apply below_drew1) | exact HB.out)⟩⟩
                        · rw [if_neg c16] at H
                          have c16b0 : decide ((bt a0 x8_1) ≤ 122) = false := decide_eq_false c16
                          clear c16
                          by_cases c17 : (bt a0 x8_1) ≥ 48
                          · rw [if_pos c17] at H
                            have c17b0 : decide (48 ≤ (bt a0 x8_1)) = true := decide_eq_true c17
                            clear c17
                            by_cases c18 : (bt a0 x8_1) ≤ 57
                            · rw [if_pos c18] at H
                              have c18b0 : decide ((bt a0 x8_1) ≤ 57) = true := decide_eq_true c18
                              clear c18
                              have H' := Aside0.mk H
                              clear H
                              go_wp2
                              go_meet
                              case rel => exact ⟨_, (true), (by first | rfl | (simp; done) | (simp [*]; done)), H', ⟨by have := HK1.out; have := HJ5.out; first | omega | exact Nat.le_refl _⟩, ⟨by (with_reducible repeat (first | apply Kd.R_alloc | apply Kd.R_drewN | apply Kd.R_drew)); exact HO_3.out⟩, ⟨by repeat (first | (with_reducible first | exact HB.out | apply below_alloc | apply pw_below_drewN | apply below_drew1) | exact HB.out)⟩⟩
                            · rw [if_neg c18] at H
                              have c18b0 : decide ((bt a0 x8_1) ≤ 57) = false := decide_eq_false c18
                              clear c18
                              have H' := Aside0.mk H
                              clear H
                              go_wp2
                              go_meet
                              case rel => exact ⟨_, (((bt a0 x8_1) == 45)), (by first | rfl | (simp; done) | (simp [*]; done)), H', ⟨by have := HK1.out; have := HJ5.out; first | omega | exact Nat.le_refl _⟩, ⟨by (with_reducible repeat (first | apply Kd.R_alloc | apply Kd.R_drewN | apply Kd.R_drew)); exact HO_3.out⟩, ⟨by repeat (first | (with_reducible first | exact HB.out | apply below_alloc | apply pw_below_drewN | apply below_drew1) | exact HB.out)⟩⟩
                          · rw [if_neg c17] at H
                            have c17b0 : decide (48 ≤ (bt a0 x8_1)) = false := decide_eq_false c17
                            clear c17
                            have H' := Aside0.mk H
                            clear H
                            go_wp2
                            go_meet
                            case rel => exact ⟨_, (((bt a0 x8_1) == 45)), (by first | rfl | (simp; done) | (simp [*]; done)), H', ⟨by have := HK1.out; have := HJ5.out; first | omega | exact Nat.le_refl _⟩, ⟨by (with_reducible repeat (first | apply Kd.R_alloc | apply Kd.R_drewN | apply Kd.R_drew)); exact HO_3.out⟩, ⟨by repeat (first | (with_reducible first | exact HB.out | apply below_alloc | apply pw_below_drewN | apply below_drew1) | exact HB.out)⟩⟩
                      · rw [if_neg c15] at H
                        have c15b0 : decide (97 ≤ (bt a0 x8_1)) = false := decide_eq_false c15
                        clear c15
                        (first | rw [c15b0] | (simp only [i64_w, i32_w]; rw [c15b0]) | skip)
                        by_cases c19 : (bt a0 x8_1) ≥ 48
                        · rw [if_pos c19] at H
                          have c19b0 : decide (48 ≤ (bt a0 x8_1)) = true := decide_eq_true c19
                          clear c19
                          by_cases c20 : (bt a0 x8_1) ≤ 57
                          · rw [if_pos c20] at H
                            have c20b0 : decide ((bt a0 x8_1) ≤ 57) = true := decide_eq_true c20
                            clear c20
                            have H' := Aside0.mk H
                            clear H
                            go_wp2
                            go_meet
                            case rel => exact ⟨_, (true), (by first | rfl | (simp; done) | (simp [*]; done)), H', ⟨by have := HK1.out; have := HJ5.out; first | omega | exact Nat.le_refl _⟩, ⟨by (with_reducible repeat (first | apply Kd.R_alloc | apply Kd.R_drewN | apply Kd.R_drew)); exact HO_3.out⟩, ⟨by repeat (first | (with_reducible first | exact HB.out | apply below_alloc | apply pw_below_drewN | apply below_drew1) | exact HB.out)⟩⟩
                          · rw [if_neg c20] at H
                            have c20b0 : decide ((bt a0 x8_1) ≤ 57) = false := decide_eq_false c20
                            clear c20
                            have H' := Aside0.mk H
                            clear H
                            go_wp2
                            go_meet
                            case rel => exact ⟨_, (((bt a0 x8_1) == 45)), (by first | rfl | (simp; done) | (simp [*]; done)), H', ⟨by have := HK1.out; have := HJ5.out; first | omega | exact Nat.le_refl _⟩, ⟨by (with_reducible repeat (first | apply Kd.R_alloc | apply Kd.R_drewN | apply Kd.R_drew)); exact HO_3.out⟩, ⟨by repeat (first | (with_reducible first | exact HB.out | apply below_alloc | apply pw_below_drewN | apply below_drew1) | exact HB.out)⟩⟩
                        · rw [if_neg c19] at H
                          have c19b0 : decide (48 ≤ (bt a0 x8_1)) = false := decide_eq_false c19
                          clear c19
                          have H' := Aside0.mk H
                          clear H
                          go_wp2
                          go_meet
                          case rel => exact ⟨_, (((bt a0 x8_1) == 45)), (by first | rfl | (simp; done) | (simp [*]; done)), H', ⟨by have := HK1.out; have := HJ5.out; first | omega | exact Nat.le_refl _⟩, ⟨by (with_reducible repeat (first | apply Kd.R_alloc | apply Kd.R_drewN | apply Kd.R_drew)); exact HO_3.out⟩, ⟨by repeat (first | (with_reducible first | exact HB.out | apply below_alloc | apply pw_below_drewN | apply below_drew1) | exact HB.out)⟩⟩
                    case rest =>
                      clear HC14
                      try clear c1
                      try clear c2
                      try clear c2b0
                      try clear p2
                      try clear c3
                      try clear c3b0
                      try clear c4
                      try clear c4b0
                      try clear p5
                      try clear q5
                      try clear hx5
                      try clear p6
                      try clear c7
                      try clear c7b0
                      try clear c8
                      try clear c9
                      try clear c11
                      try clear c11b0
                      try clear c11b1
                      try clear c12
                      try clear c15
                      try clear c15b0
                      try clear c16
                      try clear c16b0
                      try clear c17
                      try clear c17b0
                      try clear c18
                      try clear c18b0
                      try clear c19
                      try clear c19b0
                      try clear c20
                      try clear c20b0
                      try clear p2
                      try clear p5
                      try clear q5
                      obtain ⟨kq, x32_13, rfl, HA, HJ13, HO_3, HB⟩ := hcut
                      cases kq with
                      | zero => exact absurd HA.out (by simp [spec_LangNew.j2])
                      | succ kj13 =>
                        have H := HA.out
                        clear HA
                        simp only [spec_LangNew.j2] at H
                        by_cases c21 : x32_13 = true
                        · subst c21
                          have H1 : (if x3_1.length < 140737488355328 then (spec_LangNew.l0 kj13 a0 (x3_1 ++ [(bt a0 x8_1)]) (a0.size : Int) (wrap64 (x8_1 + 1))) else (none)) = some r := by rw [if_pos rfl] at H; exact H
                          clear H
                          have H := H1
                          clear H1
                          by_cases c22 : x3_1.length < 140737488355328
                          · rw [if_pos c22] at H
                            have LMc22 := Aside0.mk c22
                            clear c22
                            obtain ⟨y107, hy107⟩ : ∃ y_ : List Int, y_ = (x3_1 ++ [(bt a0 x8_1)]) := ⟨_, rfl⟩
                            replace H : (spec_LangNew.l0 kj13 a0 y107 (a0.size : Int) (wrap64 (x8_1 + 1))) = some r := by first | (rw [hy107]; with_reducible exact H) | (have H2_ := (Option.bind_some _ _).symm.trans H; rw [hy107]; with_reducible exact H2_) | (have H2_ := (Option.bind_some _ _).symm.trans H; with_reducible exact H2_) | with_reducible exact H | (rw [hy107]; exact H) | exact H
                            have Ny107 := Aside0.mk hy107
                            clear hy107
                            have H' := Aside0.mk H
                            clear H
                            go_wp2_with (first | ((with_reducible refine gate_builtin (b := .append) (xs := #[.tmp 51, .tmp 53]) rfl ?_); at_builtin; refine Kd.R_append (Kd.int .u8) (w0 := w) w.heap.size rfl (.tmp 51) (.tmp 53) 29 5 (.int .u8 0) 1 rfl Try.underlying29 info5 rfl (by decide) (by omega) u3 x3_1 (bt a0 x8_1) [.int .u8 (bt a0 x8_1)] (fun _ => True) (fun _ => False) rfl rfl ?aP (fun _ hk => hk.elim) ?aF ?aO ?aB ?aS ?aL ?_; (case aP => exact rfl); (case aB => exact (by repeat (first | (with_reducible first | exact HB.out | apply below_alloc | apply pw_below_drewN | apply below_drew1) | exact HB.out))); (case aF => exact (fun _ _ => trivial)); (case aO => exact (by (with_reducible repeat (first | apply Kd.R_alloc | apply Kd.R_drewN | apply Kd.R_drew)); exact HO_3.out)); (case aS => exact (below_size (by repeat (first | (with_reducible first | exact HB.out | apply below_alloc | apply pw_below_drewN | apply below_drew1) | exact HB.out)))); (case aL => have := LMc22.out; omega); intro v108 w23 ho hb hg hat; rw [← Ny107.out] at ho; have n0_ := Aside0.mk (hb); have n1_ := Aside0.mk (ho); clear HB; clear HO_3; have HB := n0_; have HO109 := n1_; clear n0_ n1_; clear ho hb hg hat))
                            go_roundg kj13
                            case measure => have := HK1.out; have := HJ5.out; have := HJ13.out; omega
                            case rel => exact ⟨(y107), (wrap64 (x8_1 + 1)), (by first | rfl | (simp; done) | (simp [*]; done)), H', ⟨by have := HK1.out; have := HJ5.out; have := HJ13.out; omega⟩, ⟨by (with_reducible repeat (first | apply Kd.R_alloc | apply Kd.R_drewN | apply Kd.R_drew)); exact HO109.out⟩, ⟨by repeat (first | (with_reducible first | exact HB.out | apply below_alloc | apply pw_below_drewN | apply below_drew1) | exact HB.out)⟩⟩
                          · rw [if_neg c22] at H
                            exact absurd H (by simp)
                        · replace c21 := Bool.eq_false_iff.mpr c21
                          subst c21
                          have H1 : (spec_LangNew.l0 kj13 a0 x3_1 (a0.size : Int) (wrap64 (x8_1 + 1))) = some r := by rw [if_neg (show ¬ (false = true) by decide)] at H; exact H
                          clear H
                          have H := H1
                          clear H1
                          have H' := Aside0.mk H
                          clear H
                          go_wp2
                          go_roundg kj13
                          case measure => have := HK1.out; have := HJ5.out; have := HJ13.out; omega
                          case rel => exact ⟨(x3_1), (wrap64 (x8_1 + 1)), (by first | rfl | (simp; done) | (simp [*]; done)), H', ⟨by have := HK1.out; have := HJ5.out; have := HJ13.out; omega⟩, ⟨by (with_reducible repeat (first | apply Kd.R_alloc | apply Kd.R_drewN | apply Kd.R_drew)); exact HO_3.out⟩, ⟨by repeat (first | (with_reducible first | exact HB.out | apply below_alloc | apply pw_below_drewN | apply below_drew1) | exact HB.out)⟩⟩
          · rw [if_neg c4] at H
            exact absurd H (by simp)
        · rw [if_neg c3] at H
          exact absurd H (by simp)
      · rw [if_neg c2] at H
        have c2b0 : decide (x8_1 < (a0.size : Int)) = false := decide_eq_false c2
        clear c2
        obtain rfl := Option.some.inj H
        have hcv24 := own_string (P := Try.prog) Try.underlying29 Try.underlying5 Try.underlying9 (Kd.own_of_R HO_3.out)
        go_wp2
        go_ret
        exact ⟨by first | rfl | (simp [errW_none, errW_some] <;> rfl) | (simp [*, errW_none, errW_some] <;> rfl), by repeat (first | (with_reducible first | exact HB.out | apply below_alloc | apply pw_below_drewN | apply below_drew1) | exact HB.out)⟩

/-! ### laws_tag: function 4 -/
def laws_tag.f (k : Nat) (a0 : ByteArray) : Option (ByteArray) := if 0 ≤ (mn (a0.size : Int) 100) then (if (mn (a0.size : Int) 100) ≤ (a0.size : Int) then ((spec_LangNew.f k (a0.extract 0 ((mn (a0.size : Int) 100) : Int).toNat)).bind fun t110 => (some t110)) else (none)) else (none)
theorem laws_tag.mono : ∀ a0 k, LeO (laws_tag.f k a0) (laws_tag.f (k + 1) a0) := by
  intro a0 k
  unfold laws_tag.f
  repeat' first
      | (with_reducible exact spec_LangNew.mono _ _)
      | (with_reducible exact LeO.refl _)
      | (with_reducible exact LeO.none _)
      | (with_reducible refine LeO.ite ?_ ?_)
      | (with_reducible refine LeO.bind ?_ (fun _ => ?_))
      | exact spec_LangNew.mono _ _
      | exact LeO.none _
      | refine LeO.ite ?_ ?_
      | refine LeO.bind ?_ (fun _ => ?_)
set_option maxHeartbeats 8000000 in
set_option maxRecDepth 100000 in
theorem laws_tag.calls (k : Nat) (a0 : ByteArray) (r : ByteArray) (w : World) (h : laws_tag.f k a0 = some r) :
    Calls Try.prog 4 #[.string a0] w fun e w' => e = .returned (.string r) ∧ Below w.heap.size w w' := by
  have HB := Aside0.mk (Below.refl w.heap.size w)
  have H : (if 0 ≤ (mn (a0.size : Int) 100) then (if (mn (a0.size : Int) 100) ≤ (a0.size : Int) then ((spec_LangNew.f k (a0.extract 0 ((mn (a0.size : Int) 100) : Int).toNat)).bind fun t110 => (some t110)) else (none)) else (none)) = some r := h
  clear h
  obtain ⟨ji2, hji2⟩ : ∃ j_ : Int, (mn (a0.size : Int) 100) = j_ := ⟨_, rfl⟩
  replace H : (if 0 ≤ (ji2) then (if (ji2) ≤ (a0.size : Int) then ((spec_LangNew.f k (a0.extract 0 ((ji2) : Int).toNat)).bind fun t110 => (some t110)) else (none)) else (none)) = some r := by first | (rw [hji2] at H; exact H) | (simp only [hji2] at H ⊢; exact H)
  (try (have hji2h : ji2 ≤ 100 := by (rw [← hji2]; unfold mn; (repeat' split) <;> omega)))
  (try (have hji2g : ji2 ≤ 64 := by omega))
  (try (have hji2l : 0 ≤ ji2 := by (rw [← hji2]; unfold mn; (repeat' split) <;> omega)))
  (try (have hji2m : 0 ≤ ji2 := by omega))
  have hji2_ : (if 100 < (a0.size : Int) then 100 else (a0.size : Int)) = ji2 := hji2
  by_cases c3 : 0 ≤ (ji2)
  · rw [if_pos c3] at H
    have c3b0 := eq_true c3
    have c3b1 : decide (0 ≤ (ji2)) = true := decide_eq_true c3
    clear c3
    by_cases c4 : (ji2) ≤ (a0.size : Int)
    · rw [if_pos c4] at H
      have c4b0 := eq_true c4
      have c4b1 : decide ((ji2) ≤ (a0.size : Int)) = true := decide_eq_true c4
      clear c4
      replace H := Option.bind_eq_some_iff.mp H
      obtain ⟨t110, A50, H⟩ := H
      replace H : (some t110) = some r := H
      have A5 := Aside0.mk A50
      clear A50
      obtain rfl := Option.some.inj H
      go_enter Try.func4, Try.ntmps4
      go_wp2_with (first | ((with_reducible refine gate_callee (f := 7) rfl ?_); refine goesL_ (some 8) rfl rfl Try.func7 (by kernel_rfl) rfl #[.string (a0.extract 0 ((ji2) : Int).toNat)] rfl (by (try simp only [List.map_toArray, List.map_cons, List.map_nil]); first | done | (simp only [hji2]; rfl) | rfl | (simp only [List.length_drop, List.length_take]; rfl)) ?_; (with_reducible refine (spec_LangNew.calls k (a0.extract 0 ((ji2) : Int).toNat) t110 _ A5.out).mono ?_); rintro e w6 ⟨rfl, hb⟩; refine ⟨_, rfl, ?_⟩; have n0_ := Aside0.mk (below_step (by repeat (first | (with_reducible first | exact HB.out | apply below_alloc | apply pw_below_drewN | apply below_drew1) | exact HB.out)) hb); clear HB; have HB := n0_; clear n0_; (try clear hb); (try clear hb2); (try clear hk); (try clear hi)))
      go_ret
      exact ⟨by first | rfl | (simp [errW_none, errW_some] <;> rfl) | (simp only [← hji2]; first | rfl | (simp [errW_none, errW_some] <;> rfl)) | (simp [*, errW_none, errW_some] <;> rfl), by repeat (first | (with_reducible first | exact HB.out | apply below_alloc | apply pw_below_drewN | apply below_drew1) | exact HB.out)⟩
    · rw [if_neg c4] at H
      exact absurd H (by simp)
  · rw [if_neg c3] at H
    exact absurd H (by simp)

/-! ### language_zzIndex: function 11 -/
def language_zzIndex.l0 : Nat → ByteArray → ByteArray → Int → Option (Int)
  | 0, _, _, _ => none
  | k + 1, x0, x1, x5 => if (wrap64 (x5 + (x1.size : Int))) ≤ (x0.size : Int) then (if 0 ≤ x5 then (if x5 ≤ (wrap64 (x5 + (x1.size : Int))) then (if (x0.extract (x5 : Int).toNat ((wrap64 (x5 + (x1.size : Int))) : Int).toNat).toList = x1.toList then (some x5) else (language_zzIndex.l0 k x0 x1 (wrap64 (x5 + 1)))) else (none)) else (none)) else (some (-1))
def language_zzIndex.f (k : Nat) (a0 : ByteArray) (a1 : ByteArray) : Option (Int) := language_zzIndex.l0 k a0 a1 0
theorem language_zzIndex.mono_l : ∀ k, (∀ y0 y1 y2, LeO (language_zzIndex.l0 k y0 y1 y2) (language_zzIndex.l0 (k + 1) y0 y1 y2))
  | 0 => fun _ _ _ r h => by simp [language_zzIndex.l0] at h
  | k + 1 => by
    have ih0 := language_zzIndex.mono_l k
    · intro y0 y1 y2
      unfold language_zzIndex.l0
      repeat' first
      | (with_reducible exact ih0 _ _ _)
      | (with_reducible exact LeO.refl _)
      | (with_reducible exact LeO.none _)
      | (with_reducible refine LeO.ite ?_ ?_)
      | (with_reducible refine LeO.bind ?_ (fun _ => ?_))
      | exact ih0 _ _ _
      | exact LeO.none _
      | refine LeO.ite ?_ ?_
      | refine LeO.bind ?_ (fun _ => ?_)
theorem language_zzIndex.mono : ∀ a0 a1 k, LeO (language_zzIndex.f k a0 a1) (language_zzIndex.f (k + 1) a0 a1) := by
  intro a0 a1 k
  have ih0 := language_zzIndex.mono_l k
  unfold language_zzIndex.f
  repeat' first
      | (with_reducible exact ih0 _ _ _)
      | (with_reducible exact LeO.refl _)
      | (with_reducible exact LeO.none _)
      | (with_reducible refine LeO.ite ?_ ?_)
      | (with_reducible refine LeO.bind ?_ (fun _ => ?_))
      | exact ih0 _ _ _
      | exact LeO.none _
      | refine LeO.ite ?_ ?_
      | refine LeO.bind ?_ (fun _ => ?_)
set_option maxHeartbeats 8000000 in
set_option maxRecDepth 100000 in
theorem language_zzIndex.calls (k : Nat) (a0 : ByteArray) (a1 : ByteArray) (r : Int) (w : World) (h : language_zzIndex.f k a0 a1 = some r) :
    Calls Try.prog 11 #[.string a0, .string a1] w fun e w' => e = .returned (.int .i64 r) ∧ Drawn0 w w' := by
  have H : (language_zzIndex.l0 k a0 a1 0) = some r := h
  clear h
  have H' := Aside0.mk H
  clear H
  go_enter Try.func11, Try.ntmps11
  go_wp2
  go_loopg [5] k (fun kq v5 w' => ∃ (x5_1 : Int), v5 = .int .i64 x5_1 ∧ Aside0 (language_zzIndex.l0 kq a0 a1 x5_1 = some r) ∧ Aside0 (kq ≤ k) ∧ Drawn0 w w')
  case atStart => exact ⟨(0), (by first | rfl | (simp; done) | (simp [*]; done)), H', ⟨Nat.le_refl _⟩, by repeat (first | exact Drawn0.refl _ | apply Drawn0.step)⟩
  case round =>
    clear H'
    try clear c1
    try clear p2
    obtain ⟨x5_1, rfl, HA, HK1, ⟨m1, rfl⟩⟩ := hrel
    cases gk with
    | zero => exact absurd HA.out (by simp [language_zzIndex.l0])
    | succ k1 =>
      have H := HA.out
      clear HA
      simp only [language_zzIndex.l0] at H
      by_cases c3 : (wrap64 (x5_1 + (a1.size : Int))) ≤ (a0.size : Int)
      · rw [if_pos c3] at H
        have c3b0 : decide ((wrap64 (x5_1 + (a1.size : Int))) ≤ (a0.size : Int)) = true := decide_eq_true c3
        clear c3
        by_cases c4 : 0 ≤ x5_1
        · rw [if_pos c4] at H
          have c4b0 := eq_true c4
          have c4b1 : decide (0 ≤ x5_1) = true := decide_eq_true c4
          clear c4
          by_cases c5 : x5_1 ≤ (wrap64 (x5_1 + (a1.size : Int)))
          · rw [if_pos c5] at H
            have c5b0 := eq_true c5
            have c5b1 : decide (x5_1 ≤ (wrap64 (x5_1 + (a1.size : Int)))) = true := decide_eq_true c5
            have c6b0 := eq_true (of_decide_eq_true (by first | (with_reducible assumption) | assumption) : (wrap64 (x5_1 + (a1.size : Int))) ≤ (a0.size : Int))
            by_cases c7 : (a0.extract (x5_1 : Int).toNat ((wrap64 (x5_1 + (a1.size : Int))) : Int).toNat).toList = a1.toList
            · rw [if_pos c7] at H
              have c7b0 : ((a0.extract (x5_1 : Int).toNat ((wrap64 (x5_1 + (a1.size : Int))) : Int).toNat).toList == a1.toList) = true := beq_iff_eq.mpr c7
              have c7b1 : ((a0.extract (x5_1 : Int).toNat ((wrap64 (x5_1 + (a1.size : Int))) : Int).toNat).toList != a1.toList) = false := bne_eq_false_iff_eq.mpr c7
              clear c7
              obtain rfl := Option.some.inj H
              go_wp2
              go_ret
              exact ⟨by first | rfl | (simp; done) | (simp [*]; done), by repeat (first | exact Drawn0.refl _ | apply Drawn0.step)⟩
            · rw [if_neg c7] at H
              have c7b0 : ((a0.extract (x5_1 : Int).toNat ((wrap64 (x5_1 + (a1.size : Int))) : Int).toNat).toList == a1.toList) = false := beq_eq_false_iff_ne.mpr c7
              have c7b1 : ((a0.extract (x5_1 : Int).toNat ((wrap64 (x5_1 + (a1.size : Int))) : Int).toNat).toList != a1.toList) = true := bne_iff_ne.mpr c7
              have H' := Aside0.mk H
              clear H
              go_wp2
              go_roundg k1
              case measure => have := HK1.out; omega
              case rel => exact ⟨(wrap64 (x5_1 + 1)), (by first | rfl | (simp; done) | (simp [*]; done)), H', ⟨by have := HK1.out; omega⟩, by repeat (first | exact Drawn0.refl _ | apply Drawn0.step)⟩
          · rw [if_neg c5] at H
            exact absurd H (by simp)
        · rw [if_neg c4] at H
          exact absurd H (by simp)
      · rw [if_neg c3] at H
        have c3b0 : decide ((wrap64 (x5_1 + (a1.size : Int))) ≤ (a0.size : Int)) = false := decide_eq_false c3
        clear c3
        obtain rfl := Option.some.inj H
        go_wp2
        go_ret
        exact ⟨by first | rfl | (simp; done) | (simp [*]; done), by repeat (first | exact Drawn0.refl _ | apply Drawn0.step)⟩

/-! ### language_zzSplit: function 9 -/
def language_zzSplit.l1 : Nat → ByteArray → ByteArray → List ByteArray → Option (List ByteArray)
  | 0, _, _, _ => none
  | k + 1, x0, x1, x5 => (language_zzIndex.f k x0 x1).bind fun t111 => (if t111 < 0 then (if x5.length < 8796093022208 then (some (x5 ++ [x0])) else (none)) else (if 0 ≤ t111 then (if t111 ≤ (x0.size : Int) then (if x5.length < 8796093022208 then (if 0 ≤ (wrap64 (t111 + (x1.size : Int))) then (if (wrap64 (t111 + (x1.size : Int))) ≤ (x0.size : Int) then (language_zzSplit.l1 k (x0.extract ((wrap64 (t111 + (x1.size : Int))) : Int).toNat x0.size) x1 (x5 ++ [x0.extract 0 (t111 : Int).toNat])) else (none)) else (none)) else (none)) else (none)) else (none)))
def language_zzSplit.f (k : Nat) (a0 : ByteArray) (a1 : ByteArray) : Option (List ByteArray) := if (a1.size : Int) = 0 then (none) else (language_zzSplit.l1 k a0 a1 ([] : List ByteArray))
theorem language_zzSplit.mono_l : ∀ k, (∀ y0 y1 y2, LeO (language_zzSplit.l1 k y0 y1 y2) (language_zzSplit.l1 (k + 1) y0 y1 y2))
  | 0 => fun _ _ _ r h => by simp [language_zzSplit.l1] at h
  | k + 1 => by
    have ih0 := language_zzSplit.mono_l k
    · intro y0 y1 y2
      unfold language_zzSplit.l1
      repeat' first
      | (with_reducible exact ih0 _ _ _)
      | (with_reducible exact language_zzIndex.mono _ _ _)
      | (with_reducible exact LeO.refl _)
      | (with_reducible exact LeO.none _)
      | (with_reducible refine LeO.ite ?_ ?_)
      | (with_reducible refine LeO.bind ?_ (fun _ => ?_))
      | exact ih0 _ _ _
      | exact language_zzIndex.mono _ _ _
      | exact LeO.none _
      | refine LeO.ite ?_ ?_
      | refine LeO.bind ?_ (fun _ => ?_)
theorem language_zzSplit.mono : ∀ a0 a1 k, LeO (language_zzSplit.f k a0 a1) (language_zzSplit.f (k + 1) a0 a1) := by
  intro a0 a1 k
  have ih0 := language_zzSplit.mono_l k
  unfold language_zzSplit.f
  repeat' first
      | (with_reducible exact ih0 _ _ _)
      | (with_reducible exact language_zzIndex.mono _ _ _)
      | (with_reducible exact LeO.refl _)
      | (with_reducible exact LeO.none _)
      | (with_reducible refine LeO.ite ?_ ?_)
      | (with_reducible refine LeO.bind ?_ (fun _ => ?_))
      | exact ih0 _ _ _
      | exact language_zzIndex.mono _ _ _
      | exact LeO.none _
      | refine LeO.ite ?_ ?_
      | refine LeO.bind ?_ (fun _ => ?_)
set_option maxHeartbeats 8000000 in
set_option maxRecDepth 100000 in
theorem language_zzSplit.calls (k : Nat) (a0 : ByteArray) (a1 : ByteArray) (r : List ByteArray) (w : World) (h : language_zzSplit.f k a0 a1 = some r) :
    Calls Try.prog 9 #[.string a0, .string a1] w fun e w' => ∃ v0_ : Value, e = .returned (v0_) ∧ Kd.R Kd.string 9 w' w.heap.size (fun _ => True) v0_ r ∧ Below w.heap.size w w' := by
  have HB := Aside0.mk (Below.refl w.heap.size w)
  have H : (if (a1.size : Int) = 0 then (none) else (language_zzSplit.l1 k a0 a1 ([] : List ByteArray))) = some r := h
  clear h
  by_cases c3 : (a1.size : Int) = 0
  · rw [if_pos c3] at H
    exact absurd H (by simp)
  · rw [if_neg c3] at H
    have c3b0 : ((a1.size : Int) == 0) = false := beq_eq_false_iff_ne.mpr c3
    have c3b1 : ((a1.size : Int) != 0) = true := bne_iff_ne.mpr c3
    have H' := Aside0.mk H
    clear H
    go_enter Try.func9, Try.ntmps9
    go_wp2
    go_loopg [0, 5] k (fun kq v0 v5 w' => ∃ (x0_1 : ByteArray) (x5_1 : List ByteArray), v0 = .string x0_1 ∧ Aside0 (language_zzSplit.l1 kq x0_1 a1 x5_1 = some r) ∧ Aside0 (kq ≤ k) ∧ Aside0 (Kd.R Kd.string 9 w' w.heap.size (fun _ => True) v5 x5_1) ∧ Aside0 (Below w.heap.size w w'))
    case atStart => exact ⟨(a0), (([] : List ByteArray)), (by first | rfl | (simp; done) | (simp [*]; done)), H', ⟨Nat.le_refl _⟩, ⟨by first | exact Kd.R_nil _ _ _ _ _ | exact Kd.N_nil _ _ _ _ _ | exact Kd.V_nil _ _ _ _ _ | exact Kd.Q_nil _ _ _ _ _ | exact Kd.S_nil _ _ _ _ _⟩, ⟨by repeat (first | (with_reducible first | exact HB.out | apply below_alloc | apply pw_below_drewN | apply below_drew1) | exact HB.out)⟩⟩
    case round =>
      clear H'
      try clear p2
      try clear c3
      try clear c3b0
      try clear c3b1
      obtain ⟨x0_1, x5_1, rfl, HA, HK1, HO_5, HB⟩ := hrel
      cases gk with
      | zero => exact absurd HA.out (by simp [language_zzSplit.l1])
      | succ k1 =>
        have H := HA.out
        clear HA
        simp only [language_zzSplit.l1] at H
        replace H := Option.bind_eq_some_iff.mp H
        obtain ⟨t111, A40, H⟩ := H
        replace H : (if t111 < 0 then (if x5_1.length < 8796093022208 then (some (x5_1 ++ [x0_1])) else (none)) else (if 0 ≤ t111 then (if t111 ≤ (x0_1.size : Int) then (if x5_1.length < 8796093022208 then (if 0 ≤ (wrap64 (t111 + (a1.size : Int))) then (if (wrap64 (t111 + (a1.size : Int))) ≤ (x0_1.size : Int) then (language_zzSplit.l1 k1 (x0_1.extract ((wrap64 (t111 + (a1.size : Int))) : Int).toNat x0_1.size) a1 (x5_1 ++ [x0_1.extract 0 (t111 : Int).toNat])) else (none)) else (none)) else (none)) else (none)) else (none))) = some r := H
        have A4 := Aside0.mk A40
        clear A40
        by_cases c5 : t111 < 0
        · rw [if_pos c5] at H
          have c5b0 : decide (t111 < 0) = true := decide_eq_true c5
          clear c5
          by_cases c6 : x5_1.length < 8796093022208
          · rw [if_pos c6] at H
            have LMc6 := Aside0.mk c6
            clear c6
            obtain ⟨y112, hy112⟩ : ∃ y_ : List ByteArray, y_ = (x5_1 ++ [x0_1]) := ⟨_, rfl⟩
            replace H : (some y112) = some r := by first | (rw [hy112]; with_reducible exact H) | (have H2_ := (Option.bind_some _ _).symm.trans H; rw [hy112]; with_reducible exact H2_) | (have H2_ := (Option.bind_some _ _).symm.trans H; with_reducible exact H2_) | with_reducible exact H | (rw [hy112]; exact H) | exact H
            have Ny112 := Aside0.mk hy112
            clear hy112
            obtain rfl := Option.some.inj H
            go_wp2_with (first | ((with_reducible refine gate_callee (f := 11) rfl ?_); refine goesL_ (some 39) rfl rfl Try.func11 (by kernel_rfl) rfl #[.string x0_1, .string a1] rfl (by (try simp only [List.map_toArray, List.map_cons, List.map_nil]); first | done | rfl | (simp only [List.length_drop, List.length_take]; rfl)) ?_; (with_reducible refine (language_zzIndex.calls k1 x0_1 a1 t111 _ A4.out).mono ?_); rintro e w' ⟨rfl, ⟨nd, rfl⟩⟩; refine ⟨_, rfl, ?_⟩) | ((with_reducible refine gate_builtin (b := .append) (xs := #[.tmp 42, .tmp 44]) rfl ?_); at_builtin; refine Kd.R_append Kd.string (w0 := w) w.heap.size rfl (.tmp 42) (.tmp 44) 23 9 (.string ⟨#[]⟩) 16 rfl Try.underlying23 info9 rfl (by decide) (by omega) u5 x5_1 x0_1 [.string x0_1] (fun _ => True) (fun _ => False) rfl rfl ?aP (fun _ hk => hk.elim) ?aF ?aO ?aB ?aS ?aL ?_; (case aP => exact rfl); (case aB => exact (by repeat (first | (with_reducible first | exact HB.out | apply below_alloc | apply pw_below_drewN | apply below_drew1) | exact HB.out))); (case aF => exact (fun _ _ => trivial)); (case aO => exact (by (with_reducible repeat (first | apply Kd.R_alloc | apply Kd.R_drewN | apply Kd.R_drew)); exact HO_5.out)); (case aS => exact (below_size (by repeat (first | (with_reducible first | exact HB.out | apply below_alloc | apply pw_below_drewN | apply below_drew1) | exact HB.out)))); (case aL => have := LMc6.out; omega); intro v113 w7 ho hb hg hat; rw [← Ny112.out] at ho; have n0_ := Aside0.mk (hb); have n1_ := Aside0.mk (ho); clear HB; clear HO_5; have HB := n0_; have HO114 := n1_; clear n0_ n1_; clear ho hb hg hat))
            go_ret
            exact ⟨_, by first | rfl | (simp [errW_none, errW_some] <;> rfl) | (simp [*, errW_none, errW_some] <;> rfl), by (with_reducible repeat (first | apply Kd.R_alloc | apply Kd.R_drewN | apply Kd.R_drew)); exact HO114.out, by repeat (first | (with_reducible first | exact HB.out | apply below_alloc | apply pw_below_drewN | apply below_drew1) | exact HB.out)⟩
          · rw [if_neg c6] at H
            exact absurd H (by simp)
        · rw [if_neg c5] at H
          have c5b0 : decide (t111 < 0) = false := decide_eq_false c5
          clear c5
          by_cases c8 : 0 ≤ t111
          · rw [if_pos c8] at H
            have c8b0 := eq_true c8
            have c8b1 : decide (0 ≤ t111) = true := decide_eq_true c8
            clear c8
            by_cases c9 : t111 ≤ (x0_1.size : Int)
            · rw [if_pos c9] at H
              have c9b0 := eq_true c9
              have c9b1 : decide (t111 ≤ (x0_1.size : Int)) = true := decide_eq_true c9
              clear c9
              by_cases c10 : x5_1.length < 8796093022208
              · rw [if_pos c10] at H
                have LMc10 := Aside0.mk c10
                clear c10
                obtain ⟨y115, hy115⟩ : ∃ y_ : List ByteArray, y_ = (x5_1 ++ [x0_1.extract 0 (t111 : Int).toNat]) := ⟨_, rfl⟩
                replace H : (if 0 ≤ (wrap64 (t111 + (a1.size : Int))) then (if (wrap64 (t111 + (a1.size : Int))) ≤ (x0_1.size : Int) then (language_zzSplit.l1 k1 (x0_1.extract ((wrap64 (t111 + (a1.size : Int))) : Int).toNat x0_1.size) a1 y115) else (none)) else (none)) = some r := by first | (rw [hy115]; with_reducible exact H) | (have H2_ := (Option.bind_some _ _).symm.trans H; rw [hy115]; with_reducible exact H2_) | (have H2_ := (Option.bind_some _ _).symm.trans H; with_reducible exact H2_) | with_reducible exact H | (rw [hy115]; exact H) | exact H
                have Ny115 := Aside0.mk hy115
                clear hy115
                obtain ⟨ji11, hji11⟩ : ∃ j_ : Int, (wrap64 (t111 + (a1.size : Int))) = j_ := ⟨_, rfl⟩
                replace H : (if 0 ≤ (ji11) then (if (ji11) ≤ (x0_1.size : Int) then (language_zzSplit.l1 k1 (x0_1.extract ((ji11) : Int).toNat x0_1.size) a1 y115) else (none)) else (none)) = some r := by first | (rw [hji11] at H; exact H) | (simp only [hji11] at H ⊢; exact H)
                (try rw [hji11] at A4)
                have hji11w : (IntKind.i64.wrap (t111 + (a1.size : Int))) = ji11 := (i64_w _).trans hji11
                by_cases c12 : 0 ≤ (ji11)
                · rw [if_pos c12] at H
                  have c12b0 := eq_true c12
                  have c12b1 : decide (0 ≤ (ji11)) = true := decide_eq_true c12
                  clear c12
                  by_cases c13 : (ji11) ≤ (x0_1.size : Int)
                  · rw [if_pos c13] at H
                    have c13b0 := eq_true c13
                    have c13b1 : decide ((ji11) ≤ (x0_1.size : Int)) = true := decide_eq_true c13
                    clear c13
                    have H' := Aside0.mk H
                    clear H
                    go_wp2_with (first | ((with_reducible refine gate_callee (f := 11) rfl ?_); refine goesL_ (some 39) rfl rfl Try.func11 (by kernel_rfl) rfl #[.string x0_1, .string a1] rfl (by (try simp only [List.map_toArray, List.map_cons, List.map_nil]); first | done | rfl | (simp only [List.length_drop, List.length_take]; rfl)) ?_; (with_reducible refine (language_zzIndex.calls k1 x0_1 a1 t111 _ A4.out).mono ?_); rintro e w' ⟨rfl, ⟨nd, rfl⟩⟩; refine ⟨_, rfl, ?_⟩) | ((with_reducible refine gate_builtin (b := .append) (xs := #[.tmp 46, .tmp 50]) rfl ?_); at_builtin; refine Kd.R_append Kd.string (w0 := w) w.heap.size rfl (.tmp 46) (.tmp 50) 23 9 (.string ⟨#[]⟩) 16 rfl Try.underlying23 info9 rfl (by decide) (by omega) u5 x5_1 (x0_1.extract 0 (t111 : Int).toNat) [.string (x0_1.extract 0 (t111 : Int).toNat)] (fun _ => True) (fun _ => False) rfl rfl ?aP (fun _ hk => hk.elim) ?aF ?aO ?aB ?aS ?aL ?_; (case aP => exact rfl); (case aB => exact (by repeat (first | (with_reducible first | exact HB.out | apply below_alloc | apply pw_below_drewN | apply below_drew1) | exact HB.out))); (case aF => exact (fun _ _ => trivial)); (case aO => exact (by (with_reducible repeat (first | apply Kd.R_alloc | apply Kd.R_drewN | apply Kd.R_drew)); exact HO_5.out)); (case aS => exact (below_size (by repeat (first | (with_reducible first | exact HB.out | apply below_alloc | apply pw_below_drewN | apply below_drew1) | exact HB.out)))); (case aL => have := LMc10.out; omega); intro v116 w14 ho hb hg hat; rw [← Ny115.out] at ho; have n0_ := Aside0.mk (hb); have n1_ := Aside0.mk (ho); clear HB; clear HO_5; have HB := n0_; have HO117 := n1_; clear n0_ n1_; clear ho hb hg hat))
                    go_roundg k1
                    case measure => have := HK1.out; omega
                    case rel => exact ⟨(x0_1.extract ((ji11) : Int).toNat x0_1.size), (y115), (by first | rfl | (simp; done) | (simp only [← hji11] <;> (first | rfl | simp)) | (simp [*]; done)), H', ⟨by have := HK1.out; omega⟩, ⟨by (with_reducible repeat (first | apply Kd.R_alloc | apply Kd.R_drewN | apply Kd.R_drew)); exact HO117.out⟩, ⟨by repeat (first | (with_reducible first | exact HB.out | apply below_alloc | apply pw_below_drewN | apply below_drew1) | exact HB.out)⟩⟩
                  · rw [if_neg c13] at H
                    exact absurd H (by simp)
                · rw [if_neg c12] at H
                  exact absurd H (by simp)
              · rw [if_neg c10] at H
                exact absurd H (by simp)
            · rw [if_neg c9] at H
              exact absurd H (by simp)
          · rw [if_neg c8] at H
            exact absurd H (by simp)

-- NOT PRINTED: function 17 (abi_NoEscape)

-- NOT PRINTED: function 15 (strings_Builder_copyCheck)

-- NOT PRINTED: function 18 (bytealg_MakeNoZero)

-- NOT PRINTED: function 16 (strings_Builder_grow)

-- NOT PRINTED: function 12 (strings_Builder_Grow)

-- NOT PRINTED: function 13 (strings_Builder_WriteString)

-- NOT PRINTED: function 14 (strings_Builder_String)

/-! ### strings_Join: function 10 -/
def strings_Join.f (l0 : List ByteArray) (a1 : ByteArray) : Option ByteArray := if l0.length ≤ 140737488355328 ∧ (Go.Lib.join (l0.map (·.data.toList)) a1.data.toList).length ≤ 140737488355328 then some ⟨(Go.Lib.join (l0.map (·.data.toList)) a1.data.toList).toArray⟩ else none
theorem strings_Join.calls (A0 : Option Addr) (c0 : Nat) (l0 : List ByteArray) (a1 : ByteArray) (r : ByteArray) (w : World) (hr0 : Kd.C Kd.string w A0 l0.length l0) (hc0 : l0.length ≤ c0) (h : strings_Join.f l0 a1 = some r) :
    Calls Try.prog 10 #[.slice A0 l0.length c0, .string a1] w fun e w' => e = .returned (.string r) ∧ Below w.heap.size w w' := by
  unfold strings_Join.f at h
  split at h
  · rename_i hj
    obtain rfl := Option.some.inj h
    cases l0 with
    | nil =>
      refine (Try.strings_Join_none A0 c0 a1 w).mono ?_
      rintro e w' ⟨rfl, rfl⟩
      exact ⟨rfl, Below.refl _ _⟩
    | cons x l =>
      obtain ⟨ad, rfl, hc⟩ := hr0.2.2 (by simp)
      have hcell : ∀ (j : Nat) y, (x :: l)[j]? = some y → w.cell? (ad.add j) = some (.string y) := by
        intro j y hjy
        obtain ⟨c, hlen, hK, hcc⟩ := hc j y hjy
        have e : c = [.string y] := hK
        subst e
        have q := hcc 0 _ rfl
        have e1 : j * Kd.string.sz + 0 = j := Nat.mul_one j
        rwa [e1] at q
      have h0 : w.cell? ad = some (.string x) := hcell 0 x rfl
      obtain ⟨bk, o, sp⟩ := ad
      have hs : sp = none := by
        cases sp with
        | none => rfl
        | some z =>
          unfold World.cell? at h0
          split at h0 <;> simp at h0
      subst hs
      refine (Try.strings_Join bk o c0 (x :: l) a1 w (fun j y hjy => ?_) (World.block_lt_of_cell? (w := w) (a := ⟨bk, o, none⟩) h0) hj.1 hc0 hj.2).mono ?_
      · have q := hcell j y hjy
        unfold Addr.add at q
        split at q
        · rename_i e; subst e; exact q
        · exact q
      · rintro e w' ⟨rfl, hb⟩
        exact ⟨rfl, hb⟩
  · cases h

/-! ### language_Language_SimpleInheritance: function 8 -/
def language_Language_SimpleInheritance.l0 : Nat → List ByteArray → List ByteArray → Option (List ByteArray)
  | 0, _, _ => none
  | k + 1, x3, x4 => if (x3.length : Int) = 0 then (some x4) else ((strings_Join.f x3 (⟨#[45]⟩ : ByteArray)).bind fun t124 => (if x4.length < 8796093022208 then (if 0 ≤ (wrap64 ((x3.length : Int) - 1)) then (if (wrap64 ((x3.length : Int) - 1)) ≤ (x3.length : Int) then (language_Language_SimpleInheritance.l0 k (x3.take ((wrap64 ((x3.length : Int) - 1)) : Int).toNat) (x4 ++ [t124])) else (none)) else (none)) else (none)))
def language_Language_SimpleInheritance.f (k : Nat) (a0 : ByteArray) : Option (List ByteArray) := (language_zzSplit.f k a0 (⟨#[45]⟩ : ByteArray)).bind fun t118 => (if 0 ≤ (t118.length : Int) then (if ((t118.length : Int) : Int).toNat ≤ 17592186044416 then (language_Language_SimpleInheritance.l0 k t118 (([] : List ByteArray))) else (none)) else (none))
theorem language_Language_SimpleInheritance.mono_l : ∀ k, (∀ y0 y1, LeO (language_Language_SimpleInheritance.l0 k y0 y1) (language_Language_SimpleInheritance.l0 (k + 1) y0 y1))
  | 0 => fun _ _ r h => by simp [language_Language_SimpleInheritance.l0] at h
  | k + 1 => by
    have ih0 := language_Language_SimpleInheritance.mono_l k
    · intro y0 y1
      unfold language_Language_SimpleInheritance.l0
      repeat' first
      | (with_reducible exact ih0 _ _)
      | (with_reducible exact language_zzSplit.mono _ _ _)
      | (with_reducible exact LeO.refl _)
      | (with_reducible exact LeO.none _)
      | (with_reducible refine LeO.ite ?_ ?_)
      | (with_reducible refine LeO.bind ?_ (fun _ => ?_))
      | exact ih0 _ _
      | exact language_zzSplit.mono _ _ _
      | exact LeO.none _
      | refine LeO.ite ?_ ?_
      | refine LeO.bind ?_ (fun _ => ?_)
theorem language_Language_SimpleInheritance.mono : ∀ a0 k, LeO (language_Language_SimpleInheritance.f k a0) (language_Language_SimpleInheritance.f (k + 1) a0) := by
  intro a0 k
  have ih0 := language_Language_SimpleInheritance.mono_l k
  unfold language_Language_SimpleInheritance.f
  repeat' first
      | (with_reducible exact ih0 _ _)
      | (with_reducible exact language_zzSplit.mono _ _ _)
      | (with_reducible exact LeO.refl _)
      | (with_reducible exact LeO.none _)
      | (with_reducible refine LeO.ite ?_ ?_)
      | (with_reducible refine LeO.bind ?_ (fun _ => ?_))
      | exact ih0 _ _
      | exact language_zzSplit.mono _ _ _
      | exact LeO.none _
      | refine LeO.ite ?_ ?_
      | refine LeO.bind ?_ (fun _ => ?_)
set_option maxHeartbeats 8000000 in
set_option maxRecDepth 100000 in
theorem language_Language_SimpleInheritance.calls (k : Nat) (a0 : ByteArray) (r : List ByteArray) (w : World) (h : language_Language_SimpleInheritance.f k a0 = some r) :
    Calls Try.prog 8 #[.string a0] w fun e w' => ∃ v0_ : Value, e = .returned (v0_) ∧ Kd.R Kd.string 27 w' w.heap.size (fun _ => True) v0_ r ∧ Below w.heap.size w w' := by
  have HB := Aside0.mk (Below.refl w.heap.size w)
  have H : ((language_zzSplit.f k a0 (⟨#[45]⟩ : ByteArray)).bind fun t118 => (if 0 ≤ (t118.length : Int) then (if ((t118.length : Int) : Int).toNat ≤ 17592186044416 then (language_Language_SimpleInheritance.l0 k t118 (([] : List ByteArray))) else (none)) else (none))) = some r := h
  clear h
  replace H := Option.bind_eq_some_iff.mp H
  obtain ⟨t118, A20, H⟩ := H
  replace H : (if 0 ≤ (t118.length : Int) then (if ((t118.length : Int) : Int).toNat ≤ 17592186044416 then (language_Language_SimpleInheritance.l0 k t118 (([] : List ByteArray))) else (none)) else (none)) = some r := H
  have A2 := Aside0.mk A20
  clear A20
  by_cases c3 : 0 ≤ (t118.length : Int)
  · rw [if_pos c3] at H
    have c3b0 := eq_true c3
    have c3b1 : decide (0 ≤ (t118.length : Int)) = true := decide_eq_true c3
    clear c3
    by_cases c4 : ((t118.length : Int) : Int).toNat ≤ 17592186044416
    · rw [if_pos c4] at H
      have c4b0 := eq_true c4
      have c4b1 : decide (((t118.length : Int) : Int).toNat ≤ 17592186044416) = true := decide_eq_true c4
      clear c4
      obtain ⟨y121, hy121⟩ : ∃ y_ : List ByteArray, y_ = (([] : List ByteArray)) := ⟨_, rfl⟩
      replace H : (language_Language_SimpleInheritance.l0 k t118 y121) = some r := by first | (rw [hy121]; with_reducible exact H) | (have H2_ := (Option.bind_some _ _).symm.trans H; rw [hy121]; with_reducible exact H2_) | (have H2_ := (Option.bind_some _ _).symm.trans H; with_reducible exact H2_) | with_reducible exact H | (rw [hy121]; exact H) | exact H
      have Ny121 := Aside0.mk hy121
      clear hy121
      have H' := Aside0.mk H
      clear H
      go_enter Try.func8, Try.ntmps8
      go_wp2_with (first | ((with_reducible refine gate_callee (f := 9) rfl ?_); refine goesL_ (some 6) rfl rfl Try.func9 (by kernel_rfl) rfl #[.string a0, .string (⟨#[45]⟩ : ByteArray)] rfl (by (try simp only [List.map_toArray, List.map_cons, List.map_nil]); first | done | rfl | (simp only [List.length_drop, List.length_take]; rfl)) ?_; (with_reducible refine (language_zzSplit.calls k a0 (⟨#[45]⟩ : ByteArray) t118 _ A2.out).mono ?_); rintro e w5 ⟨v119, rfl, ho0, hb⟩; refine ⟨_, rfl, ?_⟩; have n0_ := Aside0.mk (Kd.R_lower ho0 (below_size (by repeat (first | (with_reducible first | exact HB.out | apply below_alloc | apply pw_below_drewN | apply below_drew1) | exact HB.out)))); have n1_ := Aside0.mk (below_step (by repeat (first | (with_reducible first | exact HB.out | apply below_alloc | apply pw_below_drewN | apply below_drew1) | exact HB.out)) hb); clear HB; have HO120 := n0_; have HB := n1_; clear n0_ n1_; (try clear hb); (try clear hb2); (try clear hk); (try clear hi); (try clear ho0); obtain ⟨Ao6, co6, eo6⟩ := Kd.R_slice HO120.out; subst eo6) | ((with_reducible refine gate_dst (N := 9) rfl ?_); refine R_make0 Kd.string _ 27 rfl (N := 9) rfl 26 _ _ rfl (t118.length : Int) rfl rfl Try.underlying26 (.string ⟨#[]⟩) 16 info27 (by decide) (by omega) (ok := fun _ => True) trivial (of_decide_eq_true (by first | (with_reducible assumption) | assumption)) (Nat.le_trans (Nat.mul_le_mul_right _ (of_decide_eq_true (by first | (with_reducible assumption) | assumption) : (t118.length : Int).toNat ≤ 17592186044416)) (by omega)) (Below.refl _ _) (Nat.le_refl _) ?_; intro v122 w7 ho8 hb hg_ hnew_; clear hg_ hnew_; (first | rw [← Ny121.out] at ho8 | (simp only [Int.reduceToNat] at ho8; rw [← Ny121.out] at ho8)); have n0_ := Aside0.mk (Kd.R_below (by (with_reducible repeat (first | apply Kd.R_alloc | apply Kd.R_drewN | apply Kd.R_drew)); exact HO120.out) hb); have n1_ := Aside0.mk (Kd.R_lower ho8 (below_size (by repeat (first | (with_reducible first | exact HB.out | apply below_alloc | apply pw_below_drewN | apply below_drew1) | exact HB.out)))); have n2_ := Aside0.mk (below_step (by repeat (first | (with_reducible first | exact HB.out | apply below_alloc | apply pw_below_drewN | apply below_drew1) | exact HB.out)) hb); clear HO120; clear HB; have HO120 := n0_; have HO123 := n1_; have HB := n2_; clear n0_ n1_ n2_; clear hb ho8))
      go_loopg [3, 4] k (fun kq v3 v4 w' => ∃ (x3_1 : List ByteArray) (x4_1 : List ByteArray), Aside0 (language_Language_SimpleInheritance.l0 kq x3_1 x4_1 = some r) ∧ Aside0 (kq ≤ k) ∧ Aside0 (Kd.R Kd.string 9 w' w.heap.size (fun _ => True) v3 x3_1) ∧ Aside0 (Kd.R Kd.string 27 w' w.heap.size (fun _ => True) v4 x4_1) ∧ Aside0 (Below w.heap.size w w'))
      case atStart => exact ⟨(t118), (y121), H', ⟨Nat.le_refl _⟩, ⟨by (with_reducible repeat (first | apply Kd.R_alloc | apply Kd.R_drewN | apply Kd.R_drew)); exact HO120.out⟩, ⟨by (with_reducible repeat (first | apply Kd.R_alloc | apply Kd.R_drewN | apply Kd.R_drew)); exact HO123.out⟩, ⟨by repeat (first | (with_reducible first | exact HB.out | apply below_alloc | apply pw_below_drewN | apply below_drew1) | exact HB.out)⟩⟩
      case round =>
        clear H'
        try clear p2
        try clear c3
        try clear c3b0
        try clear c3b1
        try clear c4
        try clear c4b0
        try clear c4b1
        try clear c8
        obtain ⟨x3_1, x4_1, HA, HK1, HO_3, HO_4, HB⟩ := hrel
        cases gk with
        | zero => exact absurd HA.out (by simp [language_Language_SimpleInheritance.l0])
        | succ k1 =>
          have H := HA.out
          clear HA
          simp only [language_Language_SimpleInheritance.l0] at H
          by_cases c9 : (x3_1.length : Int) = 0
          · rw [if_pos c9] at H
            have c9b0 : ((x3_1.length : Int) == 0) = true := beq_iff_eq.mpr c9
            have c9b1 : ((x3_1.length : Int) != 0) = false := bne_eq_false_iff_eq.mpr c9
            clear c9
            obtain rfl := Option.some.inj H
            obtain ⟨Ao10, co10, eo10⟩ := Kd.R_slice HO_3.out
            subst eo10
            go_wp2
            go_ret
            exact ⟨_, by first | rfl | (simp [errW_none, errW_some] <;> rfl) | (simp [*, errW_none, errW_some] <;> rfl), by (with_reducible repeat (first | apply Kd.R_alloc | apply Kd.R_drewN | apply Kd.R_drew)); exact HO_4.out, by repeat (first | (with_reducible first | exact HB.out | apply below_alloc | apply pw_below_drewN | apply below_drew1) | exact HB.out)⟩
          · rw [if_neg c9] at H
            have c9b0 : ((x3_1.length : Int) == 0) = false := beq_eq_false_iff_ne.mpr c9
            have c9b1 : ((x3_1.length : Int) != 0) = true := bne_iff_ne.mpr c9
            have c9b2 : ¬ (x3_1 = []) := fun h_ => c9 (by rw [h_]; rfl)
            replace H := Option.bind_eq_some_iff.mp H
            obtain ⟨t124, A110, H⟩ := H
            replace H : (if x4_1.length < 8796093022208 then (if 0 ≤ (wrap64 ((x3_1.length : Int) - 1)) then (if (wrap64 ((x3_1.length : Int) - 1)) ≤ (x3_1.length : Int) then (language_Language_SimpleInheritance.l0 k1 (x3_1.take ((wrap64 ((x3_1.length : Int) - 1)) : Int).toNat) (x4_1 ++ [t124])) else (none)) else (none)) else (none)) = some r := H
            have A11 := Aside0.mk A110
            clear A110
            by_cases c12 : x4_1.length < 8796093022208
            · rw [if_pos c12] at H
              have LMc12 := Aside0.mk c12
              clear c12
              obtain ⟨y125, hy125⟩ : ∃ y_ : List ByteArray, y_ = (x4_1 ++ [t124]) := ⟨_, rfl⟩
              replace H : (if 0 ≤ (wrap64 ((x3_1.length : Int) - 1)) then (if (wrap64 ((x3_1.length : Int) - 1)) ≤ (x3_1.length : Int) then (language_Language_SimpleInheritance.l0 k1 (x3_1.take ((wrap64 ((x3_1.length : Int) - 1)) : Int).toNat) y125) else (none)) else (none)) = some r := by first | (rw [hy125]; with_reducible exact H) | (have H2_ := (Option.bind_some _ _).symm.trans H; rw [hy125]; with_reducible exact H2_) | (have H2_ := (Option.bind_some _ _).symm.trans H; with_reducible exact H2_) | with_reducible exact H | (rw [hy125]; exact H) | exact H
              have Ny125 := Aside0.mk hy125
              clear hy125
              obtain ⟨ji13, hji13⟩ : ∃ j_ : Int, (wrap64 ((x3_1.length : Int) - 1)) = j_ := ⟨_, rfl⟩
              replace H : (if 0 ≤ (ji13) then (if (ji13) ≤ (x3_1.length : Int) then (language_Language_SimpleInheritance.l0 k1 (x3_1.take ((ji13) : Int).toNat) y125) else (none)) else (none)) = some r := by first | (rw [hji13] at H; exact H) | (simp only [hji13] at H ⊢; exact H)
              (try rw [hji13] at A11)
              have hji13w : (IntKind.i64.wrap ((x3_1.length : Int) - 1)) = ji13 := (i64_w _).trans hji13
              by_cases c14 : 0 ≤ (ji13)
              · rw [if_pos c14] at H
                have c14b0 := eq_true c14
                have c14b1 : decide (0 ≤ (ji13)) = true := decide_eq_true c14
                clear c14
                by_cases c15 : (ji13) ≤ (x3_1.length : Int)
                · rw [if_pos c15] at H
                  have c15b0 := eq_true c15
                  have c15b1 : decide ((ji13) ≤ (x3_1.length : Int)) = true := decide_eq_true c15
                  clear c15
                  obtain ⟨y128, hy128⟩ : ∃ y_ : List ByteArray, y_ = (x3_1.take ((ji13) : Int).toNat) := ⟨_, rfl⟩
                  replace H : (language_Language_SimpleInheritance.l0 k1 y128 y125) = some r := by first | (rw [hy128]; with_reducible exact H) | (have H2_ := (Option.bind_some _ _).symm.trans H; rw [hy128]; with_reducible exact H2_) | (have H2_ := (Option.bind_some _ _).symm.trans H; with_reducible exact H2_) | with_reducible exact H | (rw [hy128]; exact H) | exact H
                  have Ny128 := Aside0.mk hy128
                  clear hy128
                  have H' := Aside0.mk H
                  clear H
                  obtain ⟨Ao16, co16, eo16⟩ := Kd.R_slice HO_3.out
                  subst eo16
                  go_wp2_with (first | ((with_reducible refine gate_callee (f := 10) rfl ?_); refine goesL_ (some 15) rfl rfl Try.func10 (by kernel_rfl) rfl #[.slice Ao16 x3_1.length co16, .string (⟨#[45]⟩ : ByteArray)] rfl (by (try simp only [List.map_toArray, List.map_cons, List.map_nil]); first | done | rfl | (simp only [List.length_drop, List.length_take]; rfl)) ?_; (with_reducible refine (strings_Join.calls _ _ x3_1 (⟨#[45]⟩ : ByteArray) t124 _ ?side1 ?side2 A11.out).mono ?_); (case side1 => repeat (first | exact (Kd.R_reads' HO_3.out).2.2 | (with_reducible refine Kd.C_alloc ?_ _) | (with_reducible refine Kd.C_drewN ?_ _) | (with_reducible refine Kd.C_drew ?_))); (case side2 => exact (Kd.R_reads' HO_3.out).2.1); rintro e w17 ⟨rfl, hb⟩; refine ⟨_, rfl, ?_⟩; have n0_ := Aside0.mk (Kd.R_below (by (with_reducible repeat (first | apply Kd.R_alloc | apply Kd.R_drewN | apply Kd.R_drew)); exact HO_3.out) hb); have n1_ := Aside0.mk (Kd.R_below (by (with_reducible repeat (first | apply Kd.R_alloc | apply Kd.R_drewN | apply Kd.R_drew)); exact HO_4.out) hb); have n2_ := Aside0.mk (below_step (by repeat (first | (with_reducible first | exact HB.out | apply below_alloc | apply pw_below_drewN | apply below_drew1) | exact HB.out)) hb); clear HO_3; clear HO_4; clear HB; have HO_3 := n0_; have HO_4 := n1_; have HB := n2_; clear n0_ n1_ n2_; (try clear hb); (try clear hb2); (try clear hk); (try clear hi)) | ((with_reducible refine gate_builtin (b := .append) (xs := #[.tmp 13, .tmp 16]) rfl ?_); at_builtin; refine Kd.R_append Kd.string (w0 := w) w.heap.size rfl (.tmp 13) (.tmp 16) 26 27 (.string ⟨#[]⟩) 16 rfl Try.underlying26 info27 rfl (by decide) (by omega) u4 x4_1 t124 [.string t124] (fun _ => True) (fun _ => False) rfl rfl ?aP (fun _ hk => hk.elim) ?aF ?aO ?aB ?aS ?aL ?_; (case aP => exact rfl); (case aB => exact (by repeat (first | (with_reducible first | exact HB.out | apply below_alloc | apply pw_below_drewN | apply below_drew1) | exact HB.out))); (case aF => exact (fun _ _ => trivial)); (case aO => exact (by (with_reducible repeat (first | apply Kd.R_alloc | apply Kd.R_drewN | apply Kd.R_drew)); exact HO_4.out)); (case aS => exact (below_size (by repeat (first | (with_reducible first | exact HB.out | apply below_alloc | apply pw_below_drewN | apply below_drew1) | exact HB.out)))); (case aL => have := LMc12.out; omega); intro v126 w18 ho hb hg hat; rw [← Ny125.out] at ho; have n0_ := Aside0.mk (Kd.R_over' (by (with_reducible repeat (first | apply Kd.R_alloc | apply Kd.R_drewN | apply Kd.R_drew)); exact HO_3.out) (Kd.R_typed (by (with_reducible repeat (first | apply Kd.R_alloc | apply Kd.R_drewN | apply Kd.R_drew)); exact HO_4.out)) (by decide) hg); have n1_ := Aside0.mk (hb); have n2_ := Aside0.mk (ho); clear HO_3; clear HB; clear HO_4; have HO_3 := n0_; have HB := n1_; have HO127 := n2_; clear n0_ n1_ n2_; clear ho hb hg hat; have q19 : ((ji13) : Int) ≤ ((x3_1.length : Int) : Int) := of_decide_eq_true (by first | (with_reducible assumption) | assumption); obtain ⟨i019, hi019, _, hsz19, _⟩ := info_parts info9; have hcut19 := cut_to (P := Try.prog) 23 9 .i64 Try.underlying23 hi019 Ao16 x3_1.length co16 (ji13) (of_decide_eq_true (by first | (with_reducible assumption) | assumption)) q19 (Kd.R_reads' HO_3.out).2.1; have hr19 := Kd.R_take (m := ((ji13) : Int).toNat) HO_3.out (by omega); have hy19 : y128.length = ((ji13) : Int).toNat := (by rw [Ny128.out, List.length_take]; omega); rw [← Ny128.out] at hr19; rw [← hy19] at hr19 hcut19; clear hy19 hi019 hsz19 HO_3; have HO130 := Aside0.mk hr19; clear hr19; replace q19 := eq_true q19))
                  go_roundg k1
                  case measure => have := HK1.out; omega
                  case rel => exact ⟨(y128), (y125), H', ⟨by have := HK1.out; omega⟩, ⟨by (with_reducible repeat (first | apply Kd.R_alloc | apply Kd.R_drewN | apply Kd.R_drew)); exact HO130.out⟩, ⟨by (with_reducible repeat (first | apply Kd.R_alloc | apply Kd.R_drewN | apply Kd.R_drew)); exact HO127.out⟩, ⟨by repeat (first | (with_reducible first | exact HB.out | apply below_alloc | apply pw_below_drewN | apply below_drew1) | exact HB.out)⟩⟩
                · rw [if_neg c15] at H
                  exact absurd H (by simp)
              · rw [if_neg c14] at H
                exact absurd H (by simp)
            · rw [if_neg c12] at H
              exact absurd H (by simp)
    · rw [if_neg c4] at H
      exact absurd H (by simp)
  · rw [if_neg c3] at H
    exact absurd H (by simp)

end Go.Proofs.Ytklkpekjnkjcdaa.PFnLangInherits
