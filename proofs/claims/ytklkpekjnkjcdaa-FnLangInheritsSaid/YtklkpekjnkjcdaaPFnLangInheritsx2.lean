-- Written by a program of this session (xprint) out of the translation; Lean checks it.
import Derived.Test.YtklkpekjnkjcdaaPFnLangInheritsx0
import Derived.Test.YtklkpekjnkjcdaaPFnLangInheritsx1
namespace Go.Proofs.Ytklkpekjnkjcdaa.PFnLangInherits
open Go.RowKit Go.Proofs.YtklkpekjnkjcdaaW.PrintWords Go.Proofs.YtklkpekjnkjcdaaW.PrintLast Go.Proofs.YtklkpekjnkjcdaaW.PrintMore
attribute [local go_sem] max2_int min2_int max_two min_two max_three min_three max_four min_four   -- for this text's walks alone
set_option linter.unusedVariables false
set_option linter.unusedSimpArgs false

/-! ### impl_LangInherits: function 5 -/
def impl_LangInherits.l0 : Nat → List ByteArray → List ByteArray → Int → Int → Option (List ByteArray)
  | 0, _, _, _, _ => none
  | k + 1, x2, x6, x7, x8 => if x8 < x7 then (if 0 ≤ x8 then (if x8 < (x6.length : Int) then (if x2.length < 8796093022208 then (impl_LangInherits.l0 k (x2 ++ [rdOf ByteArray.empty x6 x8]) x6 x7 (wrap64 (x8 + 1))) else (none)) else (none)) else (none)) else (some x2)
def impl_LangInherits.f (k : Nat) (a0 : ByteArray) : Option (List ByteArray) := (language_Language_SimpleInheritance.f k a0).bind fun t131 => (impl_LangInherits.l0 k ([] : List ByteArray) t131 (t131.length : Int) 0)
theorem impl_LangInherits.mono_l : ∀ k, (∀ y0 y1 y2 y3, LeO (impl_LangInherits.l0 k y0 y1 y2 y3) (impl_LangInherits.l0 (k + 1) y0 y1 y2 y3))
  | 0 => fun _ _ _ _ r h => by simp [impl_LangInherits.l0] at h
  | k + 1 => by
    have ih0 := impl_LangInherits.mono_l k
    · intro y0 y1 y2 y3
      unfold impl_LangInherits.l0
      repeat' first
      | (with_reducible exact ih0 _ _ _ _)
      | (with_reducible exact language_Language_SimpleInheritance.mono _ _)
      | (with_reducible exact LeO.refl _)
      | (with_reducible exact LeO.none _)
      | (with_reducible refine LeO.ite ?_ ?_)
      | (with_reducible refine LeO.bind ?_ (fun _ => ?_))
      | exact ih0 _ _ _ _
      | exact language_Language_SimpleInheritance.mono _ _
      | exact LeO.none _
      | refine LeO.ite ?_ ?_
      | refine LeO.bind ?_ (fun _ => ?_)
theorem impl_LangInherits.mono : ∀ a0 k, LeO (impl_LangInherits.f k a0) (impl_LangInherits.f (k + 1) a0) := by
  intro a0 k
  have ih0 := impl_LangInherits.mono_l k
  unfold impl_LangInherits.f
  repeat' first
      | (with_reducible exact ih0 _ _ _ _)
      | (with_reducible exact language_Language_SimpleInheritance.mono _ _)
      | (with_reducible exact LeO.refl _)
      | (with_reducible exact LeO.none _)
      | (with_reducible refine LeO.ite ?_ ?_)
      | (with_reducible refine LeO.bind ?_ (fun _ => ?_))
      | exact ih0 _ _ _ _
      | exact language_Language_SimpleInheritance.mono _ _
      | exact LeO.none _
      | refine LeO.ite ?_ ?_
      | refine LeO.bind ?_ (fun _ => ?_)
set_option maxHeartbeats 8000000 in
set_option maxRecDepth 100000 in
theorem impl_LangInherits.calls (k : Nat) (a0 : ByteArray) (r : List ByteArray) (w : World) (h : impl_LangInherits.f k a0 = some r) :
    Calls Try.prog 5 #[.string a0] w fun e w' => ∃ v0_ : Value, e = .returned (v0_) ∧ Kd.R Kd.string 9 w' w.heap.size (fun _ => True) v0_ r ∧ Below w.heap.size w w' := by
  have HB := Aside0.mk (Below.refl w.heap.size w)
  have H : ((language_Language_SimpleInheritance.f k a0).bind fun t131 => (impl_LangInherits.l0 k ([] : List ByteArray) t131 (t131.length : Int) 0)) = some r := h
  clear h
  replace H := Option.bind_eq_some_iff.mp H
  obtain ⟨t131, A20, H⟩ := H
  replace H : (impl_LangInherits.l0 k ([] : List ByteArray) t131 (t131.length : Int) 0) = some r := H
  have A2 := Aside0.mk A20
  clear A20
  have H' := Aside0.mk H
  clear H
  go_enter Try.func5, Try.ntmps5
  go_wp2_with (first | ((with_reducible refine gate_callee (f := 8) rfl ?_); refine goesL_ (some 6) rfl rfl Try.func8 (by kernel_rfl) rfl #[.string a0] rfl (by (try simp only [List.map_toArray, List.map_cons, List.map_nil]); first | done | rfl | (simp only [List.length_drop, List.length_take]; rfl)) ?_; (with_reducible refine (language_Language_SimpleInheritance.calls k a0 t131 _ A2.out).mono ?_); rintro e w3 ⟨v132, rfl, ho0, hb⟩; refine ⟨_, rfl, ?_⟩; have n0_ := Aside0.mk (Kd.R_lower ho0 (below_size (by repeat (first | (with_reducible first | exact HB.out | apply below_alloc | apply pw_below_drewN | apply below_drew1) | exact HB.out)))); have n1_ := Aside0.mk (below_step (by repeat (first | (with_reducible first | exact HB.out | apply below_alloc | apply pw_below_drewN | apply below_drew1) | exact HB.out)) hb); clear HB; have HO133 := n0_; have HB := n1_; clear n0_ n1_; (try clear hb); (try clear hb2); (try clear hk); (try clear hi); (try clear ho0); obtain ⟨Ao4, co4, eo4⟩ := Kd.R_slice HO133.out; subst eo4))
  go_loopg [2, 8] k (fun kq v2 v8 w' => ∃ (x2_1 : List ByteArray) (x8_1 : Int), v8 = .int .i64 x8_1 ∧ Aside0 (impl_LangInherits.l0 kq x2_1 t131 (t131.length : Int) x8_1 = some r) ∧ Aside0 (kq ≤ k) ∧ Aside0 (Kd.R Kd.string 9 w' w.heap.size (fun _ => True) v2 x2_1) ∧ Aside0 (Kd.R Kd.string 27 w' w.heap.size (fun _ => True) (.slice Ao4 t131.length co4) t131) ∧ Aside0 (Below w.heap.size w w'))
  case atStart => exact ⟨(([] : List ByteArray)), (0), (by first | rfl | (simp; done) | (simp [*]; done)), H', ⟨Nat.le_refl _⟩, ⟨by first | exact Kd.R_nil _ _ _ _ _ | exact Kd.N_nil _ _ _ _ _ | exact Kd.V_nil _ _ _ _ _ | exact Kd.Q_nil _ _ _ _ _ | exact Kd.S_nil _ _ _ _ _⟩, ⟨by (with_reducible repeat (first | apply Kd.R_alloc | apply Kd.R_drewN | apply Kd.R_drew)); exact HO133.out⟩, ⟨by repeat (first | (with_reducible first | exact HB.out | apply below_alloc | apply pw_below_drewN | apply below_drew1) | exact HB.out)⟩⟩
  case round =>
    clear H'
    try clear p2
    obtain ⟨x2_1, x8_1, rfl, HA, HK1, HO_2, HO_6, HB⟩ := hrel
    cases gk with
    | zero => exact absurd HA.out (by simp [impl_LangInherits.l0])
    | succ k1 =>
      have H := HA.out
      clear HA
      simp only [impl_LangInherits.l0] at H
      by_cases c5 : x8_1 < (t131.length : Int)
      · rw [if_pos c5] at H
        have c5b0 : decide (x8_1 < (t131.length : Int)) = true := decide_eq_true c5
        clear c5
        by_cases c6 : 0 ≤ x8_1
        · rw [if_pos c6] at H
          have c6b0 : decide (0 ≤ x8_1) = true := decide_eq_true c6
          clear c6
          by_cases c7 : x8_1 < (t131.length : Int)
          · rw [if_pos c7] at H
            have c7b0 : decide (x8_1 < (t131.length : Int)) = true := decide_eq_true c7
            clear c7
            by_cases c8 : x2_1.length < 8796093022208
            · rw [if_pos c8] at H
              have LMc8 := Aside0.mk c8
              clear c8
              obtain ⟨y135, hy135⟩ : ∃ y_ : List ByteArray, y_ = (x2_1 ++ [rdOf ByteArray.empty t131 x8_1]) := ⟨_, rfl⟩
              replace H : (impl_LangInherits.l0 k1 y135 t131 (t131.length : Int) (wrap64 (x8_1 + 1))) = some r := by first | (rw [hy135]; with_reducible exact H) | (have H2_ := (Option.bind_some _ _).symm.trans H; rw [hy135]; with_reducible exact H2_) | (have H2_ := (Option.bind_some _ _).symm.trans H; with_reducible exact H2_) | with_reducible exact H | (rw [hy135]; exact H) | exact H
              have Ny135 := Aside0.mk hy135
              clear hy135
              have H' := Aside0.mk H
              clear H
              have p134 : 0 ≤ (x8_1 : Int) := of_decide_eq_true (by first | (with_reducible assumption) | assumption)
              have q134 : x8_1 < (t131.length : Int) := of_decide_eq_true (by first | (with_reducible assumption) | assumption)
              obtain ⟨ad134, e134, hx134_0⟩ := Kd.at_string (Kd.R_reads' HO_6.out).2.2 x8_1 p134 q134
              cases e134
              replace p134 := eq_true p134
              replace q134 := eq_true q134
              go_wp2_with (first | ((with_reducible refine gate_builtin (b := .append) (xs := #[.tmp 12, .tmp 14]) rfl ?_); at_builtin; refine Kd.R_append Kd.string (w0 := w) w.heap.size rfl (.tmp 12) (.tmp 14) 23 9 (.string ⟨#[]⟩) 16 rfl Try.underlying23 info9 rfl (by decide) (by omega) u2 x2_1 (rdOf ByteArray.empty t131 x8_1) [.string (rdOf ByteArray.empty t131 x8_1)] (fun _ => True) (fun _ => False) rfl rfl ?aP (fun _ hk => hk.elim) ?aF ?aO ?aB ?aS ?aL ?_; (case aP => exact rfl); (case aB => exact (by repeat (first | (with_reducible first | exact HB.out | apply below_alloc | apply pw_below_drewN | apply below_drew1) | exact HB.out))); (case aF => exact (fun _ _ => trivial)); (case aO => exact (by (with_reducible repeat (first | apply Kd.R_alloc | apply Kd.R_drewN | apply Kd.R_drew)); exact HO_2.out)); (case aS => exact (below_size (by repeat (first | (with_reducible first | exact HB.out | apply below_alloc | apply pw_below_drewN | apply below_drew1) | exact HB.out)))); (case aL => have := LMc8.out; omega); intro v136 w9 ho hb hg hat; rw [← Ny135.out] at ho; have n0_ := Aside0.mk (Kd.R_over' (by (with_reducible repeat (first | apply Kd.R_alloc | apply Kd.R_drewN | apply Kd.R_drew)); exact HO_6.out) (Kd.R_typed (by (with_reducible repeat (first | apply Kd.R_alloc | apply Kd.R_drewN | apply Kd.R_drew)); exact HO_2.out)) (by decide) hg); have n1_ := Aside0.mk (hb); have n2_ := Aside0.mk (ho); clear HO_6; clear HB; clear HO_2; have HO_6 := n0_; have HB := n1_; have HO137 := n2_; clear n0_ n1_ n2_; clear ho hb hg hat))
              go_roundg k1
              case measure => have := HK1.out; omega
              case rel => exact ⟨(y135), (wrap64 (x8_1 + 1)), (by first | rfl | (simp; done) | (simp [*]; done)), H', ⟨by have := HK1.out; omega⟩, ⟨by (with_reducible repeat (first | apply Kd.R_alloc | apply Kd.R_drewN | apply Kd.R_drew)); exact HO137.out⟩, ⟨by (with_reducible repeat (first | apply Kd.R_alloc | apply Kd.R_drewN | apply Kd.R_drew)); exact HO_6.out⟩, ⟨by repeat (first | (with_reducible first | exact HB.out | apply below_alloc | apply pw_below_drewN | apply below_drew1) | exact HB.out)⟩⟩
            · rw [if_neg c8] at H
              exact absurd H (by simp)
          · rw [if_neg c7] at H
            exact absurd H (by simp)
        · rw [if_neg c6] at H
          exact absurd H (by simp)
      · rw [if_neg c5] at H
        have c5b0 : decide (x8_1 < (t131.length : Int)) = false := decide_eq_false c5
        clear c5
        obtain rfl := Option.some.inj H
        go_wp2
        go_ret
        exact ⟨_, by first | rfl | (simp [errW_none, errW_some] <;> rfl) | (simp [*, errW_none, errW_some] <;> rfl), by (with_reducible repeat (first | apply Kd.R_alloc | apply Kd.R_drewN | apply Kd.R_drew)); exact HO_2.out, by repeat (first | (with_reducible first | exact HB.out | apply below_alloc | apply pw_below_drewN | apply below_drew1) | exact HB.out)⟩

/-! ### spec_LangInherits: function 6 -/
def spec_LangInherits.l0 : Nat → ByteArray → List ByteArray → Int → Option (List ByteArray)
  | 0, _, _, _ => none
  | k + 1, x0, x3, x4 => if x4 ≥ 0 then (if 0 ≤ x4 then (if x4 < (x0.size : Int) then (if (bt x0 x4) = 45 then (if x4 ≤ (x0.size : Int) then (if x3.length < 8796093022208 then (spec_LangInherits.l0 k x0 (x3 ++ [x0.extract 0 (x4 : Int).toNat]) (wrap64 (x4 - 1))) else (none)) else (none)) else (spec_LangInherits.l0 k x0 x3 (wrap64 (x4 - 1)))) else (none)) else (none)) else (some x3)
def spec_LangInherits.f (k : Nat) (a0 : ByteArray) : Option (List ByteArray) := spec_LangInherits.l0 k a0 (([a0] : List ByteArray)) (wrap64 ((a0.size : Int) - 1))
theorem spec_LangInherits.mono_l : ∀ k, (∀ y0 y1 y2, LeO (spec_LangInherits.l0 k y0 y1 y2) (spec_LangInherits.l0 (k + 1) y0 y1 y2))
  | 0 => fun _ _ _ r h => by simp [spec_LangInherits.l0] at h
  | k + 1 => by
    have ih0 := spec_LangInherits.mono_l k
    · intro y0 y1 y2
      unfold spec_LangInherits.l0
      repeat' first
      | (with_reducible exact ih0 _ _ _)
      | (with_reducible exact LeO.refl _)
      | (with_reducible exact LeO.none _)
      | (with_reducible refine LeO.ite ?_ ?_)
      | (with_reducible refine LeO.bind ?_ (fun _ => ?_))
      | exact ih0 _ _ _
      | exact LeO.none _
      | refine LeO.ite ?_ ?_
      | refine LeO.bind ?_ (fun _ => ?_)
theorem spec_LangInherits.mono : ∀ a0 k, LeO (spec_LangInherits.f k a0) (spec_LangInherits.f (k + 1) a0) := by
  intro a0 k
  have ih0 := spec_LangInherits.mono_l k
  unfold spec_LangInherits.f
  repeat' first
      | (with_reducible exact ih0 _ _ _)
      | (with_reducible exact LeO.refl _)
      | (with_reducible exact LeO.none _)
      | (with_reducible refine LeO.ite ?_ ?_)
      | (with_reducible refine LeO.bind ?_ (fun _ => ?_))
      | exact ih0 _ _ _
      | exact LeO.none _
      | refine LeO.ite ?_ ?_
      | refine LeO.bind ?_ (fun _ => ?_)
set_option maxHeartbeats 8000000 in
set_option maxRecDepth 100000 in
theorem spec_LangInherits.calls (k : Nat) (a0 : ByteArray) (r : List ByteArray) (w : World) (h : spec_LangInherits.f k a0 = some r) :
    Calls Try.prog 6 #[.string a0] w fun e w' => ∃ v0_ : Value, e = .returned (v0_) ∧ Kd.R Kd.string 9 w' w.heap.size (fun _ => True) v0_ r ∧ Below w.heap.size w w' := by
  have HB := Aside0.mk (Below.refl w.heap.size w)
  have H : (spec_LangInherits.l0 k a0 (([a0] : List ByteArray)) (wrap64 ((a0.size : Int) - 1))) = some r := h
  clear h
  obtain ⟨y138, hy138⟩ : ∃ y_ : List ByteArray, y_ = (([a0] : List ByteArray)) := ⟨_, rfl⟩
  replace H : (spec_LangInherits.l0 k a0 y138 (wrap64 ((a0.size : Int) - 1))) = some r := by first | (rw [hy138]; with_reducible exact H) | (have H2_ := (Option.bind_some _ _).symm.trans H; rw [hy138]; with_reducible exact H2_) | (have H2_ := (Option.bind_some _ _).symm.trans H; with_reducible exact H2_) | with_reducible exact H | (rw [hy138]; exact H) | exact H
  have Ny138 := Aside0.mk hy138
  clear hy138
  have H' := Aside0.mk H
  clear H
  go_enter Try.func6, Try.ntmps6
  go_wp2_with (first | ((with_reducible refine gate_dst (N := 6) rfl ?_); refine Kd.R_lit Kd.string _ 9 ?hg (N := 6) ?hd (xs := ([a0] : List ByteArray)) (inner := [.string a0]) (ok := fun _ => True) (okp := fun _ => True) ?hr ?hp (fun _ hk => hk) trivial (Below.refl _ _) (Nat.le_refl _) (by simp) ?_; (case hd => rfl); (case hg => rfl); (case hr => first | (go_simp; done) | (go_simp; rfl)); (case hp => exact (Reps.one (show Kd.M Kd.string _ _ _ a0 [.string a0] from rfl) (Reps.none _ _))); intro v139 w2 ho3 hb hg_ hnew_; clear hg_ hnew_; (first | rw [← Ny138.out] at ho3 | (simp only [Int.reduceToNat] at ho3; rw [← Ny138.out] at ho3)); have n0_ := Aside0.mk (Kd.R_lower ho3 (below_size (by repeat (first | (with_reducible first | exact HB.out | apply below_alloc | apply pw_below_drewN | apply below_drew1) | exact HB.out)))); have n1_ := Aside0.mk (below_step (by repeat (first | (with_reducible first | exact HB.out | apply below_alloc | apply pw_below_drewN | apply below_drew1) | exact HB.out)) hb); clear HB; have HO140 := n0_; have HB := n1_; clear n0_ n1_; clear hb ho3))
  go_loopg [3, 4] k (fun kq v3 v4 w' => ∃ (x3_1 : List ByteArray) (x4_1 : Int), v4 = .int .i64 x4_1 ∧ Aside0 (spec_LangInherits.l0 kq a0 x3_1 x4_1 = some r) ∧ Aside0 (kq ≤ k) ∧ Aside0 (Kd.R Kd.string 9 w' w.heap.size (fun _ => True) v3 x3_1) ∧ Aside0 (Below w.heap.size w w'))
  case atStart => exact ⟨(y138), (wrap64 ((a0.size : Int) - 1)), (by first | rfl | (simp; done) | (simp [*]; done)), H', ⟨Nat.le_refl _⟩, ⟨by (with_reducible repeat (first | apply Kd.R_alloc | apply Kd.R_drewN | apply Kd.R_drew)); exact HO140.out⟩, ⟨by repeat (first | (with_reducible first | exact HB.out | apply below_alloc | apply pw_below_drewN | apply below_drew1) | exact HB.out)⟩⟩
  case round =>
    clear H'
    try clear p2
    obtain ⟨x3_1, x4_1, rfl, HA, HK1, HO_3, HB⟩ := hrel
    cases gk with
    | zero => exact absurd HA.out (by simp [spec_LangInherits.l0])
    | succ k1 =>
      have H := HA.out
      clear HA
      simp only [spec_LangInherits.l0] at H
      by_cases c4 : x4_1 ≥ 0
      · rw [if_pos c4] at H
        have c4b0 : decide (0 ≤ x4_1) = true := decide_eq_true c4
        clear c4
        by_cases c5 : 0 ≤ x4_1
        · rw [if_pos c5] at H
          have c5b0 : decide (0 ≤ x4_1) = true := decide_eq_true c5
          clear c5
          by_cases c6 : x4_1 < (a0.size : Int)
          · rw [if_pos c6] at H
            have c6b0 : decide (x4_1 < (a0.size : Int)) = true := decide_eq_true c6
            clear c6
            by_cases c8 : (bt a0 x4_1) = 45
            · rw [if_pos c8] at H
              have c8b0 : ((bt a0 x4_1) == 45) = true := beq_iff_eq.mpr c8
              have c8b1 : ((bt a0 x4_1) != 45) = false := bne_eq_false_iff_eq.mpr c8
              clear c8
              have c9b0 := eq_true (of_decide_eq_true (by first | (with_reducible assumption) | assumption) : 0 ≤ x4_1)
              by_cases c10 : x4_1 ≤ (a0.size : Int)
              · rw [if_pos c10] at H
                have c10b0 := eq_true c10
                have c10b1 : decide (x4_1 ≤ (a0.size : Int)) = true := decide_eq_true c10
                clear c10
                by_cases c11 : x3_1.length < 8796093022208
                · rw [if_pos c11] at H
                  have LMc11 := Aside0.mk c11
                  clear c11
                  obtain ⟨y141, hy141⟩ : ∃ y_ : List ByteArray, y_ = (x3_1 ++ [a0.extract 0 (x4_1 : Int).toNat]) := ⟨_, rfl⟩
                  replace H : (spec_LangInherits.l0 k1 a0 y141 (wrap64 (x4_1 - 1))) = some r := by first | (rw [hy141]; with_reducible exact H) | (have H2_ := (Option.bind_some _ _).symm.trans H; rw [hy141]; with_reducible exact H2_) | (have H2_ := (Option.bind_some _ _).symm.trans H; with_reducible exact H2_) | with_reducible exact H | (rw [hy141]; exact H) | exact H
                  have Ny141 := Aside0.mk hy141
                  clear hy141
                  have H' := Aside0.mk H
                  clear H
                  have p7 : 0 ≤ (x4_1 : Int) := of_decide_eq_true (by first | (with_reducible assumption) | assumption)
                  have q7 : x4_1 < (a0.size : Int) := of_decide_eq_true (by first | (with_reducible assumption) | assumption)
                  have hx7 := bt_at a0 x4_1
                  replace p7 := eq_true p7
                  replace q7 := eq_true q7
                  go_wp2_with (first | ((with_reducible refine gate_builtin (b := .append) (xs := #[.tmp 18, .tmp 22]) rfl ?_); at_builtin; refine Kd.R_append Kd.string (w0 := w) w.heap.size rfl (.tmp 18) (.tmp 22) 23 9 (.string ⟨#[]⟩) 16 rfl Try.underlying23 info9 rfl (by decide) (by omega) u3 x3_1 (a0.extract 0 (x4_1 : Int).toNat) [.string (a0.extract 0 (x4_1 : Int).toNat)] (fun _ => True) (fun _ => False) rfl rfl ?aP (fun _ hk => hk.elim) ?aF ?aO ?aB ?aS ?aL ?_; (case aP => exact rfl); (case aB => exact (by repeat (first | (with_reducible first | exact HB.out | apply below_alloc | apply pw_below_drewN | apply below_drew1) | exact HB.out))); (case aF => exact (fun _ _ => trivial)); (case aO => exact (by (with_reducible repeat (first | apply Kd.R_alloc | apply Kd.R_drewN | apply Kd.R_drew)); exact HO_3.out)); (case aS => exact (below_size (by repeat (first | (with_reducible first | exact HB.out | apply below_alloc | apply pw_below_drewN | apply below_drew1) | exact HB.out)))); (case aL => have := LMc11.out; omega); intro v142 w12 ho hb hg hat; rw [← Ny141.out] at ho; have n0_ := Aside0.mk (hb); have n1_ := Aside0.mk (ho); clear HB; clear HO_3; have HB := n0_; have HO143 := n1_; clear n0_ n1_; clear ho hb hg hat))
                  go_roundg k1
                  case measure => have := HK1.out; omega
                  case rel => exact ⟨(y141), (wrap64 (x4_1 - 1)), (by first | rfl | (simp; done) | (simp [*]; done)), H', ⟨by have := HK1.out; omega⟩, ⟨by (with_reducible repeat (first | apply Kd.R_alloc | apply Kd.R_drewN | apply Kd.R_drew)); exact HO143.out⟩, ⟨by repeat (first | (with_reducible first | exact HB.out | apply below_alloc | apply pw_below_drewN | apply below_drew1) | exact HB.out)⟩⟩
                · rw [if_neg c11] at H
                  exact absurd H (by simp)
              · rw [if_neg c10] at H
                exact absurd H (by simp)
            · rw [if_neg c8] at H
              have c8b0 : ((bt a0 x4_1) == 45) = false := beq_eq_false_iff_ne.mpr c8
              have c8b1 : ((bt a0 x4_1) != 45) = true := bne_iff_ne.mpr c8
              have H' := Aside0.mk H
              clear H
              have p7 : 0 ≤ (x4_1 : Int) := of_decide_eq_true (by first | (with_reducible assumption) | assumption)
              have q7 : x4_1 < (a0.size : Int) := of_decide_eq_true (by first | (with_reducible assumption) | assumption)
              have hx7 := bt_at a0 x4_1
              replace p7 := eq_true p7
              replace q7 := eq_true q7
              go_wp2
              go_roundg k1
              case measure => have := HK1.out; omega
              case rel => exact ⟨(x3_1), (wrap64 (x4_1 - 1)), (by first | rfl | (simp; done) | (simp [*]; done)), H', ⟨by have := HK1.out; omega⟩, ⟨by (with_reducible repeat (first | apply Kd.R_alloc | apply Kd.R_drewN | apply Kd.R_drew)); exact HO_3.out⟩, ⟨by repeat (first | (with_reducible first | exact HB.out | apply below_alloc | apply pw_below_drewN | apply below_drew1) | exact HB.out)⟩⟩
          · rw [if_neg c6] at H
            exact absurd H (by simp)
        · rw [if_neg c5] at H
          exact absurd H (by simp)
      · rw [if_neg c4] at H
        have c4b0 : decide (0 ≤ x4_1) = false := decide_eq_false c4
        clear c4
        obtain rfl := Option.some.inj H
        go_wp2
        go_ret
        exact ⟨_, by first | rfl | (simp [errW_none, errW_some] <;> rfl) | (simp [*, errW_none, errW_some] <;> rfl), by (with_reducible repeat (first | apply Kd.R_alloc | apply Kd.R_drewN | apply Kd.R_drew)); exact HO_3.out, by repeat (first | (with_reducible first | exact HB.out | apply below_alloc | apply pw_below_drewN | apply below_drew1) | exact HB.out)⟩

/-! ### laws_FnLangInherits: function 3 -/
def laws_FnLangInherits.l0 : Nat → List ByteArray → List ByteArray → Int → Int → Option (Bool)
  | 0, _, _, _, _ => none
  | k + 1, x4, x22, x23, x24 => if x24 < x23 then (if 0 ≤ x24 then (if x24 < (x22.length : Int) then (if x24 < (x4.length : Int) then (if (rdOf ByteArray.empty x4 x24).toList = (rdOf ByteArray.empty x22 x24).toList then (laws_FnLangInherits.l0 k x4 x22 x23 (wrap64 (x24 + 1))) else (some false)) else (none)) else (none)) else (none)) else (some true)
def laws_FnLangInherits.f (k : Nat) (a0 : ByteArray) : Option (Bool) := if (a0.size : Int) > 2147483647 then (some true) else ((laws_tag.f k a0).bind fun t144 => ((impl_LangInherits.f k t144).bind fun t145 => ((spec_LangInherits.f k t144).bind fun t148 => (if (t145.length : Int) = (t148.length : Int) then (laws_FnLangInherits.l0 k t145 t148 (t148.length : Int) 0) else (some false)))))
theorem laws_FnLangInherits.mono_l : ∀ k, (∀ y0 y1 y2 y3, LeO (laws_FnLangInherits.l0 k y0 y1 y2 y3) (laws_FnLangInherits.l0 (k + 1) y0 y1 y2 y3))
  | 0 => fun _ _ _ _ r h => by simp [laws_FnLangInherits.l0] at h
  | k + 1 => by
    have ih0 := laws_FnLangInherits.mono_l k
    · intro y0 y1 y2 y3
      unfold laws_FnLangInherits.l0
      repeat' first
      | (with_reducible exact ih0 _ _ _ _)
      | (with_reducible exact impl_LangInherits.mono _ _)
      | (with_reducible exact laws_tag.mono _ _)
      | (with_reducible exact spec_LangInherits.mono _ _)
      | (with_reducible exact LeO.refl _)
      | (with_reducible exact LeO.none _)
      | (with_reducible refine LeO.ite ?_ ?_)
      | (with_reducible refine LeO.bind ?_ (fun _ => ?_))
      | exact ih0 _ _ _ _
      | exact impl_LangInherits.mono _ _
      | exact laws_tag.mono _ _
      | exact spec_LangInherits.mono _ _
      | exact LeO.none _
      | refine LeO.ite ?_ ?_
      | refine LeO.bind ?_ (fun _ => ?_)
theorem laws_FnLangInherits.mono : ∀ a0 k, LeO (laws_FnLangInherits.f k a0) (laws_FnLangInherits.f (k + 1) a0) := by
  intro a0 k
  have ih0 := laws_FnLangInherits.mono_l k
  unfold laws_FnLangInherits.f
  repeat' first
      | (with_reducible exact ih0 _ _ _ _)
      | (with_reducible exact impl_LangInherits.mono _ _)
      | (with_reducible exact laws_tag.mono _ _)
      | (with_reducible exact spec_LangInherits.mono _ _)
      | (with_reducible exact LeO.refl _)
      | (with_reducible exact LeO.none _)
      | (with_reducible refine LeO.ite ?_ ?_)
      | (with_reducible refine LeO.bind ?_ (fun _ => ?_))
      | exact ih0 _ _ _ _
      | exact impl_LangInherits.mono _ _
      | exact laws_tag.mono _ _
      | exact spec_LangInherits.mono _ _
      | exact LeO.none _
      | refine LeO.ite ?_ ?_
      | refine LeO.bind ?_ (fun _ => ?_)
set_option maxHeartbeats 8000000 in
set_option maxRecDepth 100000 in
theorem laws_FnLangInherits.calls (k : Nat) (a0 : ByteArray) (r : Bool) (w : World) (h : laws_FnLangInherits.f k a0 = some r) :
    Calls Try.prog 3 #[.string a0] w fun e w' => e = .returned (.bool r) ∧ Below w.heap.size w w' := by
  have HB := Aside0.mk (Below.refl w.heap.size w)
  have H : (if (a0.size : Int) > 2147483647 then (some true) else ((laws_tag.f k a0).bind fun t144 => ((impl_LangInherits.f k t144).bind fun t145 => ((spec_LangInherits.f k t144).bind fun t148 => (if (t145.length : Int) = (t148.length : Int) then (laws_FnLangInherits.l0 k t145 t148 (t148.length : Int) 0) else (some false)))))) = some r := h
  clear h
  by_cases c2 : (a0.size : Int) > 2147483647
  · rw [if_pos c2] at H
    have c2b0 : decide (2147483647 < (a0.size : Int)) = true := decide_eq_true c2
    have c2b1 : decide (2147483647 < a0.size) = true := decide_eq_true (by omega)
    clear c2
    obtain rfl := Option.some.inj H
    go_enter Try.func3, Try.ntmps3
    go_wp2
    go_ret
    exact ⟨by first | rfl | (simp [errW_none, errW_some] <;> rfl) | (simp [*, errW_none, errW_some] <;> rfl), by repeat (first | (with_reducible first | exact HB.out | apply below_alloc | apply pw_below_drewN | apply below_drew1) | exact HB.out)⟩
  · rw [if_neg c2] at H
    have c2b0 : decide (2147483647 < (a0.size : Int)) = false := decide_eq_false c2
    have c2b1 : decide (2147483647 < a0.size) = false := decide_eq_false (by omega)
    clear c2
    replace H := Option.bind_eq_some_iff.mp H
    obtain ⟨t144, A30, H⟩ := H
    replace H : ((impl_LangInherits.f k t144).bind fun t145 => ((spec_LangInherits.f k t144).bind fun t148 => (if (t145.length : Int) = (t148.length : Int) then (laws_FnLangInherits.l0 k t145 t148 (t148.length : Int) 0) else (some false)))) = some r := H
    have A3 := Aside0.mk A30
    clear A30
    replace H := Option.bind_eq_some_iff.mp H
    obtain ⟨t145, A40, H⟩ := H
    replace H : ((spec_LangInherits.f k t144).bind fun t148 => (if (t145.length : Int) = (t148.length : Int) then (laws_FnLangInherits.l0 k t145 t148 (t148.length : Int) 0) else (some false))) = some r := H
    have A4 := Aside0.mk A40
    clear A40
    replace H := Option.bind_eq_some_iff.mp H
    obtain ⟨t148, A50, H⟩ := H
    replace H : (if (t145.length : Int) = (t148.length : Int) then (laws_FnLangInherits.l0 k t145 t148 (t148.length : Int) 0) else (some false)) = some r := H
    have A5 := Aside0.mk A50
    clear A50
    by_cases c6 : (t145.length : Int) = (t148.length : Int)
    · rw [if_pos c6] at H
      have c6b0 : ((t145.length : Int) == (t148.length : Int)) = true := beq_iff_eq.mpr c6
      have c6b1 : ((t145.length : Int) != (t148.length : Int)) = false := bne_eq_false_iff_eq.mpr c6
      have c6b2 : (t145.length == t148.length) = true := by first | simpa using c6 | (simp at c6 ⊢; omega)
      clear c6
      have H' := Aside0.mk H
      clear H
      go_enter Try.func3, Try.ntmps3
      go_wp2_with (first | ((with_reducible refine gate_callee (f := 4) rfl ?_); refine goesL_ (some 12) rfl rfl Try.func4 (by kernel_rfl) rfl #[.string a0] rfl (by (try simp only [List.map_toArray, List.map_cons, List.map_nil]); first | done | rfl | (simp only [List.length_drop, List.length_take]; rfl)) ?_; (with_reducible refine (laws_tag.calls k a0 t144 _ A3.out).mono ?_); rintro e w7 ⟨rfl, hb⟩; refine ⟨_, rfl, ?_⟩; have n0_ := Aside0.mk (below_step (by repeat (first | (with_reducible first | exact HB.out | apply below_alloc | apply pw_below_drewN | apply below_drew1) | exact HB.out)) hb); clear HB; have HB := n0_; clear n0_; (try clear hb); (try clear hb2); (try clear hk); (try clear hi)) | ((with_reducible refine gate_callee (f := 5) rfl ?_); refine goesL_ (some 14) rfl rfl Try.func5 (by kernel_rfl) rfl #[.string t144] rfl (by (try simp only [List.map_toArray, List.map_cons, List.map_nil]); first | done | rfl | (simp only [List.length_drop, List.length_take]; rfl)) ?_; (with_reducible refine (impl_LangInherits.calls k t144 t145 _ A4.out).mono ?_); rintro e w8 ⟨v146, rfl, ho0, hb⟩; refine ⟨_, rfl, ?_⟩; have n0_ := Aside0.mk (Kd.R_lower ho0 (below_size (by repeat (first | (with_reducible first | exact HB.out | apply below_alloc | apply pw_below_drewN | apply below_drew1) | exact HB.out)))); have n1_ := Aside0.mk (below_step (by repeat (first | (with_reducible first | exact HB.out | apply below_alloc | apply pw_below_drewN | apply below_drew1) | exact HB.out)) hb); clear HB; have HO147 := n0_; have HB := n1_; clear n0_ n1_; (try clear hb); (try clear hb2); (try clear hk); (try clear hi); (try clear ho0)) | ((with_reducible refine gate_callee (f := 6) rfl ?_); refine goesL_ (some 16) rfl rfl Try.func6 (by kernel_rfl) rfl #[.string t144] rfl (by (try simp only [List.map_toArray, List.map_cons, List.map_nil]); first | done | rfl | (simp only [List.length_drop, List.length_take]; rfl)) ?_; (with_reducible refine (spec_LangInherits.calls k t144 t148 _ A5.out).mono ?_); rintro e w9 ⟨v149, rfl, ho0, hb⟩; refine ⟨_, rfl, ?_⟩; have n0_ := Aside0.mk (Kd.R_elder' (by (with_reducible repeat (first | apply Kd.R_alloc | apply Kd.R_drewN | apply Kd.R_drew)); exact HO147.out) (Kd.R_base ho0) hb); have n1_ := Aside0.mk (Kd.R_lower (Kd.R_new' ho0 (Kd.R_lt (by (with_reducible repeat (first | apply Kd.R_alloc | apply Kd.R_drewN | apply Kd.R_drew)); exact HO147.out))) (below_size (by repeat (first | (with_reducible first | exact HB.out | apply below_alloc | apply pw_below_drewN | apply below_drew1) | exact HB.out)))); have n2_ := Aside0.mk (below_step (by repeat (first | (with_reducible first | exact HB.out | apply below_alloc | apply pw_below_drewN | apply below_drew1) | exact HB.out)) hb); clear HO147; clear HB; have HO147 := n0_; have HO150 := n1_; have HB := n2_; clear n0_ n1_ n2_; (try clear hb); (try clear hb2); (try clear hk); (try clear hi); (try clear ho0); obtain ⟨Ao10, co10, eo10⟩ := Kd.R_slice HO147.out; subst eo10; obtain ⟨Ao11, co11, eo11⟩ := Kd.R_slice HO150.out; subst eo11))
      go_loopg [24] k (fun kq v24 w' => ∃ (x24_1 : Int), v24 = .int .i64 x24_1 ∧ Aside0 (laws_FnLangInherits.l0 kq t145 t148 (t148.length : Int) x24_1 = some r) ∧ Aside0 (kq ≤ k) ∧ Aside0 (Kd.R Kd.string 9 w' w.heap.size (fun k_ => some k_ ≠ ((.slice Ao11 t148.length co11) : Value).ownBlock) (.slice Ao10 t145.length co10) t145) ∧ Aside0 (Kd.R Kd.string 9 w' w.heap.size (fun k_ => some k_ ≠ ((.slice Ao10 t145.length co10) : Value).ownBlock) (.slice Ao11 t148.length co11) t148) ∧ Aside0 (Below w.heap.size w w'))
      case atStart => exact ⟨(0), (by first | rfl | (simp; done) | (simp [*]; done)), H', ⟨Nat.le_refl _⟩, ⟨by (with_reducible repeat (first | apply Kd.R_alloc | apply Kd.R_drewN | apply Kd.R_drew)); exact Kd.R_mono HO147.out (fun _ hk => hk.2)⟩, ⟨by (with_reducible repeat (first | apply Kd.R_alloc | apply Kd.R_drewN | apply Kd.R_drew)); exact Kd.R_mono HO150.out (fun _ hk => hk.2)⟩, ⟨by repeat (first | (with_reducible first | exact HB.out | apply below_alloc | apply pw_below_drewN | apply below_drew1) | exact HB.out)⟩⟩
      case round =>
        clear H'
        try clear c2
        try clear c2b0
        try clear c2b1
        try clear p2
        try clear c3
        try clear c4
        try clear c5
        try clear c6
        try clear c6b0
        try clear c6b1
        try clear c6b2
        obtain ⟨x24_1, rfl, HA, HK1, HO_4, HO_22, HB⟩ := hrel
        cases gk with
        | zero => exact absurd HA.out (by simp [laws_FnLangInherits.l0])
        | succ k1 =>
          have H := HA.out
          clear HA
          simp only [laws_FnLangInherits.l0] at H
          by_cases c12 : x24_1 < (t148.length : Int)
          · rw [if_pos c12] at H
            have c12b0 : decide (x24_1 < (t148.length : Int)) = true := decide_eq_true c12
            clear c12
            by_cases c13 : 0 ≤ x24_1
            · rw [if_pos c13] at H
              have c13b0 : decide (0 ≤ x24_1) = true := decide_eq_true c13
              clear c13
              by_cases c14 : x24_1 < (t148.length : Int)
              · rw [if_pos c14] at H
                have c14b0 : decide (x24_1 < (t148.length : Int)) = true := decide_eq_true c14
                clear c14
                by_cases c15 : x24_1 < (t145.length : Int)
                · rw [if_pos c15] at H
                  have c15b0 : decide (x24_1 < (t145.length : Int)) = true := decide_eq_true c15
                  clear c15
                  by_cases c16 : (rdOf ByteArray.empty t145 x24_1).toList = (rdOf ByteArray.empty t148 x24_1).toList
                  · rw [if_pos c16] at H
                    have c16b0 : ((rdOf ByteArray.empty t145 x24_1).toList == (rdOf ByteArray.empty t148 x24_1).toList) = true := beq_iff_eq.mpr c16
                    have c16b1 : ((rdOf ByteArray.empty t145 x24_1).toList != (rdOf ByteArray.empty t148 x24_1).toList) = false := bne_eq_false_iff_eq.mpr c16
                    clear c16
                    have H' := Aside0.mk H
                    clear H
                    have p151 : 0 ≤ (x24_1 : Int) := of_decide_eq_true (by first | (with_reducible assumption) | assumption)
                    have q151 : x24_1 < (t148.length : Int) := of_decide_eq_true (by first | (with_reducible assumption) | assumption)
                    obtain ⟨ad151, e151, hx151_0⟩ := Kd.at_string (Kd.R_reads' HO_22.out).2.2 x24_1 p151 q151
                    cases e151
                    replace p151 := eq_true p151
                    replace q151 := eq_true q151
                    have p152 : 0 ≤ (x24_1 : Int) := of_decide_eq_true (by first | (with_reducible assumption) | assumption)
                    have q152 : x24_1 < (t145.length : Int) := of_decide_eq_true (by first | (with_reducible assumption) | assumption)
                    obtain ⟨ad152, e152, hx152_0⟩ := Kd.at_string (Kd.R_reads' HO_4.out).2.2 x24_1 p152 q152
                    cases e152
                    replace p152 := eq_true p152
                    replace q152 := eq_true q152
                    go_wp2
                    go_roundg k1
                    case measure => have := HK1.out; omega
                    case rel => exact ⟨(wrap64 (x24_1 + 1)), (by first | rfl | (simp; done) | (simp [*]; done)), H', ⟨by have := HK1.out; omega⟩, ⟨by (with_reducible repeat (first | apply Kd.R_alloc | apply Kd.R_drewN | apply Kd.R_drew)); exact HO_4.out⟩, ⟨by (with_reducible repeat (first | apply Kd.R_alloc | apply Kd.R_drewN | apply Kd.R_drew)); exact HO_22.out⟩, ⟨by repeat (first | (with_reducible first | exact HB.out | apply below_alloc | apply pw_below_drewN | apply below_drew1) | exact HB.out)⟩⟩
                  · rw [if_neg c16] at H
                    have c16b0 : ((rdOf ByteArray.empty t145 x24_1).toList == (rdOf ByteArray.empty t148 x24_1).toList) = false := beq_eq_false_iff_ne.mpr c16
                    have c16b1 : ((rdOf ByteArray.empty t145 x24_1).toList != (rdOf ByteArray.empty t148 x24_1).toList) = true := bne_iff_ne.mpr c16
                    obtain rfl := Option.some.inj H
                    have p151 : 0 ≤ (x24_1 : Int) := of_decide_eq_true (by first | (with_reducible assumption) | assumption)
                    have q151 : x24_1 < (t148.length : Int) := of_decide_eq_true (by first | (with_reducible assumption) | assumption)
                    obtain ⟨ad151, e151, hx151_0⟩ := Kd.at_string (Kd.R_reads' HO_22.out).2.2 x24_1 p151 q151
                    cases e151
                    replace p151 := eq_true p151
                    replace q151 := eq_true q151
                    have p152 : 0 ≤ (x24_1 : Int) := of_decide_eq_true (by first | (with_reducible assumption) | assumption)
                    have q152 : x24_1 < (t145.length : Int) := of_decide_eq_true (by first | (with_reducible assumption) | assumption)
                    obtain ⟨ad152, e152, hx152_0⟩ := Kd.at_string (Kd.R_reads' HO_4.out).2.2 x24_1 p152 q152
                    cases e152
                    replace p152 := eq_true p152
                    replace q152 := eq_true q152
                    go_wp2
                    go_ret
                    exact ⟨by first | rfl | (simp [errW_none, errW_some] <;> rfl) | (simp [*, errW_none, errW_some] <;> rfl), by repeat (first | (with_reducible first | exact HB.out | apply below_alloc | apply pw_below_drewN | apply below_drew1) | exact HB.out)⟩
                · rw [if_neg c15] at H
                  exact absurd H (by simp)
              · rw [if_neg c14] at H
                exact absurd H (by simp)
            · rw [if_neg c13] at H
              exact absurd H (by simp)
          · rw [if_neg c12] at H
            have c12b0 : decide (x24_1 < (t148.length : Int)) = false := decide_eq_false c12
            clear c12
            obtain rfl := Option.some.inj H
            go_wp2
            go_ret
            exact ⟨by first | rfl | (simp [errW_none, errW_some] <;> rfl) | (simp [*, errW_none, errW_some] <;> rfl), by repeat (first | (with_reducible first | exact HB.out | apply below_alloc | apply pw_below_drewN | apply below_drew1) | exact HB.out)⟩
    · rw [if_neg c6] at H
      have c6b0 : ((t145.length : Int) == (t148.length : Int)) = false := beq_eq_false_iff_ne.mpr c6
      have c6b1 : ((t145.length : Int) != (t148.length : Int)) = true := bne_iff_ne.mpr c6
      have c6b2 : (t145.length == t148.length) = false := by first | simpa using c6 | (simp at c6 ⊢; omega)
      obtain rfl := Option.some.inj H
      go_enter Try.func3, Try.ntmps3
      go_wp2_with (first | ((with_reducible refine gate_callee (f := 4) rfl ?_); refine goesL_ (some 12) rfl rfl Try.func4 (by kernel_rfl) rfl #[.string a0] rfl (by (try simp only [List.map_toArray, List.map_cons, List.map_nil]); first | done | rfl | (simp only [List.length_drop, List.length_take]; rfl)) ?_; (with_reducible refine (laws_tag.calls k a0 t144 _ A3.out).mono ?_); rintro e w17 ⟨rfl, hb⟩; refine ⟨_, rfl, ?_⟩; have n0_ := Aside0.mk (below_step (by repeat (first | (with_reducible first | exact HB.out | apply below_alloc | apply pw_below_drewN | apply below_drew1) | exact HB.out)) hb); clear HB; have HB := n0_; clear n0_; (try clear hb); (try clear hb2); (try clear hk); (try clear hi)) | ((with_reducible refine gate_callee (f := 5) rfl ?_); refine goesL_ (some 14) rfl rfl Try.func5 (by kernel_rfl) rfl #[.string t144] rfl (by (try simp only [List.map_toArray, List.map_cons, List.map_nil]); first | done | rfl | (simp only [List.length_drop, List.length_take]; rfl)) ?_; (with_reducible refine (impl_LangInherits.calls k t144 t145 _ A4.out).mono ?_); rintro e w18 ⟨v146, rfl, ho0, hb⟩; refine ⟨_, rfl, ?_⟩; have n0_ := Aside0.mk (Kd.R_lower ho0 (below_size (by repeat (first | (with_reducible first | exact HB.out | apply below_alloc | apply pw_below_drewN | apply below_drew1) | exact HB.out)))); have n1_ := Aside0.mk (below_step (by repeat (first | (with_reducible first | exact HB.out | apply below_alloc | apply pw_below_drewN | apply below_drew1) | exact HB.out)) hb); clear HB; have HO147 := n0_; have HB := n1_; clear n0_ n1_; (try clear hb); (try clear hb2); (try clear hk); (try clear hi); (try clear ho0)) | ((with_reducible refine gate_callee (f := 6) rfl ?_); refine goesL_ (some 16) rfl rfl Try.func6 (by kernel_rfl) rfl #[.string t144] rfl (by (try simp only [List.map_toArray, List.map_cons, List.map_nil]); first | done | rfl | (simp only [List.length_drop, List.length_take]; rfl)) ?_; (with_reducible refine (spec_LangInherits.calls k t144 t148 _ A5.out).mono ?_); rintro e w19 ⟨v149, rfl, ho0, hb⟩; refine ⟨_, rfl, ?_⟩; have n0_ := Aside0.mk (Kd.R_elder' (by (with_reducible repeat (first | apply Kd.R_alloc | apply Kd.R_drewN | apply Kd.R_drew)); exact HO147.out) (Kd.R_base ho0) hb); have n1_ := Aside0.mk (Kd.R_lower (Kd.R_new' ho0 (Kd.R_lt (by (with_reducible repeat (first | apply Kd.R_alloc | apply Kd.R_drewN | apply Kd.R_drew)); exact HO147.out))) (below_size (by repeat (first | (with_reducible first | exact HB.out | apply below_alloc | apply pw_below_drewN | apply below_drew1) | exact HB.out)))); have n2_ := Aside0.mk (below_step (by repeat (first | (with_reducible first | exact HB.out | apply below_alloc | apply pw_below_drewN | apply below_drew1) | exact HB.out)) hb); clear HO147; clear HB; have HO147 := n0_; have HO150 := n1_; have HB := n2_; clear n0_ n1_ n2_; (try clear hb); (try clear hb2); (try clear hk); (try clear hi); (try clear ho0); obtain ⟨Ao20, co20, eo20⟩ := Kd.R_slice HO147.out; subst eo20; obtain ⟨Ao21, co21, eo21⟩ := Kd.R_slice HO150.out; subst eo21))
      go_ret
      exact ⟨by first | rfl | (simp [errW_none, errW_some] <;> rfl) | (simp [*, errW_none, errW_some] <;> rfl), by repeat (first | (with_reducible first | exact HB.out | apply below_alloc | apply pw_below_drewN | apply below_drew1) | exact HB.out)⟩

/-- THE ONE PURE STATEMENT of laws_FnLangInherits: yours. -/
def laws_FnLangInherits.Pure : Prop := ∀ (a0 : ByteArray), a0.size ≤ 140737488351232 → ∃ k, laws_FnLangInherits.f k a0 = some true
theorem laws_FnLangInherits.walk (P : laws_FnLangInherits.Pure) (a0 : ByteArray) (w : World) (w0 : a0.size ≤ 140737488351232) :
    Calls Try.prog 3 #[.string a0] w fun e w' => e = .returned (.bool true) ∧ Below w.heap.size w w' := by
  obtain ⟨k, h⟩ := P a0 w0
  refine (laws_FnLangInherits.calls k a0 true w h).mono ?_
  rintro e w' ⟨rfl, hd⟩
  exact ⟨rfl, hd⟩

end Go.Proofs.Ytklkpekjnkjcdaa.PFnLangInherits
