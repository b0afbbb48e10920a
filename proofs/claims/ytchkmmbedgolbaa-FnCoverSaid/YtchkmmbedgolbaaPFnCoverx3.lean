-- Written by a program of this session (xprint) out of the translation; Lean checks it.
import Derived.Test.YtchkmmbedgolbaaPFnCoverx0
import Derived.Test.YtchkmmbedgolbaaPFnCoverx1
import Derived.Test.YtchkmmbedgolbaaPFnCoverx2
namespace Go.Proofs.Ytchkmmbedgolbaa.PFnCover
open Go.RowKit Go.Proofs.YtchkmmbedgolbaaW.PrintWords Go.Proofs.YtchkmmbedgolbaaW.PrintLast Go.Proofs.YtchkmmbedgolbaaW.PrintMore
attribute [local go_sem] max2_int min2_int max_two min_two max_three min_three max_four min_four   -- for this text's walks alone
set_option linter.unusedVariables false
set_option linter.unusedSimpArgs false

/-! ### laws_FnCover: function 4 -/
def laws_FnCover.f (k : Nat) (l0 : List Int) (a1 : Bool) (a2 : Int) : Option (Bool) := if (l0.length : Int) > 2147483647 then (some true) else ((laws_rising.f k l0).bind fun t137 => (if a1 = true then ((impl_Cover.f k 2 t137 (wrap64 (a2))).bind fun t140 => ((spec_CoverRef.f k t137 (wrap64 (a2))).bind fun t141 => (if t140 = t141 then ((impl_Cover.f k 1 (([3, 5] : List Int)) 5).bind fun t145 => (some (t145 == 1))) else (some false)))) else ((impl_Cover.f k 1 t137 (wrap64 (a2))).bind fun t146 => ((spec_CoverRef.f k t137 (wrap64 (a2))).bind fun t147 => (if t146 = t147 then ((impl_Cover.f k 1 (([3, 5] : List Int)) 5).bind fun t151 => (some (t151 == 1))) else (some false))))))
theorem laws_FnCover.mono : ∀ a0 a1 a2 k, LeO (laws_FnCover.f k a0 a1 a2) (laws_FnCover.f (k + 1) a0 a1 a2) := by
  intro a0 a1 a2 k
  unfold laws_FnCover.f
  repeat' first
      | (with_reducible exact impl_Cover.mono _ _ _ _)
      | (with_reducible exact laws_rising.mono _ _)
      | (with_reducible exact spec_CoverRef.mono _ _ _)
      | (with_reducible exact LeO.refl _)
      | (with_reducible exact LeO.none _)
      | (with_reducible refine LeO.ite ?_ ?_)
      | (with_reducible refine LeO.bind ?_ (fun _ => ?_))
      | exact impl_Cover.mono _ _ _ _
      | exact laws_rising.mono _ _
      | exact spec_CoverRef.mono _ _ _
      | exact LeO.none _
      | refine LeO.ite ?_ ?_
      | refine LeO.bind ?_ (fun _ => ?_)
set_option maxHeartbeats 8000000 in
set_option maxRecDepth 100000 in
theorem laws_FnCover.calls (k : Nat) (A0 : Option Addr) (c0 : Nat) (l0 : List Int) (a1 : Bool) (a2 : Int) (r : Bool) (w : World) (hr0 : Kd.C (Kd.int .u16) w A0 l0.length l0) (hc0 : l0.length ≤ c0) (h : laws_FnCover.f k l0 a1 a2 = some r) :
    Calls Try.prog 4 #[.slice A0 l0.length c0, .bool a1, .int .u16 a2] w fun e w' => e = .returned (.bool r) ∧ Below w.heap.size w w' := by
  have HR0 := Aside0.mk hr0
  have HC0 := Aside0.mk hc0
  clear hr0 hc0
  have HB := Aside0.mk (Below.refl w.heap.size w)
  have H : (if (l0.length : Int) > 2147483647 then (some true) else ((laws_rising.f k l0).bind fun t137 => (if a1 = true then ((impl_Cover.f k 2 t137 (wrap64 (a2))).bind fun t140 => ((spec_CoverRef.f k t137 (wrap64 (a2))).bind fun t141 => (if t140 = t141 then ((impl_Cover.f k 1 (([3, 5] : List Int)) 5).bind fun t145 => (some (t145 == 1))) else (some false)))) else ((impl_Cover.f k 1 t137 (wrap64 (a2))).bind fun t146 => ((spec_CoverRef.f k t137 (wrap64 (a2))).bind fun t147 => (if t146 = t147 then ((impl_Cover.f k 1 (([3, 5] : List Int)) 5).bind fun t151 => (some (t151 == 1))) else (some false))))))) = some r := h
  clear h
  by_cases c4 : (l0.length : Int) > 2147483647
  · rw [if_pos c4] at H
    have c4b0 : decide (2147483647 < (l0.length : Int)) = true := decide_eq_true c4
    have c4b1 : decide (2147483647 < l0.length) = true := decide_eq_true (by omega)
    clear c4
    obtain rfl := Option.some.inj H
    go_enter Try.func4, Try.ntmps4
    go_wp2
    go_ret
    exact ⟨by first | rfl | (simp [errW_none, errW_some] <;> rfl) | (simp [*, errW_none, errW_some] <;> rfl), by repeat (first | (with_reducible first | exact HB.out | apply below_alloc | apply pw_below_drewN | apply below_drew1) | exact HB.out)⟩
  · rw [if_neg c4] at H
    have c4b0 : decide (2147483647 < (l0.length : Int)) = false := decide_eq_false c4
    have c4b1 : decide (2147483647 < l0.length) = false := decide_eq_false (by omega)
    clear c4
    replace H := Option.bind_eq_some_iff.mp H
    obtain ⟨t137, A50, H⟩ := H
    replace H : (if a1 = true then ((impl_Cover.f k 2 t137 (wrap64 (a2))).bind fun t140 => ((spec_CoverRef.f k t137 (wrap64 (a2))).bind fun t141 => (if t140 = t141 then ((impl_Cover.f k 1 (([3, 5] : List Int)) 5).bind fun t145 => (some (t145 == 1))) else (some false)))) else ((impl_Cover.f k 1 t137 (wrap64 (a2))).bind fun t146 => ((spec_CoverRef.f k t137 (wrap64 (a2))).bind fun t147 => (if t146 = t147 then ((impl_Cover.f k 1 (([3, 5] : List Int)) 5).bind fun t151 => (some (t151 == 1))) else (some false))))) = some r := H
    have A5 := Aside0.mk A50
    clear A50
    by_cases c6 : a1 = true
    · subst c6
      have H1 : ((impl_Cover.f k 2 t137 (wrap64 (a2))).bind fun t140 => ((spec_CoverRef.f k t137 (wrap64 (a2))).bind fun t141 => (if t140 = t141 then ((impl_Cover.f k 1 (([3, 5] : List Int)) 5).bind fun t145 => (some (t145 == 1))) else (some false)))) = some r := by rw [if_pos rfl] at H; exact H
      clear H
      have H := H1
      clear H1
      replace H := Option.bind_eq_some_iff.mp H
      obtain ⟨t140, A70, H⟩ := H
      replace H : ((spec_CoverRef.f k t137 (wrap64 (a2))).bind fun t141 => (if t140 = t141 then ((impl_Cover.f k 1 (([3, 5] : List Int)) 5).bind fun t145 => (some (t145 == 1))) else (some false))) = some r := H
      have A7 := Aside0.mk A70
      clear A70
      replace H := Option.bind_eq_some_iff.mp H
      obtain ⟨t141, A80, H⟩ := H
      replace H : (if t140 = t141 then ((impl_Cover.f k 1 (([3, 5] : List Int)) 5).bind fun t145 => (some (t145 == 1))) else (some false)) = some r := H
      have A8 := Aside0.mk A80
      clear A80
      by_cases c9 : t140 = t141
      · rw [if_pos c9] at H
        have c9b0 : (t140 == t141) = true := beq_iff_eq.mpr c9
        have c9b1 : (t140 != t141) = false := bne_eq_false_iff_eq.mpr c9
        clear c9
        obtain ⟨y142, hy142⟩ : ∃ y_ : List Int, y_ = (([3, 5] : List Int)) := ⟨_, rfl⟩
        replace H : ((impl_Cover.f k 1 y142 5).bind fun t145 => (some (t145 == 1))) = some r := by first | (rw [hy142]; with_reducible exact H) | (have H2_ := (Option.bind_some _ _).symm.trans H; rw [hy142]; with_reducible exact H2_) | (have H2_ := (Option.bind_some _ _).symm.trans H; with_reducible exact H2_) | with_reducible exact H | (rw [hy142]; exact H) | exact H
        have Ny142 := Aside0.mk hy142
        clear hy142
        replace H := Option.bind_eq_some_iff.mp H
        obtain ⟨t145, A100, H⟩ := H
        replace H : (some (t145 == 1)) = some r := H
        have A10 := Aside0.mk A100
        clear A100
        obtain rfl := Option.some.inj H
        go_enter Try.func4, Try.ntmps4
        go_wp2_with (first | ((with_reducible refine gate_callee (f := 11) rfl ?_); refine goesL_ (some 13) rfl rfl Try.func11 (by kernel_rfl) rfl #[.slice A0 l0.length c0] rfl (by (try simp only [List.map_toArray, List.map_cons, List.map_nil]); first | done | rfl | (simp only [List.length_drop, List.length_take]; rfl)) ?_; (with_reducible refine (laws_rising.calls k _ _ l0 t137 _ ?side1 ?side2 A5.out).mono ?_); (case side1 => repeat (first | exact HR0.out | (with_reducible refine Kd.C_alloc ?_ _) | (with_reducible refine Kd.C_drewN ?_ _) | (with_reducible refine Kd.C_drew ?_))); (case side2 => exact HC0.out); rintro e w11 ⟨v138, rfl, ho0, hb⟩; refine ⟨_, rfl, ?_⟩; have n0_ := Aside0.mk (Kd.R_lower ho0 (below_size (by repeat (first | (with_reducible first | exact HB.out | apply below_alloc | apply pw_below_drewN | apply below_drew1) | exact HB.out)))); have n1_ := Aside0.mk (below_step (by repeat (first | (with_reducible first | exact HB.out | apply below_alloc | apply pw_below_drewN | apply below_drew1) | exact HB.out)) hb); clear HB; have HO139 := n0_; have HB := n1_; clear n0_ n1_; (try clear hb); (try clear hb2); (try clear hk); (try clear hi); (try clear ho0); obtain ⟨Ao12, co12, eo12⟩ := Kd.R_slice HO139.out; subst eo12) | ((with_reducible refine gate_callee (f := 12) rfl ?_); refine goesL_ (some 19) rfl rfl Try.func12 (by kernel_rfl) rfl #[.int .i64 2, .slice Ao12 t137.length co12, .int .i64 (wrap64 (a2))] rfl (by (try simp only [List.map_toArray, List.map_cons, List.map_nil]); first | done | rfl | (simp only [List.length_drop, List.length_take]; rfl)) ?_; (with_reducible refine (impl_Cover.calls k 2 _ _ t137 (wrap64 (a2)) t140 _ ?side1 ?side2 A7.out).mono ?_); (case side1 => repeat (first | exact (Kd.R_reads' HO139.out).2.2 | (with_reducible refine Kd.C_alloc ?_ _) | (with_reducible refine Kd.C_drewN ?_ _) | (with_reducible refine Kd.C_drew ?_))); (case side2 => exact (Kd.R_reads' HO139.out).2.1); rintro e w13 ⟨rfl, hb⟩; refine ⟨_, rfl, ?_⟩; have n0_ := Aside0.mk (Kd.R_below (by (with_reducible repeat (first | apply Kd.R_alloc | apply Kd.R_drewN | apply Kd.R_drew)); exact HO139.out) hb); have n1_ := Aside0.mk (below_step (by repeat (first | (with_reducible first | exact HB.out | apply below_alloc | apply pw_below_drewN | apply below_drew1) | exact HB.out)) hb); clear HO139; clear HB; have HO139 := n0_; have HB := n1_; clear n0_ n1_; (try clear hb); (try clear hb2); (try clear hk); (try clear hi)) | ((with_reducible refine gate_callee (f := 13) rfl ?_); refine goesL_ (some 23) rfl rfl Try.func13 (by kernel_rfl) rfl #[.slice Ao12 t137.length co12, .int .i64 (wrap64 (a2))] rfl (by (try simp only [List.map_toArray, List.map_cons, List.map_nil]); first | done | rfl | (simp only [List.length_drop, List.length_take]; rfl)) ?_; (with_reducible refine (spec_CoverRef.calls k _ _ t137 (wrap64 (a2)) t141 _ ?side1 ?side2 A8.out).mono ?_); (case side1 => repeat (first | exact (Kd.R_reads' HO139.out).2.2 | (with_reducible refine Kd.C_alloc ?_ _) | (with_reducible refine Kd.C_drewN ?_ _) | (with_reducible refine Kd.C_drew ?_))); (case side2 => exact (Kd.R_reads' HO139.out).2.1); rintro e w' ⟨rfl, ⟨nd, rfl⟩⟩; refine ⟨_, rfl, ?_⟩) | ((with_reducible refine gate_dst (N := 26) rfl ?_); (try (refine gate_guard (by rfl) ?_; dsimp only)); refine Kd.R_lit (Kd.int .i64) _ 3 ?hg (N := 26) ?hd (xs := ([3, 5] : List Int)) (inner := [.int .i64 3, .int .i64 5]) (ok := fun _ => True) (okp := fun _ => True) ?hr ?hp (fun _ hk => hk) trivial (Below.refl _ _) (Nat.le_refl _) (by simp) ?_; (case hd => rfl); (case hg => rfl); (case hr => first | (go_simp; done) | (go_simp; rfl)); (case hp => exact (Reps.one (show Kd.M (Kd.int .i64) _ _ _ 3 [.int .i64 3] from rfl) (Reps.one (show Kd.M (Kd.int .i64) _ _ _ 5 [.int .i64 5] from rfl) (Reps.none _ _)))); intro v143 w14 ho15 hb hg_ hnew_; clear hg_ hnew_; (first | rw [← Ny142.out] at ho15 | (simp only [Int.reduceToNat] at ho15; rw [← Ny142.out] at ho15)); have n0_ := Aside0.mk (Kd.R_elder' (by (with_reducible repeat (first | apply Kd.R_alloc | apply Kd.R_drewN | apply Kd.R_drew)); exact HO139.out) (Kd.R_base ho15) hb); have n1_ := Aside0.mk (Kd.R_lower (Kd.R_new' ho15 (Kd.R_lt (by (with_reducible repeat (first | apply Kd.R_alloc | apply Kd.R_drewN | apply Kd.R_drew)); exact HO139.out))) (below_size (by repeat (first | (with_reducible first | exact HB.out | apply below_alloc | apply pw_below_drewN | apply below_drew1) | exact HB.out)))); have n2_ := Aside0.mk (below_step (by repeat (first | (with_reducible first | exact HB.out | apply below_alloc | apply pw_below_drewN | apply below_drew1) | exact HB.out)) hb); clear HO139; clear HB; have HO139 := n0_; have HO144 := n1_; have HB := n2_; clear n0_ n1_ n2_; clear hb ho15; obtain ⟨Ao16, co16, eo16⟩ := Kd.R_slice HO144.out; subst eo16) | (go_at_call 12; (with_reducible refine (impl_Cover.calls k 1 _ _ y142 5 t145 _ ?side1 ?side2 A10.out).mono ?_); (case side1 => repeat (first | exact (Kd.R_reads' HO144.out).2.2 | (with_reducible refine Kd.C_alloc ?_ _) | (with_reducible refine Kd.C_drewN ?_ _) | (with_reducible refine Kd.C_drew ?_))); (case side2 => exact (Kd.R_reads' HO144.out).2.1); rintro e w17 ⟨rfl, hb⟩; have n0_ := Aside0.mk (Kd.R_below (by (with_reducible repeat (first | apply Kd.R_alloc | apply Kd.R_drewN | apply Kd.R_drew)); exact HO139.out) hb); have n1_ := Aside0.mk (Kd.R_below (by (with_reducible repeat (first | apply Kd.R_alloc | apply Kd.R_drewN | apply Kd.R_drew)); exact HO144.out) hb); have n2_ := Aside0.mk (below_step (by repeat (first | (with_reducible first | exact HB.out | apply below_alloc | apply pw_below_drewN | apply below_drew1) | exact HB.out)) hb); clear HO139; clear HO144; clear HB; have HO139 := n0_; have HO144 := n1_; have HB := n2_; clear n0_ n1_ n2_; (try clear hb); (try clear hb2); (try clear hk); (try clear hi)))
        go_ret
        exact ⟨by first | rfl | (simp [errW_none, errW_some] <;> rfl) | (simp [*, errW_none, errW_some] <;> rfl), by repeat (first | (with_reducible first | exact HB.out | apply below_alloc | apply pw_below_drewN | apply below_drew1) | exact HB.out)⟩
      · rw [if_neg c9] at H
        have c9b0 : (t140 == t141) = false := beq_eq_false_iff_ne.mpr c9
        have c9b1 : (t140 != t141) = true := bne_iff_ne.mpr c9
        obtain rfl := Option.some.inj H
        go_enter Try.func4, Try.ntmps4
        go_wp2_with (first | ((with_reducible refine gate_callee (f := 11) rfl ?_); refine goesL_ (some 13) rfl rfl Try.func11 (by kernel_rfl) rfl #[.slice A0 l0.length c0] rfl (by (try simp only [List.map_toArray, List.map_cons, List.map_nil]); first | done | rfl | (simp only [List.length_drop, List.length_take]; rfl)) ?_; (with_reducible refine (laws_rising.calls k _ _ l0 t137 _ ?side1 ?side2 A5.out).mono ?_); (case side1 => repeat (first | exact HR0.out | (with_reducible refine Kd.C_alloc ?_ _) | (with_reducible refine Kd.C_drewN ?_ _) | (with_reducible refine Kd.C_drew ?_))); (case side2 => exact HC0.out); rintro e w18 ⟨v138, rfl, ho0, hb⟩; refine ⟨_, rfl, ?_⟩; have n0_ := Aside0.mk (Kd.R_lower ho0 (below_size (by repeat (first | (with_reducible first | exact HB.out | apply below_alloc | apply pw_below_drewN | apply below_drew1) | exact HB.out)))); have n1_ := Aside0.mk (below_step (by repeat (first | (with_reducible first | exact HB.out | apply below_alloc | apply pw_below_drewN | apply below_drew1) | exact HB.out)) hb); clear HB; have HO139 := n0_; have HB := n1_; clear n0_ n1_; (try clear hb); (try clear hb2); (try clear hk); (try clear hi); (try clear ho0); obtain ⟨Ao19, co19, eo19⟩ := Kd.R_slice HO139.out; subst eo19) | ((with_reducible refine gate_callee (f := 12) rfl ?_); refine goesL_ (some 19) rfl rfl Try.func12 (by kernel_rfl) rfl #[.int .i64 2, .slice Ao19 t137.length co19, .int .i64 (wrap64 (a2))] rfl (by (try simp only [List.map_toArray, List.map_cons, List.map_nil]); first | done | rfl | (simp only [List.length_drop, List.length_take]; rfl)) ?_; (with_reducible refine (impl_Cover.calls k 2 _ _ t137 (wrap64 (a2)) t140 _ ?side1 ?side2 A7.out).mono ?_); (case side1 => repeat (first | exact (Kd.R_reads' HO139.out).2.2 | (with_reducible refine Kd.C_alloc ?_ _) | (with_reducible refine Kd.C_drewN ?_ _) | (with_reducible refine Kd.C_drew ?_))); (case side2 => exact (Kd.R_reads' HO139.out).2.1); rintro e w20 ⟨rfl, hb⟩; refine ⟨_, rfl, ?_⟩; have n0_ := Aside0.mk (Kd.R_below (by (with_reducible repeat (first | apply Kd.R_alloc | apply Kd.R_drewN | apply Kd.R_drew)); exact HO139.out) hb); have n1_ := Aside0.mk (below_step (by repeat (first | (with_reducible first | exact HB.out | apply below_alloc | apply pw_below_drewN | apply below_drew1) | exact HB.out)) hb); clear HO139; clear HB; have HO139 := n0_; have HB := n1_; clear n0_ n1_; (try clear hb); (try clear hb2); (try clear hk); (try clear hi)) | ((with_reducible refine gate_callee (f := 13) rfl ?_); refine goesL_ (some 23) rfl rfl Try.func13 (by kernel_rfl) rfl #[.slice Ao19 t137.length co19, .int .i64 (wrap64 (a2))] rfl (by (try simp only [List.map_toArray, List.map_cons, List.map_nil]); first | done | rfl | (simp only [List.length_drop, List.length_take]; rfl)) ?_; (with_reducible refine (spec_CoverRef.calls k _ _ t137 (wrap64 (a2)) t141 _ ?side1 ?side2 A8.out).mono ?_); (case side1 => repeat (first | exact (Kd.R_reads' HO139.out).2.2 | (with_reducible refine Kd.C_alloc ?_ _) | (with_reducible refine Kd.C_drewN ?_ _) | (with_reducible refine Kd.C_drew ?_))); (case side2 => exact (Kd.R_reads' HO139.out).2.1); rintro e w' ⟨rfl, ⟨nd, rfl⟩⟩; refine ⟨_, rfl, ?_⟩))
        go_ret
        exact ⟨by first | rfl | (simp [errW_none, errW_some] <;> rfl) | (simp [*, errW_none, errW_some] <;> rfl), by repeat (first | (with_reducible first | exact HB.out | apply below_alloc | apply pw_below_drewN | apply below_drew1) | exact HB.out)⟩
    · replace c6 := Bool.eq_false_iff.mpr c6
      subst c6
      have H1 : ((impl_Cover.f k 1 t137 (wrap64 (a2))).bind fun t146 => ((spec_CoverRef.f k t137 (wrap64 (a2))).bind fun t147 => (if t146 = t147 then ((impl_Cover.f k 1 (([3, 5] : List Int)) 5).bind fun t151 => (some (t151 == 1))) else (some false)))) = some r := by rw [if_neg (show ¬ (false = true) by decide)] at H; exact H
      clear H
      have H := H1
      clear H1
      replace H := Option.bind_eq_some_iff.mp H
      obtain ⟨t146, A210, H⟩ := H
      replace H : ((spec_CoverRef.f k t137 (wrap64 (a2))).bind fun t147 => (if t146 = t147 then ((impl_Cover.f k 1 (([3, 5] : List Int)) 5).bind fun t151 => (some (t151 == 1))) else (some false))) = some r := H
      have A21 := Aside0.mk A210
      clear A210
      replace H := Option.bind_eq_some_iff.mp H
      obtain ⟨t147, A220, H⟩ := H
      replace H : (if t146 = t147 then ((impl_Cover.f k 1 (([3, 5] : List Int)) 5).bind fun t151 => (some (t151 == 1))) else (some false)) = some r := H
      have A22 := Aside0.mk A220
      clear A220
      by_cases c23 : t146 = t147
      · rw [if_pos c23] at H
        have c23b0 : (t146 == t147) = true := beq_iff_eq.mpr c23
        have c23b1 : (t146 != t147) = false := bne_eq_false_iff_eq.mpr c23
        clear c23
        obtain ⟨y148, hy148⟩ : ∃ y_ : List Int, y_ = (([3, 5] : List Int)) := ⟨_, rfl⟩
        replace H : ((impl_Cover.f k 1 y148 5).bind fun t151 => (some (t151 == 1))) = some r := by first | (rw [hy148]; with_reducible exact H) | (have H2_ := (Option.bind_some _ _).symm.trans H; rw [hy148]; with_reducible exact H2_) | (have H2_ := (Option.bind_some _ _).symm.trans H; with_reducible exact H2_) | with_reducible exact H | (rw [hy148]; exact H) | exact H
        have Ny148 := Aside0.mk hy148
        clear hy148
        replace H := Option.bind_eq_some_iff.mp H
        obtain ⟨t151, A240, H⟩ := H
        replace H : (some (t151 == 1)) = some r := H
        have A24 := Aside0.mk A240
        clear A240
        obtain rfl := Option.some.inj H
        go_enter Try.func4, Try.ntmps4
        go_wp2_with (first | ((with_reducible refine gate_callee (f := 11) rfl ?_); refine goesL_ (some 13) rfl rfl Try.func11 (by kernel_rfl) rfl #[.slice A0 l0.length c0] rfl (by (try simp only [List.map_toArray, List.map_cons, List.map_nil]); first | done | rfl | (simp only [List.length_drop, List.length_take]; rfl)) ?_; (with_reducible refine (laws_rising.calls k _ _ l0 t137 _ ?side1 ?side2 A5.out).mono ?_); (case side1 => repeat (first | exact HR0.out | (with_reducible refine Kd.C_alloc ?_ _) | (with_reducible refine Kd.C_drewN ?_ _) | (with_reducible refine Kd.C_drew ?_))); (case side2 => exact HC0.out); rintro e w25 ⟨v138, rfl, ho0, hb⟩; refine ⟨_, rfl, ?_⟩; have n0_ := Aside0.mk (Kd.R_lower ho0 (below_size (by repeat (first | (with_reducible first | exact HB.out | apply below_alloc | apply pw_below_drewN | apply below_drew1) | exact HB.out)))); have n1_ := Aside0.mk (below_step (by repeat (first | (with_reducible first | exact HB.out | apply below_alloc | apply pw_below_drewN | apply below_drew1) | exact HB.out)) hb); clear HB; have HO139 := n0_; have HB := n1_; clear n0_ n1_; (try clear hb); (try clear hb2); (try clear hk); (try clear hi); (try clear ho0); obtain ⟨Ao26, co26, eo26⟩ := Kd.R_slice HO139.out; subst eo26) | ((with_reducible refine gate_callee (f := 12) rfl ?_); refine goesL_ (some 19) rfl rfl Try.func12 (by kernel_rfl) rfl #[.int .i64 1, .slice Ao26 t137.length co26, .int .i64 (wrap64 (a2))] rfl (by (try simp only [List.map_toArray, List.map_cons, List.map_nil]); first | done | rfl | (simp only [List.length_drop, List.length_take]; rfl)) ?_; (with_reducible refine (impl_Cover.calls k 1 _ _ t137 (wrap64 (a2)) t146 _ ?side1 ?side2 A21.out).mono ?_); (case side1 => repeat (first | exact (Kd.R_reads' HO139.out).2.2 | (with_reducible refine Kd.C_alloc ?_ _) | (with_reducible refine Kd.C_drewN ?_ _) | (with_reducible refine Kd.C_drew ?_))); (case side2 => exact (Kd.R_reads' HO139.out).2.1); rintro e w27 ⟨rfl, hb⟩; refine ⟨_, rfl, ?_⟩; have n0_ := Aside0.mk (Kd.R_below (by (with_reducible repeat (first | apply Kd.R_alloc | apply Kd.R_drewN | apply Kd.R_drew)); exact HO139.out) hb); have n1_ := Aside0.mk (below_step (by repeat (first | (with_reducible first | exact HB.out | apply below_alloc | apply pw_below_drewN | apply below_drew1) | exact HB.out)) hb); clear HO139; clear HB; have HO139 := n0_; have HB := n1_; clear n0_ n1_; (try clear hb); (try clear hb2); (try clear hk); (try clear hi)) | ((with_reducible refine gate_callee (f := 13) rfl ?_); refine goesL_ (some 23) rfl rfl Try.func13 (by kernel_rfl) rfl #[.slice Ao26 t137.length co26, .int .i64 (wrap64 (a2))] rfl (by (try simp only [List.map_toArray, List.map_cons, List.map_nil]); first | done | rfl | (simp only [List.length_drop, List.length_take]; rfl)) ?_; (with_reducible refine (spec_CoverRef.calls k _ _ t137 (wrap64 (a2)) t147 _ ?side1 ?side2 A22.out).mono ?_); (case side1 => repeat (first | exact (Kd.R_reads' HO139.out).2.2 | (with_reducible refine Kd.C_alloc ?_ _) | (with_reducible refine Kd.C_drewN ?_ _) | (with_reducible refine Kd.C_drew ?_))); (case side2 => exact (Kd.R_reads' HO139.out).2.1); rintro e w' ⟨rfl, ⟨nd, rfl⟩⟩; refine ⟨_, rfl, ?_⟩) | ((with_reducible refine gate_dst (N := 26) rfl ?_); (try (refine gate_guard (by rfl) ?_; dsimp only)); refine Kd.R_lit (Kd.int .i64) _ 3 ?hg (N := 26) ?hd (xs := ([3, 5] : List Int)) (inner := [.int .i64 3, .int .i64 5]) (ok := fun _ => True) (okp := fun _ => True) ?hr ?hp (fun _ hk => hk) trivial (Below.refl _ _) (Nat.le_refl _) (by simp) ?_; (case hd => rfl); (case hg => rfl); (case hr => first | (go_simp; done) | (go_simp; rfl)); (case hp => exact (Reps.one (show Kd.M (Kd.int .i64) _ _ _ 3 [.int .i64 3] from rfl) (Reps.one (show Kd.M (Kd.int .i64) _ _ _ 5 [.int .i64 5] from rfl) (Reps.none _ _)))); intro v149 w28 ho29 hb hg_ hnew_; clear hg_ hnew_; (first | rw [← Ny148.out] at ho29 | (simp only [Int.reduceToNat] at ho29; rw [← Ny148.out] at ho29)); have n0_ := Aside0.mk (Kd.R_elder' (by (with_reducible repeat (first | apply Kd.R_alloc | apply Kd.R_drewN | apply Kd.R_drew)); exact HO139.out) (Kd.R_base ho29) hb); have n1_ := Aside0.mk (Kd.R_lower (Kd.R_new' ho29 (Kd.R_lt (by (with_reducible repeat (first | apply Kd.R_alloc | apply Kd.R_drewN | apply Kd.R_drew)); exact HO139.out))) (below_size (by repeat (first | (with_reducible first | exact HB.out | apply below_alloc | apply pw_below_drewN | apply below_drew1) | exact HB.out)))); have n2_ := Aside0.mk (below_step (by repeat (first | (with_reducible first | exact HB.out | apply below_alloc | apply pw_below_drewN | apply below_drew1) | exact HB.out)) hb); clear HO139; clear HB; have HO139 := n0_; have HO150 := n1_; have HB := n2_; clear n0_ n1_ n2_; clear hb ho29; obtain ⟨Ao30, co30, eo30⟩ := Kd.R_slice HO150.out; subst eo30) | (go_at_call 12; (with_reducible refine (impl_Cover.calls k 1 _ _ y148 5 t151 _ ?side1 ?side2 A24.out).mono ?_); (case side1 => repeat (first | exact (Kd.R_reads' HO150.out).2.2 | (with_reducible refine Kd.C_alloc ?_ _) | (with_reducible refine Kd.C_drewN ?_ _) | (with_reducible refine Kd.C_drew ?_))); (case side2 => exact (Kd.R_reads' HO150.out).2.1); rintro e w31 ⟨rfl, hb⟩; have n0_ := Aside0.mk (Kd.R_below (by (with_reducible repeat (first | apply Kd.R_alloc | apply Kd.R_drewN | apply Kd.R_drew)); exact HO139.out) hb); have n1_ := Aside0.mk (Kd.R_below (by (with_reducible repeat (first | apply Kd.R_alloc | apply Kd.R_drewN | apply Kd.R_drew)); exact HO150.out) hb); have n2_ := Aside0.mk (below_step (by repeat (first | (with_reducible first | exact HB.out | apply below_alloc | apply pw_below_drewN | apply below_drew1) | exact HB.out)) hb); clear HO139; clear HO150; clear HB; have HO139 := n0_; have HO150 := n1_; have HB := n2_; clear n0_ n1_ n2_; (try clear hb); (try clear hb2); (try clear hk); (try clear hi)))
        go_ret
        exact ⟨by first | rfl | (simp [errW_none, errW_some] <;> rfl) | (simp [*, errW_none, errW_some] <;> rfl), by repeat (first | (with_reducible first | exact HB.out | apply below_alloc | apply pw_below_drewN | apply below_drew1) | exact HB.out)⟩
      · rw [if_neg c23] at H
        have c23b0 : (t146 == t147) = false := beq_eq_false_iff_ne.mpr c23
        have c23b1 : (t146 != t147) = true := bne_iff_ne.mpr c23
        obtain rfl := Option.some.inj H
        go_enter Try.func4, Try.ntmps4
        go_wp2_with (first | ((with_reducible refine gate_callee (f := 11) rfl ?_); refine goesL_ (some 13) rfl rfl Try.func11 (by kernel_rfl) rfl #[.slice A0 l0.length c0] rfl (by (try simp only [List.map_toArray, List.map_cons, List.map_nil]); first | done | rfl | (simp only [List.length_drop, List.length_take]; rfl)) ?_; (with_reducible refine (laws_rising.calls k _ _ l0 t137 _ ?side1 ?side2 A5.out).mono ?_); (case side1 => repeat (first | exact HR0.out | (with_reducible refine Kd.C_alloc ?_ _) | (with_reducible refine Kd.C_drewN ?_ _) | (with_reducible refine Kd.C_drew ?_))); (case side2 => exact HC0.out); rintro e w32 ⟨v138, rfl, ho0, hb⟩; refine ⟨_, rfl, ?_⟩; have n0_ := Aside0.mk (Kd.R_lower ho0 (below_size (by repeat (first | (with_reducible first | exact HB.out | apply below_alloc | apply pw_below_drewN | apply below_drew1) | exact HB.out)))); have n1_ := Aside0.mk (below_step (by repeat (first | (with_reducible first | exact HB.out | apply below_alloc | apply pw_below_drewN | apply below_drew1) | exact HB.out)) hb); clear HB; have HO139 := n0_; have HB := n1_; clear n0_ n1_; (try clear hb); (try clear hb2); (try clear hk); (try clear hi); (try clear ho0); obtain ⟨Ao33, co33, eo33⟩ := Kd.R_slice HO139.out; subst eo33) | ((with_reducible refine gate_callee (f := 12) rfl ?_); refine goesL_ (some 19) rfl rfl Try.func12 (by kernel_rfl) rfl #[.int .i64 1, .slice Ao33 t137.length co33, .int .i64 (wrap64 (a2))] rfl (by (try simp only [List.map_toArray, List.map_cons, List.map_nil]); first | done | rfl | (simp only [List.length_drop, List.length_take]; rfl)) ?_; (with_reducible refine (impl_Cover.calls k 1 _ _ t137 (wrap64 (a2)) t146 _ ?side1 ?side2 A21.out).mono ?_); (case side1 => repeat (first | exact (Kd.R_reads' HO139.out).2.2 | (with_reducible refine Kd.C_alloc ?_ _) | (with_reducible refine Kd.C_drewN ?_ _) | (with_reducible refine Kd.C_drew ?_))); (case side2 => exact (Kd.R_reads' HO139.out).2.1); rintro e w34 ⟨rfl, hb⟩; refine ⟨_, rfl, ?_⟩; have n0_ := Aside0.mk (Kd.R_below (by (with_reducible repeat (first | apply Kd.R_alloc | apply Kd.R_drewN | apply Kd.R_drew)); exact HO139.out) hb); have n1_ := Aside0.mk (below_step (by repeat (first | (with_reducible first | exact HB.out | apply below_alloc | apply pw_below_drewN | apply below_drew1) | exact HB.out)) hb); clear HO139; clear HB; have HO139 := n0_; have HB := n1_; clear n0_ n1_; (try clear hb); (try clear hb2); (try clear hk); (try clear hi)) | ((with_reducible refine gate_callee (f := 13) rfl ?_); refine goesL_ (some 23) rfl rfl Try.func13 (by kernel_rfl) rfl #[.slice Ao33 t137.length co33, .int .i64 (wrap64 (a2))] rfl (by (try simp only [List.map_toArray, List.map_cons, List.map_nil]); first | done | rfl | (simp only [List.length_drop, List.length_take]; rfl)) ?_; (with_reducible refine (spec_CoverRef.calls k _ _ t137 (wrap64 (a2)) t147 _ ?side1 ?side2 A22.out).mono ?_); (case side1 => repeat (first | exact (Kd.R_reads' HO139.out).2.2 | (with_reducible refine Kd.C_alloc ?_ _) | (with_reducible refine Kd.C_drewN ?_ _) | (with_reducible refine Kd.C_drew ?_))); (case side2 => exact (Kd.R_reads' HO139.out).2.1); rintro e w' ⟨rfl, ⟨nd, rfl⟩⟩; refine ⟨_, rfl, ?_⟩))
        go_ret
        exact ⟨by first | rfl | (simp [errW_none, errW_some] <;> rfl) | (simp [*, errW_none, errW_some] <;> rfl), by repeat (first | (with_reducible first | exact HB.out | apply below_alloc | apply pw_below_drewN | apply below_drew1) | exact HB.out)⟩

/-- THE ONE PURE STATEMENT of laws_FnCover: yours. -/
def laws_FnCover.Pure : Prop := ∀ (l0 : List Int) (a1 : Bool) (a2 : Int), l0.length ≤ maxLen → l0.length * 2 ≤ 140737488351232 → (∀ x ∈ l0, (Lit.int .u16 x).wf = true) → (Lit.int .u16 a2).wf = true → ∃ k, laws_FnCover.f k l0 a1 a2 = some true
theorem laws_FnCover.walk (P : laws_FnCover.Pure) (a0 : Option Addr) (len0 cap0 : Nat) (z0 : List Int) (a1 : Bool) (a2 : Int) (w : World) (w0 : (a0 = none ∧ len0 = 0 ∧ cap0 = 0 ∧ z0 = []) ∨ ∃ x, a0 = some x ∧ len0 ≤ cap0 ∧ cap0 ≤ maxLen ∧ z0.length = cap0 ∧ (∀ i, i < z0.length → w.cell? (x.add i) = some (.int .u16 (z0.getD i 0))) ∧ ∀ n ∈ z0, (Lit.int .u16 n).wf = true) (y0 : len0 * 2 ≤ 140737488351232) (w2 : (Lit.int .u16 a2).wf = true) :
    Calls Try.prog 4 #[.slice a0 len0 cap0, .bool a1, .int .u16 a2] w fun e w' => e = .returned (.bool true) ∧ Below w.heap.size w w' := by
  obtain ⟨l0, rfl, hr0, hm0, hw0, hc0⟩ := ReadsInt.ofRowC w0
  obtain ⟨k, h⟩ := P l0 a1 a2 hm0 y0 hw0 w2
  refine (laws_FnCover.calls k _ _ l0 a1 a2 true w (Kd.C_of_reads (d := (0 : Int)) (h1 := fun _ => rfl) hr0) hc0 h).mono ?_
  rintro e w' ⟨rfl, hd⟩
  exact ⟨rfl, hd⟩

end Go.Proofs.Ytchkmmbedgolbaa.PFnCover
