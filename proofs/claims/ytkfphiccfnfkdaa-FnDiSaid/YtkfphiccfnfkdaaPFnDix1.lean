-- Written by a program of this session (xprint) out of the translation; Lean checks it.
import Derived.Test.YtkfphiccfnfkdaaPFnDix0
namespace Go.Proofs.Ytkfphiccfnfkdaa.PFnDi
open Go.RowKit Go.Proofs.YtkfphiccfnfkdaaW.PrintWords Go.Proofs.YtkfphiccfnfkdaaW.PrintLast Go.Proofs.YtkfphiccfnfkdaaW.PrintMore
attribute [local go_sem] max2_int min2_int max_two min_two max_three min_three max_four min_four   -- for this text's walks alone
set_option linter.unusedVariables false
set_option linter.unusedSimpArgs false

/-! ### spec_DiOf: function 33 -/
def spec_DiOf.f (a0 : Int) : Option (Bool × Bool × Bool × Bool × Bool) := some (decide (a0 ≥ 2), ((Int.tmod a0 2) == 1), true, false, false)
set_option maxHeartbeats 8000000 in
set_option maxRecDepth 100000 in
theorem spec_DiOf.calls (a0 : Int) (r1 : Bool) (r2 : Bool) (r3 : Bool) (r4 : Bool) (r5 : Bool) (w : World) (h : spec_DiOf.f a0 = some (r1, r2, r3, r4, r5)) :
    Calls Try.prog 33 #[.int .u8 a0] w fun e w' => e = .returned (.agg #[.bool r1, .bool r2, .bool r3, .bool r4, .bool r5]) ∧ Below w.heap.size w w' := by
  have hu62 := Try.underlying62
  have HB := Aside0.mk (Below.refl w.heap.size w)
  have H : (some (decide (a0 ≥ 2), ((Int.tmod a0 2) == 1), true, false, false)) = some (r1, r2, r3, r4, r5) := h
  clear h
  simp only [Option.some.injEq, Prod.mk.injEq] at H
  obtain ⟨rfl, rfl, rfl, rfl, rfl⟩ := H
  go_enter Try.func33, Try.ntmps33
  go_wp2_with (first | ((with_reducible refine gate_dst (N := 2) rfl ?_); refine box_event ?hg (N := 2) ?hd (cs := #[.bool false, .bool false, .bool false, .bool false, .bool false]) (t := 62) ?hr ?_; (case hd => rfl); (case hg => rfl); (case hr => first | (go_simp; done) | (go_simp; rfl)); intro gb101 hg w2 hbox hb; have n0_ := Aside0.mk (below_step (by repeat (first | (with_reducible first | exact HB.out | apply below_alloc | apply pw_below_drewN | apply below_drew1) | exact HB.out)) hb); have n1_ := Aside0.mk (hbox); have n2_ := Aside0.mk ((by rw [hg]; exact (below_size (by repeat (first | (with_reducible first | exact HB.out | apply below_alloc | apply pw_below_drewN | apply below_drew1) | exact HB.out))) : w.heap.size ≤ gb101)); have n3_ := Aside0.mk ((by rw [hg]; exact (below_size (by repeat (first | (with_reducible first | exact HB.out | apply below_alloc | apply pw_below_drewN | apply below_drew1) | exact HB.out))) : w.heap.size ≤ gb101)); clear HB; have HB := n0_; have BK101 := n1_; have GW101 := n2_; have GE101 := n3_; clear n0_ n1_ n2_ n3_; clear hb hbox hg; have hcz3_0 : w2.cell? ⟨gb101, 0, none⟩ = some (.bool false) := (blk_cell BK101.out 0).trans rfl; have hcz3_1 : w2.cell? ⟨gb101, 1, none⟩ = some (.bool false) := (blk_cell BK101.out 1).trans rfl; have hcz3_2 : w2.cell? ⟨gb101, 2, none⟩ = some (.bool false) := (blk_cell BK101.out 2).trans rfl; have hcz3_3 : w2.cell? ⟨gb101, 3, none⟩ = some (.bool false) := (blk_cell BK101.out 3).trans rfl; have hcz3_4 : w2.cell? ⟨gb101, 4, none⟩ = some (.bool false) := (blk_cell BK101.out 4).trans rfl; have hfz3_0 := blk_frozen BK101.out 0; have hfz3_1 := blk_frozen BK101.out 1; have hfz3_2 := blk_frozen BK101.out 2; have hfz3_3 := blk_frozen BK101.out 3; have hfz3_4 := blk_frozen BK101.out 4))
  refine bodyPost_ret (results_cell_row rfl _ _ gb101 62 #[.bool (decide (a0 ≥ 2)), .bool ((Int.tmod a0 2) == 1), .bool true, .bool false, .bool false] (0, 0) _ rfl (by (with_reducible repeat (first | refine blk_drewN ?_ _ | refine blk_drew ?_ | refine blk_alloc ?_ _)); refine blk_put (cs := #[.bool (decide (a0 ≥ 2)), .bool ((Int.tmod a0 2) == 1), .bool true, .bool false, .bool false]) ?_ 4 _ rfl; (with_reducible repeat (first | refine blk_drewN ?_ _ | refine blk_drew ?_ | refine blk_alloc ?_ _)); refine blk_put (cs := #[.bool (decide (a0 ≥ 2)), .bool ((Int.tmod a0 2) == 1), .bool true, .bool false, .bool false]) ?_ 3 _ rfl; (with_reducible repeat (first | refine blk_drewN ?_ _ | refine blk_drew ?_ | refine blk_alloc ?_ _)); refine blk_put (cs := #[.bool (decide (a0 ≥ 2)), .bool ((Int.tmod a0 2) == 1), .bool false, .bool false, .bool false]) ?_ 2 _ rfl; (with_reducible repeat (first | refine blk_drewN ?_ _ | refine blk_drew ?_ | refine blk_alloc ?_ _)); refine blk_put (cs := #[.bool (decide (a0 ≥ 2)), .bool false, .bool false, .bool false, .bool false]) ?_ 1 _ rfl; (with_reducible repeat (first | refine blk_drewN ?_ _ | refine blk_drew ?_ | refine blk_alloc ?_ _)); refine blk_put (cs := #[.bool false, .bool false, .bool false, .bool false, .bool false]) ?_ 0 _ rfl; (with_reducible repeat (first | refine blk_drewN ?_ _ | refine blk_drew ?_ | refine blk_alloc ?_ _)); exact BK101.out) Try.underlying62 rfl (by kernel_rfl)) rfl ?_
  exact ⟨by first | rfl | (simp [errW_none, errW_some] <;> rfl) | (simp [*, errW_none, errW_some] <;> rfl), by repeat (first | (with_reducible first | exact HB.out | apply below_alloc | apply pw_below_drewN | apply below_drew1 | refine below_set ?_ GE101.out) | exact HB.out)⟩

/-! ### di_Direction_IsVertical: function 60 -/
def di_Direction_IsVertical.f (a0 : Int) : Option (Bool) := some ((Go.bits .and .u8 a0 2) != 0)
set_option maxHeartbeats 8000000 in
set_option maxRecDepth 100000 in
theorem di_Direction_IsVertical.calls (a0 : Int) (r : Bool) (w : World) (h : di_Direction_IsVertical.f a0 = some r) :
    Calls Try.prog 60 #[.int .u8 a0] w fun e w' => e = .returned (.bool r) ∧ Drawn0 w w' := by
  have H : (some ((Go.bits .and .u8 a0 2) != 0)) = some r := h
  clear h
  obtain rfl := Option.some.inj H
  go_enter Try.func60, Try.ntmps60
  go_wp2
  go_ret
  exact ⟨by first | rfl | (simp; done) | (simp [*]; done), by repeat (first | exact Drawn0.refl _ | apply Drawn0.step)⟩

/-! ### di_Direction_Axis: function 58 -/
def di_Direction_Axis.f (a0 : Int) : Option (Bool) := (di_Direction_IsVertical.f a0).bind fun t102 => (if t102 = true then (some true) else (some false))
set_option maxHeartbeats 8000000 in
set_option maxRecDepth 100000 in
theorem di_Direction_Axis.calls (a0 : Int) (r : Bool) (w : World) (h : di_Direction_Axis.f a0 = some r) :
    Calls Try.prog 58 #[.int .u8 a0] w fun e w' => e = .returned (.bool r) ∧ Drawn0 w w' := by
  have H : ((di_Direction_IsVertical.f a0).bind fun t102 => (if t102 = true then (some true) else (some false))) = some r := h
  clear h
  replace H := Option.bind_eq_some_iff.mp H
  obtain ⟨t102, A20, H⟩ := H
  replace H : (if t102 = true then (some true) else (some false)) = some r := H
  have A2 := Aside0.mk A20
  clear A20
  by_cases c3 : t102 = true
  · subst c3
    have H1 : (some true) = some r := by rw [if_pos rfl] at H; exact H
    clear H
    have H := H1
    clear H1
    obtain rfl := Option.some.inj H
    go_enter Try.func58, Try.ntmps58
    go_wp2_with (first | ((with_reducible refine gate_callee (f := 60) rfl ?_); refine goesL_ (some 4) rfl rfl Try.func60 (by kernel_rfl) rfl #[.int .u8 a0] rfl (by (try simp only [List.map_toArray, List.map_cons, List.map_nil]); first | done | rfl | (simp only [List.length_drop, List.length_take]; rfl)) ?_; (with_reducible refine (di_Direction_IsVertical.calls a0 true _ A2.out).mono ?_); rintro e w' ⟨rfl, ⟨nd, rfl⟩⟩; refine ⟨_, rfl, ?_⟩))
    go_ret
    exact ⟨by first | rfl | (simp; done) | (simp [*]; done), by repeat (first | exact Drawn0.refl _ | apply Drawn0.step)⟩
  · replace c3 := Bool.eq_false_iff.mpr c3
    subst c3
    have H1 : (some false) = some r := by rw [if_neg (show ¬ (false = true) by decide)] at H; exact H
    clear H
    have H := H1
    clear H1
    obtain rfl := Option.some.inj H
    go_enter Try.func58, Try.ntmps58
    go_wp2_with (first | ((with_reducible refine gate_callee (f := 60) rfl ?_); refine goesL_ (some 4) rfl rfl Try.func60 (by kernel_rfl) rfl #[.int .u8 a0] rfl (by (try simp only [List.map_toArray, List.map_cons, List.map_nil]); first | done | rfl | (simp only [List.length_drop, List.length_take]; rfl)) ?_; (with_reducible refine (di_Direction_IsVertical.calls a0 false _ A2.out).mono ?_); rintro e w' ⟨rfl, ⟨nd, rfl⟩⟩; refine ⟨_, rfl, ?_⟩))
    go_ret
    exact ⟨by first | rfl | (simp; done) | (simp [*]; done), by repeat (first | exact Drawn0.refl _ | apply Drawn0.step)⟩

/-! ### di_Direction_Progression: function 59 -/
def di_Direction_Progression.f (a0 : Int) : Option (Bool) := if (Go.bits .and .u8 a0 1) = 0 then (some false) else (some true)
set_option maxHeartbeats 8000000 in
set_option maxRecDepth 100000 in
theorem di_Direction_Progression.calls (a0 : Int) (r : Bool) (w : World) (h : di_Direction_Progression.f a0 = some r) :
    Calls Try.prog 59 #[.int .u8 a0] w fun e w' => e = .returned (.bool r) ∧ Drawn0 w w' := by
  have H : (if (Go.bits .and .u8 a0 1) = 0 then (some false) else (some true)) = some r := h
  clear h
  by_cases c2 : (Go.bits .and .u8 a0 1) = 0
  · rw [if_pos c2] at H
    have c2b0 : ((Go.bits .and .u8 a0 1) == 0) = true := beq_iff_eq.mpr c2
    have c2b1 : ((Go.bits .and .u8 a0 1) != 0) = false := bne_eq_false_iff_eq.mpr c2
    clear c2
    obtain rfl := Option.some.inj H
    go_enter Try.func59, Try.ntmps59
    go_wp2
    go_ret
    exact ⟨by first | rfl | (simp; done) | (simp [*]; done), by repeat (first | exact Drawn0.refl _ | apply Drawn0.step)⟩
  · rw [if_neg c2] at H
    have c2b0 : ((Go.bits .and .u8 a0 1) == 0) = false := beq_eq_false_iff_ne.mpr c2
    have c2b1 : ((Go.bits .and .u8 a0 1) != 0) = true := bne_iff_ne.mpr c2
    obtain rfl := Option.some.inj H
    go_enter Try.func59, Try.ntmps59
    go_wp2
    go_ret
    exact ⟨by first | rfl | (simp; done) | (simp [*]; done), by repeat (first | exact Drawn0.refl _ | apply Drawn0.step)⟩

/-! ### di_Direction_HasVerticalOrientation: function 61 -/
def di_Direction_HasVerticalOrientation.f (a0 : Int) : Option (Bool) := some ((Go.bits .and .u8 a0 4) != 0)
set_option maxHeartbeats 8000000 in
set_option maxRecDepth 100000 in
theorem di_Direction_HasVerticalOrientation.calls (a0 : Int) (r : Bool) (w : World) (h : di_Direction_HasVerticalOrientation.f a0 = some r) :
    Calls Try.prog 61 #[.int .u8 a0] w fun e w' => e = .returned (.bool r) ∧ Drawn0 w w' := by
  have H : (some ((Go.bits .and .u8 a0 4) != 0)) = some r := h
  clear h
  obtain rfl := Option.some.inj H
  go_enter Try.func61, Try.ntmps61
  go_wp2
  go_ret
  exact ⟨by first | rfl | (simp; done) | (simp [*]; done), by repeat (first | exact Drawn0.refl _ | apply Drawn0.step)⟩

/-! ### di_Direction_IsSideways: function 62 -/
def di_Direction_IsSideways.f (a0 : Int) : Option (Bool) := (di_Direction_IsVertical.f a0).bind fun t103 => (if t103 = true then (some ((Go.bits .and .u8 a0 8) != 0)) else (some false))
set_option maxHeartbeats 8000000 in
set_option maxRecDepth 100000 in
theorem di_Direction_IsSideways.calls (a0 : Int) (r : Bool) (w : World) (h : di_Direction_IsSideways.f a0 = some r) :
    Calls Try.prog 62 #[.int .u8 a0] w fun e w' => e = .returned (.bool r) ∧ Drawn0 w w' := by
  have H : ((di_Direction_IsVertical.f a0).bind fun t103 => (if t103 = true then (some ((Go.bits .and .u8 a0 8) != 0)) else (some false))) = some r := h
  clear h
  replace H := Option.bind_eq_some_iff.mp H
  obtain ⟨t103, A20, H⟩ := H
  replace H : (if t103 = true then (some ((Go.bits .and .u8 a0 8) != 0)) else (some false)) = some r := H
  have A2 := Aside0.mk A20
  clear A20
  by_cases c3 : t103 = true
  · subst c3
    have H1 : (some ((Go.bits .and .u8 a0 8) != 0)) = some r := by rw [if_pos rfl] at H; exact H
    clear H
    have H := H1
    clear H1
    obtain rfl := Option.some.inj H
    go_enter Try.func62, Try.ntmps62
    go_wp2_with (first | ((with_reducible refine gate_callee (f := 60) rfl ?_); refine goesL_ (some 4) rfl rfl Try.func60 (by kernel_rfl) rfl #[.int .u8 a0] rfl (by (try simp only [List.map_toArray, List.map_cons, List.map_nil]); first | done | rfl | (simp only [List.length_drop, List.length_take]; rfl)) ?_; (with_reducible refine (di_Direction_IsVertical.calls a0 true _ A2.out).mono ?_); rintro e w' ⟨rfl, ⟨nd, rfl⟩⟩; refine ⟨_, rfl, ?_⟩))
    go_ret
    exact ⟨by first | rfl | (simp; done) | (simp [*]; done), by repeat (first | exact Drawn0.refl _ | apply Drawn0.step)⟩
  · replace c3 := Bool.eq_false_iff.mpr c3
    subst c3
    have H1 : (some false) = some r := by rw [if_neg (show ¬ (false = true) by decide)] at H; exact H
    clear H
    have H := H1
    clear H1
    obtain rfl := Option.some.inj H
    go_enter Try.func62, Try.ntmps62
    go_wp2_with (first | ((with_reducible refine gate_callee (f := 60) rfl ?_); refine goesL_ (some 4) rfl rfl Try.func60 (by kernel_rfl) rfl #[.int .u8 a0] rfl (by (try simp only [List.map_toArray, List.map_cons, List.map_nil]); first | done | rfl | (simp only [List.length_drop, List.length_take]; rfl)) ?_; (with_reducible refine (di_Direction_IsVertical.calls a0 false _ A2.out).mono ?_); rintro e w' ⟨rfl, ⟨nd, rfl⟩⟩; refine ⟨_, rfl, ?_⟩))
    go_ret
    exact ⟨by first | rfl | (simp; done) | (simp [*]; done), by repeat (first | exact Drawn0.refl _ | apply Drawn0.step)⟩

/-! ### di_Direction_Harfbuzz: function 63 -/
def di_Direction_Harfbuzz.f (a0 : Int) : Option (Int) := if (Go.bits .and .u8 a0 3) = 1 then (some 5) else (if (Go.bits .and .u8 a0 3) = 3 then (some 7) else (if (Go.bits .and .u8 a0 3) = 2 then (some 6) else (some 4)))
set_option maxHeartbeats 8000000 in
set_option maxRecDepth 100000 in
theorem di_Direction_Harfbuzz.calls (a0 : Int) (r : Int) (w : World) (h : di_Direction_Harfbuzz.f a0 = some r) :
    Calls Try.prog 63 #[.int .u8 a0] w fun e w' => e = .returned (.int .u8 r) ∧ Drawn0 w w' := by
  have H : (if (Go.bits .and .u8 a0 3) = 1 then (some 5) else (if (Go.bits .and .u8 a0 3) = 3 then (some 7) else (if (Go.bits .and .u8 a0 3) = 2 then (some 6) else (some 4)))) = some r := h
  clear h
  by_cases c2 : (Go.bits .and .u8 a0 3) = 1
  · rw [if_pos c2] at H
    have c2b0 : ((Go.bits .and .u8 a0 3) == 1) = true := beq_iff_eq.mpr c2
    have c2b1 : ((Go.bits .and .u8 a0 3) != 1) = false := bne_eq_false_iff_eq.mpr c2
    clear c2
    obtain rfl := Option.some.inj H
    go_enter Try.func63, Try.ntmps63
    go_wp2
    go_ret
    exact ⟨by first | rfl | (simp; done) | (simp [*]; done), by repeat (first | exact Drawn0.refl _ | apply Drawn0.step)⟩
  · rw [if_neg c2] at H
    have c2b0 : ((Go.bits .and .u8 a0 3) == 1) = false := beq_eq_false_iff_ne.mpr c2
    have c2b1 : ((Go.bits .and .u8 a0 3) != 1) = true := bne_iff_ne.mpr c2
    by_cases c3 : (Go.bits .and .u8 a0 3) = 3
    · rw [if_pos c3] at H
      have c3b0 : ((Go.bits .and .u8 a0 3) == 3) = true := beq_iff_eq.mpr c3
      have c3b1 : ((Go.bits .and .u8 a0 3) != 3) = false := bne_eq_false_iff_eq.mpr c3
      clear c3
      obtain rfl := Option.some.inj H
      go_enter Try.func63, Try.ntmps63
      go_wp2
      go_ret
      exact ⟨by first | rfl | (simp; done) | (simp [*]; done), by repeat (first | exact Drawn0.refl _ | apply Drawn0.step)⟩
    · rw [if_neg c3] at H
      have c3b0 : ((Go.bits .and .u8 a0 3) == 3) = false := beq_eq_false_iff_ne.mpr c3
      have c3b1 : ((Go.bits .and .u8 a0 3) != 3) = true := bne_iff_ne.mpr c3
      by_cases c4 : (Go.bits .and .u8 a0 3) = 2
      · rw [if_pos c4] at H
        have c4b0 : ((Go.bits .and .u8 a0 3) == 2) = true := beq_iff_eq.mpr c4
        have c4b1 : ((Go.bits .and .u8 a0 3) != 2) = false := bne_eq_false_iff_eq.mpr c4
        clear c4
        obtain rfl := Option.some.inj H
        go_enter Try.func63, Try.ntmps63
        go_wp2
        go_ret
        exact ⟨by first | rfl | (simp; done) | (simp [*]; done), by repeat (first | exact Drawn0.refl _ | apply Drawn0.step)⟩
      · rw [if_neg c4] at H
        have c4b0 : ((Go.bits .and .u8 a0 3) == 2) = false := beq_eq_false_iff_ne.mpr c4
        have c4b1 : ((Go.bits .and .u8 a0 3) != 2) = true := bne_iff_ne.mpr c4
        obtain rfl := Option.some.inj H
        go_enter Try.func63, Try.ntmps63
        go_wp2
        go_ret
        exact ⟨by first | rfl | (simp; done) | (simp [*]; done), by repeat (first | exact Drawn0.refl _ | apply Drawn0.step)⟩

/-! ### impl_DiTells: function 34 -/
def impl_DiTells.f (a0 : Int) : Option (Bool × Bool × Bool × Bool × Bool × Int) := (di_Direction_Axis.f a0).bind fun t105 => ((di_Direction_Progression.f a0).bind fun t106 => ((di_Direction_IsVertical.f a0).bind fun t107 => ((di_Direction_HasVerticalOrientation.f a0).bind fun t108 => ((di_Direction_IsSideways.f a0).bind fun t109 => ((di_Direction_Harfbuzz.f a0).bind fun t110 => (some (t105, t106, t107, t108, t109, wrap64 (t110))))))))
set_option maxHeartbeats 8000000 in
set_option maxRecDepth 100000 in
theorem impl_DiTells.calls (a0 : Int) (r1 : Bool) (r2 : Bool) (r3 : Bool) (r4 : Bool) (r5 : Bool) (r6 : Int) (w : World) (h : impl_DiTells.f a0 = some (r1, r2, r3, r4, r5, r6)) :
    Calls Try.prog 34 #[.int .u8 a0] w fun e w' => e = .returned (.agg #[.bool r1, .bool r2, .bool r3, .bool r4, .bool r5, .int .i64 r6]) ∧ Below w.heap.size w w' := by
  have hu65 := Try.underlying65
  have HB := Aside0.mk (Below.refl w.heap.size w)
  have H : ((di_Direction_Axis.f a0).bind fun t105 => ((di_Direction_Progression.f a0).bind fun t106 => ((di_Direction_IsVertical.f a0).bind fun t107 => ((di_Direction_HasVerticalOrientation.f a0).bind fun t108 => ((di_Direction_IsSideways.f a0).bind fun t109 => ((di_Direction_Harfbuzz.f a0).bind fun t110 => (some (t105, t106, t107, t108, t109, wrap64 (t110))))))))) = some (r1, r2, r3, r4, r5, r6) := h
  clear h
  replace H := Option.bind_eq_some_iff.mp H
  obtain ⟨t105, A20, H⟩ := H
  replace H : ((di_Direction_Progression.f a0).bind fun t106 => ((di_Direction_IsVertical.f a0).bind fun t107 => ((di_Direction_HasVerticalOrientation.f a0).bind fun t108 => ((di_Direction_IsSideways.f a0).bind fun t109 => ((di_Direction_Harfbuzz.f a0).bind fun t110 => (some (t105, t106, t107, t108, t109, wrap64 (t110)))))))) = some (r1, r2, r3, r4, r5, r6) := H
  have A2 := Aside0.mk A20
  clear A20
  replace H := Option.bind_eq_some_iff.mp H
  obtain ⟨t106, A30, H⟩ := H
  replace H : ((di_Direction_IsVertical.f a0).bind fun t107 => ((di_Direction_HasVerticalOrientation.f a0).bind fun t108 => ((di_Direction_IsSideways.f a0).bind fun t109 => ((di_Direction_Harfbuzz.f a0).bind fun t110 => (some (t105, t106, t107, t108, t109, wrap64 (t110))))))) = some (r1, r2, r3, r4, r5, r6) := H
  have A3 := Aside0.mk A30
  clear A30
  replace H := Option.bind_eq_some_iff.mp H
  obtain ⟨t107, A40, H⟩ := H
  replace H : ((di_Direction_HasVerticalOrientation.f a0).bind fun t108 => ((di_Direction_IsSideways.f a0).bind fun t109 => ((di_Direction_Harfbuzz.f a0).bind fun t110 => (some (t105, t106, t107, t108, t109, wrap64 (t110)))))) = some (r1, r2, r3, r4, r5, r6) := H
  have A4 := Aside0.mk A40
  clear A40
  replace H := Option.bind_eq_some_iff.mp H
  obtain ⟨t108, A50, H⟩ := H
  replace H : ((di_Direction_IsSideways.f a0).bind fun t109 => ((di_Direction_Harfbuzz.f a0).bind fun t110 => (some (t105, t106, t107, t108, t109, wrap64 (t110))))) = some (r1, r2, r3, r4, r5, r6) := H
  have A5 := Aside0.mk A50
  clear A50
  replace H := Option.bind_eq_some_iff.mp H
  obtain ⟨t109, A60, H⟩ := H
  replace H : ((di_Direction_Harfbuzz.f a0).bind fun t110 => (some (t105, t106, t107, t108, t109, wrap64 (t110)))) = some (r1, r2, r3, r4, r5, r6) := H
  have A6 := Aside0.mk A60
  clear A60
  replace H := Option.bind_eq_some_iff.mp H
  obtain ⟨t110, A70, H⟩ := H
  replace H : (some (t105, t106, t107, t108, t109, wrap64 (t110))) = some (r1, r2, r3, r4, r5, r6) := H
  have A7 := Aside0.mk A70
  clear A70
  simp only [Option.some.injEq, Prod.mk.injEq] at H
  obtain ⟨rfl, rfl, rfl, rfl, rfl, rfl⟩ := H
  go_enter Try.func34, Try.ntmps34
  go_wp2_with (first | ((with_reducible refine gate_dst (N := 2) rfl ?_); refine box_event ?hg (N := 2) ?hd (cs := #[.bool false, .bool false, .bool false, .bool false, .bool false, .int .i64 0]) (t := 65) ?hr ?_; (case hd => rfl); (case hg => rfl); (case hr => first | (go_simp; done) | (go_simp; rfl)); intro gb104 hg w8 hbox hb; have n0_ := Aside0.mk (below_step (by repeat (first | (with_reducible first | exact HB.out | apply below_alloc | apply pw_below_drewN | apply below_drew1) | exact HB.out)) hb); have n1_ := Aside0.mk (hbox); have n2_ := Aside0.mk ((by rw [hg]; exact (below_size (by repeat (first | (with_reducible first | exact HB.out | apply below_alloc | apply pw_below_drewN | apply below_drew1) | exact HB.out))) : w.heap.size ≤ gb104)); have n3_ := Aside0.mk ((by rw [hg]; exact (below_size (by repeat (first | (with_reducible first | exact HB.out | apply below_alloc | apply pw_below_drewN | apply below_drew1) | exact HB.out))) : w.heap.size ≤ gb104)); clear HB; have HB := n0_; have BK104 := n1_; have GW104 := n2_; have GE104 := n3_; clear n0_ n1_ n2_ n3_; clear hb hbox hg) | ((with_reducible refine gate_callee (f := 58) rfl ?_); refine goesL_ (some 6) rfl rfl Try.func58 (by kernel_rfl) rfl #[.int .u8 a0] rfl (by (try simp only [List.map_toArray, List.map_cons, List.map_nil]); first | done | rfl | (simp only [List.length_drop, List.length_take]; rfl)) ?_; (with_reducible refine (di_Direction_Axis.calls a0 t105 _ A2.out).mono ?_); rintro e w' ⟨rfl, ⟨nd, rfl⟩⟩; refine ⟨_, rfl, ?_⟩; (try (rw [drewN_self w8]; generalize hq_ : World.drewN w8 _ = w8; have n0_ : Aside0 (w8.heap[gb104]? = some (.cells #[.bool false, .bool false, .bool false, .bool false, .bool false, .int .i64 0] 65 (0, 0))) := ⟨by rw [← hq_]; exact (by (with_reducible repeat (first | refine blk_drewN ?_ _ | refine blk_drew ?_ | refine blk_alloc ?_ _)); exact BK104.out)⟩; have n1_ : Aside0 (Below w.heap.size w w8) := ⟨by rw [← hq_]; exact (by repeat (first | (with_reducible first | exact HB.out | apply below_alloc | apply pw_below_drewN | apply below_drew1 | refine below_set ?_ GE104.out) | exact HB.out))⟩; clear BK104 HB hq_; have BK104 := n0_; have HB := n1_; clear n0_ n1_))) | ((with_reducible refine gate_callee (f := 59) rfl ?_); refine goesL_ (some 9) rfl rfl Try.func59 (by kernel_rfl) rfl #[.int .u8 a0] rfl (by (try simp only [List.map_toArray, List.map_cons, List.map_nil]); first | done | rfl | (simp only [List.length_drop, List.length_take]; rfl)) ?_; (with_reducible refine (di_Direction_Progression.calls a0 t106 _ A3.out).mono ?_); rintro e w' ⟨rfl, ⟨nd, rfl⟩⟩; refine ⟨_, rfl, ?_⟩; (try (rw [drewN_self w8]; generalize hq_ : World.drewN w8 _ = w8; have n0_ : Aside0 (w8.heap[gb104]? = some (.cells #[.bool false, .bool false, .bool false, .bool false, .bool false, .int .i64 0] 65 (0, 0))) := ⟨by rw [← hq_]; exact (by (with_reducible repeat (first | refine blk_drewN ?_ _ | refine blk_drew ?_ | refine blk_alloc ?_ _)); exact BK104.out)⟩; have n1_ : Aside0 (Below w.heap.size w w8) := ⟨by rw [← hq_]; exact (by repeat (first | (with_reducible first | exact HB.out | apply below_alloc | apply pw_below_drewN | apply below_drew1 | refine below_set ?_ GE104.out) | exact HB.out))⟩; clear BK104 HB hq_; have BK104 := n0_; have HB := n1_; clear n0_ n1_))) | ((with_reducible refine gate_callee (f := 60) rfl ?_); refine goesL_ (some 12) rfl rfl Try.func60 (by kernel_rfl) rfl #[.int .u8 a0] rfl (by (try simp only [List.map_toArray, List.map_cons, List.map_nil]); first | done | rfl | (simp only [List.length_drop, List.length_take]; rfl)) ?_; (with_reducible refine (di_Direction_IsVertical.calls a0 t107 _ A4.out).mono ?_); rintro e w' ⟨rfl, ⟨nd, rfl⟩⟩; refine ⟨_, rfl, ?_⟩; (try (rw [drewN_self w8]; generalize hq_ : World.drewN w8 _ = w8; have n0_ : Aside0 (w8.heap[gb104]? = some (.cells #[.bool false, .bool false, .bool false, .bool false, .bool false, .int .i64 0] 65 (0, 0))) := ⟨by rw [← hq_]; exact (by (with_reducible repeat (first | refine blk_drewN ?_ _ | refine blk_drew ?_ | refine blk_alloc ?_ _)); exact BK104.out)⟩; have n1_ : Aside0 (Below w.heap.size w w8) := ⟨by rw [← hq_]; exact (by repeat (first | (with_reducible first | exact HB.out | apply below_alloc | apply pw_below_drewN | apply below_drew1 | refine below_set ?_ GE104.out) | exact HB.out))⟩; clear BK104 HB hq_; have BK104 := n0_; have HB := n1_; clear n0_ n1_))) | ((with_reducible refine gate_callee (f := 61) rfl ?_); refine goesL_ (some 14) rfl rfl Try.func61 (by kernel_rfl) rfl #[.int .u8 a0] rfl (by (try simp only [List.map_toArray, List.map_cons, List.map_nil]); first | done | rfl | (simp only [List.length_drop, List.length_take]; rfl)) ?_; (with_reducible refine (di_Direction_HasVerticalOrientation.calls a0 t108 _ A5.out).mono ?_); rintro e w' ⟨rfl, ⟨nd, rfl⟩⟩; refine ⟨_, rfl, ?_⟩; (try (rw [drewN_self w8]; generalize hq_ : World.drewN w8 _ = w8; have n0_ : Aside0 (w8.heap[gb104]? = some (.cells #[.bool false, .bool false, .bool false, .bool false, .bool false, .int .i64 0] 65 (0, 0))) := ⟨by rw [← hq_]; exact (by (with_reducible repeat (first | refine blk_drewN ?_ _ | refine blk_drew ?_ | refine blk_alloc ?_ _)); exact BK104.out)⟩; have n1_ : Aside0 (Below w.heap.size w w8) := ⟨by rw [← hq_]; exact (by repeat (first | (with_reducible first | exact HB.out | apply below_alloc | apply pw_below_drewN | apply below_drew1 | refine below_set ?_ GE104.out) | exact HB.out))⟩; clear BK104 HB hq_; have BK104 := n0_; have HB := n1_; clear n0_ n1_))) | ((with_reducible refine gate_callee (f := 62) rfl ?_); refine goesL_ (some 16) rfl rfl Try.func62 (by kernel_rfl) rfl #[.int .u8 a0] rfl (by (try simp only [List.map_toArray, List.map_cons, List.map_nil]); first | done | rfl | (simp only [List.length_drop, List.length_take]; rfl)) ?_; (with_reducible refine (di_Direction_IsSideways.calls a0 t109 _ A6.out).mono ?_); rintro e w' ⟨rfl, ⟨nd, rfl⟩⟩; refine ⟨_, rfl, ?_⟩; (try (rw [drewN_self w8]; generalize hq_ : World.drewN w8 _ = w8; have n0_ : Aside0 (w8.heap[gb104]? = some (.cells #[.bool false, .bool false, .bool false, .bool false, .bool false, .int .i64 0] 65 (0, 0))) := ⟨by rw [← hq_]; exact (by (with_reducible repeat (first | refine blk_drewN ?_ _ | refine blk_drew ?_ | refine blk_alloc ?_ _)); exact BK104.out)⟩; have n1_ : Aside0 (Below w.heap.size w w8) := ⟨by rw [← hq_]; exact (by repeat (first | (with_reducible first | exact HB.out | apply below_alloc | apply pw_below_drewN | apply below_drew1 | refine below_set ?_ GE104.out) | exact HB.out))⟩; clear BK104 HB hq_; have BK104 := n0_; have HB := n1_; clear n0_ n1_))) | ((with_reducible refine gate_callee (f := 63) rfl ?_); refine goesL_ (some 18) rfl rfl Try.func63 (by kernel_rfl) rfl #[.int .u8 a0] rfl (by (try simp only [List.map_toArray, List.map_cons, List.map_nil]); first | done | rfl | (simp only [List.length_drop, List.length_take]; rfl)) ?_; (with_reducible refine (di_Direction_Harfbuzz.calls a0 t110 _ A7.out).mono ?_); rintro e w' ⟨rfl, ⟨nd, rfl⟩⟩; refine ⟨_, rfl, ?_⟩; (try (rw [drewN_self w8]; generalize hq_ : World.drewN w8 _ = w8; have n0_ : Aside0 (w8.heap[gb104]? = some (.cells #[.bool false, .bool false, .bool false, .bool false, .bool false, .int .i64 0] 65 (0, 0))) := ⟨by rw [← hq_]; exact (by (with_reducible repeat (first | refine blk_drewN ?_ _ | refine blk_drew ?_ | refine blk_alloc ?_ _)); exact BK104.out)⟩; have n1_ : Aside0 (Below w.heap.size w w8) := ⟨by rw [← hq_]; exact (by repeat (first | (with_reducible first | exact HB.out | apply below_alloc | apply pw_below_drewN | apply below_drew1 | refine below_set ?_ GE104.out) | exact HB.out))⟩; clear BK104 HB hq_; have BK104 := n0_; have HB := n1_; clear n0_ n1_)); have hcz9_0 : w8.cell? ⟨gb104, 0, none⟩ = some (.bool false) := (blk_cell BK104.out 0).trans rfl; have hcz9_1 : w8.cell? ⟨gb104, 1, none⟩ = some (.bool false) := (blk_cell BK104.out 1).trans rfl; have hcz9_2 : w8.cell? ⟨gb104, 2, none⟩ = some (.bool false) := (blk_cell BK104.out 2).trans rfl; have hcz9_3 : w8.cell? ⟨gb104, 3, none⟩ = some (.bool false) := (blk_cell BK104.out 3).trans rfl; have hcz9_4 : w8.cell? ⟨gb104, 4, none⟩ = some (.bool false) := (blk_cell BK104.out 4).trans rfl; have hcz9_5 : w8.cell? ⟨gb104, 5, none⟩ = some (.int .i64 0) := (blk_cell BK104.out 5).trans rfl; have hfz9_0 := blk_frozen BK104.out 0; have hfz9_1 := blk_frozen BK104.out 1; have hfz9_2 := blk_frozen BK104.out 2; have hfz9_3 := blk_frozen BK104.out 3; have hfz9_4 := blk_frozen BK104.out 4; have hfz9_5 := blk_frozen BK104.out 5))
  refine bodyPost_ret (results_cell_row rfl _ _ gb104 65 #[.bool t105, .bool t106, .bool t107, .bool t108, .bool t109, .int .i64 (wrap64 (t110))] (0, 0) _ rfl (by (with_reducible repeat (first | refine blk_drewN ?_ _ | refine blk_drew ?_ | refine blk_alloc ?_ _)); refine blk_put (cs := #[.bool t105, .bool t106, .bool t107, .bool t108, .bool t109, .int .i64 0]) ?_ 5 _ rfl; (with_reducible repeat (first | refine blk_drewN ?_ _ | refine blk_drew ?_ | refine blk_alloc ?_ _)); refine blk_put (cs := #[.bool t105, .bool t106, .bool t107, .bool t108, .bool false, .int .i64 0]) ?_ 4 _ rfl; (with_reducible repeat (first | refine blk_drewN ?_ _ | refine blk_drew ?_ | refine blk_alloc ?_ _)); refine blk_put (cs := #[.bool t105, .bool t106, .bool t107, .bool false, .bool false, .int .i64 0]) ?_ 3 _ rfl; (with_reducible repeat (first | refine blk_drewN ?_ _ | refine blk_drew ?_ | refine blk_alloc ?_ _)); refine blk_put (cs := #[.bool t105, .bool t106, .bool false, .bool false, .bool false, .int .i64 0]) ?_ 2 _ rfl; (with_reducible repeat (first | refine blk_drewN ?_ _ | refine blk_drew ?_ | refine blk_alloc ?_ _)); refine blk_put (cs := #[.bool t105, .bool false, .bool false, .bool false, .bool false, .int .i64 0]) ?_ 1 _ rfl; (with_reducible repeat (first | refine blk_drewN ?_ _ | refine blk_drew ?_ | refine blk_alloc ?_ _)); refine blk_put (cs := #[.bool false, .bool false, .bool false, .bool false, .bool false, .int .i64 0]) ?_ 0 _ rfl; (with_reducible repeat (first | refine blk_drewN ?_ _ | refine blk_drew ?_ | refine blk_alloc ?_ _)); exact BK104.out) Try.underlying65 rfl (by kernel_rfl)) rfl ?_
  exact ⟨by first | rfl | (simp [errW_none, errW_some] <;> rfl) | (simp [*, errW_none, errW_some] <;> rfl), by repeat (first | (with_reducible first | exact HB.out | apply below_alloc | apply pw_below_drewN | apply below_drew1 | refine below_set ?_ GE104.out) | exact HB.out)⟩

/-! ### di_Direction_SwitchAxis: function 64 -/
def di_Direction_SwitchAxis.f (a0 : Int) : Option (Int) := some (Go.bits .xor .u8 a0 2)
set_option maxHeartbeats 8000000 in
set_option maxRecDepth 100000 in
theorem di_Direction_SwitchAxis.calls (a0 : Int) (r : Int) (w : World) (h : di_Direction_SwitchAxis.f a0 = some r) :
    Calls Try.prog 64 #[.int .u8 a0] w fun e w' => e = .returned (.int .u8 r) ∧ Drawn0 w w' := by
  have H : (some (Go.bits .xor .u8 a0 2)) = some r := h
  clear h
  obtain rfl := Option.some.inj H
  go_enter Try.func64, Try.ntmps64
  go_wp2
  go_ret
  exact ⟨by first | rfl | (simp; done) | (simp [*]; done), by repeat (first | exact Drawn0.refl _ | apply Drawn0.step)⟩

/-! ### impl_DiSwitch: function 35 -/
def impl_DiSwitch.f (a0 : Int) : Option (Int) := (di_Direction_SwitchAxis.f a0).bind fun t111 => (some t111)
set_option maxHeartbeats 8000000 in
set_option maxRecDepth 100000 in
theorem impl_DiSwitch.calls (a0 : Int) (r : Int) (w : World) (h : impl_DiSwitch.f a0 = some r) :
    Calls Try.prog 35 #[.int .u8 a0] w fun e w' => e = .returned (.int .u8 r) ∧ Drawn0 w w' := by
  have H : ((di_Direction_SwitchAxis.f a0).bind fun t111 => (some t111)) = some r := h
  clear h
  replace H := Option.bind_eq_some_iff.mp H
  obtain ⟨t111, A20, H⟩ := H
  replace H : (some t111) = some r := H
  have A2 := Aside0.mk A20
  clear A20
  obtain rfl := Option.some.inj H
  go_enter Try.func35, Try.ntmps35
  go_wp2_with (first | ((with_reducible refine gate_callee (f := 64) rfl ?_); refine goesL_ (some 4) rfl rfl Try.func64 (by kernel_rfl) rfl #[.int .u8 a0] rfl (by (try simp only [List.map_toArray, List.map_cons, List.map_nil]); first | done | rfl | (simp only [List.length_drop, List.length_take]; rfl)) ?_; (with_reducible refine (di_Direction_SwitchAxis.calls a0 t111 _ A2.out).mono ?_); rintro e w' ⟨rfl, ⟨nd, rfl⟩⟩; refine ⟨_, rfl, ?_⟩))
  go_ret
  exact ⟨by first | rfl | (simp; done) | (simp [*]; done), by repeat (first | exact Drawn0.refl _ | apply Drawn0.step)⟩

-- NOT PRINTED: function 65 (di_Direction_SetProgression)

/-! ### impl_DiSetProgression: function 36 -/
def impl_DiSetProgression.f (a0 : Int) (a1 : Bool) : Option (Int) := some (if a1 = true then Go.bits .or .u8 a0 1 else Go.bits .and .u8 a0 254)
set_option maxHeartbeats 400000 in
theorem impl_DiSetProgression.calls (a0 : Int) (a1 : Bool) (r : Int) (w : World) (h : impl_DiSetProgression.f a0 a1 = some r) :
    Calls Try.prog 36 #[.int .u8 a0, .bool a1] w fun e w' => e = .returned (.int .u8 r) ∧ Below w.heap.size w w' := by
  obtain rfl := Option.some.inj h
  cases a1
  all_goals
    go_enter Try.func36, Try.ntmps36
    go_wp2
    go_end0
    go_wp2
    go_ret
    exact ⟨rfl, (Below.refl _ _).alloc (Nat.le_refl _) _⟩

-- NOT PRINTED: function 66 (di_Direction_SetSideways)

/-! ### impl_DiSetSideways: function 37 -/
def impl_DiSetSideways.f (a0 : Int) (a1 : Bool) : Option (Int) := some (if a1 = true then Go.bits .or .u8 (Go.bits .or .u8 a0 6) 8 else Go.bits .and .u8 (Go.bits .or .u8 a0 6) 247)
set_option maxHeartbeats 400000 in
theorem impl_DiSetSideways.calls (a0 : Int) (a1 : Bool) (r : Int) (w : World) (h : impl_DiSetSideways.f a0 a1 = some r) :
    Calls Try.prog 37 #[.int .u8 a0, .bool a1] w fun e w' => e = .returned (.int .u8 r) ∧ Below w.heap.size w w' := by
  obtain rfl := Option.some.inj h
  cases a1
  all_goals
    go_enter Try.func37, Try.ntmps37
    go_wp2
    go_end0
    go_wp2
    go_ret
    exact ⟨rfl, (Below.refl _ _).alloc (Nat.le_refl _) _⟩

/-! ### spec_Di_Does: function 38 -/
def spec_Di_Does.f (a0_0 : Bool) (a0_1 : Bool) (a0_2 : Bool) (a0_3 : Bool) (a0_4 : Bool) (a1 : Int) : Option (Bool × Bool × Bool × Bool × Bool) := if a1 = 0 then (some (!a0_0, a0_1, false, a0_3, a0_4)) else (if a1 = 1 then (some (a0_0, (a1 == 2), a0_2, a0_3, a0_4)) else (if a1 = 2 then (some (a0_0, true, a0_2, a0_3, a0_4)) else (some (true, a0_1, true, true, (a1 == 4)))))
set_option maxHeartbeats 8000000 in
set_option maxRecDepth 100000 in
theorem spec_Di_Does.calls (a0_0 : Bool) (a0_1 : Bool) (a0_2 : Bool) (a0_3 : Bool) (a0_4 : Bool) (a1 : Int) (r1 : Bool) (r2 : Bool) (r3 : Bool) (r4 : Bool) (r5 : Bool) (w : World) (h : spec_Di_Does.f a0_0 a0_1 a0_2 a0_3 a0_4 a1 = some (r1, r2, r3, r4, r5)) :
    Calls Try.prog 38 #[.agg #[.bool a0_0, .bool a0_1, .bool a0_2, .bool a0_3, .bool a0_4], .int .u8 a1] w fun e w' => e = .returned (.agg #[.bool r1, .bool r2, .bool r3, .bool r4, .bool r5]) ∧ Below w.heap.size w w' := by
  have hu62 := Try.underlying62
  have HB := Aside0.mk (Below.refl w.heap.size w)
  have H : (if a1 = 0 then (some (!a0_0, a0_1, false, a0_3, a0_4)) else (if a1 = 1 then (some (a0_0, (a1 == 2), a0_2, a0_3, a0_4)) else (if a1 = 2 then (some (a0_0, true, a0_2, a0_3, a0_4)) else (some (true, a0_1, true, true, (a1 == 4)))))) = some (r1, r2, r3, r4, r5) := h
  clear h
  by_cases c3 : a1 = 0
  · rw [if_pos c3] at H
    have c3b0 : (a1 == 0) = true := beq_iff_eq.mpr c3
    have c3b1 : (a1 != 0) = false := bne_eq_false_iff_eq.mpr c3
    clear c3
    simp only [Option.some.injEq, Prod.mk.injEq] at H
    obtain ⟨rfl, rfl, rfl, rfl, rfl⟩ := H
    go_enter Try.func38, Try.ntmps38
    go_wp2_with (first | ((with_reducible refine gate_dst (N := 2) rfl ?_); refine box_event ?hg (N := 2) ?hd (cs := #[.bool a0_0, .bool a0_1, .bool a0_2, .bool a0_3, .bool a0_4]) (t := 62) ?hr ?_; (case hd => rfl); (case hg => rfl); (case hr => first | (go_simp; done) | (go_simp; rfl)); intro gb112 hg w4 hbox hb; have n0_ := Aside0.mk (below_step (by repeat (first | (with_reducible first | exact HB.out | apply below_alloc | apply pw_below_drewN | apply below_drew1) | exact HB.out)) hb); have n1_ := Aside0.mk (hbox); have n2_ := Aside0.mk ((by rw [hg]; exact (below_size (by repeat (first | (with_reducible first | exact HB.out | apply below_alloc | apply pw_below_drewN | apply below_drew1) | exact HB.out))) : w.heap.size ≤ gb112)); have n3_ := Aside0.mk ((by rw [hg]; exact (below_size (by repeat (first | (with_reducible first | exact HB.out | apply below_alloc | apply pw_below_drewN | apply below_drew1) | exact HB.out))) : w.heap.size ≤ gb112)); clear HB; have HB := n0_; have BK112 := n1_; have GW112 := n2_; have GE112 := n3_; clear n0_ n1_ n2_ n3_; clear hb hbox hg) | ((with_reducible refine gate_dst (N := 4) rfl ?_); refine box_event ?hg (N := 4) ?hd (cs := #[.bool false, .bool false, .bool false, .bool false, .bool false]) (t := 62) ?hr ?_; (case hd => rfl); (case hg => rfl); (case hr => first | (go_simp; done) | (go_simp; rfl)); intro gb113 hg w5 hbox hb; have n0_ := Aside0.mk (blk_below (g := gb112) (o := .cells #[.bool a0_0, .bool a0_1, .bool a0_2, .bool a0_3, .bool a0_4] 62 (0, 0)) (by (with_reducible repeat (first | refine blk_drewN ?_ _ | refine blk_drew ?_ | refine blk_alloc ?_ _)); exact BK112.out) hb); have n1_ := Aside0.mk (below_step (by repeat (first | (with_reducible first | exact HB.out | apply below_alloc | apply pw_below_drewN | apply below_drew1 | refine below_set ?_ GE112.out) | exact HB.out)) hb); have n2_ := Aside0.mk (hbox); have n3_ := Aside0.mk ((by rw [hg]; exact (below_size (by repeat (first | (with_reducible first | exact HB.out | apply below_alloc | apply pw_below_drewN | apply below_drew1 | refine below_set ?_ GE112.out) | exact HB.out))) : w.heap.size ≤ gb113)); have n4_ := Aside0.mk ((by rw [hg]; exact (below_size (by repeat (first | (with_reducible first | exact HB.out | apply below_alloc | apply pw_below_drewN | apply below_drew1 | refine below_set ?_ GE112.out) | exact HB.out))) : w.heap.size ≤ gb113)); have n5_ := Aside0.mk ((by rw [hg]; exact Nat.ne_of_lt (blk_lt (g := gb112) (o := .cells #[.bool a0_0, .bool a0_1, .bool a0_2, .bool a0_3, .bool a0_4] 62 (0, 0)) (by (with_reducible repeat (first | refine blk_drewN ?_ _ | refine blk_drew ?_ | refine blk_alloc ?_ _)); exact BK112.out)) : gb112 ≠ gb113)); have n6_ := Aside0.mk ((by rw [hg]; exact Nat.ne_of_gt (blk_lt (g := gb112) (o := .cells #[.bool a0_0, .bool a0_1, .bool a0_2, .bool a0_3, .bool a0_4] 62 (0, 0)) (by (with_reducible repeat (first | refine blk_drewN ?_ _ | refine blk_drew ?_ | refine blk_alloc ?_ _)); exact BK112.out)) : gb113 ≠ gb112)); clear BK112; clear HB; have BK112 := n0_; have HB := n1_; have BK113 := n2_; have GW113 := n3_; have GE113 := n4_; have NB112_113 := n5_; have NB113_112 := n6_; clear n0_ n1_ n2_ n3_ n4_ n5_ n6_; clear hb hbox hg; have hnb6 := NB112_113.out; have hnc6 := NB113_112.out; have hcz7_0 : w5.cell? ⟨gb112, 0, none⟩ = some (.bool a0_0) := (blk_cell BK112.out 0).trans rfl; have hcz7_1 : w5.cell? ⟨gb112, 1, none⟩ = some (.bool a0_1) := (blk_cell BK112.out 1).trans rfl; have hcz7_2 : w5.cell? ⟨gb112, 2, none⟩ = some (.bool a0_2) := (blk_cell BK112.out 2).trans rfl; have hcz7_3 : w5.cell? ⟨gb112, 3, none⟩ = some (.bool a0_3) := (blk_cell BK112.out 3).trans rfl; have hcz7_4 : w5.cell? ⟨gb112, 4, none⟩ = some (.bool a0_4) := (blk_cell BK112.out 4).trans rfl; have hfz7_0 := blk_frozen BK112.out 0; have hfz7_1 := blk_frozen BK112.out 1; have hfz7_2 := blk_frozen BK112.out 2; have hfz7_3 := blk_frozen BK112.out 3; have hfz7_4 := blk_frozen BK112.out 4; have hcz8_0 : w5.cell? ⟨gb113, 0, none⟩ = some (.bool false) := (blk_cell BK113.out 0).trans rfl; have hcz8_1 : w5.cell? ⟨gb113, 1, none⟩ = some (.bool false) := (blk_cell BK113.out 1).trans rfl; have hcz8_2 : w5.cell? ⟨gb113, 2, none⟩ = some (.bool false) := (blk_cell BK113.out 2).trans rfl; have hcz8_3 : w5.cell? ⟨gb113, 3, none⟩ = some (.bool false) := (blk_cell BK113.out 3).trans rfl; have hcz8_4 : w5.cell? ⟨gb113, 4, none⟩ = some (.bool false) := (blk_cell BK113.out 4).trans rfl; have hfz8_0 := blk_frozen BK113.out 0; have hfz8_1 := blk_frozen BK113.out 1; have hfz8_2 := blk_frozen BK113.out 2; have hfz8_3 := blk_frozen BK113.out 3; have hfz8_4 := blk_frozen BK113.out 4))
    refine bodyPost_ret (results_cell_row rfl _ _ gb113 62 #[.bool (!a0_0), .bool a0_1, .bool false, .bool a0_3, .bool a0_4] (0, 0) _ rfl (by (with_reducible repeat (first | refine blk_drewN ?_ _ | refine blk_drew ?_ | refine blk_alloc ?_ _)); refine blk_put (cs := #[.bool (!a0_0), .bool a0_1, .bool false, .bool a0_3, .bool false]) ?_ 4 _ rfl; (with_reducible repeat (first | refine blk_drewN ?_ _ | refine blk_drew ?_ | refine blk_alloc ?_ _)); refine blk_put (cs := #[.bool (!a0_0), .bool a0_1, .bool false, .bool false, .bool false]) ?_ 3 _ rfl; (with_reducible repeat (first | refine blk_drewN ?_ _ | refine blk_drew ?_ | refine blk_alloc ?_ _)); refine blk_put (cs := #[.bool (!a0_0), .bool a0_1, .bool false, .bool false, .bool false]) ?_ 2 _ rfl; (with_reducible repeat (first | refine blk_drewN ?_ _ | refine blk_drew ?_ | refine blk_alloc ?_ _)); refine blk_put (cs := #[.bool (!a0_0), .bool false, .bool false, .bool false, .bool false]) ?_ 1 _ rfl; (with_reducible repeat (first | refine blk_drewN ?_ _ | refine blk_drew ?_ | refine blk_alloc ?_ _)); refine blk_put (cs := #[.bool false, .bool false, .bool false, .bool false, .bool false]) ?_ 0 _ rfl; (with_reducible repeat (first | refine blk_drewN ?_ _ | refine blk_drew ?_ | refine blk_alloc ?_ _)); refine blk_far ?_ NB113_112.out _; (with_reducible repeat (first | refine blk_drewN ?_ _ | refine blk_drew ?_ | refine blk_alloc ?_ _)); refine blk_far ?_ NB113_112.out _; (with_reducible repeat (first | refine blk_drewN ?_ _ | refine blk_drew ?_ | refine blk_alloc ?_ _)); exact BK113.out) Try.underlying62 rfl (by kernel_rfl)) rfl ?_
    exact ⟨by first | rfl | (simp [errW_none, errW_some] <;> rfl) | (simp [*, errW_none, errW_some] <;> rfl), by repeat (first | (with_reducible first | exact HB.out | apply below_alloc | apply pw_below_drewN | apply below_drew1 | refine below_set ?_ GE112.out | refine below_set ?_ GE113.out) | exact HB.out)⟩
  · rw [if_neg c3] at H
    have c3b0 : (a1 == 0) = false := beq_eq_false_iff_ne.mpr c3
    have c3b1 : (a1 != 0) = true := bne_iff_ne.mpr c3
    by_cases c9 : a1 = 1
    · rw [if_pos c9] at H
      have c9b0 : (a1 == 1) = true := beq_iff_eq.mpr c9
      have c9b1 : (a1 != 1) = false := bne_eq_false_iff_eq.mpr c9
      clear c9
      simp only [Option.some.injEq, Prod.mk.injEq] at H
      obtain ⟨rfl, rfl, rfl, rfl, rfl⟩ := H
      go_enter Try.func38, Try.ntmps38
      go_wp2_with (first | ((with_reducible refine gate_dst (N := 2) rfl ?_); refine box_event ?hg (N := 2) ?hd (cs := #[.bool a0_0, .bool a0_1, .bool a0_2, .bool a0_3, .bool a0_4]) (t := 62) ?hr ?_; (case hd => rfl); (case hg => rfl); (case hr => first | (go_simp; done) | (go_simp; rfl)); intro gb112 hg w10 hbox hb; have n0_ := Aside0.mk (below_step (by repeat (first | (with_reducible first | exact HB.out | apply below_alloc | apply pw_below_drewN | apply below_drew1) | exact HB.out)) hb); have n1_ := Aside0.mk (hbox); have n2_ := Aside0.mk ((by rw [hg]; exact (below_size (by repeat (first | (with_reducible first | exact HB.out | apply below_alloc | apply pw_below_drewN | apply below_drew1) | exact HB.out))) : w.heap.size ≤ gb112)); have n3_ := Aside0.mk ((by rw [hg]; exact (below_size (by repeat (first | (with_reducible first | exact HB.out | apply below_alloc | apply pw_below_drewN | apply below_drew1) | exact HB.out))) : w.heap.size ≤ gb112)); clear HB; have HB := n0_; have BK112 := n1_; have GW112 := n2_; have GE112 := n3_; clear n0_ n1_ n2_ n3_; clear hb hbox hg) | ((with_reducible refine gate_dst (N := 4) rfl ?_); refine box_event ?hg (N := 4) ?hd (cs := #[.bool false, .bool false, .bool false, .bool false, .bool false]) (t := 62) ?hr ?_; (case hd => rfl); (case hg => rfl); (case hr => first | (go_simp; done) | (go_simp; rfl)); intro gb113 hg w11 hbox hb; have n0_ := Aside0.mk (blk_below (g := gb112) (o := .cells #[.bool a0_0, .bool a0_1, .bool a0_2, .bool a0_3, .bool a0_4] 62 (0, 0)) (by (with_reducible repeat (first | refine blk_drewN ?_ _ | refine blk_drew ?_ | refine blk_alloc ?_ _)); exact BK112.out) hb); have n1_ := Aside0.mk (below_step (by repeat (first | (with_reducible first | exact HB.out | apply below_alloc | apply pw_below_drewN | apply below_drew1 | refine below_set ?_ GE112.out) | exact HB.out)) hb); have n2_ := Aside0.mk (hbox); have n3_ := Aside0.mk ((by rw [hg]; exact (below_size (by repeat (first | (with_reducible first | exact HB.out | apply below_alloc | apply pw_below_drewN | apply below_drew1 | refine below_set ?_ GE112.out) | exact HB.out))) : w.heap.size ≤ gb113)); have n4_ := Aside0.mk ((by rw [hg]; exact (below_size (by repeat (first | (with_reducible first | exact HB.out | apply below_alloc | apply pw_below_drewN | apply below_drew1 | refine below_set ?_ GE112.out) | exact HB.out))) : w.heap.size ≤ gb113)); have n5_ := Aside0.mk ((by rw [hg]; exact Nat.ne_of_lt (blk_lt (g := gb112) (o := .cells #[.bool a0_0, .bool a0_1, .bool a0_2, .bool a0_3, .bool a0_4] 62 (0, 0)) (by (with_reducible repeat (first | refine blk_drewN ?_ _ | refine blk_drew ?_ | refine blk_alloc ?_ _)); exact BK112.out)) : gb112 ≠ gb113)); have n6_ := Aside0.mk ((by rw [hg]; exact Nat.ne_of_gt (blk_lt (g := gb112) (o := .cells #[.bool a0_0, .bool a0_1, .bool a0_2, .bool a0_3, .bool a0_4] 62 (0, 0)) (by (with_reducible repeat (first | refine blk_drewN ?_ _ | refine blk_drew ?_ | refine blk_alloc ?_ _)); exact BK112.out)) : gb113 ≠ gb112)); clear BK112; clear HB; have BK112 := n0_; have HB := n1_; have BK113 := n2_; have GW113 := n3_; have GE113 := n4_; have NB112_113 := n5_; have NB113_112 := n6_; clear n0_ n1_ n2_ n3_ n4_ n5_ n6_; clear hb hbox hg; have hnb12 := NB112_113.out; have hnc12 := NB113_112.out; have hcz13_0 : w11.cell? ⟨gb112, 0, none⟩ = some (.bool a0_0) := (blk_cell BK112.out 0).trans rfl; have hcz13_1 : w11.cell? ⟨gb112, 1, none⟩ = some (.bool a0_1) := (blk_cell BK112.out 1).trans rfl; have hcz13_2 : w11.cell? ⟨gb112, 2, none⟩ = some (.bool a0_2) := (blk_cell BK112.out 2).trans rfl; have hcz13_3 : w11.cell? ⟨gb112, 3, none⟩ = some (.bool a0_3) := (blk_cell BK112.out 3).trans rfl; have hcz13_4 : w11.cell? ⟨gb112, 4, none⟩ = some (.bool a0_4) := (blk_cell BK112.out 4).trans rfl; have hfz13_0 := blk_frozen BK112.out 0; have hfz13_1 := blk_frozen BK112.out 1; have hfz13_2 := blk_frozen BK112.out 2; have hfz13_3 := blk_frozen BK112.out 3; have hfz13_4 := blk_frozen BK112.out 4; have hcz14_0 : w11.cell? ⟨gb113, 0, none⟩ = some (.bool false) := (blk_cell BK113.out 0).trans rfl; have hcz14_1 : w11.cell? ⟨gb113, 1, none⟩ = some (.bool false) := (blk_cell BK113.out 1).trans rfl; have hcz14_2 : w11.cell? ⟨gb113, 2, none⟩ = some (.bool false) := (blk_cell BK113.out 2).trans rfl; have hcz14_3 : w11.cell? ⟨gb113, 3, none⟩ = some (.bool false) := (blk_cell BK113.out 3).trans rfl; have hcz14_4 : w11.cell? ⟨gb113, 4, none⟩ = some (.bool false) := (blk_cell BK113.out 4).trans rfl; have hfz14_0 := blk_frozen BK113.out 0; have hfz14_1 := blk_frozen BK113.out 1; have hfz14_2 := blk_frozen BK113.out 2; have hfz14_3 := blk_frozen BK113.out 3; have hfz14_4 := blk_frozen BK113.out 4))
      refine bodyPost_ret (results_cell_row rfl _ _ gb113 62 #[.bool a0_0, .bool (a1 == 2), .bool a0_2, .bool a0_3, .bool a0_4] (0, 0) _ rfl (by (with_reducible repeat (first | refine blk_drewN ?_ _ | refine blk_drew ?_ | refine blk_alloc ?_ _)); refine blk_put (cs := #[.bool a0_0, .bool (a1 == 2), .bool a0_2, .bool a0_3, .bool false]) ?_ 4 _ rfl; (with_reducible repeat (first | refine blk_drewN ?_ _ | refine blk_drew ?_ | refine blk_alloc ?_ _)); refine blk_put (cs := #[.bool a0_0, .bool (a1 == 2), .bool a0_2, .bool false, .bool false]) ?_ 3 _ rfl; (with_reducible repeat (first | refine blk_drewN ?_ _ | refine blk_drew ?_ | refine blk_alloc ?_ _)); refine blk_put (cs := #[.bool a0_0, .bool (a1 == 2), .bool false, .bool false, .bool false]) ?_ 2 _ rfl; (with_reducible repeat (first | refine blk_drewN ?_ _ | refine blk_drew ?_ | refine blk_alloc ?_ _)); refine blk_put (cs := #[.bool a0_0, .bool false, .bool false, .bool false, .bool false]) ?_ 1 _ rfl; (with_reducible repeat (first | refine blk_drewN ?_ _ | refine blk_drew ?_ | refine blk_alloc ?_ _)); refine blk_put (cs := #[.bool false, .bool false, .bool false, .bool false, .bool false]) ?_ 0 _ rfl; (with_reducible repeat (first | refine blk_drewN ?_ _ | refine blk_drew ?_ | refine blk_alloc ?_ _)); refine blk_far ?_ NB113_112.out _; (with_reducible repeat (first | refine blk_drewN ?_ _ | refine blk_drew ?_ | refine blk_alloc ?_ _)); exact BK113.out) Try.underlying62 rfl (by kernel_rfl)) rfl ?_
      exact ⟨by first | rfl | (simp [errW_none, errW_some] <;> rfl) | (simp [*, errW_none, errW_some] <;> rfl), by repeat (first | (with_reducible first | exact HB.out | apply below_alloc | apply pw_below_drewN | apply below_drew1 | refine below_set ?_ GE112.out | refine below_set ?_ GE113.out) | exact HB.out)⟩
    · rw [if_neg c9] at H
      have c9b0 : (a1 == 1) = false := beq_eq_false_iff_ne.mpr c9
      have c9b1 : (a1 != 1) = true := bne_iff_ne.mpr c9
      by_cases c15 : a1 = 2
      · rw [if_pos c15] at H
        have c15b0 : (a1 == 2) = true := beq_iff_eq.mpr c15
        have c15b1 : (a1 != 2) = false := bne_eq_false_iff_eq.mpr c15
        clear c15
        simp only [Option.some.injEq, Prod.mk.injEq] at H
        obtain ⟨rfl, rfl, rfl, rfl, rfl⟩ := H
        go_enter Try.func38, Try.ntmps38
        go_wp2_with (first | ((with_reducible refine gate_dst (N := 2) rfl ?_); refine box_event ?hg (N := 2) ?hd (cs := #[.bool a0_0, .bool a0_1, .bool a0_2, .bool a0_3, .bool a0_4]) (t := 62) ?hr ?_; (case hd => rfl); (case hg => rfl); (case hr => first | (go_simp; done) | (go_simp; rfl)); intro gb112 hg w16 hbox hb; have n0_ := Aside0.mk (below_step (by repeat (first | (with_reducible first | exact HB.out | apply below_alloc | apply pw_below_drewN | apply below_drew1) | exact HB.out)) hb); have n1_ := Aside0.mk (hbox); have n2_ := Aside0.mk ((by rw [hg]; exact (below_size (by repeat (first | (with_reducible first | exact HB.out | apply below_alloc | apply pw_below_drewN | apply below_drew1) | exact HB.out))) : w.heap.size ≤ gb112)); have n3_ := Aside0.mk ((by rw [hg]; exact (below_size (by repeat (first | (with_reducible first | exact HB.out | apply below_alloc | apply pw_below_drewN | apply below_drew1) | exact HB.out))) : w.heap.size ≤ gb112)); clear HB; have HB := n0_; have BK112 := n1_; have GW112 := n2_; have GE112 := n3_; clear n0_ n1_ n2_ n3_; clear hb hbox hg) | ((with_reducible refine gate_dst (N := 4) rfl ?_); refine box_event ?hg (N := 4) ?hd (cs := #[.bool false, .bool false, .bool false, .bool false, .bool false]) (t := 62) ?hr ?_; (case hd => rfl); (case hg => rfl); (case hr => first | (go_simp; done) | (go_simp; rfl)); intro gb113 hg w17 hbox hb; have n0_ := Aside0.mk (blk_below (g := gb112) (o := .cells #[.bool a0_0, .bool a0_1, .bool a0_2, .bool a0_3, .bool a0_4] 62 (0, 0)) (by (with_reducible repeat (first | refine blk_drewN ?_ _ | refine blk_drew ?_ | refine blk_alloc ?_ _)); exact BK112.out) hb); have n1_ := Aside0.mk (below_step (by repeat (first | (with_reducible first | exact HB.out | apply below_alloc | apply pw_below_drewN | apply below_drew1 | refine below_set ?_ GE112.out) | exact HB.out)) hb); have n2_ := Aside0.mk (hbox); have n3_ := Aside0.mk ((by rw [hg]; exact (below_size (by repeat (first | (with_reducible first | exact HB.out | apply below_alloc | apply pw_below_drewN | apply below_drew1 | refine below_set ?_ GE112.out) | exact HB.out))) : w.heap.size ≤ gb113)); have n4_ := Aside0.mk ((by rw [hg]; exact (below_size (by repeat (first | (with_reducible first | exact HB.out | apply below_alloc | apply pw_below_drewN | apply below_drew1 | refine below_set ?_ GE112.out) | exact HB.out))) : w.heap.size ≤ gb113)); have n5_ := Aside0.mk ((by rw [hg]; exact Nat.ne_of_lt (blk_lt (g := gb112) (o := .cells #[.bool a0_0, .bool a0_1, .bool a0_2, .bool a0_3, .bool a0_4] 62 (0, 0)) (by (with_reducible repeat (first | refine blk_drewN ?_ _ | refine blk_drew ?_ | refine blk_alloc ?_ _)); exact BK112.out)) : gb112 ≠ gb113)); have n6_ := Aside0.mk ((by rw [hg]; exact Nat.ne_of_gt (blk_lt (g := gb112) (o := .cells #[.bool a0_0, .bool a0_1, .bool a0_2, .bool a0_3, .bool a0_4] 62 (0, 0)) (by (with_reducible repeat (first | refine blk_drewN ?_ _ | refine blk_drew ?_ | refine blk_alloc ?_ _)); exact BK112.out)) : gb113 ≠ gb112)); clear BK112; clear HB; have BK112 := n0_; have HB := n1_; have BK113 := n2_; have GW113 := n3_; have GE113 := n4_; have NB112_113 := n5_; have NB113_112 := n6_; clear n0_ n1_ n2_ n3_ n4_ n5_ n6_; clear hb hbox hg; have hnb18 := NB112_113.out; have hnc18 := NB113_112.out; have hcz19_0 : w17.cell? ⟨gb112, 0, none⟩ = some (.bool a0_0) := (blk_cell BK112.out 0).trans rfl; have hcz19_1 : w17.cell? ⟨gb112, 1, none⟩ = some (.bool a0_1) := (blk_cell BK112.out 1).trans rfl; have hcz19_2 : w17.cell? ⟨gb112, 2, none⟩ = some (.bool a0_2) := (blk_cell BK112.out 2).trans rfl; have hcz19_3 : w17.cell? ⟨gb112, 3, none⟩ = some (.bool a0_3) := (blk_cell BK112.out 3).trans rfl; have hcz19_4 : w17.cell? ⟨gb112, 4, none⟩ = some (.bool a0_4) := (blk_cell BK112.out 4).trans rfl; have hfz19_0 := blk_frozen BK112.out 0; have hfz19_1 := blk_frozen BK112.out 1; have hfz19_2 := blk_frozen BK112.out 2; have hfz19_3 := blk_frozen BK112.out 3; have hfz19_4 := blk_frozen BK112.out 4; have hcz20_0 : w17.cell? ⟨gb113, 0, none⟩ = some (.bool false) := (blk_cell BK113.out 0).trans rfl; have hcz20_1 : w17.cell? ⟨gb113, 1, none⟩ = some (.bool false) := (blk_cell BK113.out 1).trans rfl; have hcz20_2 : w17.cell? ⟨gb113, 2, none⟩ = some (.bool false) := (blk_cell BK113.out 2).trans rfl; have hcz20_3 : w17.cell? ⟨gb113, 3, none⟩ = some (.bool false) := (blk_cell BK113.out 3).trans rfl; have hcz20_4 : w17.cell? ⟨gb113, 4, none⟩ = some (.bool false) := (blk_cell BK113.out 4).trans rfl; have hfz20_0 := blk_frozen BK113.out 0; have hfz20_1 := blk_frozen BK113.out 1; have hfz20_2 := blk_frozen BK113.out 2; have hfz20_3 := blk_frozen BK113.out 3; have hfz20_4 := blk_frozen BK113.out 4))
        refine bodyPost_ret (results_cell_row rfl _ _ gb113 62 #[.bool a0_0, .bool true, .bool a0_2, .bool a0_3, .bool a0_4] (0, 0) _ rfl (by (with_reducible repeat (first | refine blk_drewN ?_ _ | refine blk_drew ?_ | refine blk_alloc ?_ _)); refine blk_put (cs := #[.bool a0_0, .bool true, .bool a0_2, .bool a0_3, .bool false]) ?_ 4 _ rfl; (with_reducible repeat (first | refine blk_drewN ?_ _ | refine blk_drew ?_ | refine blk_alloc ?_ _)); refine blk_put (cs := #[.bool a0_0, .bool true, .bool a0_2, .bool false, .bool false]) ?_ 3 _ rfl; (with_reducible repeat (first | refine blk_drewN ?_ _ | refine blk_drew ?_ | refine blk_alloc ?_ _)); refine blk_put (cs := #[.bool a0_0, .bool true, .bool false, .bool false, .bool false]) ?_ 2 _ rfl; (with_reducible repeat (first | refine blk_drewN ?_ _ | refine blk_drew ?_ | refine blk_alloc ?_ _)); refine blk_put (cs := #[.bool a0_0, .bool false, .bool false, .bool false, .bool false]) ?_ 1 _ rfl; (with_reducible repeat (first | refine blk_drewN ?_ _ | refine blk_drew ?_ | refine blk_alloc ?_ _)); refine blk_put (cs := #[.bool false, .bool false, .bool false, .bool false, .bool false]) ?_ 0 _ rfl; (with_reducible repeat (first | refine blk_drewN ?_ _ | refine blk_drew ?_ | refine blk_alloc ?_ _)); refine blk_far ?_ NB113_112.out _; (with_reducible repeat (first | refine blk_drewN ?_ _ | refine blk_drew ?_ | refine blk_alloc ?_ _)); exact BK113.out) Try.underlying62 rfl (by kernel_rfl)) rfl ?_
        exact ⟨by first | rfl | (simp [errW_none, errW_some] <;> rfl) | (simp [*, errW_none, errW_some] <;> rfl), by repeat (first | (with_reducible first | exact HB.out | apply below_alloc | apply pw_below_drewN | apply below_drew1 | refine below_set ?_ GE112.out | refine below_set ?_ GE113.out) | exact HB.out)⟩
      · rw [if_neg c15] at H
        have c15b0 : (a1 == 2) = false := beq_eq_false_iff_ne.mpr c15
        have c15b1 : (a1 != 2) = true := bne_iff_ne.mpr c15
        simp only [Option.some.injEq, Prod.mk.injEq] at H
        obtain ⟨rfl, rfl, rfl, rfl, rfl⟩ := H
        go_enter Try.func38, Try.ntmps38
        go_wp2_with (first | ((with_reducible refine gate_dst (N := 2) rfl ?_); refine box_event ?hg (N := 2) ?hd (cs := #[.bool a0_0, .bool a0_1, .bool a0_2, .bool a0_3, .bool a0_4]) (t := 62) ?hr ?_; (case hd => rfl); (case hg => rfl); (case hr => first | (go_simp; done) | (go_simp; rfl)); intro gb112 hg w21 hbox hb; have n0_ := Aside0.mk (below_step (by repeat (first | (with_reducible first | exact HB.out | apply below_alloc | apply pw_below_drewN | apply below_drew1) | exact HB.out)) hb); have n1_ := Aside0.mk (hbox); have n2_ := Aside0.mk ((by rw [hg]; exact (below_size (by repeat (first | (with_reducible first | exact HB.out | apply below_alloc | apply pw_below_drewN | apply below_drew1) | exact HB.out))) : w.heap.size ≤ gb112)); have n3_ := Aside0.mk ((by rw [hg]; exact (below_size (by repeat (first | (with_reducible first | exact HB.out | apply below_alloc | apply pw_below_drewN | apply below_drew1) | exact HB.out))) : w.heap.size ≤ gb112)); clear HB; have HB := n0_; have BK112 := n1_; have GW112 := n2_; have GE112 := n3_; clear n0_ n1_ n2_ n3_; clear hb hbox hg) | ((with_reducible refine gate_dst (N := 4) rfl ?_); refine box_event ?hg (N := 4) ?hd (cs := #[.bool false, .bool false, .bool false, .bool false, .bool false]) (t := 62) ?hr ?_; (case hd => rfl); (case hg => rfl); (case hr => first | (go_simp; done) | (go_simp; rfl)); intro gb113 hg w22 hbox hb; have n0_ := Aside0.mk (blk_below (g := gb112) (o := .cells #[.bool a0_0, .bool a0_1, .bool a0_2, .bool a0_3, .bool a0_4] 62 (0, 0)) (by (with_reducible repeat (first | refine blk_drewN ?_ _ | refine blk_drew ?_ | refine blk_alloc ?_ _)); exact BK112.out) hb); have n1_ := Aside0.mk (below_step (by repeat (first | (with_reducible first | exact HB.out | apply below_alloc | apply pw_below_drewN | apply below_drew1 | refine below_set ?_ GE112.out) | exact HB.out)) hb); have n2_ := Aside0.mk (hbox); have n3_ := Aside0.mk ((by rw [hg]; exact (below_size (by repeat (first | (with_reducible first | exact HB.out | apply below_alloc | apply pw_below_drewN | apply below_drew1 | refine below_set ?_ GE112.out) | exact HB.out))) : w.heap.size ≤ gb113)); have n4_ := Aside0.mk ((by rw [hg]; exact (below_size (by repeat (first | (with_reducible first | exact HB.out | apply below_alloc | apply pw_below_drewN | apply below_drew1 | refine below_set ?_ GE112.out) | exact HB.out))) : w.heap.size ≤ gb113)); have n5_ := Aside0.mk ((by rw [hg]; exact Nat.ne_of_lt (blk_lt (g := gb112) (o := .cells #[.bool a0_0, .bool a0_1, .bool a0_2, .bool a0_3, .bool a0_4] 62 (0, 0)) (by (with_reducible repeat (first | refine blk_drewN ?_ _ | refine blk_drew ?_ | refine blk_alloc ?_ _)); exact BK112.out)) : gb112 ≠ gb113)); have n6_ := Aside0.mk ((by rw [hg]; exact Nat.ne_of_gt (blk_lt (g := gb112) (o := .cells #[.bool a0_0, .bool a0_1, .bool a0_2, .bool a0_3, .bool a0_4] 62 (0, 0)) (by (with_reducible repeat (first | refine blk_drewN ?_ _ | refine blk_drew ?_ | refine blk_alloc ?_ _)); exact BK112.out)) : gb113 ≠ gb112)); clear BK112; clear HB; have BK112 := n0_; have HB := n1_; have BK113 := n2_; have GW113 := n3_; have GE113 := n4_; have NB112_113 := n5_; have NB113_112 := n6_; clear n0_ n1_ n2_ n3_ n4_ n5_ n6_; clear hb hbox hg; have hnb23 := NB112_113.out; have hnc23 := NB113_112.out; have hcz24_0 : w22.cell? ⟨gb112, 0, none⟩ = some (.bool a0_0) := (blk_cell BK112.out 0).trans rfl; have hcz24_1 : w22.cell? ⟨gb112, 1, none⟩ = some (.bool a0_1) := (blk_cell BK112.out 1).trans rfl; have hcz24_2 : w22.cell? ⟨gb112, 2, none⟩ = some (.bool a0_2) := (blk_cell BK112.out 2).trans rfl; have hcz24_3 : w22.cell? ⟨gb112, 3, none⟩ = some (.bool a0_3) := (blk_cell BK112.out 3).trans rfl; have hcz24_4 : w22.cell? ⟨gb112, 4, none⟩ = some (.bool a0_4) := (blk_cell BK112.out 4).trans rfl; have hfz24_0 := blk_frozen BK112.out 0; have hfz24_1 := blk_frozen BK112.out 1; have hfz24_2 := blk_frozen BK112.out 2; have hfz24_3 := blk_frozen BK112.out 3; have hfz24_4 := blk_frozen BK112.out 4; have hcz25_0 : w22.cell? ⟨gb113, 0, none⟩ = some (.bool false) := (blk_cell BK113.out 0).trans rfl; have hcz25_1 : w22.cell? ⟨gb113, 1, none⟩ = some (.bool false) := (blk_cell BK113.out 1).trans rfl; have hcz25_2 : w22.cell? ⟨gb113, 2, none⟩ = some (.bool false) := (blk_cell BK113.out 2).trans rfl; have hcz25_3 : w22.cell? ⟨gb113, 3, none⟩ = some (.bool false) := (blk_cell BK113.out 3).trans rfl; have hcz25_4 : w22.cell? ⟨gb113, 4, none⟩ = some (.bool false) := (blk_cell BK113.out 4).trans rfl; have hfz25_0 := blk_frozen BK113.out 0; have hfz25_1 := blk_frozen BK113.out 1; have hfz25_2 := blk_frozen BK113.out 2; have hfz25_3 := blk_frozen BK113.out 3; have hfz25_4 := blk_frozen BK113.out 4))
        refine bodyPost_ret (results_cell_row rfl _ _ gb113 62 #[.bool true, .bool a0_1, .bool true, .bool true, .bool (a1 == 4)] (0, 0) _ rfl (by (with_reducible repeat (first | refine blk_drewN ?_ _ | refine blk_drew ?_ | refine blk_alloc ?_ _)); refine blk_put (cs := #[.bool true, .bool a0_1, .bool true, .bool true, .bool false]) ?_ 4 _ rfl; (with_reducible repeat (first | refine blk_drewN ?_ _ | refine blk_drew ?_ | refine blk_alloc ?_ _)); refine blk_put (cs := #[.bool true, .bool a0_1, .bool true, .bool false, .bool false]) ?_ 3 _ rfl; (with_reducible repeat (first | refine blk_drewN ?_ _ | refine blk_drew ?_ | refine blk_alloc ?_ _)); refine blk_put (cs := #[.bool true, .bool a0_1, .bool false, .bool false, .bool false]) ?_ 2 _ rfl; (with_reducible repeat (first | refine blk_drewN ?_ _ | refine blk_drew ?_ | refine blk_alloc ?_ _)); refine blk_put (cs := #[.bool true, .bool false, .bool false, .bool false, .bool false]) ?_ 1 _ rfl; (with_reducible repeat (first | refine blk_drewN ?_ _ | refine blk_drew ?_ | refine blk_alloc ?_ _)); refine blk_put (cs := #[.bool false, .bool false, .bool false, .bool false, .bool false]) ?_ 0 _ rfl; (with_reducible repeat (first | refine blk_drewN ?_ _ | refine blk_drew ?_ | refine blk_alloc ?_ _)); refine blk_far ?_ NB113_112.out _; (with_reducible repeat (first | refine blk_drewN ?_ _ | refine blk_drew ?_ | refine blk_alloc ?_ _)); refine blk_far ?_ NB113_112.out _; (with_reducible repeat (first | refine blk_drewN ?_ _ | refine blk_drew ?_ | refine blk_alloc ?_ _)); refine blk_far ?_ NB113_112.out _; (with_reducible repeat (first | refine blk_drewN ?_ _ | refine blk_drew ?_ | refine blk_alloc ?_ _)); refine blk_far ?_ NB113_112.out _; (with_reducible repeat (first | refine blk_drewN ?_ _ | refine blk_drew ?_ | refine blk_alloc ?_ _)); refine blk_far ?_ NB113_112.out _; (with_reducible repeat (first | refine blk_drewN ?_ _ | refine blk_drew ?_ | refine blk_alloc ?_ _)); exact BK113.out) Try.underlying62 rfl (by kernel_rfl)) rfl ?_
        exact ⟨by first | rfl | (simp [errW_none, errW_some] <;> rfl) | (simp [*, errW_none, errW_some] <;> rfl), by repeat (first | (with_reducible first | exact HB.out | apply below_alloc | apply pw_below_drewN | apply below_drew1 | refine below_set ?_ GE112.out | refine below_set ?_ GE113.out) | exact HB.out)⟩

end Go.Proofs.Ytkfphiccfnfkdaa.PFnDi
