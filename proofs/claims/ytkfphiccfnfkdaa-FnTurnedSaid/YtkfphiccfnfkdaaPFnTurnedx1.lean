-- PRINTED BY print.sh 35421559b90ae4d0a3588c463048766b98c2df88dd9212a6774a882060cdf62d: not written by this session
import Derived.Test.YtkfphiccfnfkdaaPFnTurnedx0
namespace Go.Proofs.Ytkfphiccfnfkdaa.PFnTurned
open Go.RowKit Go.Proofs.YtkfphiccfnfkdaaW.PrintWords Go.Proofs.YtkfphiccfnfkdaaW.PrintLast Go.Proofs.YtkfphiccfnfkdaaW.PrintMore
attribute [local go_sem] max2_int min2_int max_two min_two max_three min_three max_four min_four   -- for this text's walks alone
set_option linter.unusedVariables false
set_option linter.unusedSimpArgs false

/-! ### harfbuzz_Direction_Reverse: function 39 -/
def harfbuzz_Direction_Reverse.f (a0 : Int) : Option (Int) := some (Go.bits .xor .u8 a0 1)
set_option maxHeartbeats 8000000 in
set_option maxRecDepth 100000 in
theorem harfbuzz_Direction_Reverse.calls (a0 : Int) (r : Int) (w : World) (h : harfbuzz_Direction_Reverse.f a0 = some r) :
    Calls Try.prog 39 #[.int .u8 a0] w fun e w' => e = .returned (.int .u8 r) ∧ Drawn0 w w' := by
  have H : (some (Go.bits .xor .u8 a0 1)) = some r := h
  clear h
  obtain rfl := Option.some.inj H
  go_enter Try.func39, Try.ntmps39
  go_wp2
  go_ret
  exact ⟨by first | rfl | (simp; done) | (simp [*]; done), by repeat (first | exact Drawn0.refl _ | apply Drawn0.step)⟩

/-! ### impl_Turned: function 14 -/
def impl_Turned.f (a0 : Int) : Option (Int) := if a0 < 4 then (some 0) else (if a0 > 7 then (some 0) else ((harfbuzz_Direction_Reverse.f ((a0) % 256)).bind fun t101 => (some (wrap64 (t101)))))
set_option maxHeartbeats 8000000 in
set_option maxRecDepth 100000 in
theorem impl_Turned.calls (a0 : Int) (r : Int) (w : World) (h : impl_Turned.f a0 = some r) :
    Calls Try.prog 14 #[.int .i64 a0] w fun e w' => e = .returned (.int .i64 r) ∧ Drawn0 w w' := by
  have H : (if a0 < 4 then (some 0) else (if a0 > 7 then (some 0) else ((harfbuzz_Direction_Reverse.f ((a0) % 256)).bind fun t101 => (some (wrap64 (t101)))))) = some r := h
  clear h
  by_cases c2 : a0 < 4
  · rw [if_pos c2] at H
    have c2b0 : decide (a0 < 4) = true := decide_eq_true c2
    clear c2
    obtain rfl := Option.some.inj H
    go_enter Try.func14, Try.ntmps14
    go_wp2
    go_ret
    exact ⟨by first | rfl | (simp; done) | (simp [*]; done), by repeat (first | exact Drawn0.refl _ | apply Drawn0.step)⟩
  · rw [if_neg c2] at H
    have c2b0 : decide (a0 < 4) = false := decide_eq_false c2
    clear c2
    by_cases c3 : a0 > 7
    · rw [if_pos c3] at H
      have c3b0 : decide (7 < a0) = true := decide_eq_true c3
      clear c3
      obtain rfl := Option.some.inj H
      go_enter Try.func14, Try.ntmps14
      go_wp2
      go_ret
      exact ⟨by first | rfl | (simp; done) | (simp [*]; done), by repeat (first | exact Drawn0.refl _ | apply Drawn0.step)⟩
    · rw [if_neg c3] at H
      have c3b0 : decide (7 < a0) = false := decide_eq_false c3
      clear c3
      replace H := Option.bind_eq_some_iff.mp H
      obtain ⟨t101, A40, H⟩ := H
      replace H : (some (wrap64 (t101))) = some r := H
      have A4 := Aside0.mk A40
      clear A40
      obtain rfl := Option.some.inj H
      go_enter Try.func14, Try.ntmps14
      go_wp2_with (first | ((with_reducible refine gate_callee (f := 39) rfl ?_); refine goesL_ (some 11) rfl rfl Try.func39 (by kernel_rfl) rfl #[.int .u8 ((a0) % 256)] rfl (by (try simp only [List.map_toArray, List.map_cons, List.map_nil]); first | done | rfl | (simp only [List.length_drop, List.length_take]; rfl)) ?_; (with_reducible refine (harfbuzz_Direction_Reverse.calls ((a0) % 256) t101 _ A4.out).mono ?_); rintro e w' ⟨rfl, ⟨nd, rfl⟩⟩; refine ⟨_, rfl, ?_⟩))
      go_ret
      exact ⟨by first | rfl | (simp; done) | (simp [*]; done), by repeat (first | exact Drawn0.refl _ | apply Drawn0.step)⟩

/-! ### laws_FnTurned: function 3 -/
def laws_FnTurned.f (a0 : Int) : Option (Bool) := (impl_Turned.f (wrap64 (4 + (wrap64 (Int.tmod a0 4))))).bind fun t102 => (if t102 = (Go.bits .xor .i64 (wrap64 (4 + (wrap64 (Int.tmod a0 4)))) 1) then ((impl_Turned.f (wrap64 (4 + (wrap64 (Int.tmod a0 4))))).bind fun t103 => ((impl_Turned.f t103).bind fun t104 => (some (t104 == (wrap64 (4 + (wrap64 (Int.tmod a0 4)))))))) else (some false))
set_option maxHeartbeats 8000000 in
set_option maxRecDepth 100000 in
theorem laws_FnTurned.calls (a0 : Int) (r : Bool) (w : World) (h : laws_FnTurned.f a0 = some r) :
    Calls Try.prog 3 #[.int .u8 a0] w fun e w' => e = .returned (.bool r) ∧ Drawn0 w w' := by
  have H : ((impl_Turned.f (wrap64 (4 + (wrap64 (Int.tmod a0 4))))).bind fun t102 => (if t102 = (Go.bits .xor .i64 (wrap64 (4 + (wrap64 (Int.tmod a0 4)))) 1) then ((impl_Turned.f (wrap64 (4 + (wrap64 (Int.tmod a0 4))))).bind fun t103 => ((impl_Turned.f t103).bind fun t104 => (some (t104 == (wrap64 (4 + (wrap64 (Int.tmod a0 4)))))))) else (some false))) = some r := h
  clear h
  replace H := Option.bind_eq_some_iff.mp H
  obtain ⟨t102, A20, H⟩ := H
  replace H : (if t102 = (Go.bits .xor .i64 (wrap64 (4 + (wrap64 (Int.tmod a0 4)))) 1) then ((impl_Turned.f (wrap64 (4 + (wrap64 (Int.tmod a0 4))))).bind fun t103 => ((impl_Turned.f t103).bind fun t104 => (some (t104 == (wrap64 (4 + (wrap64 (Int.tmod a0 4)))))))) else (some false)) = some r := H
  have A2 := Aside0.mk A20
  clear A20
  by_cases c3 : t102 = (Go.bits .xor .i64 (wrap64 (4 + (wrap64 (Int.tmod a0 4)))) 1)
  · rw [if_pos c3] at H
    have c3b0 : (t102 == (Go.bits .xor .i64 (wrap64 (4 + (wrap64 (Int.tmod a0 4)))) 1)) = true := beq_iff_eq.mpr c3
    have c3b1 : (t102 != (Go.bits .xor .i64 (wrap64 (4 + (wrap64 (Int.tmod a0 4)))) 1)) = false := bne_eq_false_iff_eq.mpr c3
    clear c3
    replace H := Option.bind_eq_some_iff.mp H
    obtain ⟨t103, A40, H⟩ := H
    replace H : ((impl_Turned.f t103).bind fun t104 => (some (t104 == (wrap64 (4 + (wrap64 (Int.tmod a0 4))))))) = some r := H
    have A4 := Aside0.mk A40
    clear A40
    replace H := Option.bind_eq_some_iff.mp H
    obtain ⟨t104, A50, H⟩ := H
    replace H : (some (t104 == (wrap64 (4 + (wrap64 (Int.tmod a0 4)))))) = some r := H
    have A5 := Aside0.mk A50
    clear A50
    obtain rfl := Option.some.inj H
    go_enter Try.func3, Try.ntmps3
    go_wp2_with (first | ((with_reducible refine gate_callee (f := 14) rfl ?_); refine goesL_ (some 9) rfl rfl Try.func14 (by kernel_rfl) rfl #[.int .i64 (wrap64 (4 + (wrap64 (Int.tmod a0 4))))] rfl (by (try simp only [List.map_toArray, List.map_cons, List.map_nil]); first | done | rfl | (simp only [List.length_drop, List.length_take]; rfl)) ?_; (with_reducible refine (impl_Turned.calls (wrap64 (4 + (wrap64 (Int.tmod a0 4)))) t102 _ A2.out).mono ?_); rintro e w' ⟨rfl, ⟨nd, rfl⟩⟩; refine ⟨_, rfl, ?_⟩) | (go_at_call 14; (with_reducible refine (impl_Turned.calls (wrap64 (4 + (wrap64 (Int.tmod a0 4)))) t103 _ A4.out).mono ?_); rintro e w' ⟨rfl, ⟨nd, rfl⟩⟩) | (go_at_call 14; (with_reducible refine (impl_Turned.calls t103 t104 _ A5.out).mono ?_); rintro e w' ⟨rfl, ⟨nd, rfl⟩⟩))
    go_ret
    exact ⟨by first | rfl | (simp; done) | (simp [*]; done), by repeat (first | exact Drawn0.refl _ | apply Drawn0.step)⟩
  · rw [if_neg c3] at H
    have c3b0 : (t102 == (Go.bits .xor .i64 (wrap64 (4 + (wrap64 (Int.tmod a0 4)))) 1)) = false := beq_eq_false_iff_ne.mpr c3
    have c3b1 : (t102 != (Go.bits .xor .i64 (wrap64 (4 + (wrap64 (Int.tmod a0 4)))) 1)) = true := bne_iff_ne.mpr c3
    obtain rfl := Option.some.inj H
    go_enter Try.func3, Try.ntmps3
    go_wp2_with (first | ((with_reducible refine gate_callee (f := 14) rfl ?_); refine goesL_ (some 9) rfl rfl Try.func14 (by kernel_rfl) rfl #[.int .i64 (wrap64 (4 + (wrap64 (Int.tmod a0 4))))] rfl (by (try simp only [List.map_toArray, List.map_cons, List.map_nil]); first | done | rfl | (simp only [List.length_drop, List.length_take]; rfl)) ?_; (with_reducible refine (impl_Turned.calls (wrap64 (4 + (wrap64 (Int.tmod a0 4)))) t102 _ A2.out).mono ?_); rintro e w' ⟨rfl, ⟨nd, rfl⟩⟩; refine ⟨_, rfl, ?_⟩))
    go_ret
    exact ⟨by first | rfl | (simp; done) | (simp [*]; done), by repeat (first | exact Drawn0.refl _ | apply Drawn0.step)⟩

/-- THE ONE PURE STATEMENT of laws_FnTurned: yours. -/
def laws_FnTurned.Pure : Prop := ∀ (a0 : Int), (Lit.int .u8 a0).wf = true → laws_FnTurned.f a0 = some true
theorem laws_FnTurned.walk (P : laws_FnTurned.Pure) (a0 : Int) (w : World) (w0 : (Lit.int .u8 a0).wf = true) :
    Calls Try.prog 3 #[.int .u8 a0] w fun e w' => e = .returned (.bool true) ∧ Below w.heap.size w w' := by
  have h := P a0 w0
  refine (laws_FnTurned.calls a0 true w h).mono ?_
  rintro e w' ⟨rfl, hd⟩
  exact ⟨rfl, hd.below⟩

end Go.Proofs.Ytkfphiccfnfkdaa.PFnTurned
