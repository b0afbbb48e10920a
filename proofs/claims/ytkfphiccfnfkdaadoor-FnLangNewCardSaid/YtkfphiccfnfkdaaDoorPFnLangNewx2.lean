-- Written by a program of this session (xprint) out of the translation; Lean checks it.
import Derived.Test.YtkfphiccfnfkdaaDoorPFnLangNewx0
import Derived.Test.YtkfphiccfnfkdaaDoorPFnLangNewx1
namespace Go.Proofs.YtkfphiccfnfkdaaDoor.PFnLangNew
open Go.RowKit Go.Proofs.YtkfphiccfnfkdaaDoorW.PrintWords Go.Proofs.YtkfphiccfnfkdaaDoorW.PrintLast Go.Proofs.YtkfphiccfnfkdaaDoorW.PrintMore
attribute [local go_sem] max2_int min2_int max_two min_two max_three min_three max_four min_four   -- for this text's walks alone
set_option linter.unusedVariables false
set_option linter.unusedSimpArgs false

/-! ### laws_FnLangNew: function 3 -/
def laws_FnLangNew.j0 : Nat → ByteArray → Bool → Option (Bool)
  | 0, _, _ => none
  | k + 1, x3, x16 => if x16 = true then (some false) else ((impl_LangNew.f k x3).bind fun t115 => (if t115.toList = x3.toList then ((impl_LangNew.f k (⟨#[102, 114, 95, 66, 69, 33]⟩ : ByteArray)).bind fun t116 => (some (t116.toList == ([102, 114, 45, 98, 101] : List UInt8)))) else (some false)))
def laws_FnLangNew.f (k : Nat) (a0 : ByteArray) : Option (Bool) := if (a0.size : Int) > 2147483647 then (some true) else ((impl_LangNew.f k a0).bind fun t112 => ((laws_plainText.f k a0).bind fun t113 => (if t113 = true then ((spec_LangNew.f k a0).bind fun t114 => (laws_FnLangNew.j0 k t112 (t112.toList != t114.toList))) else (laws_FnLangNew.j0 k t112 false))))
theorem laws_FnLangNew.mono_l : ∀ k, (∀ y0 y1, LeO (laws_FnLangNew.j0 k y0 y1) (laws_FnLangNew.j0 (k + 1) y0 y1))
  | 0 => fun _ _ r h => by simp [laws_FnLangNew.j0] at h
  | k + 1 => by
    have ih0 := laws_FnLangNew.mono_l k
    · intro y0 y1
      unfold laws_FnLangNew.j0
      repeat' first
      | (with_reducible exact ih0 _ _)
      | (with_reducible exact impl_LangNew.mono _ _)
      | (with_reducible exact laws_plainText.mono _ _)
      | (with_reducible exact spec_LangNew.mono _ _)
      | (with_reducible exact LeO.refl _)
      | (with_reducible exact LeO.none _)
      | (with_reducible refine LeO.ite ?_ ?_)
      | (with_reducible refine LeO.bind ?_ (fun _ => ?_))
      | exact ih0 _ _
      | exact impl_LangNew.mono _ _
      | exact laws_plainText.mono _ _
      | exact spec_LangNew.mono _ _
      | exact LeO.none _
      | refine LeO.ite ?_ ?_
      | refine LeO.bind ?_ (fun _ => ?_)
theorem laws_FnLangNew.mono : ∀ a0 k, LeO (laws_FnLangNew.f k a0) (laws_FnLangNew.f (k + 1) a0) := by
  intro a0 k
  have ih0 := laws_FnLangNew.mono_l k
  unfold laws_FnLangNew.f
  repeat' first
      | (with_reducible exact ih0 _ _)
      | (with_reducible exact impl_LangNew.mono _ _)
      | (with_reducible exact laws_plainText.mono _ _)
      | (with_reducible exact spec_LangNew.mono _ _)
      | (with_reducible exact LeO.refl _)
      | (with_reducible exact LeO.none _)
      | (with_reducible refine LeO.ite ?_ ?_)
      | (with_reducible refine LeO.bind ?_ (fun _ => ?_))
      | exact ih0 _ _
      | exact impl_LangNew.mono _ _
      | exact laws_plainText.mono _ _
      | exact spec_LangNew.mono _ _
      | exact LeO.none _
      | refine LeO.ite ?_ ?_
      | refine LeO.bind ?_ (fun _ => ?_)
set_option maxHeartbeats 8000000 in
set_option maxRecDepth 100000 in
theorem laws_FnLangNew.calls (k : Nat) (a0 : ByteArray) (r : Bool) (w : World) (h : laws_FnLangNew.f k a0 = some r) (GG : Tab w) :
    Calls Tryd.prog 3 #[.string a0] w fun e w' => e = .returned (.bool r) ∧ Below w.heap.size w w' := by
  have HB := Aside0.mk (Below.refl w.heap.size w)
  have H : (if (a0.size : Int) > 2147483647 then (some true) else ((impl_LangNew.f k a0).bind fun t112 => ((laws_plainText.f k a0).bind fun t113 => (if t113 = true then ((spec_LangNew.f k a0).bind fun t114 => (laws_FnLangNew.j0 k t112 (t112.toList != t114.toList))) else (laws_FnLangNew.j0 k t112 false))))) = some r := h
  clear h
  by_cases c2 : (a0.size : Int) > 2147483647
  · rw [if_pos c2] at H
    have c2b0 : decide (2147483647 < (a0.size : Int)) = true := decide_eq_true c2
    have c2b1 : decide (2147483647 < a0.size) = true := decide_eq_true (by omega)
    clear c2
    obtain rfl := Option.some.inj H
    go_enter Tryd.func3, Tryd.ntmps3
    go_wp2
    go_ret
    exact ⟨by first | rfl | (simp [errW_none, errW_some] <;> rfl) | (simp [*, errW_none, errW_some] <;> rfl), by repeat (first | (with_reducible first | exact HB.out | apply below_alloc | apply pw_below_drewN | apply below_drew1) | exact HB.out)⟩
  · rw [if_neg c2] at H
    have c2b0 : decide (2147483647 < (a0.size : Int)) = false := decide_eq_false c2
    have c2b1 : decide (2147483647 < a0.size) = false := decide_eq_false (by omega)
    clear c2
    replace H := Option.bind_eq_some_iff.mp H
    obtain ⟨t112, A30, H⟩ := H
    replace H : ((laws_plainText.f k a0).bind fun t113 => (if t113 = true then ((spec_LangNew.f k a0).bind fun t114 => (laws_FnLangNew.j0 k t112 (t112.toList != t114.toList))) else (laws_FnLangNew.j0 k t112 false))) = some r := H
    have A3 := Aside0.mk A30
    clear A30
    have HC4 := Aside0.mk H
    clear H
    go_enter Tryd.func3, Tryd.ntmps3
    go_upto_region 4 with (first | ((with_reducible refine gate_callee (f := 4) rfl ?_); refine goesL_ (some 8) rfl rfl Tryd.func4 (by kernel_rfl) rfl #[.string a0] rfl (by (try simp only [List.map_toArray, List.map_cons, List.map_nil]); first | done | rfl | (simp only [List.length_drop, List.length_take]; rfl)) ?_; (with_reducible refine (impl_LangNew.calls k a0 t112 _ A3.out (tab_below GG (by repeat (first | (with_reducible first | exact HB.out | apply below_alloc | apply pw_below_drewN | apply below_drew1) | exact HB.out)))).mono ?_); rintro e w5 ⟨rfl, hb⟩; refine ⟨_, rfl, ?_⟩; have n0_ := Aside0.mk (below_step (by repeat (first | (with_reducible first | exact HB.out | apply below_alloc | apply pw_below_drewN | apply below_drew1) | exact HB.out)) hb); clear HB; have HB := n0_; clear n0_; (try clear hb); (try clear hb2); (try clear hk); (try clear hi)))
    (try simp only [Act.put, List.setIfInBounds_toArray, List.set_cons_zero, List.set_cons_succ])
    go_cut [16] (fun v16 wc => ∃ (kq : Nat) (x16_3 : Bool), v16 = .bool x16_3 ∧ Aside0 (laws_FnLangNew.j0 kq t112 x16_3 = some r) ∧ Aside0 (kq ≤ k) ∧ Aside0 (Below w.heap.size w wc))
    case first =>
      have H := HC4.out
      clear HC4
      replace H := Option.bind_eq_some_iff.mp H
      obtain ⟨t113, A60, H⟩ := H
      replace H : (if t113 = true then ((spec_LangNew.f k a0).bind fun t114 => (laws_FnLangNew.j0 k t112 (t112.toList != t114.toList))) else (laws_FnLangNew.j0 k t112 false)) = some r := H
      have A6 := Aside0.mk A60
      clear A60
      by_cases c7 : t113 = true
      · subst c7
        have H1 : ((spec_LangNew.f k a0).bind fun t114 => (laws_FnLangNew.j0 k t112 (t112.toList != t114.toList))) = some r := by rw [if_pos rfl] at H; exact H
        clear H
        have H := H1
        clear H1
        replace H := Option.bind_eq_some_iff.mp H
        obtain ⟨t114, A80, H⟩ := H
        replace H : (laws_FnLangNew.j0 k t112 (t112.toList != t114.toList)) = some r := H
        have A8 := Aside0.mk A80
        clear A80
        have H' := Aside0.mk H
        clear H
        go_wp2_with (first | ((with_reducible refine gate_callee (f := 5) rfl ?_); refine goesL_ (some 10) rfl rfl Tryd.func5 (by kernel_rfl) rfl #[.string a0] rfl (by (try simp only [List.map_toArray, List.map_cons, List.map_nil]); first | done | rfl | (simp only [List.length_drop, List.length_take]; rfl)) ?_; (with_reducible refine (laws_plainText.calls k a0 true _ A6.out).mono ?_); rintro e w' ⟨rfl, ⟨nd, rfl⟩⟩; refine ⟨_, rfl, ?_⟩) | (go_at_call 6; (with_reducible refine (spec_LangNew.calls k a0 t114 _ A8.out).mono ?_); rintro e w9 ⟨rfl, hb⟩; have n0_ := Aside0.mk (below_step (by repeat (first | (with_reducible first | exact HB.out | apply below_alloc | apply pw_below_drewN | apply below_drew1) | exact HB.out)) hb); clear HB; have HB := n0_; clear n0_; (try clear hb); (try clear hb2); (try clear hk); (try clear hi)))
        go_meet
        case rel => exact ⟨_, ((t112.toList != t114.toList)), (by first | rfl | (simp; done) | (simp [*]; done)), H', ⟨by first | omega | exact Nat.le_refl _⟩, ⟨by repeat (first | (with_reducible first | exact HB.out | apply below_alloc | apply pw_below_drewN | apply below_drew1) | exact HB.out)⟩⟩
      · replace c7 := Bool.eq_false_iff.mpr c7
        subst c7
        have H1 : (laws_FnLangNew.j0 k t112 false) = some r := by rw [if_neg (show ¬ (false = true) by decide)] at H; exact H
        clear H
        have H := H1
        clear H1
        have H' := Aside0.mk H
        clear H
        go_wp2_with (first | ((with_reducible refine gate_callee (f := 5) rfl ?_); refine goesL_ (some 10) rfl rfl Tryd.func5 (by kernel_rfl) rfl #[.string a0] rfl (by (try simp only [List.map_toArray, List.map_cons, List.map_nil]); first | done | rfl | (simp only [List.length_drop, List.length_take]; rfl)) ?_; (with_reducible refine (laws_plainText.calls k a0 false _ A6.out).mono ?_); rintro e w' ⟨rfl, ⟨nd, rfl⟩⟩; refine ⟨_, rfl, ?_⟩))
        go_meet
        case rel => exact ⟨_, (false), (by first | rfl | (simp; done) | (simp [*]; done)), H', ⟨by first | omega | exact Nat.le_refl _⟩, ⟨by repeat (first | (with_reducible first | exact HB.out | apply below_alloc | apply pw_below_drewN | apply below_drew1) | exact HB.out)⟩⟩
    case rest =>
      clear HC4
      try clear c2
      try clear c2b0
      try clear c2b1
      try clear p2
      try clear c3
      try clear c4
      try clear c5
      try clear c7
      obtain ⟨kq, x16_3, rfl, HA, HJ3, HB⟩ := hcut
      cases kq with
      | zero => exact absurd HA.out (by simp [laws_FnLangNew.j0])
      | succ kj3 =>
        have H := HA.out
        clear HA
        simp only [laws_FnLangNew.j0] at H
        by_cases c10 : x16_3 = true
        · subst c10
          have H1 : (some false) = some r := by rw [if_pos rfl] at H; exact H
          clear H
          have H := H1
          clear H1
          obtain rfl := Option.some.inj H
          go_wp2
          go_ret
          exact ⟨by first | rfl | (simp [errW_none, errW_some] <;> rfl) | (simp [*, errW_none, errW_some] <;> rfl), by repeat (first | (with_reducible first | exact HB.out | apply below_alloc | apply pw_below_drewN | apply below_drew1) | exact HB.out)⟩
        · replace c10 := Bool.eq_false_iff.mpr c10
          subst c10
          have H1 : ((impl_LangNew.f kj3 t112).bind fun t115 => (if t115.toList = t112.toList then ((impl_LangNew.f kj3 (⟨#[102, 114, 95, 66, 69, 33]⟩ : ByteArray)).bind fun t116 => (some (t116.toList == ([102, 114, 45, 98, 101] : List UInt8)))) else (some false))) = some r := by rw [if_neg (show ¬ (false = true) by decide)] at H; exact H
          clear H
          have H := H1
          clear H1
          replace H := Option.bind_eq_some_iff.mp H
          obtain ⟨t115, A110, H⟩ := H
          replace H : (if t115.toList = t112.toList then ((impl_LangNew.f kj3 (⟨#[102, 114, 95, 66, 69, 33]⟩ : ByteArray)).bind fun t116 => (some (t116.toList == ([102, 114, 45, 98, 101] : List UInt8)))) else (some false)) = some r := H
          have A11 := Aside0.mk A110
          clear A110
          by_cases c12 : t115.toList = t112.toList
          · rw [if_pos c12] at H
            have c12b0 : (t115.toList == t112.toList) = true := beq_iff_eq.mpr c12
            have c12b1 : (t115.toList != t112.toList) = false := bne_eq_false_iff_eq.mpr c12
            clear c12
            replace H := Option.bind_eq_some_iff.mp H
            obtain ⟨t116, A130, H⟩ := H
            replace H : (some (t116.toList == ([102, 114, 45, 98, 101] : List UInt8))) = some r := H
            have A13 := Aside0.mk A130
            clear A130
            obtain rfl := Option.some.inj H
            go_wp2_with (first | ((with_reducible refine gate_callee (f := 4) rfl ?_); refine goesL_ (some 18) rfl rfl Tryd.func4 (by kernel_rfl) rfl #[.string t112] rfl (by (try simp only [List.map_toArray, List.map_cons, List.map_nil]); first | done | rfl | (simp only [List.length_drop, List.length_take]; rfl)) ?_; (with_reducible refine (impl_LangNew.calls kj3 t112 t115 _ A11.out (tab_below GG (by repeat (first | (with_reducible first | exact HB.out | apply below_alloc | apply pw_below_drewN | apply below_drew1) | exact HB.out)))).mono ?_); rintro e w14 ⟨rfl, hb⟩; refine ⟨_, rfl, ?_⟩; have n0_ := Aside0.mk (below_step (by repeat (first | (with_reducible first | exact HB.out | apply below_alloc | apply pw_below_drewN | apply below_drew1) | exact HB.out)) hb); clear HB; have HB := n0_; clear n0_; (try clear hb); (try clear hb2); (try clear hk); (try clear hi)) | (go_at_call 4; (with_reducible refine (impl_LangNew.calls kj3 (⟨#[102, 114, 95, 66, 69, 33]⟩ : ByteArray) t116 _ A13.out (tab_below GG (by repeat (first | (with_reducible first | exact HB.out | apply below_alloc | apply pw_below_drewN | apply below_drew1) | exact HB.out)))).mono ?_); rintro e w15 ⟨rfl, hb⟩; have n0_ := Aside0.mk (below_step (by repeat (first | (with_reducible first | exact HB.out | apply below_alloc | apply pw_below_drewN | apply below_drew1) | exact HB.out)) hb); clear HB; have HB := n0_; clear n0_; (try clear hb); (try clear hb2); (try clear hk); (try clear hi)))
            go_ret
            exact ⟨by first | rfl | (simp [errW_none, errW_some] <;> rfl) | (simp [*, errW_none, errW_some] <;> rfl), by repeat (first | (with_reducible first | exact HB.out | apply below_alloc | apply pw_below_drewN | apply below_drew1) | exact HB.out)⟩
          · rw [if_neg c12] at H
            have c12b0 : (t115.toList == t112.toList) = false := beq_eq_false_iff_ne.mpr c12
            have c12b1 : (t115.toList != t112.toList) = true := bne_iff_ne.mpr c12
            obtain rfl := Option.some.inj H
            go_wp2_with (first | ((with_reducible refine gate_callee (f := 4) rfl ?_); refine goesL_ (some 18) rfl rfl Tryd.func4 (by kernel_rfl) rfl #[.string t112] rfl (by (try simp only [List.map_toArray, List.map_cons, List.map_nil]); first | done | rfl | (simp only [List.length_drop, List.length_take]; rfl)) ?_; (with_reducible refine (impl_LangNew.calls kj3 t112 t115 _ A11.out (tab_below GG (by repeat (first | (with_reducible first | exact HB.out | apply below_alloc | apply pw_below_drewN | apply below_drew1) | exact HB.out)))).mono ?_); rintro e w16 ⟨rfl, hb⟩; refine ⟨_, rfl, ?_⟩; have n0_ := Aside0.mk (below_step (by repeat (first | (with_reducible first | exact HB.out | apply below_alloc | apply pw_below_drewN | apply below_drew1) | exact HB.out)) hb); clear HB; have HB := n0_; clear n0_; (try clear hb); (try clear hb2); (try clear hk); (try clear hi)))
            go_ret
            exact ⟨by first | rfl | (simp [errW_none, errW_some] <;> rfl) | (simp [*, errW_none, errW_some] <;> rfl), by repeat (first | (with_reducible first | exact HB.out | apply below_alloc | apply pw_below_drewN | apply below_drew1) | exact HB.out)⟩

/-- THE ONE PURE STATEMENT of laws_FnLangNew: yours. -/
def laws_FnLangNew.Pure : Prop := ∀ (a0 : ByteArray), a0.size ≤ 140737488351232 → ∃ k, laws_FnLangNew.f k a0 = some true
theorem laws_FnLangNew.walk (P : laws_FnLangNew.Pure) (a0 : ByteArray) (w : World) (w0 : a0.size ≤ 140737488351232) (GG : Tab w) :
    Calls Tryd.prog 3 #[.string a0] w fun e w' => e = .returned (.bool true) ∧ Below w.heap.size w w' := by
  obtain ⟨k, h⟩ := P a0 w0
  refine (laws_FnLangNew.calls k a0 true w h GG).mono ?_
  rintro e w' ⟨rfl, hd⟩
  exact ⟨rfl, hd⟩

end Go.Proofs.YtkfphiccfnfkdaaDoor.PFnLangNew
