-- Written by a program of this session (xprint) out of the translation; Lean checks it.
import Derived.Test.YtlclakahgmoafaaDoorPFnAskNonex0
import Derived.Test.YtlclakahgmoafaaDoorPFnAskNonex1
namespace Go.Proofs.YtlclakahgmoafaaDoor.PFnAskNone
open Go.RowKit Go.Proofs.YtlclakahgmoafaaDoorW.PrintWords Go.Proofs.YtlclakahgmoafaaDoorW.PrintLast Go.Proofs.YtlclakahgmoafaaDoorW.PrintMore
attribute [local go_sem] max2_int min2_int max_two min_two max_three min_three max_four min_four   -- for this text's walks alone
set_option linter.unusedVariables false
set_option linter.unusedSimpArgs false

/-! ### harfbuzz_isAlpha: function 38 -/
def harfbuzz_isAlpha.f (a0 : Int) : Option (Bool) := if a0 ≥ 97 then (if a0 ≤ 122 then (some true) else (if a0 ≥ 65 then (some (decide (a0 ≤ 90))) else (some false))) else (if a0 ≥ 65 then (some (decide (a0 ≤ 90))) else (some false))
set_option maxHeartbeats 8000000 in
set_option maxRecDepth 100000 in
theorem harfbuzz_isAlpha.calls (a0 : Int) (r : Bool) (w : World) (h : harfbuzz_isAlpha.f a0 = some r) :
    Calls Tryd.prog 38 #[.int .u8 a0] w fun e w' => e = .returned (.bool r) ∧ Drawn0 w w' := by
  have H : (if a0 ≥ 97 then (if a0 ≤ 122 then (some true) else (if a0 ≥ 65 then (some (decide (a0 ≤ 90))) else (some false))) else (if a0 ≥ 65 then (some (decide (a0 ≤ 90))) else (some false))) = some r := h
  clear h
  by_cases c2 : a0 ≥ 97
  · rw [if_pos c2] at H
    have c2b0 : decide (97 ≤ a0) = true := decide_eq_true c2
    clear c2
    by_cases c3 : a0 ≤ 122
    · rw [if_pos c3] at H
      have c3b0 : decide (a0 ≤ 122) = true := decide_eq_true c3
      clear c3
      obtain rfl := Option.some.inj H
      go_enter Tryd.func38, Tryd.ntmps38
      go_wp2
      go_ret
      exact ⟨by first | rfl | (simp; done) | (simp [*]; done), by repeat (first | exact Drawn0.refl _ | apply Drawn0.step)⟩
    · rw [if_neg c3] at H
      have c3b0 : decide (a0 ≤ 122) = false := decide_eq_false c3
      clear c3
      by_cases c4 : a0 ≥ 65
      · rw [if_pos c4] at H
        have c4b0 : decide (65 ≤ a0) = true := decide_eq_true c4
        clear c4
        obtain rfl := Option.some.inj H
        go_enter Tryd.func38, Tryd.ntmps38
        go_wp2
        go_ret
        exact ⟨by first | rfl | (simp; done) | (simp [*]; done), by repeat (first | exact Drawn0.refl _ | apply Drawn0.step)⟩
      · rw [if_neg c4] at H
        have c4b0 : decide (65 ≤ a0) = false := decide_eq_false c4
        clear c4
        obtain rfl := Option.some.inj H
        go_enter Tryd.func38, Tryd.ntmps38
        go_wp2
        go_ret
        exact ⟨by first | rfl | (simp; done) | (simp [*]; done), by repeat (first | exact Drawn0.refl _ | apply Drawn0.step)⟩
  · rw [if_neg c2] at H
    have c2b0 : decide (97 ≤ a0) = false := decide_eq_false c2
    clear c2
    by_cases c5 : a0 ≥ 65
    · rw [if_pos c5] at H
      have c5b0 : decide (65 ≤ a0) = true := decide_eq_true c5
      clear c5
      obtain rfl := Option.some.inj H
      go_enter Tryd.func38, Tryd.ntmps38
      go_wp2
      go_ret
      exact ⟨by first | rfl | (simp; done) | (simp [*]; done), by repeat (first | exact Drawn0.refl _ | apply Drawn0.step)⟩
    · rw [if_neg c5] at H
      have c5b0 : decide (65 ≤ a0) = false := decide_eq_false c5
      clear c5
      obtain rfl := Option.some.inj H
      go_enter Tryd.func38, Tryd.ntmps38
      go_wp2
      go_ret
      exact ⟨by first | rfl | (simp; done) | (simp [*]; done), by repeat (first | exact Drawn0.refl _ | apply Drawn0.step)⟩

/-! ### harfbuzz_isAlnum: function 36 -/
def harfbuzz_isAlnum.f (a0 : Int) : Option (Bool) := (harfbuzz_isAlpha.f a0).bind fun t124 => (if t124 = true then (some true) else (if a0 ≥ 48 then (some (decide (a0 ≤ 57))) else (some false)))
set_option maxHeartbeats 8000000 in
set_option maxRecDepth 100000 in
theorem harfbuzz_isAlnum.calls (a0 : Int) (r : Bool) (w : World) (h : harfbuzz_isAlnum.f a0 = some r) :
    Calls Tryd.prog 36 #[.int .u8 a0] w fun e w' => e = .returned (.bool r) ∧ Drawn0 w w' := by
  have H : ((harfbuzz_isAlpha.f a0).bind fun t124 => (if t124 = true then (some true) else (if a0 ≥ 48 then (some (decide (a0 ≤ 57))) else (some false)))) = some r := h
  clear h
  replace H := Option.bind_eq_some_iff.mp H
  obtain ⟨t124, A20, H⟩ := H
  replace H : (if t124 = true then (some true) else (if a0 ≥ 48 then (some (decide (a0 ≤ 57))) else (some false))) = some r := H
  have A2 := Aside0.mk A20
  clear A20
  by_cases c3 : t124 = true
  · subst c3
    have H1 : (some true) = some r := by rw [if_pos rfl] at H; exact H
    clear H
    have H := H1
    clear H1
    obtain rfl := Option.some.inj H
    go_enter Tryd.func36, Tryd.ntmps36
    go_wp2_with (first | ((with_reducible refine gate_callee (f := 38) rfl ?_); refine goesL_ (some 4) rfl rfl Tryd.func38 (by kernel_rfl) rfl #[.int .u8 a0] rfl (by (try simp only [List.map_toArray, List.map_cons, List.map_nil]); first | done | rfl | (simp only [List.length_drop, List.length_take]; rfl)) ?_; (with_reducible refine (harfbuzz_isAlpha.calls a0 true _ A2.out).mono ?_); rintro e w' ⟨rfl, ⟨nd, rfl⟩⟩; refine ⟨_, rfl, ?_⟩))
    go_ret
    exact ⟨by first | rfl | (simp; done) | (simp [*]; done), by repeat (first | exact Drawn0.refl _ | apply Drawn0.step)⟩
  · replace c3 := Bool.eq_false_iff.mpr c3
    subst c3
    have H1 : (if a0 ≥ 48 then (some (decide (a0 ≤ 57))) else (some false)) = some r := by rw [if_neg (show ¬ (false = true) by decide)] at H; exact H
    clear H
    have H := H1
    clear H1
    by_cases c4 : a0 ≥ 48
    · rw [if_pos c4] at H
      have c4b0 : decide (48 ≤ a0) = true := decide_eq_true c4
      clear c4
      obtain rfl := Option.some.inj H
      go_enter Tryd.func36, Tryd.ntmps36
      go_wp2_with (first | ((with_reducible refine gate_callee (f := 38) rfl ?_); refine goesL_ (some 4) rfl rfl Tryd.func38 (by kernel_rfl) rfl #[.int .u8 a0] rfl (by (try simp only [List.map_toArray, List.map_cons, List.map_nil]); first | done | rfl | (simp only [List.length_drop, List.length_take]; rfl)) ?_; (with_reducible refine (harfbuzz_isAlpha.calls a0 false _ A2.out).mono ?_); rintro e w' ⟨rfl, ⟨nd, rfl⟩⟩; refine ⟨_, rfl, ?_⟩))
      go_ret
      exact ⟨by first | rfl | (simp; done) | (simp [*]; done), by repeat (first | exact Drawn0.refl _ | apply Drawn0.step)⟩
    · rw [if_neg c4] at H
      have c4b0 : decide (48 ≤ a0) = false := decide_eq_false c4
      clear c4
      obtain rfl := Option.some.inj H
      go_enter Tryd.func36, Tryd.ntmps36
      go_wp2_with (first | ((with_reducible refine gate_callee (f := 38) rfl ?_); refine goesL_ (some 4) rfl rfl Tryd.func38 (by kernel_rfl) rfl #[.int .u8 a0] rfl (by (try simp only [List.map_toArray, List.map_cons, List.map_nil]); first | done | rfl | (simp only [List.length_drop, List.length_take]; rfl)) ?_; (with_reducible refine (harfbuzz_isAlpha.calls a0 false _ A2.out).mono ?_); rintro e w' ⟨rfl, ⟨nd, rfl⟩⟩; refine ⟨_, rfl, ?_⟩))
      go_ret
      exact ⟨by first | rfl | (simp; done) | (simp [*]; done), by repeat (first | exact Drawn0.refl _ | apply Drawn0.step)⟩

/-! ### strconv_Atoi: function 37 -/
def strconv_Atoi.f (a0 : ByteArray) : Option (Int × Option Int) := if a0.size ≤ 281474976710656 then (match Go.Lib.atoiAll a0.data.toList with | .ok v => some (v, none) | .range => some (Go.Lib.atoiSat a0.data.toList, some 0) | _ => some (0, some 0)) else none
theorem strconv_Atoi.calls (a0 : ByteArray) (r1 : Int) (r2 : Option Int) (w : World) (h : strconv_Atoi.f a0 = some (r1, r2)) (GG : Tab w) :
    Calls Tryd.prog 37 #[.string a0] w fun e w' => ∃ e1_ : Value, e = .returned (.tuple #[.int .i64 r1, e1_]) ∧ EV e1_ r2 ∧ Below w.heap.size w w' := by
  unfold strconv_Atoi.f at h
  split at h
  · rename_i hs
    split at h
    · rename_i v hv
      injection h with h
      injection h with h1 h2
      subst h1; subst h2
      refine (Tryd.strconv_Atoi_ok a0 (by omega) v hv w).mono ?_
      rintro e w' ⟨rfl, hw⟩
      refine ⟨_, rfl, rfl, ?_⟩
      rcases hw with rfl | ⟨t, rfl⟩
      · exact Below.refl _ _
      · exact Go.Joins.below_bytesWorld _ w _ t (Nat.le_refl _)
    · rename_i hv
      injection h with h
      injection h with h1 h2
      subst h1; subst h2
      obtain ⟨tp, p, hp⟩ := GG.rng
      refine (Tryd.strconv_Atoi_range_var a0 hs hv tp p w hp).mono ?_
      rintro e w' ⟨N, rfl, _, _, hb⟩
      exact ⟨_, rfl, ⟨_, _, rfl⟩, hb⟩
    · rename_i hv1 hv2
      cases hq : Go.Lib.atoiAll a0.data.toList with
      | ok v => exact absurd hq (hv1 v)
      | range => exact absurd hq hv2
      | _ =>
        injection h with h
        injection h with h1 h2
        subst h1; subst h2
        obtain ⟨tp, p, hp⟩ := GG.syn
        refine (Go.Proofs.Any.strconv_Atoi_syntax_var Tryd.laysC172 a0 hs hq tp p w hp).mono ?_
        rintro e w' ⟨N, rfl, _, _, hb⟩
        exact ⟨_, rfl, ⟨_, _, rfl⟩, hb⟩
  · cases h

/-! ### harfbuzz_parser_parseUint32: function 30 -/
theorem var_keep {P : Program} {w w' : World} {n : String} {cs : Array Value} (h : w.var? P n = some cs) (hb : Below w.heap.size w w') : w'.var? P n = some cs := by
  unfold World.var? at h ⊢
  cases hg : P.globalNamed n with
  | none => rw [hg] at h; cases h
  | some g =>
    rw [hg] at h
    simp only [Option.bind_some] at h ⊢
    have hlt : g < w.heap.size := by
      rcases Nat.lt_or_ge g w.heap.size with h' | h'
      · exact h'
      · rw [Array.getElem?_eq_none h'] at h; cases h
    rw [hb.block g hlt]
    exact h
theorem tab_below {w w' : World} (h : Tab w) (hb : Below w.heap.size w w') : Tab w' := by
  obtain ⟨h1, ⟨a, b, h2⟩, ⟨c, d, h3⟩⟩ := h
  exact ⟨var_keep h1 hb, ⟨a, b, var_keep h2 hb⟩, ⟨c, d, var_keep h3 hb⟩⟩
theorem ask_keep {w W W1 : World} {g : Nat} (h : KeepBut w W g none) (hb : Below W.heap.size W W1) : KeepBut w W1 g none := ⟨Nat.le_trans h.1 hb.size, fun i hi h1 h2 => (hb.block i (Nat.lt_of_lt_of_le hi h.1)).trans (h.2 i hi h1 h2)⟩
def harfbuzz_parser_parseUint32.l0 : Nat → List Int → Int → Option Int
  | 0, _, _ => none
  | k + 1, d, x => if x < (d.length : Int) then (if 0 ≤ x then ((harfbuzz_isAlnum.f (rd d x)).bind fun t => (if t = true then (harfbuzz_parser_parseUint32.l0 k d (wrap64 (x + 1))) else (some x))) else (none)) else (some x)
theorem harfbuzz_parser_parseUint32.mono_l : ∀ k d x, LeO (harfbuzz_parser_parseUint32.l0 k d x) (harfbuzz_parser_parseUint32.l0 (k + 1) d x)
  | 0 => fun _ _ r h => by simp [harfbuzz_parser_parseUint32.l0] at h
  | k + 1 => fun d x r h => by
    have ih := harfbuzz_parser_parseUint32.mono_l k
    rw [harfbuzz_parser_parseUint32.l0] at h ⊢
    split at h
    · rename_i c1
      rw [if_pos c1]
      split at h
      · rename_i c2
        rw [if_pos c2]
        obtain ⟨t, h1, h2⟩ := Option.bind_eq_some_iff.1 h
        rw [h1, Option.bind_some]
        split at h2
        · rename_i c3
          rw [if_pos c3]
          exact ih _ _ r h2
        · rename_i c3
          rw [if_neg c3]
          exact h2
      · cases h
    · rename_i c1
      rw [if_neg c1]
      exact h
def harfbuzz_parser_parseUint32.f (k : Nat) (s0_0 : List Int) (s0_1 : Int) : Option (Int × Bool × Int) := (harfbuzz_parser_parseUint32.l0 k s0_0 s0_1).bind fun q => if 0 ≤ s0_1 then (if s0_1 ≤ q then (if q ≤ (s0_0.length : Int) then ((strconv_Atoi.f (strOfNums ((s0_0.take (q : Int).toNat).drop (s0_1 : Int).toNat))).bind fun bt => some (IntKind.u32.wrap bt.1, bt.2.isNone, q)) else none) else none) else none
theorem harfbuzz_parser_parseUint32.mono : ∀ a0 a1 k, LeO (harfbuzz_parser_parseUint32.f k a0 a1) (harfbuzz_parser_parseUint32.f (k + 1) a0 a1) := by
  intro a0 a1 k r h
  unfold harfbuzz_parser_parseUint32.f at h ⊢
  obtain ⟨q, h1, h2⟩ := Option.bind_eq_some_iff.1 h
  rw [harfbuzz_parser_parseUint32.mono_l k a0 a1 q h1, Option.bind_some]
  exact h2
set_option maxHeartbeats 8000000 in
set_option maxRecDepth 100000 in
theorem harfbuzz_parser_parseUint32.calls (k : Nat) (g : Nat) (s0_0 : List Int) (s0_1 : Int) (r1 : Int) (r2 : Bool) (r3 : Int) (w0 w : World) (hI : IsS44 w0 w g s0_0 s0_1) (hB : Below w0.heap.size w0 w) (h : harfbuzz_parser_parseUint32.f k s0_0 s0_1 = some (r1, r2, r3)) (GG : Tab w0) :
    Calls Tryd.prog 30 #[.pointer (some ⟨g, 0, none⟩)] w fun e w' => e = .returned (.tuple #[.int .u32 r1, .bool r2]) ∧ IsS44 w0 w' g s0_0 r3 ∧ Below w0.heap.size w0 w' ∧ KeepBut w w' g none := by
  have HI0 := Aside0.mk hI
  have HK := Aside0.mk (KeepBut.refl w g none)
  have HL := Aside0.mk hB.size
  clear hI
  have HW0 := Aside0.mk hB.size
  have HB := Aside0.mk hB
  clear hB
  have GH := Aside0.mk GG
  clear GG
  unfold harfbuzz_parser_parseUint32.f at h
  obtain ⟨q, hq, h⟩ := Option.bind_eq_some_iff.1 h
  split at h
  case isFalse => cases h
  rename_i p1
  split at h
  case isFalse => cases h
  rename_i p2
  split at h
  case isFalse => cases h
  rename_i p3
  obtain ⟨⟨v1, v2⟩, ha, h⟩ := Option.bind_eq_some_iff.1 h
  simp only [Option.some.injEq, Prod.mk.injEq] at h
  obtain ⟨rfl, rfl, rfl⟩ := h
  have AA := Aside0.mk ha
  clear ha
  have P1 := Aside0.mk p1
  have P2 := Aside0.mk p2
  have P3 := Aside0.mk p3
  clear p1 p2 p3
  have H' := Aside0.mk hq
  clear hq
  go_enter Tryd.func30, Tryd.ntmps30
  obtain ⟨ASz0_0, cSz0_0, HGz0, hgz0, HSz0_0⟩ := HI0.out
  have hcz0_0 := cellS44_0 HGz0
  have hcz0_1 := cellS44_1 HGz0
  clear HGz0 hgz0 HSz0_0
  go_wp2
  clear hcz0_0 hcz0_1
  go_loopg [] k (fun kq w' => ∃ (x1001_1 : Int), Aside0 (harfbuzz_parser_parseUint32.l0 kq s0_0 x1001_1 = some q) ∧ Aside0 (kq ≤ k) ∧ Aside0 (IsS44 w0 w' g s0_0 x1001_1) ∧ Aside0 (KeepBut w w' g none) ∧ Aside0 (Below w0.heap.size w0 w'))
  case atStart => exact ⟨(s0_1), H', ⟨Nat.le_refl _⟩, ⟨by repeat (first | (with_reducible first | exact HI0.out | apply IsS44.alloc | apply IsS44.drewN | apply IsS44.drew | apply IsS44.set_1) | exact HI0.out)⟩, ⟨by repeat (first | (with_reducible first | exact HK.out | apply KeepBut.set_ | apply keep_drewN | apply keep_drew | apply keep_alloc) | exact HK.out)⟩, ⟨by repeat (first | (with_reducible first | exact HB.out | apply below_alloc | apply pw_below_drewN | apply below_drew1 | refine below_set ?_ (IsS44.ge HI0.out)) | exact HB.out)⟩⟩
  case round =>
    clear H'
    obtain ⟨x1001_1, HA, HK1, HI0, HK, HB⟩ := hrel
    cases gk with
    | zero => exact absurd HA.out (by simp [harfbuzz_parser_parseUint32.l0])
    | succ k1 =>
      have H := HA.out
      clear HA
      simp only [harfbuzz_parser_parseUint32.l0] at H
      by_cases c2 : x1001_1 < (s0_0.length : Int)
      · rw [if_pos c2] at H
        have c2b0 : decide (x1001_1 < (s0_0.length : Int)) = true := decide_eq_true c2
        by_cases c3 : 0 ≤ x1001_1
        · rw [if_pos c3] at H
          have c3b0 : decide (0 ≤ x1001_1) = true := decide_eq_true c3
          replace H := Option.bind_eq_some_iff.mp H
          obtain ⟨t124, A40, H⟩ := H
          have A4 := Aside0.mk A40
          clear A40
          obtain ⟨ASz6_0, cSz6_0, HGz6, hgz6, HSz6_0⟩ := HI0.out
          have hcz6_0 := cellS44_0 HGz6
          have hcz6_1 := cellS44_1 HGz6
          have hfz6_1 := blk_frozen HGz6 1
          clear HGz6 hgz6
          have HCz6_0 := Aside0.mk HSz6_0.2
          replace HSz6_0 := HSz6_0.1
          obtain ⟨ad123, e123, hx123_0⟩ := Kd.at_int HSz6_0 x1001_1 c3 c2
          cases e123
          replace hx123_0 := pw_cell_below HB.out hx123_0
          have p123 := eq_true c3
          have q123 := eq_true c2
          clear c2 c3
          by_cases c5 : t124 = true
          · subst c5
            rw [if_pos rfl] at H
            have H' := Aside0.mk H
            clear H
            go_wp2_with (first | (go_at_call 36; (with_reducible refine (harfbuzz_isAlnum.calls (rd s0_0 x1001_1) true _ A4.out).mono ?_); rintro e w' ⟨rfl, ⟨nd, rfl⟩⟩; (try first | exact ⟨rfl, _, World.drewN_drewN _ _ _⟩ | exact ⟨rfl, _, Eq.trans (World.drewN_drewN _ _ _) (congrArg (World.drewN _) (Nat.add_assoc _ _ _))⟩)))
            repeat (go_quiet (first | (go_at_call 36; (with_reducible refine (harfbuzz_isAlnum.calls (rd s0_0 x1001_1) true _ A4.out).mono ?_); rintro e w' ⟨rfl, ⟨nd, rfl⟩⟩; (try first | exact ⟨rfl, _, World.drewN_drewN _ _ _⟩ | exact ⟨rfl, _, Eq.trans (World.drewN_drewN _ _ _) (congrArg (World.drewN _) (Nat.add_assoc _ _ _))⟩))); try go_wp2_with (first | (go_at_call 36; (with_reducible refine (harfbuzz_isAlnum.calls (rd s0_0 x1001_1) true _ A4.out).mono ?_); rintro e w' ⟨rfl, ⟨nd, rfl⟩⟩; (try first | exact ⟨rfl, _, World.drewN_drewN _ _ _⟩ | exact ⟨rfl, _, Eq.trans (World.drewN_drewN _ _ _) (congrArg (World.drewN _) (Nat.add_assoc _ _ _))⟩))))
            go_roundg k1
            case measure => have := HK1.out; omega
            case rel => exact ⟨(wrap64 (x1001_1 + 1)), H', ⟨by have := HK1.out; omega⟩, ⟨by repeat (first | (with_reducible first | exact HI0.out | apply IsS44.alloc | apply IsS44.drewN | apply IsS44.drew | apply IsS44.set_1) | exact HI0.out)⟩, ⟨by repeat (first | (with_reducible first | exact HK.out | apply KeepBut.set_ | apply keep_drewN | apply keep_drew | apply keep_alloc) | exact HK.out)⟩, ⟨by repeat (first | (with_reducible first | exact HB.out | apply below_alloc | apply pw_below_drewN | apply below_drew1 | refine below_set ?_ (IsS44.ge HI0.out)) | exact HB.out)⟩⟩
          · replace c5 := Bool.eq_false_iff.mpr c5
            subst c5
            rw [if_neg (show ¬ (false = true) by decide)] at H
            obtain rfl := Option.some.inj H
            have P1o := P1.out
            have P2o := P2.out
            have P3o := P3.out
            obtain ⟨i018, hi018, _, hsz18, _⟩ := info_parts info5
            obtain ⟨A18, hcut18, hA18, hC18⟩ := print_mid_of (P := Tryd.prog) (Value.int .u8) 0 33 5 .i64 .i64 Tryd.underlying33 hi018 hsz18 (some ad123) cSz6_0 s0_0 s0_1 x1001_1 P1o P2o P3o HCz6_0.out
            have HR140 := Kd.C_below (Kd.C_of_reads (h1 := fun _ => rfl) (hA18 _ (Kd.reads_of_C HSz6_0))) HB.out
            have hl18 : ((s0_0.take x1001_1.toNat).drop s0_1.toNat).length = x1001_1.toNat - s0_1.toNat := by rw [List.length_drop, List.length_take]; omega
            rw [hl18] at hcut18 HR140
            have hcvA := Kd.C_string (P := Tryd.prog) (A := A18) (c := (cSz6_0 - s0_1.toNat)) Tryd.underlying33 Tryd.underlying5 Tryd.underlying9 HR140
            have hcvD := Kd.C_string (P := Tryd.prog) (A := A18) (c := (cSz6_0 - s0_1.toNat)) Tryd.underlying33 Tryd.underlying5 Tryd.underlying9 (Kd.C_drew HR140)
            have hcvN : ∀ m : Nat, (convert 33 9 (.slice A18 (x1001_1.toNat - s0_1.toNat) (cSz6_0 - s0_1.toNat))).run Tryd.prog (wr.drewN m) = .ok (.string (strOfNums ((s0_0.take x1001_1.toNat).drop s0_1.toNat))) (wr.drewN m) := fun m => Kd.C_string (P := Tryd.prog) (A := A18) (c := (cSz6_0 - s0_1.toNat)) Tryd.underlying33 Tryd.underlying5 Tryd.underlying9 (Kd.C_drewN HR140 m)
            have hP1 := eq_true P1o
            have hP2 := eq_true P2o
            have hP3 := eq_true P3o
            have hd1 : decide (0 ≤ s0_1) = true := decide_eq_true P1o
            have hd2 : decide (s0_1 ≤ x1001_1) = true := decide_eq_true P2o
            have hd3 : decide (x1001_1 ≤ (s0_0.length : Int)) = true := decide_eq_true P3o
            clear P1o P2o P3o hA18 hC18 hi018 hsz18 hl18
            go_wp2_with (first | (go_at_call 36; (with_reducible refine (harfbuzz_isAlnum.calls (rd s0_0 x1001_1) false _ A4.out).mono ?_); rintro e w' ⟨rfl, ⟨nd, rfl⟩⟩; (try first | exact ⟨rfl, _, World.drewN_drewN _ _ _⟩ | exact ⟨rfl, _, Eq.trans (World.drewN_drewN _ _ _) (congrArg (World.drewN _) (Nat.add_assoc _ _ _))⟩)))
            repeat (go_quiet (first | (go_at_call 36; (with_reducible refine (harfbuzz_isAlnum.calls (rd s0_0 x1001_1) false _ A4.out).mono ?_); rintro e w' ⟨rfl, ⟨nd, rfl⟩⟩; (try first | exact ⟨rfl, _, World.drewN_drewN _ _ _⟩ | exact ⟨rfl, _, Eq.trans (World.drewN_drewN _ _ _) (congrArg (World.drewN _) (Nat.add_assoc _ _ _))⟩))); try go_wp2_with (first | (go_at_call 36; (with_reducible refine (harfbuzz_isAlnum.calls (rd s0_0 x1001_1) false _ A4.out).mono ?_); rintro e w' ⟨rfl, ⟨nd, rfl⟩⟩; (try first | exact ⟨rfl, _, World.drewN_drewN _ _ _⟩ | exact ⟨rfl, _, Eq.trans (World.drewN_drewN _ _ _) (congrArg (World.drewN _) (Nat.add_assoc _ _ _))⟩))))
            go_region_with (first | (go_at_call 37; refine (strconv_Atoi.calls _ v1 v2 _ AA.out ?_).mono ?_; exact (tab_below GH.out (by repeat (first | (with_reducible first | exact HB.out | apply below_alloc | apply pw_below_drewN | apply below_drew1 | refine below_set ?_ (IsS44.ge HI0.out)) | exact HB.out))); rintro e w2 ⟨ev, rfl, hev, hb⟩))
            all_goals (rcases v2 with _ | e0)
            all_goals (first | (obtain rfl := EV_none hev) | (obtain ⟨te, pe, rfl⟩ := EV_some hev))
            all_goals clear hcvN hcvD hcvA
            all_goals go_wp2
            all_goals (repeat (go_quiet (fail); try go_wp2))
            all_goals go_ret2
            all_goals refine ⟨by first | rfl | simp, ?_, ?_, ?_⟩
            all_goals (first | (exact IsS44.drewN (IsS44.below (by exact HI0.out) hb) _) | (exact pw_below_drewN (below_step (pw_below_drewN HB.out _) hb) _) | (exact pw_below_drewN (below_step (pw_below_drewN (pw_below_drewN HB.out _) _) hb) _) | (exact keep_drewN (ask_keep (keep_drewN HK.out _) hb) _) | (exact keep_drewN (ask_keep (keep_drewN (keep_drewN HK.out _) _) hb) _))
        · rw [if_neg c3] at H
          exact absurd H (by simp)
      · rw [if_neg c2] at H
        have c2b0 : decide (x1001_1 < (s0_0.length : Int)) = false := decide_eq_false c2
        clear c2
        obtain rfl := Option.some.inj H
        obtain ⟨ASz6_0, cSz6_0, HGz6, hgz6, HSz6_0⟩ := HI0.out
        have hcz6_0 := cellS44_0 HGz6
        have hcz6_1 := cellS44_1 HGz6
        have hfz6_1 := blk_frozen HGz6 1
        clear HGz6 hgz6
        have HCz6_0 := Aside0.mk HSz6_0.2
        replace HSz6_0 := HSz6_0.1
        have P1o := P1.out
        have P2o := P2.out
        have P3o := P3.out
        obtain ⟨i018, hi018, _, hsz18, _⟩ := info_parts info5
        obtain ⟨A18, hcut18, hA18, hC18⟩ := print_mid_of (P := Tryd.prog) (Value.int .u8) 0 33 5 .i64 .i64 Tryd.underlying33 hi018 hsz18 ASz6_0 cSz6_0 s0_0 s0_1 x1001_1 P1o P2o P3o HCz6_0.out
        have HR140 := Kd.C_below (Kd.C_of_reads (h1 := fun _ => rfl) (hA18 _ (Kd.reads_of_C HSz6_0))) HB.out
        have hl18 : ((s0_0.take x1001_1.toNat).drop s0_1.toNat).length = x1001_1.toNat - s0_1.toNat := by rw [List.length_drop, List.length_take]; omega
        rw [hl18] at hcut18 HR140
        have hcvA := Kd.C_string (P := Tryd.prog) (A := A18) (c := (cSz6_0 - s0_1.toNat)) Tryd.underlying33 Tryd.underlying5 Tryd.underlying9 HR140
        have hcvD := Kd.C_string (P := Tryd.prog) (A := A18) (c := (cSz6_0 - s0_1.toNat)) Tryd.underlying33 Tryd.underlying5 Tryd.underlying9 (Kd.C_drew HR140)
        have hcvN : ∀ m : Nat, (convert 33 9 (.slice A18 (x1001_1.toNat - s0_1.toNat) (cSz6_0 - s0_1.toNat))).run Tryd.prog (wr.drewN m) = .ok (.string (strOfNums ((s0_0.take x1001_1.toNat).drop s0_1.toNat))) (wr.drewN m) := fun m => Kd.C_string (P := Tryd.prog) (A := A18) (c := (cSz6_0 - s0_1.toNat)) Tryd.underlying33 Tryd.underlying5 Tryd.underlying9 (Kd.C_drewN HR140 m)
        have hP1 := eq_true P1o
        have hP2 := eq_true P2o
        have hP3 := eq_true P3o
        have hd1 : decide (0 ≤ s0_1) = true := decide_eq_true P1o
        have hd2 : decide (s0_1 ≤ x1001_1) = true := decide_eq_true P2o
        have hd3 : decide (x1001_1 ≤ (s0_0.length : Int)) = true := decide_eq_true P3o
        clear P1o P2o P3o hA18 hC18 hi018 hsz18 hl18
        go_wp2
        repeat (go_quiet (fail); try go_wp2)
        go_region_with (first | (go_at_call 37; refine (strconv_Atoi.calls _ v1 v2 _ AA.out ?_).mono ?_; exact (tab_below GH.out (by repeat (first | (with_reducible first | exact HB.out | apply below_alloc | apply pw_below_drewN | apply below_drew1 | refine below_set ?_ (IsS44.ge HI0.out)) | exact HB.out))); rintro e w2 ⟨ev, rfl, hev, hb⟩))
        all_goals (rcases v2 with _ | e0)
        all_goals (first | (obtain rfl := EV_none hev) | (obtain ⟨te, pe, rfl⟩ := EV_some hev))
        all_goals clear hcvN hcvD hcvA
        all_goals go_wp2
        all_goals (repeat (go_quiet (fail); try go_wp2))
        all_goals go_ret2
        all_goals refine ⟨by first | rfl | simp, ?_, ?_, ?_⟩
        all_goals (first | (exact IsS44.drewN (IsS44.below (by exact HI0.out) hb) _) | (exact pw_below_drewN (below_step (pw_below_drewN HB.out _) hb) _) | (exact pw_below_drewN (below_step (pw_below_drewN (pw_below_drewN HB.out _) _) hb) _) | (exact keep_drewN (ask_keep (keep_drewN HK.out _) hb) _) | (exact keep_drewN (ask_keep (keep_drewN (keep_drewN HK.out _) _) hb) _))

/-! ### harfbuzz_parser_parseFeatureIndices: function 19 -/
mutual
def harfbuzz_parser_parseFeatureIndices.j0 : Nat → Int → Int → Bool → Bool → List Int → Int → Option (Int × Int × Option Int × Int)
  | 0, _, _, _, _, _, _ => none
  | k + 1, x2, x3, x6, x28, x1000, x1001 => if x28 = true then ((harfbuzz_parser_parseUint32.f k x1000 x1001).bind fun bt135 => (if bt135.2.1 = true then (harfbuzz_parser_parseFeatureIndices.j1 k x2 (wrap64 (bt135.1)) x1000 bt135.2.2) else (harfbuzz_parser_parseFeatureIndices.j1 k x2 x3 x1000 bt135.2.2))) else (if x6 = true then (harfbuzz_parser_parseFeatureIndices.j1 k x2 (wrap64 (x2 + 1)) x1000 x1001) else (harfbuzz_parser_parseFeatureIndices.j1 k x2 x3 x1000 x1001))
def harfbuzz_parser_parseFeatureIndices.j1 : Nat → Int → Int → List Int → Int → Option (Int × Int × Option Int × Int)
  | 0, _, _, _, _ => none
  | k + 1, x2, x3, x1000, x1001 => (harfbuzz_parser_parseChar.f k x1000 x1001 93).bind fun bt138 => (if bt138.1 = true then (some (x2, x3, none, bt138.2)) else ((errors_New.f (⟨#[101, 120, 112, 101, 99, 116, 105, 110, 103, 32, 99, 108, 111, 115, 105, 110, 103, 32, 98, 114, 97, 99, 107, 101, 100, 32, 97, 102, 116, 101, 114, 32, 102, 101, 97, 116, 117, 114, 101, 32, 105, 110, 100, 105, 99, 101, 115]⟩ : ByteArray)).bind fun t140 => (some (0, 0, t140, bt138.2))))
end
def harfbuzz_parser_parseFeatureIndices.f (k : Nat) (s0_0 : List Int) (s0_1 : Int) : Option (Int × Int × Option Int × Int) := (harfbuzz_parser_skipSpaces.f k s0_0 s0_1).bind fun t125 => ((harfbuzz_parser_parseChar.f k s0_0 t125 91).bind fun bt126 => (if bt126.1 = true then ((harfbuzz_parser_parseUint32.f k s0_0 bt126.2).bind fun bt128 => ((harfbuzz_parser_parseChar.f k s0_0 bt128.2.2 58).bind fun bt131 => (if bt131.1 = true then (harfbuzz_parser_parseFeatureIndices.j0 k (wrap64 (bt128.1)) 9223372036854775807 bt128.2.1 true s0_0 bt131.2) else ((harfbuzz_parser_parseChar.f k s0_0 bt131.2 59).bind fun bt133 => (harfbuzz_parser_parseFeatureIndices.j0 k (wrap64 (bt128.1)) 9223372036854775807 bt128.2.1 bt133.1 s0_0 bt133.2))))) else (some (0, 9223372036854775807, none, bt126.2))))
theorem harfbuzz_parser_parseFeatureIndices.mono_l : ∀ k, (∀ y0 y1 y2 y3 y4 y5, LeO (harfbuzz_parser_parseFeatureIndices.j0 k y0 y1 y2 y3 y4 y5) (harfbuzz_parser_parseFeatureIndices.j0 (k + 1) y0 y1 y2 y3 y4 y5)) ∧ (∀ y0 y1 y2 y3, LeO (harfbuzz_parser_parseFeatureIndices.j1 k y0 y1 y2 y3) (harfbuzz_parser_parseFeatureIndices.j1 (k + 1) y0 y1 y2 y3))
  | 0 => ⟨fun _ _ _ _ _ _ r h => by simp [harfbuzz_parser_parseFeatureIndices.j0] at h, fun _ _ _ _ r h => by simp [harfbuzz_parser_parseFeatureIndices.j1] at h⟩
  | k + 1 => by
    obtain ⟨ih0, ih1⟩ := harfbuzz_parser_parseFeatureIndices.mono_l k
    refine ⟨?_, ?_⟩
    · intro y0 y1 y2 y3 y4 y5
      unfold harfbuzz_parser_parseFeatureIndices.j0
      repeat' first
      | (with_reducible exact ih0 _ _ _ _ _ _)
      | (with_reducible exact ih1 _ _ _ _)
      | (with_reducible exact harfbuzz_parser_parseChar.mono _ _ _ _)
      | (with_reducible exact harfbuzz_parser_parseUint32.mono _ _ _)
      | (with_reducible exact harfbuzz_parser_skipSpaces.mono _ _ _)
      | (with_reducible exact LeO.refl _)
      | (with_reducible exact LeO.none _)
      | (with_reducible refine LeO.ite ?_ ?_)
      | (with_reducible refine LeO.bind ?_ (fun _ => ?_))
      | exact ih0 _ _ _ _ _ _
      | exact ih1 _ _ _ _
      | exact harfbuzz_parser_parseChar.mono _ _ _ _
      | exact harfbuzz_parser_parseUint32.mono _ _ _
      | exact harfbuzz_parser_skipSpaces.mono _ _ _
      | exact LeO.none _
      | refine LeO.ite ?_ ?_
      | refine LeO.bind ?_ (fun _ => ?_)
    · intro y0 y1 y2 y3
      unfold harfbuzz_parser_parseFeatureIndices.j1
      repeat' first
      | (with_reducible exact ih0 _ _ _ _ _ _)
      | (with_reducible exact ih1 _ _ _ _)
      | (with_reducible exact harfbuzz_parser_parseChar.mono _ _ _ _)
      | (with_reducible exact harfbuzz_parser_parseUint32.mono _ _ _)
      | (with_reducible exact harfbuzz_parser_skipSpaces.mono _ _ _)
      | (with_reducible exact LeO.refl _)
      | (with_reducible exact LeO.none _)
      | (with_reducible refine LeO.ite ?_ ?_)
      | (with_reducible refine LeO.bind ?_ (fun _ => ?_))
      | exact ih0 _ _ _ _ _ _
      | exact ih1 _ _ _ _
      | exact harfbuzz_parser_parseChar.mono _ _ _ _
      | exact harfbuzz_parser_parseUint32.mono _ _ _
      | exact harfbuzz_parser_skipSpaces.mono _ _ _
      | exact LeO.none _
      | refine LeO.ite ?_ ?_
      | refine LeO.bind ?_ (fun _ => ?_)
theorem harfbuzz_parser_parseFeatureIndices.mono : ∀ a0 a1 k, LeO (harfbuzz_parser_parseFeatureIndices.f k a0 a1) (harfbuzz_parser_parseFeatureIndices.f (k + 1) a0 a1) := by
  intro a0 a1 k
  obtain ⟨ih0, ih1⟩ := harfbuzz_parser_parseFeatureIndices.mono_l k
  unfold harfbuzz_parser_parseFeatureIndices.f
  repeat' first
      | (with_reducible exact ih0 _ _ _ _ _ _)
      | (with_reducible exact ih1 _ _ _ _)
      | (with_reducible exact harfbuzz_parser_parseChar.mono _ _ _ _)
      | (with_reducible exact harfbuzz_parser_parseUint32.mono _ _ _)
      | (with_reducible exact harfbuzz_parser_skipSpaces.mono _ _ _)
      | (with_reducible exact LeO.refl _)
      | (with_reducible exact LeO.none _)
      | (with_reducible refine LeO.ite ?_ ?_)
      | (with_reducible refine LeO.bind ?_ (fun _ => ?_))
      | exact ih0 _ _ _ _ _ _
      | exact ih1 _ _ _ _
      | exact harfbuzz_parser_parseChar.mono _ _ _ _
      | exact harfbuzz_parser_parseUint32.mono _ _ _
      | exact harfbuzz_parser_skipSpaces.mono _ _ _
      | exact LeO.none _
      | refine LeO.ite ?_ ?_
      | refine LeO.bind ?_ (fun _ => ?_)
set_option maxHeartbeats 8000000 in
set_option maxRecDepth 100000 in
theorem harfbuzz_parser_parseFeatureIndices.calls (k : Nat) (g : Nat) (s0_0 : List Int) (s0_1 : Int) (r1 : Int) (r2 : Int) (r3 : Option Int) (r4 : Int) (w0 w : World) (hI : IsS44 w0 w g s0_0 s0_1) (hB : Below w0.heap.size w0 w) (h : harfbuzz_parser_parseFeatureIndices.f k s0_0 s0_1 = some (r1, r2, r3, r4)) (GG : Tab w0) :
    Calls Tryd.prog 19 #[.pointer (some ⟨g, 0, none⟩)] w fun e w' => ∃ e2_ : Value, e = .returned (.tuple #[.int .i64 r1, .int .i64 r2, e2_]) ∧ EV e2_ r3 ∧ IsS44 w0 w' g s0_0 r4 ∧ Below w0.heap.size w0 w' ∧ KeepBut w w' g none := by
  have HI0 := Aside0.mk hI
  have HK := Aside0.mk (KeepBut.refl w g none)
  have HL := Aside0.mk hB.size
  clear hI
  have HW0 := Aside0.mk hB.size
  have HB := Aside0.mk hB
  clear hB
  have H : ((harfbuzz_parser_skipSpaces.f k s0_0 s0_1).bind fun t125 => ((harfbuzz_parser_parseChar.f k s0_0 t125 91).bind fun bt126 => (if bt126.1 = true then ((harfbuzz_parser_parseUint32.f k s0_0 bt126.2).bind fun bt128 => ((harfbuzz_parser_parseChar.f k s0_0 bt128.2.2 58).bind fun bt131 => (if bt131.1 = true then (harfbuzz_parser_parseFeatureIndices.j0 k (wrap64 (bt128.1)) 9223372036854775807 bt128.2.1 true s0_0 bt131.2) else ((harfbuzz_parser_parseChar.f k s0_0 bt131.2 59).bind fun bt133 => (harfbuzz_parser_parseFeatureIndices.j0 k (wrap64 (bt128.1)) 9223372036854775807 bt128.2.1 bt133.1 s0_0 bt133.2))))) else (some (0, 9223372036854775807, none, bt126.2))))) = some (r1, r2, r3, r4) := h
  clear h
  replace H := Option.bind_eq_some_iff.mp H
  obtain ⟨t125, A20, H⟩ := H
  replace H : ((harfbuzz_parser_parseChar.f k s0_0 t125 91).bind fun bt126 => (if bt126.1 = true then ((harfbuzz_parser_parseUint32.f k s0_0 bt126.2).bind fun bt128 => ((harfbuzz_parser_parseChar.f k s0_0 bt128.2.2 58).bind fun bt131 => (if bt131.1 = true then (harfbuzz_parser_parseFeatureIndices.j0 k (wrap64 (bt128.1)) 9223372036854775807 bt128.2.1 true s0_0 bt131.2) else ((harfbuzz_parser_parseChar.f k s0_0 bt131.2 59).bind fun bt133 => (harfbuzz_parser_parseFeatureIndices.j0 k (wrap64 (bt128.1)) 9223372036854775807 bt128.2.1 bt133.1 s0_0 bt133.2))))) else (some (0, 9223372036854775807, none, bt126.2)))) = some (r1, r2, r3, r4) := H
  have A2 := Aside0.mk A20
  clear A20
  replace H := Option.bind_eq_some_iff.mp H
  obtain ⟨⟨t126, t127⟩, A30, H⟩ := H
  replace H : (if t126 = true then ((harfbuzz_parser_parseUint32.f k s0_0 t127).bind fun bt128 => ((harfbuzz_parser_parseChar.f k s0_0 bt128.2.2 58).bind fun bt131 => (if bt131.1 = true then (harfbuzz_parser_parseFeatureIndices.j0 k (wrap64 (bt128.1)) 9223372036854775807 bt128.2.1 true s0_0 bt131.2) else ((harfbuzz_parser_parseChar.f k s0_0 bt131.2 59).bind fun bt133 => (harfbuzz_parser_parseFeatureIndices.j0 k (wrap64 (bt128.1)) 9223372036854775807 bt128.2.1 bt133.1 s0_0 bt133.2))))) else (some (0, 9223372036854775807, none, t127))) = some (r1, r2, r3, r4) := H
  have A3 := Aside0.mk A30
  clear A30
  by_cases c4 : t126 = true
  · subst c4
    have H1 : ((harfbuzz_parser_parseUint32.f k s0_0 t127).bind fun bt128 => ((harfbuzz_parser_parseChar.f k s0_0 bt128.2.2 58).bind fun bt131 => (if bt131.1 = true then (harfbuzz_parser_parseFeatureIndices.j0 k (wrap64 (bt128.1)) 9223372036854775807 bt128.2.1 true s0_0 bt131.2) else ((harfbuzz_parser_parseChar.f k s0_0 bt131.2 59).bind fun bt133 => (harfbuzz_parser_parseFeatureIndices.j0 k (wrap64 (bt128.1)) 9223372036854775807 bt128.2.1 bt133.1 s0_0 bt133.2))))) = some (r1, r2, r3, r4) := by rw [if_pos rfl] at H; exact H
    clear H
    have H := H1
    clear H1
    replace H := Option.bind_eq_some_iff.mp H
    obtain ⟨⟨t128, t129, t130⟩, A50, H⟩ := H
    replace H : ((harfbuzz_parser_parseChar.f k s0_0 t130 58).bind fun bt131 => (if bt131.1 = true then (harfbuzz_parser_parseFeatureIndices.j0 k (wrap64 (t128)) 9223372036854775807 t129 true s0_0 bt131.2) else ((harfbuzz_parser_parseChar.f k s0_0 bt131.2 59).bind fun bt133 => (harfbuzz_parser_parseFeatureIndices.j0 k (wrap64 (t128)) 9223372036854775807 t129 bt133.1 s0_0 bt133.2)))) = some (r1, r2, r3, r4) := H
    have A5 := Aside0.mk A50
    clear A50
    have HC6 := Aside0.mk H
    clear H
    go_enter Tryd.func19, Tryd.ntmps19
    go_upto_region 7 with (first | ((with_reducible refine gate_callee (f := 21) rfl ?_); refine goesL_ (some 10) rfl rfl Tryd.func21 (by kernel_rfl) rfl #[.pointer (some ⟨g, 0, none⟩)] rfl (by (try simp only [List.map_toArray, List.map_cons, List.map_nil]); first | done | rfl | (simp only [List.length_drop, List.length_take]; rfl)) ?_; (with_reducible refine (harfbuzz_parser_skipSpaces.calls k g s0_0 s0_1 t125 w0 _ ?side1 ?side2 A2.out).mono ?_); (case side1 => repeat (first | (with_reducible first | exact HI0.out | apply IsS44.alloc | apply IsS44.drewN | apply IsS44.drew | apply IsS44.set_1) | exact HI0.out)); (case side2 => repeat (first | (with_reducible first | exact HB.out | apply below_alloc | apply pw_below_drewN | apply below_drew1 | refine below_set ?_ (IsS44.ge HI0.out)) | exact HB.out)); rintro e w7 ⟨rfl, hi, hb, hk⟩; refine ⟨_, rfl, ?_⟩; have n0_ := Aside0.mk (KeepBut.trans (by repeat (first | (with_reducible first | exact HK.out | apply KeepBut.set_ | apply keep_drewN | apply keep_drew | apply keep_alloc) | exact HK.out)) hk (.inl rfl)); have n1_ := Aside0.mk (hb); have n2_ := Aside0.mk (hi); clear HK; clear HB; clear HI0; have HK := n0_; have HB := n1_; have HI0 := n2_; clear n0_ n1_ n2_; (try clear hb); (try clear hb2); (try clear hk); (try clear hi)) | ((with_reducible refine gate_callee (f := 27) rfl ?_); refine goesL_ (some 12) rfl rfl Tryd.func27 (by kernel_rfl) rfl #[.pointer (some ⟨g, 0, none⟩), .int .u8 91] rfl (by (try simp only [List.map_toArray, List.map_cons, List.map_nil]); first | done | rfl | (simp only [List.length_drop, List.length_take]; rfl)) ?_; (with_reducible refine (harfbuzz_parser_parseChar.calls k g s0_0 t125 91 true t127 w0 _ ?side1 ?side2 A3.out).mono ?_); (case side1 => repeat (first | (with_reducible first | exact HI0.out | apply IsS44.alloc | apply IsS44.drewN | apply IsS44.drew | apply IsS44.set_1) | exact HI0.out)); (case side2 => repeat (first | (with_reducible first | exact HB.out | apply below_alloc | apply pw_below_drewN | apply below_drew1 | refine below_set ?_ (IsS44.ge HI0.out)) | exact HB.out)); rintro e w8 ⟨rfl, hi, hb, hk⟩; refine ⟨_, rfl, ?_⟩; have n0_ := Aside0.mk (KeepBut.trans (by repeat (first | (with_reducible first | exact HK.out | apply KeepBut.set_ | apply keep_drewN | apply keep_drew | apply keep_alloc) | exact HK.out)) hk (.inl rfl)); have n1_ := Aside0.mk (hb); have n2_ := Aside0.mk (hi); clear HK; clear HB; clear HI0; have HK := n0_; have HB := n1_; have HI0 := n2_; clear n0_ n1_ n2_; (try clear hb); (try clear hb2); (try clear hk); (try clear hi)) | ((with_reducible refine gate_callee (f := 30) rfl ?_); refine goesL_ (some 18) rfl rfl Tryd.func30 (by kernel_rfl) rfl #[.pointer (some ⟨g, 0, none⟩)] rfl (by (try simp only [List.map_toArray, List.map_cons, List.map_nil]); first | done | rfl | (simp only [List.length_drop, List.length_take]; rfl)) ?_; (with_reducible refine (harfbuzz_parser_parseUint32.calls k g s0_0 t127 t128 t129 t130 w0 _ ?side1 ?side2 A5.out GG).mono ?_); (case side1 => repeat (first | (with_reducible first | exact HI0.out | apply IsS44.alloc | apply IsS44.drewN | apply IsS44.drew | apply IsS44.set_1) | exact HI0.out)); (case side2 => repeat (first | (with_reducible first | exact HB.out | apply below_alloc | apply pw_below_drewN | apply below_drew1 | refine below_set ?_ (IsS44.ge HI0.out)) | exact HB.out)); rintro e w9 ⟨rfl, hi, hb, hk⟩; refine ⟨_, rfl, ?_⟩; have n0_ := Aside0.mk (KeepBut.trans (by repeat (first | (with_reducible first | exact HK.out | apply KeepBut.set_ | apply keep_drewN | apply keep_drew | apply keep_alloc) | exact HK.out)) hk (.inl rfl)); have n1_ := Aside0.mk (hb); have n2_ := Aside0.mk (hi); clear HK; clear HB; clear HI0; have HK := n0_; have HB := n1_; have HI0 := n2_; clear n0_ n1_ n2_; (try clear hb); (try clear hb2); (try clear hk); (try clear hi)))
    (try simp only [Act.put, List.setIfInBounds_toArray, List.set_cons_zero, List.set_cons_succ])
    go_cut [28] (fun v28 wc => ∃ (kq : Nat) (x28_5 : Bool) (x1001_5 : Int), v28 = .bool x28_5 ∧ Aside0 (harfbuzz_parser_parseFeatureIndices.j0 kq (wrap64 (t128)) 9223372036854775807 t129 x28_5 s0_0 x1001_5 = some (r1, r2, r3, r4)) ∧ Aside0 (kq ≤ k) ∧ Aside0 (IsS44 w0 wc g s0_0 x1001_5) ∧ Aside0 (KeepBut w wc g none) ∧ Aside0 (Below w0.heap.size w0 wc))
    case first =>
      have H := HC6.out
      clear HC6
      replace H := Option.bind_eq_some_iff.mp H
      obtain ⟨⟨t131, t132⟩, A100, H⟩ := H
      replace H : (if t131 = true then (harfbuzz_parser_parseFeatureIndices.j0 k (wrap64 (t128)) 9223372036854775807 t129 true s0_0 t132) else ((harfbuzz_parser_parseChar.f k s0_0 t132 59).bind fun bt133 => (harfbuzz_parser_parseFeatureIndices.j0 k (wrap64 (t128)) 9223372036854775807 t129 bt133.1 s0_0 bt133.2))) = some (r1, r2, r3, r4) := H
      have A10 := Aside0.mk A100
      clear A100
      by_cases c11 : t131 = true
      · subst c11
        have H1 : (harfbuzz_parser_parseFeatureIndices.j0 k (wrap64 (t128)) 9223372036854775807 t129 true s0_0 t132) = some (r1, r2, r3, r4) := by rw [if_pos rfl] at H; exact H
        clear H
        have H := H1
        clear H1
        have H' := Aside0.mk H
        clear H
        go_wp2_with (first | ((with_reducible refine gate_callee (f := 27) rfl ?_); refine goesL_ (some 24) rfl rfl Tryd.func27 (by kernel_rfl) rfl #[.pointer (some ⟨g, 0, none⟩), .int .u8 58] rfl (by (try simp only [List.map_toArray, List.map_cons, List.map_nil]); first | done | rfl | (simp only [List.length_drop, List.length_take]; rfl)) ?_; (with_reducible refine (harfbuzz_parser_parseChar.calls k g s0_0 t130 58 true t132 w0 _ ?side1 ?side2 A10.out).mono ?_); (case side1 => repeat (first | (with_reducible first | exact HI0.out | apply IsS44.alloc | apply IsS44.drewN | apply IsS44.drew | apply IsS44.set_1) | exact HI0.out)); (case side2 => repeat (first | (with_reducible first | exact HB.out | apply below_alloc | apply pw_below_drewN | apply below_drew1 | refine below_set ?_ (IsS44.ge HI0.out)) | exact HB.out)); rintro e w12 ⟨rfl, hi, hb, hk⟩; refine ⟨_, rfl, ?_⟩; have n0_ := Aside0.mk (KeepBut.trans (by repeat (first | (with_reducible first | exact HK.out | apply KeepBut.set_ | apply keep_drewN | apply keep_drew | apply keep_alloc) | exact HK.out)) hk (.inl rfl)); have n1_ := Aside0.mk (hb); have n2_ := Aside0.mk (hi); clear HK; clear HB; clear HI0; have HK := n0_; have HB := n1_; have HI0 := n2_; clear n0_ n1_ n2_; (try clear hb); (try clear hb2); (try clear hk); (try clear hi)))
        go_meet
        case rel => exact ⟨_, (true), (t132), (by first | rfl | (simp; done) | (simp [*]; done)), H', ⟨by first | omega | exact Nat.le_refl _⟩, ⟨by repeat (first | (with_reducible first | exact HI0.out | apply IsS44.alloc | apply IsS44.drewN | apply IsS44.drew | apply IsS44.set_1) | exact HI0.out)⟩, ⟨by repeat (first | (with_reducible first | exact HK.out | apply KeepBut.set_ | apply keep_drewN | apply keep_drew | apply keep_alloc) | exact HK.out)⟩, ⟨by repeat (first | (with_reducible first | exact HB.out | apply below_alloc | apply pw_below_drewN | apply below_drew1 | refine below_set ?_ (IsS44.ge HI0.out)) | exact HB.out)⟩⟩
      · replace c11 := Bool.eq_false_iff.mpr c11
        subst c11
        have H1 : ((harfbuzz_parser_parseChar.f k s0_0 t132 59).bind fun bt133 => (harfbuzz_parser_parseFeatureIndices.j0 k (wrap64 (t128)) 9223372036854775807 t129 bt133.1 s0_0 bt133.2)) = some (r1, r2, r3, r4) := by rw [if_neg (show ¬ (false = true) by decide)] at H; exact H
        clear H
        have H := H1
        clear H1
        replace H := Option.bind_eq_some_iff.mp H
        obtain ⟨⟨t133, t134⟩, A130, H⟩ := H
        replace H : (harfbuzz_parser_parseFeatureIndices.j0 k (wrap64 (t128)) 9223372036854775807 t129 t133 s0_0 t134) = some (r1, r2, r3, r4) := H
        have A13 := Aside0.mk A130
        clear A130
        have H' := Aside0.mk H
        clear H
        go_wp2_with (first | ((with_reducible refine gate_callee (f := 27) rfl ?_); refine goesL_ (some 24) rfl rfl Tryd.func27 (by kernel_rfl) rfl #[.pointer (some ⟨g, 0, none⟩), .int .u8 58] rfl (by (try simp only [List.map_toArray, List.map_cons, List.map_nil]); first | done | rfl | (simp only [List.length_drop, List.length_take]; rfl)) ?_; (with_reducible refine (harfbuzz_parser_parseChar.calls k g s0_0 t130 58 false t132 w0 _ ?side1 ?side2 A10.out).mono ?_); (case side1 => repeat (first | (with_reducible first | exact HI0.out | apply IsS44.alloc | apply IsS44.drewN | apply IsS44.drew | apply IsS44.set_1) | exact HI0.out)); (case side2 => repeat (first | (with_reducible first | exact HB.out | apply below_alloc | apply pw_below_drewN | apply below_drew1 | refine below_set ?_ (IsS44.ge HI0.out)) | exact HB.out)); rintro e w14 ⟨rfl, hi, hb, hk⟩; refine ⟨_, rfl, ?_⟩; have n0_ := Aside0.mk (KeepBut.trans (by repeat (first | (with_reducible first | exact HK.out | apply KeepBut.set_ | apply keep_drewN | apply keep_drew | apply keep_alloc) | exact HK.out)) hk (.inl rfl)); have n1_ := Aside0.mk (hb); have n2_ := Aside0.mk (hi); clear HK; clear HB; clear HI0; have HK := n0_; have HB := n1_; have HI0 := n2_; clear n0_ n1_ n2_; (try clear hb); (try clear hb2); (try clear hk); (try clear hi)) | (go_at_call 27; (with_reducible refine (harfbuzz_parser_parseChar.calls k g s0_0 t132 59 t133 t134 w0 _ ?side1 ?side2 A13.out).mono ?_); (case side1 => repeat (first | (with_reducible first | exact HI0.out | apply IsS44.alloc | apply IsS44.drewN | apply IsS44.drew | apply IsS44.set_1) | exact HI0.out)); (case side2 => repeat (first | (with_reducible first | exact HB.out | apply below_alloc | apply pw_below_drewN | apply below_drew1 | refine below_set ?_ (IsS44.ge HI0.out)) | exact HB.out)); rintro e w15 ⟨rfl, hi, hb, hk⟩; have n0_ := Aside0.mk (KeepBut.trans (by repeat (first | (with_reducible first | exact HK.out | apply KeepBut.set_ | apply keep_drewN | apply keep_drew | apply keep_alloc) | exact HK.out)) hk (.inl rfl)); have n1_ := Aside0.mk (hb); have n2_ := Aside0.mk (hi); clear HK; clear HB; clear HI0; have HK := n0_; have HB := n1_; have HI0 := n2_; clear n0_ n1_ n2_; (try clear hb); (try clear hb2); (try clear hk); (try clear hi)))
        go_meet
        case rel => exact ⟨_, (t133), (t134), (by first | rfl | (simp; done) | (simp [*]; done)), H', ⟨by first | omega | exact Nat.le_refl _⟩, ⟨by repeat (first | (with_reducible first | exact HI0.out | apply IsS44.alloc | apply IsS44.drewN | apply IsS44.drew | apply IsS44.set_1) | exact HI0.out)⟩, ⟨by repeat (first | (with_reducible first | exact HK.out | apply KeepBut.set_ | apply keep_drewN | apply keep_drew | apply keep_alloc) | exact HK.out)⟩, ⟨by repeat (first | (with_reducible first | exact HB.out | apply below_alloc | apply pw_below_drewN | apply below_drew1 | refine below_set ?_ (IsS44.ge HI0.out)) | exact HB.out)⟩⟩
    case rest =>
      clear HC6
      try clear c1
      try clear c2
      try clear p2
      try clear c3
      try clear c4
      try clear p6
      try clear c11
      obtain ⟨kq, x28_5, x1001_5, rfl, HA, HJ5, HI0, HK, HB⟩ := hcut
      cases kq with
      | zero => exact absurd HA.out (by simp [harfbuzz_parser_parseFeatureIndices.j0])
      | succ kj5 =>
        have H := HA.out
        clear HA
        simp only [harfbuzz_parser_parseFeatureIndices.j0] at H
        have HC16 := Aside0.mk H
        clear H
        go_upto_if 28 with (fail)
        go_cut [3] (fun v3 wc => ∃ (kq : Nat) (x3_15 : Int) (x1001_15 : Int), v3 = .int .i64 x3_15 ∧ Aside0 (harfbuzz_parser_parseFeatureIndices.j1 kq (wrap64 (t128)) x3_15 s0_0 x1001_15 = some (r1, r2, r3, r4)) ∧ Aside0 (kq ≤ kj5) ∧ Aside0 (IsS44 w0 wc g s0_0 x1001_15) ∧ Aside0 (KeepBut w wc g none) ∧ Aside0 (Below w0.heap.size w0 wc))
        case first =>
          have H := HC16.out
          clear HC16
          by_cases c17 : x28_5 = true
          · subst c17
            have H1 : ((harfbuzz_parser_parseUint32.f kj5 s0_0 x1001_5).bind fun bt135 => (if bt135.2.1 = true then (harfbuzz_parser_parseFeatureIndices.j1 kj5 (wrap64 (t128)) (wrap64 (bt135.1)) s0_0 bt135.2.2) else (harfbuzz_parser_parseFeatureIndices.j1 kj5 (wrap64 (t128)) 9223372036854775807 s0_0 bt135.2.2))) = some (r1, r2, r3, r4) := by rw [if_pos rfl] at H; exact H
            clear H
            have H := H1
            clear H1
            replace H := Option.bind_eq_some_iff.mp H
            obtain ⟨⟨t135, t136, t137⟩, A180, H⟩ := H
            replace H : (if t136 = true then (harfbuzz_parser_parseFeatureIndices.j1 kj5 (wrap64 (t128)) (wrap64 (t135)) s0_0 t137) else (harfbuzz_parser_parseFeatureIndices.j1 kj5 (wrap64 (t128)) 9223372036854775807 s0_0 t137)) = some (r1, r2, r3, r4) := H
            have A18 := Aside0.mk A180
            clear A180
            by_cases c19 : t136 = true
            · subst c19
              have H1 : (harfbuzz_parser_parseFeatureIndices.j1 kj5 (wrap64 (t128)) (wrap64 (t135)) s0_0 t137) = some (r1, r2, r3, r4) := by rw [if_pos rfl] at H; exact H
              clear H
              have H := H1
              clear H1
              have H' := Aside0.mk H
              clear H
              go_wp2_with (first | ((with_reducible refine gate_callee (f := 30) rfl ?_); refine goesL_ (some 31) rfl rfl Tryd.func30 (by kernel_rfl) rfl #[.pointer (some ⟨g, 0, none⟩)] rfl (by (try simp only [List.map_toArray, List.map_cons, List.map_nil]); first | done | rfl | (simp only [List.length_drop, List.length_take]; rfl)) ?_; (with_reducible refine (harfbuzz_parser_parseUint32.calls kj5 g s0_0 x1001_5 t135 true t137 w0 _ ?side1 ?side2 A18.out GG).mono ?_); (case side1 => repeat (first | (with_reducible first | exact HI0.out | apply IsS44.alloc | apply IsS44.drewN | apply IsS44.drew | apply IsS44.set_1) | exact HI0.out)); (case side2 => repeat (first | (with_reducible first | exact HB.out | apply below_alloc | apply pw_below_drewN | apply below_drew1 | refine below_set ?_ (IsS44.ge HI0.out)) | exact HB.out)); rintro e w20 ⟨rfl, hi, hb, hk⟩; refine ⟨_, rfl, ?_⟩; have n0_ := Aside0.mk (KeepBut.trans (by repeat (first | (with_reducible first | exact HK.out | apply KeepBut.set_ | apply keep_drewN | apply keep_drew | apply keep_alloc) | exact HK.out)) hk (.inl rfl)); have n1_ := Aside0.mk (hb); have n2_ := Aside0.mk (hi); clear HK; clear HB; clear HI0; have HK := n0_; have HB := n1_; have HI0 := n2_; clear n0_ n1_ n2_; (try clear hb); (try clear hb2); (try clear hk); (try clear hi)))
              go_meet
              case rel => exact ⟨_, (wrap64 (t135)), (t137), (by first | rfl | (simp; done) | (simp [*]; done)), H', ⟨by have := HJ5.out; first | omega | exact Nat.le_refl _⟩, ⟨by repeat (first | (with_reducible first | exact HI0.out | apply IsS44.alloc | apply IsS44.drewN | apply IsS44.drew | apply IsS44.set_1) | exact HI0.out)⟩, ⟨by repeat (first | (with_reducible first | exact HK.out | apply KeepBut.set_ | apply keep_drewN | apply keep_drew | apply keep_alloc) | exact HK.out)⟩, ⟨by repeat (first | (with_reducible first | exact HB.out | apply below_alloc | apply pw_below_drewN | apply below_drew1 | refine below_set ?_ (IsS44.ge HI0.out)) | exact HB.out)⟩⟩
            · replace c19 := Bool.eq_false_iff.mpr c19
              subst c19
              have H1 : (harfbuzz_parser_parseFeatureIndices.j1 kj5 (wrap64 (t128)) 9223372036854775807 s0_0 t137) = some (r1, r2, r3, r4) := by rw [if_neg (show ¬ (false = true) by decide)] at H; exact H
              clear H
              have H := H1
              clear H1
              have H' := Aside0.mk H
              clear H
              go_wp2_with (first | ((with_reducible refine gate_callee (f := 30) rfl ?_); refine goesL_ (some 31) rfl rfl Tryd.func30 (by kernel_rfl) rfl #[.pointer (some ⟨g, 0, none⟩)] rfl (by (try simp only [List.map_toArray, List.map_cons, List.map_nil]); first | done | rfl | (simp only [List.length_drop, List.length_take]; rfl)) ?_; (with_reducible refine (harfbuzz_parser_parseUint32.calls kj5 g s0_0 x1001_5 t135 false t137 w0 _ ?side1 ?side2 A18.out GG).mono ?_); (case side1 => repeat (first | (with_reducible first | exact HI0.out | apply IsS44.alloc | apply IsS44.drewN | apply IsS44.drew | apply IsS44.set_1) | exact HI0.out)); (case side2 => repeat (first | (with_reducible first | exact HB.out | apply below_alloc | apply pw_below_drewN | apply below_drew1 | refine below_set ?_ (IsS44.ge HI0.out)) | exact HB.out)); rintro e w21 ⟨rfl, hi, hb, hk⟩; refine ⟨_, rfl, ?_⟩; have n0_ := Aside0.mk (KeepBut.trans (by repeat (first | (with_reducible first | exact HK.out | apply KeepBut.set_ | apply keep_drewN | apply keep_drew | apply keep_alloc) | exact HK.out)) hk (.inl rfl)); have n1_ := Aside0.mk (hb); have n2_ := Aside0.mk (hi); clear HK; clear HB; clear HI0; have HK := n0_; have HB := n1_; have HI0 := n2_; clear n0_ n1_ n2_; (try clear hb); (try clear hb2); (try clear hk); (try clear hi)))
              go_meet
              case rel => exact ⟨_, (9223372036854775807), (t137), (by first | rfl | (simp; done) | (simp [*]; done)), H', ⟨by have := HJ5.out; first | omega | exact Nat.le_refl _⟩, ⟨by repeat (first | (with_reducible first | exact HI0.out | apply IsS44.alloc | apply IsS44.drewN | apply IsS44.drew | apply IsS44.set_1) | exact HI0.out)⟩, ⟨by repeat (first | (with_reducible first | exact HK.out | apply KeepBut.set_ | apply keep_drewN | apply keep_drew | apply keep_alloc) | exact HK.out)⟩, ⟨by repeat (first | (with_reducible first | exact HB.out | apply below_alloc | apply pw_below_drewN | apply below_drew1 | refine below_set ?_ (IsS44.ge HI0.out)) | exact HB.out)⟩⟩
          · replace c17 := Bool.eq_false_iff.mpr c17
            subst c17
            have H1 : (if t129 = true then (harfbuzz_parser_parseFeatureIndices.j1 kj5 (wrap64 (t128)) (wrap64 ((wrap64 (t128)) + 1)) s0_0 x1001_5) else (harfbuzz_parser_parseFeatureIndices.j1 kj5 (wrap64 (t128)) 9223372036854775807 s0_0 x1001_5)) = some (r1, r2, r3, r4) := by rw [if_neg (show ¬ (false = true) by decide)] at H; exact H
            clear H
            have H := H1
            clear H1
            by_cases c22 : t129 = true
            · subst c22
              have H1 : (harfbuzz_parser_parseFeatureIndices.j1 kj5 (wrap64 (t128)) (wrap64 ((wrap64 (t128)) + 1)) s0_0 x1001_5) = some (r1, r2, r3, r4) := by rw [if_pos rfl] at H; exact H
              clear H
              have H := H1
              clear H1
              have H' := Aside0.mk H
              clear H
              go_wp2
              go_meet
              case rel => exact ⟨_, (wrap64 ((wrap64 (t128)) + 1)), (x1001_5), (by first | rfl | (simp; done) | (simp [*]; done)), H', ⟨by have := HJ5.out; first | omega | exact Nat.le_refl _⟩, ⟨by repeat (first | (with_reducible first | exact HI0.out | apply IsS44.alloc | apply IsS44.drewN | apply IsS44.drew | apply IsS44.set_1) | exact HI0.out)⟩, ⟨by repeat (first | (with_reducible first | exact HK.out | apply KeepBut.set_ | apply keep_drewN | apply keep_drew | apply keep_alloc) | exact HK.out)⟩, ⟨by repeat (first | (with_reducible first | exact HB.out | apply below_alloc | apply pw_below_drewN | apply below_drew1 | refine below_set ?_ (IsS44.ge HI0.out)) | exact HB.out)⟩⟩
            · replace c22 := Bool.eq_false_iff.mpr c22
              subst c22
              have H1 : (harfbuzz_parser_parseFeatureIndices.j1 kj5 (wrap64 (t128)) 9223372036854775807 s0_0 x1001_5) = some (r1, r2, r3, r4) := by rw [if_neg (show ¬ (false = true) by decide)] at H; exact H
              clear H
              have H := H1
              clear H1
              have H' := Aside0.mk H
              clear H
              go_wp2
              go_meet
              case rel => exact ⟨_, (9223372036854775807), (x1001_5), (by first | rfl | (simp; done) | (simp [*]; done)), H', ⟨by have := HJ5.out; first | omega | exact Nat.le_refl _⟩, ⟨by repeat (first | (with_reducible first | exact HI0.out | apply IsS44.alloc | apply IsS44.drewN | apply IsS44.drew | apply IsS44.set_1) | exact HI0.out)⟩, ⟨by repeat (first | (with_reducible first | exact HK.out | apply KeepBut.set_ | apply keep_drewN | apply keep_drew | apply keep_alloc) | exact HK.out)⟩, ⟨by repeat (first | (with_reducible first | exact HB.out | apply below_alloc | apply pw_below_drewN | apply below_drew1 | refine below_set ?_ (IsS44.ge HI0.out)) | exact HB.out)⟩⟩
        case rest =>
          clear HC16
          try clear c1
          try clear c2
          try clear p2
          try clear c3
          try clear c4
          try clear p6
          try clear c11
          try clear c17
          try clear c19
          try clear c21
          try clear c22
          try clear p2
          try clear p6
          obtain ⟨kq, x3_15, x1001_15, rfl, HA, HJ15, HI0, HK, HB⟩ := hcut
          cases kq with
          | zero => exact absurd HA.out (by simp [harfbuzz_parser_parseFeatureIndices.j1])
          | succ kj15 =>
            have H := HA.out
            clear HA
            simp only [harfbuzz_parser_parseFeatureIndices.j1] at H
            replace H := Option.bind_eq_some_iff.mp H
            obtain ⟨⟨t138, t139⟩, A230, H⟩ := H
            replace H : (if t138 = true then (some ((wrap64 (t128)), x3_15, none, t139)) else ((errors_New.f (⟨#[101, 120, 112, 101, 99, 116, 105, 110, 103, 32, 99, 108, 111, 115, 105, 110, 103, 32, 98, 114, 97, 99, 107, 101, 100, 32, 97, 102, 116, 101, 114, 32, 102, 101, 97, 116, 117, 114, 101, 32, 105, 110, 100, 105, 99, 101, 115]⟩ : ByteArray)).bind fun t140 => (some (0, 0, t140, t139)))) = some (r1, r2, r3, r4) := H
            have A23 := Aside0.mk A230
            clear A230
            by_cases c24 : t138 = true
            · subst c24
              have H1 : (some ((wrap64 (t128)), x3_15, none, t139)) = some (r1, r2, r3, r4) := by rw [if_pos rfl] at H; exact H
              clear H
              have H := H1
              clear H1
              simp only [Option.some.injEq, Prod.mk.injEq] at H
              obtain ⟨rfl, rfl, rfl, rfl⟩ := H
              go_wp2_with (first | ((with_reducible refine gate_callee (f := 27) rfl ?_); refine goesL_ (some 41) rfl rfl Tryd.func27 (by kernel_rfl) rfl #[.pointer (some ⟨g, 0, none⟩), .int .u8 93] rfl (by (try simp only [List.map_toArray, List.map_cons, List.map_nil]); first | done | rfl | (simp only [List.length_drop, List.length_take]; rfl)) ?_; (with_reducible refine (harfbuzz_parser_parseChar.calls kj15 g s0_0 x1001_15 93 true t139 w0 _ ?side1 ?side2 A23.out).mono ?_); (case side1 => repeat (first | (with_reducible first | exact HI0.out | apply IsS44.alloc | apply IsS44.drewN | apply IsS44.drew | apply IsS44.set_1) | exact HI0.out)); (case side2 => repeat (first | (with_reducible first | exact HB.out | apply below_alloc | apply pw_below_drewN | apply below_drew1 | refine below_set ?_ (IsS44.ge HI0.out)) | exact HB.out)); rintro e w25 ⟨rfl, hi, hb, hk⟩; refine ⟨_, rfl, ?_⟩; have n0_ := Aside0.mk (KeepBut.trans (by repeat (first | (with_reducible first | exact HK.out | apply KeepBut.set_ | apply keep_drewN | apply keep_drew | apply keep_alloc) | exact HK.out)) hk (.inl rfl)); have n1_ := Aside0.mk (hb); have n2_ := Aside0.mk (hi); clear HK; clear HB; clear HI0; have HK := n0_; have HB := n1_; have HI0 := n2_; clear n0_ n1_ n2_; (try clear hb); (try clear hb2); (try clear hk); (try clear hi)))
              go_ret3
              exact ⟨_, by first | rfl | (simp [errW_none, errW_some] <;> rfl) | (simp [*, errW_none, errW_some] <;> rfl), (by first | assumption | exact rfl | exact ⟨_, _, rfl⟩), by repeat (first | (with_reducible first | exact HI0.out | apply IsS44.alloc | apply IsS44.drewN | apply IsS44.drew | apply IsS44.set_1) | exact HI0.out), by repeat (first | (with_reducible first | exact HB.out | apply below_alloc | apply pw_below_drewN | apply below_drew1 | refine below_set ?_ (IsS44.ge HI0.out)) | exact HB.out), by repeat (first | (with_reducible first | exact HK.out | apply KeepBut.set_ | apply keep_drewN | apply keep_drew | apply keep_alloc) | exact HK.out)⟩
            · replace c24 := Bool.eq_false_iff.mpr c24
              subst c24
              have H1 : ((errors_New.f (⟨#[101, 120, 112, 101, 99, 116, 105, 110, 103, 32, 99, 108, 111, 115, 105, 110, 103, 32, 98, 114, 97, 99, 107, 101, 100, 32, 97, 102, 116, 101, 114, 32, 102, 101, 97, 116, 117, 114, 101, 32, 105, 110, 100, 105, 99, 101, 115]⟩ : ByteArray)).bind fun t140 => (some (0, 0, t140, t139))) = some (r1, r2, r3, r4) := by rw [if_neg (show ¬ (false = true) by decide)] at H; exact H
              clear H
              have H := H1
              clear H1
              replace H := Option.bind_eq_some_iff.mp H
              obtain ⟨t140, A260, H⟩ := H
              replace H : (some (0, 0, t140, t139)) = some (r1, r2, r3, r4) := H
              have A26 := Aside0.mk A260
              clear A260
              simp only [Option.some.injEq, Prod.mk.injEq] at H
              obtain ⟨rfl, rfl, rfl, rfl⟩ := H
              go_wp2_with (first | ((with_reducible refine gate_callee (f := 27) rfl ?_); refine goesL_ (some 41) rfl rfl Tryd.func27 (by kernel_rfl) rfl #[.pointer (some ⟨g, 0, none⟩), .int .u8 93] rfl (by (try simp only [List.map_toArray, List.map_cons, List.map_nil]); first | done | rfl | (simp only [List.length_drop, List.length_take]; rfl)) ?_; (with_reducible refine (harfbuzz_parser_parseChar.calls kj15 g s0_0 x1001_15 93 false t139 w0 _ ?side1 ?side2 A23.out).mono ?_); (case side1 => repeat (first | (with_reducible first | exact HI0.out | apply IsS44.alloc | apply IsS44.drewN | apply IsS44.drew | apply IsS44.set_1) | exact HI0.out)); (case side2 => repeat (first | (with_reducible first | exact HB.out | apply below_alloc | apply pw_below_drewN | apply below_drew1 | refine below_set ?_ (IsS44.ge HI0.out)) | exact HB.out)); rintro e w27 ⟨rfl, hi, hb, hk⟩; refine ⟨_, rfl, ?_⟩; have n0_ := Aside0.mk (KeepBut.trans (by repeat (first | (with_reducible first | exact HK.out | apply KeepBut.set_ | apply keep_drewN | apply keep_drew | apply keep_alloc) | exact HK.out)) hk (.inl rfl)); have n1_ := Aside0.mk (hb); have n2_ := Aside0.mk (hi); clear HK; clear HB; clear HI0; have HK := n0_; have HB := n1_; have HI0 := n2_; clear n0_ n1_ n2_; (try clear hb); (try clear hb2); (try clear hk); (try clear hi)) | ((with_reducible refine gate_callee (f := 28) rfl ?_); refine goesL_ (some 43) rfl rfl Tryd.func28 (by kernel_rfl) rfl #[.string (⟨#[101, 120, 112, 101, 99, 116, 105, 110, 103, 32, 99, 108, 111, 115, 105, 110, 103, 32, 98, 114, 97, 99, 107, 101, 100, 32, 97, 102, 116, 101, 114, 32, 102, 101, 97, 116, 117, 114, 101, 32, 105, 110, 100, 105, 99, 101, 115]⟩ : ByteArray)] rfl (by (try simp only [List.map_toArray, List.map_cons, List.map_nil]); first | done | rfl | (simp only [List.length_drop, List.length_take]; rfl)) ?_; (with_reducible refine (errors_New.calls (⟨#[101, 120, 112, 101, 99, 116, 105, 110, 103, 32, 99, 108, 111, 115, 105, 110, 103, 32, 98, 114, 97, 99, 107, 101, 100, 32, 97, 102, 116, 101, 114, 32, 102, 101, 97, 116, 117, 114, 101, 32, 105, 110, 100, 105, 99, 101, 115]⟩ : ByteArray) t140 _ A26.out).mono ?_); rintro e w30 ⟨ev28, rfl, he29, hb⟩; refine ⟨_, rfl, ?_⟩; have n0_ := Aside0.mk (IsS44.below (by repeat (first | (with_reducible first | exact HI0.out | apply IsS44.alloc | apply IsS44.drewN | apply IsS44.drew | apply IsS44.set_1) | exact HI0.out)) hb); have n1_ := Aside0.mk (KeepBut.trans (by repeat (first | (with_reducible first | exact HK.out | apply KeepBut.set_ | apply keep_drewN | apply keep_drew | apply keep_alloc) | exact HK.out)) (KeepBut.of_below hb g none) (.inl rfl)); have n2_ := Aside0.mk (below_step (by repeat (first | (with_reducible first | exact HB.out | apply below_alloc | apply pw_below_drewN | apply below_drew1 | refine below_set ?_ (IsS44.ge HI0.out)) | exact HB.out)) hb); clear HI0; clear HK; clear HB; have HI0 := n0_; have HK := n1_; have HB := n2_; clear n0_ n1_ n2_; (try clear hb); (try clear hb2); (try clear hk); (try clear hi); (first | (obtain rfl := EV_none he29) | (obtain ⟨te_, pe_, rfl⟩ := EV_some he29) | skip)))
              go_ret3
              exact ⟨_, by first | rfl | (simp [errW_none, errW_some] <;> rfl) | (simp [*, errW_none, errW_some] <;> rfl), (by first | assumption | exact rfl | exact ⟨_, _, rfl⟩), by repeat (first | (with_reducible first | exact HI0.out | apply IsS44.alloc | apply IsS44.drewN | apply IsS44.drew | apply IsS44.set_1) | exact HI0.out), by repeat (first | (with_reducible first | exact HB.out | apply below_alloc | apply pw_below_drewN | apply below_drew1 | refine below_set ?_ (IsS44.ge HI0.out)) | exact HB.out), by repeat (first | (with_reducible first | exact HK.out | apply KeepBut.set_ | apply keep_drewN | apply keep_drew | apply keep_alloc) | exact HK.out)⟩
  · replace c4 := Bool.eq_false_iff.mpr c4
    subst c4
    have H1 : (some (0, 9223372036854775807, none, t127)) = some (r1, r2, r3, r4) := by rw [if_neg (show ¬ (false = true) by decide)] at H; exact H
    clear H
    have H := H1
    clear H1
    simp only [Option.some.injEq, Prod.mk.injEq] at H
    obtain ⟨rfl, rfl, rfl, rfl⟩ := H
    go_enter Tryd.func19, Tryd.ntmps19
    go_wp2_with (first | ((with_reducible refine gate_callee (f := 21) rfl ?_); refine goesL_ (some 10) rfl rfl Tryd.func21 (by kernel_rfl) rfl #[.pointer (some ⟨g, 0, none⟩)] rfl (by (try simp only [List.map_toArray, List.map_cons, List.map_nil]); first | done | rfl | (simp only [List.length_drop, List.length_take]; rfl)) ?_; (with_reducible refine (harfbuzz_parser_skipSpaces.calls k g s0_0 s0_1 t125 w0 _ ?side1 ?side2 A2.out).mono ?_); (case side1 => repeat (first | (with_reducible first | exact HI0.out | apply IsS44.alloc | apply IsS44.drewN | apply IsS44.drew | apply IsS44.set_1) | exact HI0.out)); (case side2 => repeat (first | (with_reducible first | exact HB.out | apply below_alloc | apply pw_below_drewN | apply below_drew1 | refine below_set ?_ (IsS44.ge HI0.out)) | exact HB.out)); rintro e w31 ⟨rfl, hi, hb, hk⟩; refine ⟨_, rfl, ?_⟩; have n0_ := Aside0.mk (KeepBut.trans (by repeat (first | (with_reducible first | exact HK.out | apply KeepBut.set_ | apply keep_drewN | apply keep_drew | apply keep_alloc) | exact HK.out)) hk (.inl rfl)); have n1_ := Aside0.mk (hb); have n2_ := Aside0.mk (hi); clear HK; clear HB; clear HI0; have HK := n0_; have HB := n1_; have HI0 := n2_; clear n0_ n1_ n2_; (try clear hb); (try clear hb2); (try clear hk); (try clear hi)) | ((with_reducible refine gate_callee (f := 27) rfl ?_); refine goesL_ (some 12) rfl rfl Tryd.func27 (by kernel_rfl) rfl #[.pointer (some ⟨g, 0, none⟩), .int .u8 91] rfl (by (try simp only [List.map_toArray, List.map_cons, List.map_nil]); first | done | rfl | (simp only [List.length_drop, List.length_take]; rfl)) ?_; (with_reducible refine (harfbuzz_parser_parseChar.calls k g s0_0 t125 91 false t127 w0 _ ?side1 ?side2 A3.out).mono ?_); (case side1 => repeat (first | (with_reducible first | exact HI0.out | apply IsS44.alloc | apply IsS44.drewN | apply IsS44.drew | apply IsS44.set_1) | exact HI0.out)); (case side2 => repeat (first | (with_reducible first | exact HB.out | apply below_alloc | apply pw_below_drewN | apply below_drew1 | refine below_set ?_ (IsS44.ge HI0.out)) | exact HB.out)); rintro e w32 ⟨rfl, hi, hb, hk⟩; refine ⟨_, rfl, ?_⟩; have n0_ := Aside0.mk (KeepBut.trans (by repeat (first | (with_reducible first | exact HK.out | apply KeepBut.set_ | apply keep_drewN | apply keep_drew | apply keep_alloc) | exact HK.out)) hk (.inl rfl)); have n1_ := Aside0.mk (hb); have n2_ := Aside0.mk (hi); clear HK; clear HB; clear HI0; have HK := n0_; have HB := n1_; have HI0 := n2_; clear n0_ n1_ n2_; (try clear hb); (try clear hb2); (try clear hk); (try clear hi)))
    go_ret3
    exact ⟨_, by first | rfl | (simp [errW_none, errW_some] <;> rfl) | (simp [*, errW_none, errW_some] <;> rfl), (by first | assumption | exact rfl | exact ⟨_, _, rfl⟩), by repeat (first | (with_reducible first | exact HI0.out | apply IsS44.alloc | apply IsS44.drewN | apply IsS44.drew | apply IsS44.set_1) | exact HI0.out), by repeat (first | (with_reducible first | exact HB.out | apply below_alloc | apply pw_below_drewN | apply below_drew1 | refine below_set ?_ (IsS44.ge HI0.out)) | exact HB.out), by repeat (first | (with_reducible first | exact HK.out | apply KeepBut.set_ | apply keep_drewN | apply keep_drew | apply keep_alloc) | exact HK.out)⟩

end Go.Proofs.YtlclakahgmoafaaDoor.PFnAskNone
