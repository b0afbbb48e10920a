-- Written by a program of this session (xprint) out of the translation; Lean checks it.
import Derived.Test.YtlclakahgmoafaaDoorPFnAskNonex0
import Derived.Test.YtlclakahgmoafaaDoorPFnAskNonex1
import Derived.Test.YtlclakahgmoafaaDoorPFnAskNonex2
import Derived.Test.YtlclakahgmoafaaDoorPFnAskNonex3
namespace Go.Proofs.YtlclakahgmoafaaDoor.PFnAskNone
open Go.RowKit Go.Proofs.YtlclakahgmoafaaDoorW.PrintWords Go.Proofs.YtlclakahgmoafaaDoorW.PrintLast Go.Proofs.YtlclakahgmoafaaDoorW.PrintMore
attribute [local go_sem] max2_int min2_int max_two min_two max_three min_three max_four min_four   -- for this text's walks alone
set_option linter.unusedVariables false
set_option linter.unusedSimpArgs false

/-! ### harfbuzz_parser_parseBool: function 31 -/
mutual
def harfbuzz_parser_parseBool.j1 : Nat → Int → List Int → Int → Option (Int × Bool × Int)
  | 0, _, _, _ => none
  | k + 1, x4, x1000, x1001 => if 0 ≤ x4 then (if x4 ≤ x1001 then (if x1001 ≤ (x1000.length : Int) then (if (strOfNums ((x1000.take (x1001 : Int).toNat).drop (x4 : Int).toNat)).toList = ([111, 110] : List UInt8) then (some (1, true, x1001)) else (if (strOfNums ((x1000.take (x1001 : Int).toNat).drop (x4 : Int).toNat)).toList = ([111, 102, 102] : List UInt8) then (some (0, true, x1001)) else (some (0, false, x1001)))) else (none)) else (none)) else (none)
def harfbuzz_parser_parseBool.l0 : Nat → Int → List Int → Int → Option (Int × Bool × Int)
  | 0, _, _, _ => none
  | k + 1, x4, x1000, x1001 => if x1001 < (x1000.length : Int) then (if 0 ≤ x1001 then ((harfbuzz_isAlpha.f (rd x1000 x1001)).bind fun t143 => (if t143 = true then (harfbuzz_parser_parseBool.l0 k x4 x1000 (wrap64 (x1001 + 1))) else (harfbuzz_parser_parseBool.j1 k x4 x1000 x1001))) else (none)) else (harfbuzz_parser_parseBool.j1 k x4 x1000 x1001)
end
def harfbuzz_parser_parseBool.f (k : Nat) (s0_0 : List Int) (s0_1 : Int) : Option (Int × Bool × Int) := (harfbuzz_parser_skipSpaces.f k s0_0 s0_1).bind fun t141 => (harfbuzz_parser_parseBool.l0 k t141 s0_0 t141)
theorem harfbuzz_parser_parseBool.mono_l : ∀ k, (∀ y0 y1 y2, LeO (harfbuzz_parser_parseBool.j1 k y0 y1 y2) (harfbuzz_parser_parseBool.j1 (k + 1) y0 y1 y2)) ∧ (∀ y0 y1 y2, LeO (harfbuzz_parser_parseBool.l0 k y0 y1 y2) (harfbuzz_parser_parseBool.l0 (k + 1) y0 y1 y2))
  | 0 => ⟨fun _ _ _ r h => by simp [harfbuzz_parser_parseBool.j1] at h, fun _ _ _ r h => by simp [harfbuzz_parser_parseBool.l0] at h⟩
  | k + 1 => by
    obtain ⟨ih0, ih1⟩ := harfbuzz_parser_parseBool.mono_l k
    refine ⟨?_, ?_⟩
    · intro y0 y1 y2
      unfold harfbuzz_parser_parseBool.j1
      repeat' first
      | (with_reducible exact ih0 _ _ _)
      | (with_reducible exact ih1 _ _ _)
      | (with_reducible exact harfbuzz_parser_skipSpaces.mono _ _ _)
      | (with_reducible exact LeO.refl _)
      | (with_reducible exact LeO.none _)
      | (with_reducible refine LeO.ite ?_ ?_)
      | (with_reducible refine LeO.bind ?_ (fun _ => ?_))
      | exact ih0 _ _ _
      | exact ih1 _ _ _
      | exact harfbuzz_parser_skipSpaces.mono _ _ _
      | exact LeO.none _
      | refine LeO.ite ?_ ?_
      | refine LeO.bind ?_ (fun _ => ?_)
    · intro y0 y1 y2
      unfold harfbuzz_parser_parseBool.l0
      repeat' first
      | (with_reducible exact ih0 _ _ _)
      | (with_reducible exact ih1 _ _ _)
      | (with_reducible exact harfbuzz_parser_skipSpaces.mono _ _ _)
      | (with_reducible exact LeO.refl _)
      | (with_reducible exact LeO.none _)
      | (with_reducible refine LeO.ite ?_ ?_)
      | (with_reducible refine LeO.bind ?_ (fun _ => ?_))
      | exact ih0 _ _ _
      | exact ih1 _ _ _
      | exact harfbuzz_parser_skipSpaces.mono _ _ _
      | exact LeO.none _
      | refine LeO.ite ?_ ?_
      | refine LeO.bind ?_ (fun _ => ?_)
theorem harfbuzz_parser_parseBool.mono : ∀ a0 a1 k, LeO (harfbuzz_parser_parseBool.f k a0 a1) (harfbuzz_parser_parseBool.f (k + 1) a0 a1) := by
  intro a0 a1 k
  obtain ⟨ih0, ih1⟩ := harfbuzz_parser_parseBool.mono_l k
  unfold harfbuzz_parser_parseBool.f
  repeat' first
      | (with_reducible exact ih0 _ _ _)
      | (with_reducible exact ih1 _ _ _)
      | (with_reducible exact harfbuzz_parser_skipSpaces.mono _ _ _)
      | (with_reducible exact LeO.refl _)
      | (with_reducible exact LeO.none _)
      | (with_reducible refine LeO.ite ?_ ?_)
      | (with_reducible refine LeO.bind ?_ (fun _ => ?_))
      | exact ih0 _ _ _
      | exact ih1 _ _ _
      | exact harfbuzz_parser_skipSpaces.mono _ _ _
      | exact LeO.none _
      | refine LeO.ite ?_ ?_
      | refine LeO.bind ?_ (fun _ => ?_)
set_option maxHeartbeats 8000000 in
set_option maxRecDepth 100000 in
theorem harfbuzz_parser_parseBool.calls (k : Nat) (g : Nat) (s0_0 : List Int) (s0_1 : Int) (r1 : Int) (r2 : Bool) (r3 : Int) (w0 w : World) (hI : IsS44 w0 w g s0_0 s0_1) (hB : Below w0.heap.size w0 w) (h : harfbuzz_parser_parseBool.f k s0_0 s0_1 = some (r1, r2, r3)) :
    Calls Tryd.prog 31 #[.pointer (some ⟨g, 0, none⟩)] w fun e w' => e = .returned (.tuple #[.int .u32 r1, .bool r2]) ∧ IsS44 w0 w' g s0_0 r3 ∧ Below w0.heap.size w0 w' ∧ KeepBut w w' g none := by
  have HI0 := Aside0.mk hI
  have HK := Aside0.mk (KeepBut.refl w g none)
  have HL := Aside0.mk hB.size
  clear hI
  have HW0 := Aside0.mk hB.size
  have HB := Aside0.mk hB
  clear hB
  have H : ((harfbuzz_parser_skipSpaces.f k s0_0 s0_1).bind fun t141 => (harfbuzz_parser_parseBool.l0 k t141 s0_0 t141)) = some (r1, r2, r3) := h
  clear h
  replace H := Option.bind_eq_some_iff.mp H
  obtain ⟨t141, A20, H⟩ := H
  replace H : (harfbuzz_parser_parseBool.l0 k t141 s0_0 t141) = some (r1, r2, r3) := H
  have A2 := Aside0.mk A20
  clear A20
  have HC3 := Aside0.mk H
  clear H
  go_enter Tryd.func31, Tryd.ntmps31
  go_upto_block 0 with (first | (go_at_call 21; (with_reducible refine (harfbuzz_parser_skipSpaces.calls k g s0_0 s0_1 t141 w0 _ ?side1 ?side2 A2.out).mono ?_); (case side1 => repeat (first | (with_reducible first | exact HI0.out | apply IsS44.alloc | apply IsS44.drewN | apply IsS44.drew | apply IsS44.set_1) | exact HI0.out)); (case side2 => repeat (first | (with_reducible first | exact HB.out | apply below_alloc | apply pw_below_drewN | apply below_drew1 | refine below_set ?_ (IsS44.ge HI0.out)) | exact HB.out)); rintro e w4 ⟨rfl, hi, hb, hk⟩; have n0_ := Aside0.mk (KeepBut.trans (by repeat (first | (with_reducible first | exact HK.out | apply KeepBut.set_ | apply keep_drewN | apply keep_drew | apply keep_alloc) | exact HK.out)) hk (.inl rfl)); have n1_ := Aside0.mk (hb); have n2_ := Aside0.mk (hi); clear HK; clear HB; clear HI0; have HK := n0_; have HB := n1_; have HI0 := n2_; clear n0_ n1_ n2_; (try clear hb); (try clear hb2); (try clear hk); (try clear hi); obtain ⟨ASz5_0, cSz5_0, HGz5, hgz5, HSz5_0⟩ := HI0.out; have hcz5_0 := cellS44_0 HGz5; have hcz5_1 := cellS44_1 HGz5; have hfz5_1 := blk_frozen HGz5 1; clear HGz5 hgz5; have HCz5_0 := Aside0.mk HSz5_0.2; replace HSz5_0 := HSz5_0.1))
  repeat (go_quiet (first | (go_at_call 21; (with_reducible refine (harfbuzz_parser_skipSpaces.calls k g s0_0 s0_1 t141 w0 _ ?side1 ?side2 A2.out).mono ?_); (case side1 => repeat (first | (with_reducible first | exact HI0.out | apply IsS44.alloc | apply IsS44.drewN | apply IsS44.drew | apply IsS44.set_1) | exact HI0.out)); (case side2 => repeat (first | (with_reducible first | exact HB.out | apply below_alloc | apply pw_below_drewN | apply below_drew1 | refine below_set ?_ (IsS44.ge HI0.out)) | exact HB.out)); rintro e w4 ⟨rfl, hi, hb, hk⟩; have n0_ := Aside0.mk (KeepBut.trans (by repeat (first | (with_reducible first | exact HK.out | apply KeepBut.set_ | apply keep_drewN | apply keep_drew | apply keep_alloc) | exact HK.out)) hk (.inl rfl)); have n1_ := Aside0.mk (hb); have n2_ := Aside0.mk (hi); clear HK; clear HB; clear HI0; have HK := n0_; have HB := n1_; have HI0 := n2_; clear n0_ n1_ n2_; (try clear hb); (try clear hb2); (try clear hk); (try clear hi); obtain ⟨ASz5_0, cSz5_0, HGz5, hgz5, HSz5_0⟩ := HI0.out; have hcz5_0 := cellS44_0 HGz5; have hcz5_1 := cellS44_1 HGz5; have hfz5_1 := blk_frozen HGz5 1; clear HGz5 hgz5; have HCz5_0 := Aside0.mk HSz5_0.2; replace HSz5_0 := HSz5_0.1)); go_upto_block 0 with (first | (go_at_call 21; (with_reducible refine (harfbuzz_parser_skipSpaces.calls k g s0_0 s0_1 t141 w0 _ ?side1 ?side2 A2.out).mono ?_); (case side1 => repeat (first | (with_reducible first | exact HI0.out | apply IsS44.alloc | apply IsS44.drewN | apply IsS44.drew | apply IsS44.set_1) | exact HI0.out)); (case side2 => repeat (first | (with_reducible first | exact HB.out | apply below_alloc | apply pw_below_drewN | apply below_drew1 | refine below_set ?_ (IsS44.ge HI0.out)) | exact HB.out)); rintro e w4 ⟨rfl, hi, hb, hk⟩; have n0_ := Aside0.mk (KeepBut.trans (by repeat (first | (with_reducible first | exact HK.out | apply KeepBut.set_ | apply keep_drewN | apply keep_drew | apply keep_alloc) | exact HK.out)) hk (.inl rfl)); have n1_ := Aside0.mk (hb); have n2_ := Aside0.mk (hi); clear HK; clear HB; clear HI0; have HK := n0_; have HB := n1_; have HI0 := n2_; clear n0_ n1_ n2_; (try clear hb); (try clear hb2); (try clear hk); (try clear hi); obtain ⟨ASz5_0, cSz5_0, HGz5, hgz5, HSz5_0⟩ := HI0.out; have hcz5_0 := cellS44_0 HGz5; have hcz5_1 := cellS44_1 HGz5; have hfz5_1 := blk_frozen HGz5 1; clear HGz5 hgz5; have HCz5_0 := Aside0.mk HSz5_0.2; replace HSz5_0 := HSz5_0.1)))
  (try simp only [Act.put, List.setIfInBounds_toArray, List.set_cons_zero, List.set_cons_succ])
  go_cut [] (fun wc => ∃ (kq : Nat) (x1001_2 : Int), Aside0 (harfbuzz_parser_parseBool.j1 kq t141 s0_0 x1001_2 = some (r1, r2, r3)) ∧ Aside0 (kq ≤ k) ∧ Aside0 (IsS44 w0 wc g s0_0 x1001_2) ∧ Aside0 (KeepBut w wc g none) ∧ Aside0 (Below w0.heap.size w0 wc))
  case first =>
    have H := HC3.out
    clear HC3
    have H' := Aside0.mk H
    clear H
    go_wp2
    repeat (go_quiet (fail); try go_wp2)
    go_loopg [] k (fun kq w' => ∃ (x1001_1 : Int), Aside0 (harfbuzz_parser_parseBool.l0 kq t141 s0_0 x1001_1 = some (r1, r2, r3)) ∧ Aside0 (kq ≤ k) ∧ Aside0 (IsS44 w0 w' g s0_0 x1001_1) ∧ Aside0 (KeepBut w w' g none) ∧ Aside0 (Below w0.heap.size w0 w'))
    case atStart => exact ⟨(t141), H', ⟨Nat.le_refl _⟩, ⟨by repeat (first | (with_reducible first | exact HI0.out | apply IsS44.alloc | apply IsS44.drewN | apply IsS44.drew | apply IsS44.set_1) | exact HI0.out)⟩, ⟨by repeat (first | (with_reducible first | exact HK.out | apply KeepBut.set_ | apply keep_drewN | apply keep_drew | apply keep_alloc) | exact HK.out)⟩, ⟨by repeat (first | (with_reducible first | exact HB.out | apply below_alloc | apply pw_below_drewN | apply below_drew1 | refine below_set ?_ (IsS44.ge HI0.out)) | exact HB.out)⟩⟩
    case round =>
      clear H'
      try clear p2
      try clear c3
      try clear hcz5_0
      try clear hcz5_1
      try clear hfz5_1
      obtain ⟨x1001_1, HA, HK1, HI0, HK, HB⟩ := hrel
      cases gk with
      | zero => exact absurd HA.out (by simp [harfbuzz_parser_parseBool.l0])
      | succ k1 =>
        have H := HA.out
        clear HA
        simp only [harfbuzz_parser_parseBool.l0] at H
        by_cases c6 : x1001_1 < (s0_0.length : Int)
        · rw [if_pos c6] at H
          have c6b0 : decide (x1001_1 < (s0_0.length : Int)) = true := decide_eq_true c6
          clear c6
          (first | rw [c6b0] | (simp only [i64_w, i32_w]; rw [c6b0]) | skip)
          by_cases c7 : 0 ≤ x1001_1
          · rw [if_pos c7] at H
            have c7b0 : decide (0 ≤ x1001_1) = true := decide_eq_true c7
            clear c7
            replace H := Option.bind_eq_some_iff.mp H
            obtain ⟨t143, A80, H⟩ := H
            replace H : (if t143 = true then (harfbuzz_parser_parseBool.l0 k1 t141 s0_0 (wrap64 (x1001_1 + 1))) else (harfbuzz_parser_parseBool.j1 k1 t141 s0_0 x1001_1)) = some (r1, r2, r3) := H
            have A8 := Aside0.mk A80
            clear A80
            by_cases c9 : t143 = true
            · subst c9
              have H1 : (harfbuzz_parser_parseBool.l0 k1 t141 s0_0 (wrap64 (x1001_1 + 1))) = some (r1, r2, r3) := by rw [if_pos rfl] at H; exact H
              clear H
              have H := H1
              clear H1
              have H' := Aside0.mk H
              clear H
              obtain ⟨ASz10_0, cSz10_0, HGz10, hgz10, HSz10_0⟩ := HI0.out
              have hcz10_0 := cellS44_0 HGz10
              have hcz10_1 := cellS44_1 HGz10
              have hfz10_1 := blk_frozen HGz10 1
              clear HGz10 hgz10
              have HCz10_0 := Aside0.mk HSz10_0.2
              replace HSz10_0 := HSz10_0.1
              have p142 : 0 ≤ (x1001_1 : Int) := of_decide_eq_true (by first | (with_reducible assumption) | assumption)
              have q142 : x1001_1 < (s0_0.length : Int) := of_decide_eq_true (by first | (with_reducible assumption) | assumption)
              obtain ⟨ad142, e142, hx142_0⟩ := Kd.at_int HSz10_0 x1001_1 p142 q142
              cases e142
              replace hx142_0 := pw_cell_below HB.out hx142_0
              replace p142 := eq_true p142
              replace q142 := eq_true q142
              go_wp2_with (first | (go_at_call 38; (with_reducible refine (harfbuzz_isAlpha.calls (rd s0_0 x1001_1) true _ A8.out).mono ?_); rintro e w' ⟨rfl, ⟨nd, rfl⟩⟩; (try first | exact ⟨rfl, _, World.drewN_drewN _ _ _⟩ | exact ⟨rfl, _, Eq.trans (World.drewN_drewN _ _ _) (congrArg (World.drewN _) (Nat.add_assoc _ _ _))⟩)))
              repeat (go_quiet (first | (go_at_call 38; (with_reducible refine (harfbuzz_isAlpha.calls (rd s0_0 x1001_1) true _ A8.out).mono ?_); rintro e w' ⟨rfl, ⟨nd, rfl⟩⟩; (try first | exact ⟨rfl, _, World.drewN_drewN _ _ _⟩ | exact ⟨rfl, _, Eq.trans (World.drewN_drewN _ _ _) (congrArg (World.drewN _) (Nat.add_assoc _ _ _))⟩))); try go_wp2_with (first | (go_at_call 38; (with_reducible refine (harfbuzz_isAlpha.calls (rd s0_0 x1001_1) true _ A8.out).mono ?_); rintro e w' ⟨rfl, ⟨nd, rfl⟩⟩; (try first | exact ⟨rfl, _, World.drewN_drewN _ _ _⟩ | exact ⟨rfl, _, Eq.trans (World.drewN_drewN _ _ _) (congrArg (World.drewN _) (Nat.add_assoc _ _ _))⟩))))
              go_roundg k1
              case measure => have := HK1.out; omega
              case rel => exact ⟨(wrap64 (x1001_1 + 1)), H', ⟨by have := HK1.out; omega⟩, ⟨by repeat (first | (with_reducible first | exact HI0.out | apply IsS44.alloc | apply IsS44.drewN | apply IsS44.drew | apply IsS44.set_1) | exact HI0.out)⟩, ⟨by repeat (first | (with_reducible first | exact HK.out | apply KeepBut.set_ | apply keep_drewN | apply keep_drew | apply keep_alloc) | exact HK.out)⟩, ⟨by repeat (first | (with_reducible first | exact HB.out | apply below_alloc | apply pw_below_drewN | apply below_drew1 | refine below_set ?_ (IsS44.ge HI0.out)) | exact HB.out)⟩⟩
            · replace c9 := Bool.eq_false_iff.mpr c9
              subst c9
              have H1 : (harfbuzz_parser_parseBool.j1 k1 t141 s0_0 x1001_1) = some (r1, r2, r3) := by rw [if_neg (show ¬ (false = true) by decide)] at H; exact H
              clear H
              have H := H1
              clear H1
              have H' := Aside0.mk H
              clear H
              obtain ⟨ASz11_0, cSz11_0, HGz11, hgz11, HSz11_0⟩ := HI0.out
              have hcz11_0 := cellS44_0 HGz11
              have hcz11_1 := cellS44_1 HGz11
              have hfz11_1 := blk_frozen HGz11 1
              clear HGz11 hgz11
              have HCz11_0 := Aside0.mk HSz11_0.2
              replace HSz11_0 := HSz11_0.1
              have p142 : 0 ≤ (x1001_1 : Int) := of_decide_eq_true (by first | (with_reducible assumption) | assumption)
              have q142 : x1001_1 < (s0_0.length : Int) := of_decide_eq_true (by first | (with_reducible assumption) | assumption)
              obtain ⟨ad142, e142, hx142_0⟩ := Kd.at_int HSz11_0 x1001_1 p142 q142
              cases e142
              replace hx142_0 := pw_cell_below HB.out hx142_0
              replace p142 := eq_true p142
              replace q142 := eq_true q142
              go_wp2_with (first | (go_at_call 38; (with_reducible refine (harfbuzz_isAlpha.calls (rd s0_0 x1001_1) false _ A8.out).mono ?_); rintro e w' ⟨rfl, ⟨nd, rfl⟩⟩; (try first | exact ⟨rfl, _, World.drewN_drewN _ _ _⟩ | exact ⟨rfl, _, Eq.trans (World.drewN_drewN _ _ _) (congrArg (World.drewN _) (Nat.add_assoc _ _ _))⟩)))
              repeat (go_quiet (first | (go_at_call 38; (with_reducible refine (harfbuzz_isAlpha.calls (rd s0_0 x1001_1) false _ A8.out).mono ?_); rintro e w' ⟨rfl, ⟨nd, rfl⟩⟩; (try first | exact ⟨rfl, _, World.drewN_drewN _ _ _⟩ | exact ⟨rfl, _, Eq.trans (World.drewN_drewN _ _ _) (congrArg (World.drewN _) (Nat.add_assoc _ _ _))⟩))); try go_wp2_with (first | (go_at_call 38; (with_reducible refine (harfbuzz_isAlpha.calls (rd s0_0 x1001_1) false _ A8.out).mono ?_); rintro e w' ⟨rfl, ⟨nd, rfl⟩⟩; (try first | exact ⟨rfl, _, World.drewN_drewN _ _ _⟩ | exact ⟨rfl, _, Eq.trans (World.drewN_drewN _ _ _) (congrArg (World.drewN _) (Nat.add_assoc _ _ _))⟩))))
              go_meet
              case rel => exact ⟨_, (x1001_1), H', ⟨by have := HK1.out; first | omega | exact Nat.le_refl _⟩, ⟨by repeat (first | (with_reducible first | exact HI0.out | apply IsS44.alloc | apply IsS44.drewN | apply IsS44.drew | apply IsS44.set_1) | exact HI0.out)⟩, ⟨by repeat (first | (with_reducible first | exact HK.out | apply KeepBut.set_ | apply keep_drewN | apply keep_drew | apply keep_alloc) | exact HK.out)⟩, ⟨by repeat (first | (with_reducible first | exact HB.out | apply below_alloc | apply pw_below_drewN | apply below_drew1 | refine below_set ?_ (IsS44.ge HI0.out)) | exact HB.out)⟩⟩
          · rw [if_neg c7] at H
            exact absurd H (by simp)
        · rw [if_neg c6] at H
          have c6b0 : decide (x1001_1 < (s0_0.length : Int)) = false := decide_eq_false c6
          clear c6
          (first | rw [c6b0] | (simp only [i64_w, i32_w]; rw [c6b0]) | skip)
          have H' := Aside0.mk H
          clear H
          obtain ⟨ASz12_0, cSz12_0, HGz12, hgz12, HSz12_0⟩ := HI0.out
          have hcz12_0 := cellS44_0 HGz12
          have hcz12_1 := cellS44_1 HGz12
          have hfz12_1 := blk_frozen HGz12 1
          clear HGz12 hgz12
          have HCz12_0 := Aside0.mk HSz12_0.2
          replace HSz12_0 := HSz12_0.1
          go_wp2
          repeat (go_quiet (fail); try go_wp2)
          go_meet
          case rel => exact ⟨_, (x1001_1), H', ⟨by have := HK1.out; first | omega | exact Nat.le_refl _⟩, ⟨by repeat (first | (with_reducible first | exact HI0.out | apply IsS44.alloc | apply IsS44.drewN | apply IsS44.drew | apply IsS44.set_1) | exact HI0.out)⟩, ⟨by repeat (first | (with_reducible first | exact HK.out | apply KeepBut.set_ | apply keep_drewN | apply keep_drew | apply keep_alloc) | exact HK.out)⟩, ⟨by repeat (first | (with_reducible first | exact HB.out | apply below_alloc | apply pw_below_drewN | apply below_drew1 | refine below_set ?_ (IsS44.ge HI0.out)) | exact HB.out)⟩⟩
  case rest =>
    clear HC3
    try clear p1
    try clear q1
    try clear hx1
    try clear p2
    try clear c3
    try clear c6
    try clear c6b0
    try clear p6
    try clear c7
    try clear c7b0
    try clear c9
    try clear hcz10_0
    try clear hcz10_1
    try clear hcz11_0
    try clear hcz11_1
    try clear hcz12_0
    try clear hcz12_1
    try clear hcz5_0
    try clear hcz5_1
    try clear hfz10_1
    try clear hfz11_1
    try clear hfz12_1
    try clear hfz5_1
    try clear hx142_0
    try clear p142
    try clear p2
    try clear q142
    obtain ⟨kq, x1001_2, HA, HJ2, HI0, HK, HB⟩ := hcut
    cases kq with
    | zero => exact absurd HA.out (by simp [harfbuzz_parser_parseBool.j1])
    | succ kj2 =>
      have H := HA.out
      clear HA
      simp only [harfbuzz_parser_parseBool.j1] at H
      by_cases c13 : 0 ≤ t141
      · rw [if_pos c13] at H
        have c13b0 := eq_true c13
        have c13b1 : decide (0 ≤ t141) = true := decide_eq_true c13
        clear c13
        by_cases c14 : t141 ≤ x1001_2
        · rw [if_pos c14] at H
          have c14b0 := eq_true c14
          have c14b1 : decide (t141 ≤ x1001_2) = true := decide_eq_true c14
          clear c14
          by_cases c15 : x1001_2 ≤ (s0_0.length : Int)
          · rw [if_pos c15] at H
            have c15b0 := eq_true c15
            have c15b1 : decide (x1001_2 ≤ (s0_0.length : Int)) = true := decide_eq_true c15
            clear c15
            by_cases c16 : (strOfNums ((s0_0.take (x1001_2 : Int).toNat).drop (t141 : Int).toNat)).toList = ([111, 110] : List UInt8)
            · rw [if_pos c16] at H
              have c16b0 : ((strOfNums ((s0_0.take (x1001_2 : Int).toNat).drop (t141 : Int).toNat)).toList == ([111, 110] : List UInt8)) = true := beq_iff_eq.mpr c16
              have c16b1 : ((strOfNums ((s0_0.take (x1001_2 : Int).toNat).drop (t141 : Int).toNat)).toList != ([111, 110] : List UInt8)) = false := bne_eq_false_iff_eq.mpr c16
              clear c16
              simp only [Option.some.injEq, Prod.mk.injEq] at H
              obtain ⟨rfl, rfl, rfl⟩ := H
              obtain ⟨ASz17_0, cSz17_0, HGz17, hgz17, HSz17_0⟩ := HI0.out
              have hcz17_0 := cellS44_0 HGz17
              have hcz17_1 := cellS44_1 HGz17
              have hfz17_1 := blk_frozen HGz17 1
              clear HGz17 hgz17
              have HCz17_0 := Aside0.mk HSz17_0.2
              replace HSz17_0 := HSz17_0.1
              obtain ⟨i018, hi018, _, hsz18, _⟩ := info_parts info5
              obtain ⟨A18, hcut18, hA18, hC18⟩ := print_mid_of (P := Tryd.prog) (Value.int .u8) 0 33 5 .i64 .i64 Tryd.underlying33 hi018 hsz18 ASz17_0 cSz17_0 s0_0 t141 x1001_2 (of_decide_eq_true (by first | (with_reducible assumption) | assumption)) (by first | omega | exact of_decide_eq_true (by first | (with_reducible assumption) | assumption)) (of_decide_eq_true (by first | (with_reducible assumption) | assumption)) HCz17_0.out
              have HR144 := Aside0.mk (Kd.C_of_reads (h1 := fun _ => rfl) (hA18 _ (Kd.reads_of_C HSz17_0)))
              have HC144 := Aside0.mk hC18
              clear hA18 hC18 hi018 hsz18
              have hcvD19 := Kd.C_string (P := Tryd.prog) (A := A18) (c := (cSz17_0 - t141.toNat)) Tryd.underlying33 Tryd.underlying5 Tryd.underlying9 (Kd.C_drew (Kd.C_below HR144.out (by repeat (first | (with_reducible first | exact HB.out | apply below_alloc | apply pw_below_drewN | apply below_drew1 | refine below_set ?_ (IsS44.ge HI0.out)) | exact HB.out))))
              rw [show ((s0_0.take (x1001_2 : Int).toNat).drop (t141 : Int).toNat).length = (x1001_2.toNat - t141.toNat) from (by rw [List.length_drop, List.length_take]; have h_ : (x1001_2 : Int) ≤ (s0_0.length : Int) := of_decide_eq_true (by first | (with_reducible assumption) | assumption); omega)] at hcvD19
              have hcv20 := Kd.C_string (P := Tryd.prog) (A := A18) (c := (cSz17_0 - t141.toNat)) Tryd.underlying33 Tryd.underlying5 Tryd.underlying9 (Kd.C_below HR144.out (by repeat (first | (with_reducible first | exact HB.out | apply below_alloc | apply pw_below_drewN | apply below_drew1 | refine below_set ?_ (IsS44.ge HI0.out)) | exact HB.out)))
              go_wp2
              go_region
              all_goals go_wp2
              all_goals go_ret2
              all_goals (exact ⟨by first | rfl | (simp [errW_none, errW_some] <;> rfl) | (simp [*, errW_none, errW_some] <;> rfl), by repeat (first | (with_reducible first | exact HI0.out | apply IsS44.alloc | apply IsS44.drewN | apply IsS44.drew | apply IsS44.set_1) | exact HI0.out), by repeat (first | (with_reducible first | exact HB.out | apply below_alloc | apply pw_below_drewN | apply below_drew1 | refine below_set ?_ (IsS44.ge HI0.out)) | exact HB.out), by repeat (first | (with_reducible first | exact HK.out | apply KeepBut.set_ | apply keep_drewN | apply keep_drew | apply keep_alloc) | exact HK.out)⟩)
            · rw [if_neg c16] at H
              have c16b0 : ((strOfNums ((s0_0.take (x1001_2 : Int).toNat).drop (t141 : Int).toNat)).toList == ([111, 110] : List UInt8)) = false := beq_eq_false_iff_ne.mpr c16
              have c16b1 : ((strOfNums ((s0_0.take (x1001_2 : Int).toNat).drop (t141 : Int).toNat)).toList != ([111, 110] : List UInt8)) = true := bne_iff_ne.mpr c16
              by_cases c21 : (strOfNums ((s0_0.take (x1001_2 : Int).toNat).drop (t141 : Int).toNat)).toList = ([111, 102, 102] : List UInt8)
              · rw [if_pos c21] at H
                have c21b0 : ((strOfNums ((s0_0.take (x1001_2 : Int).toNat).drop (t141 : Int).toNat)).toList == ([111, 102, 102] : List UInt8)) = true := beq_iff_eq.mpr c21
                have c21b1 : ((strOfNums ((s0_0.take (x1001_2 : Int).toNat).drop (t141 : Int).toNat)).toList != ([111, 102, 102] : List UInt8)) = false := bne_eq_false_iff_eq.mpr c21
                clear c21
                simp only [Option.some.injEq, Prod.mk.injEq] at H
                obtain ⟨rfl, rfl, rfl⟩ := H
                obtain ⟨ASz22_0, cSz22_0, HGz22, hgz22, HSz22_0⟩ := HI0.out
                have hcz22_0 := cellS44_0 HGz22
                have hcz22_1 := cellS44_1 HGz22
                have hfz22_1 := blk_frozen HGz22 1
                clear HGz22 hgz22
                have HCz22_0 := Aside0.mk HSz22_0.2
                replace HSz22_0 := HSz22_0.1
                obtain ⟨i023, hi023, _, hsz23, _⟩ := info_parts info5
                obtain ⟨A23, hcut23, hA23, hC23⟩ := print_mid_of (P := Tryd.prog) (Value.int .u8) 0 33 5 .i64 .i64 Tryd.underlying33 hi023 hsz23 ASz22_0 cSz22_0 s0_0 t141 x1001_2 (of_decide_eq_true (by first | (with_reducible assumption) | assumption)) (by first | omega | exact of_decide_eq_true (by first | (with_reducible assumption) | assumption)) (of_decide_eq_true (by first | (with_reducible assumption) | assumption)) HCz22_0.out
                have HR144 := Aside0.mk (Kd.C_of_reads (h1 := fun _ => rfl) (hA23 _ (Kd.reads_of_C HSz22_0)))
                have HC144 := Aside0.mk hC23
                clear hA23 hC23 hi023 hsz23
                have hcvD24 := Kd.C_string (P := Tryd.prog) (A := A23) (c := (cSz22_0 - t141.toNat)) Tryd.underlying33 Tryd.underlying5 Tryd.underlying9 (Kd.C_drew (Kd.C_below HR144.out (by repeat (first | (with_reducible first | exact HB.out | apply below_alloc | apply pw_below_drewN | apply below_drew1 | refine below_set ?_ (IsS44.ge HI0.out)) | exact HB.out))))
                rw [show ((s0_0.take (x1001_2 : Int).toNat).drop (t141 : Int).toNat).length = (x1001_2.toNat - t141.toNat) from (by rw [List.length_drop, List.length_take]; have h_ : (x1001_2 : Int) ≤ (s0_0.length : Int) := of_decide_eq_true (by first | (with_reducible assumption) | assumption); omega)] at hcvD24
                have hcv25 := Kd.C_string (P := Tryd.prog) (A := A23) (c := (cSz22_0 - t141.toNat)) Tryd.underlying33 Tryd.underlying5 Tryd.underlying9 (Kd.C_below HR144.out (by repeat (first | (with_reducible first | exact HB.out | apply below_alloc | apply pw_below_drewN | apply below_drew1 | refine below_set ?_ (IsS44.ge HI0.out)) | exact HB.out)))
                go_wp2
                go_region
                all_goals go_wp2
                all_goals go_ret2
                all_goals (exact ⟨by first | rfl | (simp [errW_none, errW_some] <;> rfl) | (simp [*, errW_none, errW_some] <;> rfl), by repeat (first | (with_reducible first | exact HI0.out | apply IsS44.alloc | apply IsS44.drewN | apply IsS44.drew | apply IsS44.set_1) | exact HI0.out), by repeat (first | (with_reducible first | exact HB.out | apply below_alloc | apply pw_below_drewN | apply below_drew1 | refine below_set ?_ (IsS44.ge HI0.out)) | exact HB.out), by repeat (first | (with_reducible first | exact HK.out | apply KeepBut.set_ | apply keep_drewN | apply keep_drew | apply keep_alloc) | exact HK.out)⟩)
              · rw [if_neg c21] at H
                have c21b0 : ((strOfNums ((s0_0.take (x1001_2 : Int).toNat).drop (t141 : Int).toNat)).toList == ([111, 102, 102] : List UInt8)) = false := beq_eq_false_iff_ne.mpr c21
                have c21b1 : ((strOfNums ((s0_0.take (x1001_2 : Int).toNat).drop (t141 : Int).toNat)).toList != ([111, 102, 102] : List UInt8)) = true := bne_iff_ne.mpr c21
                simp only [Option.some.injEq, Prod.mk.injEq] at H
                obtain ⟨rfl, rfl, rfl⟩ := H
                obtain ⟨ASz26_0, cSz26_0, HGz26, hgz26, HSz26_0⟩ := HI0.out
                have hcz26_0 := cellS44_0 HGz26
                have hcz26_1 := cellS44_1 HGz26
                have hfz26_1 := blk_frozen HGz26 1
                clear HGz26 hgz26
                have HCz26_0 := Aside0.mk HSz26_0.2
                replace HSz26_0 := HSz26_0.1
                obtain ⟨i027, hi027, _, hsz27, _⟩ := info_parts info5
                obtain ⟨A27, hcut27, hA27, hC27⟩ := print_mid_of (P := Tryd.prog) (Value.int .u8) 0 33 5 .i64 .i64 Tryd.underlying33 hi027 hsz27 ASz26_0 cSz26_0 s0_0 t141 x1001_2 (of_decide_eq_true (by first | (with_reducible assumption) | assumption)) (by first | omega | exact of_decide_eq_true (by first | (with_reducible assumption) | assumption)) (of_decide_eq_true (by first | (with_reducible assumption) | assumption)) HCz26_0.out
                have HR144 := Aside0.mk (Kd.C_of_reads (h1 := fun _ => rfl) (hA27 _ (Kd.reads_of_C HSz26_0)))
                have HC144 := Aside0.mk hC27
                clear hA27 hC27 hi027 hsz27
                have hcvD28 := Kd.C_string (P := Tryd.prog) (A := A27) (c := (cSz26_0 - t141.toNat)) Tryd.underlying33 Tryd.underlying5 Tryd.underlying9 (Kd.C_drew (Kd.C_below HR144.out (by repeat (first | (with_reducible first | exact HB.out | apply below_alloc | apply pw_below_drewN | apply below_drew1 | refine below_set ?_ (IsS44.ge HI0.out)) | exact HB.out))))
                rw [show ((s0_0.take (x1001_2 : Int).toNat).drop (t141 : Int).toNat).length = (x1001_2.toNat - t141.toNat) from (by rw [List.length_drop, List.length_take]; have h_ : (x1001_2 : Int) ≤ (s0_0.length : Int) := of_decide_eq_true (by first | (with_reducible assumption) | assumption); omega)] at hcvD28
                have hcv29 := Kd.C_string (P := Tryd.prog) (A := A27) (c := (cSz26_0 - t141.toNat)) Tryd.underlying33 Tryd.underlying5 Tryd.underlying9 (Kd.C_below HR144.out (by repeat (first | (with_reducible first | exact HB.out | apply below_alloc | apply pw_below_drewN | apply below_drew1 | refine below_set ?_ (IsS44.ge HI0.out)) | exact HB.out)))
                go_wp2
                go_region
                all_goals go_wp2
                all_goals go_ret2
                all_goals (exact ⟨by first | rfl | (simp [errW_none, errW_some] <;> rfl) | (simp [*, errW_none, errW_some] <;> rfl), by repeat (first | (with_reducible first | exact HI0.out | apply IsS44.alloc | apply IsS44.drewN | apply IsS44.drew | apply IsS44.set_1) | exact HI0.out), by repeat (first | (with_reducible first | exact HB.out | apply below_alloc | apply pw_below_drewN | apply below_drew1 | refine below_set ?_ (IsS44.ge HI0.out)) | exact HB.out), by repeat (first | (with_reducible first | exact HK.out | apply KeepBut.set_ | apply keep_drewN | apply keep_drew | apply keep_alloc) | exact HK.out)⟩)
          · rw [if_neg c15] at H
            exact absurd H (by simp)
        · rw [if_neg c14] at H
          exact absurd H (by simp)
      · rw [if_neg c13] at H
        exact absurd H (by simp)

/-! ### harfbuzz_parser_parseFeatureValuePostfix: function 20 -/
def harfbuzz_parser_parseFeatureValuePostfix.f (k : Nat) (s0_0 : List Int) (s0_1 : Int) : Option (Int × Bool × Int) := (harfbuzz_parser_parseChar.f k s0_0 s0_1 61).bind fun bt145 => ((harfbuzz_parser_parseUint32.f k s0_0 bt145.2).bind fun bt147 => (if bt147.2.1 = true then (some (bt147.1, bt147.2.1, bt147.2.2)) else ((harfbuzz_parser_parseBool.f k s0_0 bt145.2).bind fun bt150 => (some (bt150.1, bt150.2.1, bt150.2.2)))))
theorem harfbuzz_parser_parseFeatureValuePostfix.mono : ∀ a0 a1 k, LeO (harfbuzz_parser_parseFeatureValuePostfix.f k a0 a1) (harfbuzz_parser_parseFeatureValuePostfix.f (k + 1) a0 a1) := by
  intro a0 a1 k
  unfold harfbuzz_parser_parseFeatureValuePostfix.f
  repeat' first
      | (with_reducible exact harfbuzz_parser_parseBool.mono _ _ _)
      | (with_reducible exact harfbuzz_parser_parseChar.mono _ _ _ _)
      | (with_reducible exact harfbuzz_parser_parseUint32.mono _ _ _)
      | (with_reducible exact LeO.refl _)
      | (with_reducible exact LeO.none _)
      | (with_reducible refine LeO.ite ?_ ?_)
      | (with_reducible refine LeO.bind ?_ (fun _ => ?_))
      | exact harfbuzz_parser_parseBool.mono _ _ _
      | exact harfbuzz_parser_parseChar.mono _ _ _ _
      | exact harfbuzz_parser_parseUint32.mono _ _ _
      | exact LeO.none _
      | refine LeO.ite ?_ ?_
      | refine LeO.bind ?_ (fun _ => ?_)
set_option maxHeartbeats 8000000 in
set_option maxRecDepth 100000 in
theorem harfbuzz_parser_parseFeatureValuePostfix.calls (k : Nat) (g : Nat) (s0_0 : List Int) (s0_1 : Int) (r1 : Int) (r2 : Bool) (r3 : Int) (w0 w : World) (hI : IsS44 w0 w g s0_0 s0_1) (hB : Below w0.heap.size w0 w) (h : harfbuzz_parser_parseFeatureValuePostfix.f k s0_0 s0_1 = some (r1, r2, r3)) (GG : Tab w0) :
    Calls Tryd.prog 20 #[.pointer (some ⟨g, 0, none⟩)] w fun e w' => e = .returned (.tuple #[.int .u32 r1, .bool r2]) ∧ IsS44 w0 w' g s0_0 r3 ∧ Below w0.heap.size w0 w' ∧ KeepBut w w' g none := by
  have HI0 := Aside0.mk hI
  have HK := Aside0.mk (KeepBut.refl w g none)
  have HL := Aside0.mk hB.size
  clear hI
  have HW0 := Aside0.mk hB.size
  have HB := Aside0.mk hB
  clear hB
  have H : ((harfbuzz_parser_parseChar.f k s0_0 s0_1 61).bind fun bt145 => ((harfbuzz_parser_parseUint32.f k s0_0 bt145.2).bind fun bt147 => (if bt147.2.1 = true then (some (bt147.1, bt147.2.1, bt147.2.2)) else ((harfbuzz_parser_parseBool.f k s0_0 bt145.2).bind fun bt150 => (some (bt150.1, bt150.2.1, bt150.2.2)))))) = some (r1, r2, r3) := h
  clear h
  replace H := Option.bind_eq_some_iff.mp H
  obtain ⟨⟨t145, t146⟩, A20, H⟩ := H
  replace H : ((harfbuzz_parser_parseUint32.f k s0_0 t146).bind fun bt147 => (if bt147.2.1 = true then (some (bt147.1, bt147.2.1, bt147.2.2)) else ((harfbuzz_parser_parseBool.f k s0_0 t146).bind fun bt150 => (some (bt150.1, bt150.2.1, bt150.2.2))))) = some (r1, r2, r3) := H
  have A2 := Aside0.mk A20
  clear A20
  replace H := Option.bind_eq_some_iff.mp H
  obtain ⟨⟨t147, t148, t149⟩, A30, H⟩ := H
  replace H : (if t148 = true then (some (t147, t148, t149)) else ((harfbuzz_parser_parseBool.f k s0_0 t146).bind fun bt150 => (some (bt150.1, bt150.2.1, bt150.2.2)))) = some (r1, r2, r3) := H
  have A3 := Aside0.mk A30
  clear A30
  by_cases c4 : t148 = true
  · subst c4
    have H1 : (some (t147, true, t149)) = some (r1, r2, r3) := by rw [if_pos rfl] at H; exact H
    clear H
    have H := H1
    clear H1
    simp only [Option.some.injEq, Prod.mk.injEq] at H
    obtain ⟨rfl, rfl, rfl⟩ := H
    go_enter Tryd.func20, Tryd.ntmps20
    go_wp2_with (first | ((with_reducible refine gate_callee (f := 27) rfl ?_); refine goesL_ (some 8) rfl rfl Tryd.func27 (by kernel_rfl) rfl #[.pointer (some ⟨g, 0, none⟩), .int .u8 61] rfl (by (try simp only [List.map_toArray, List.map_cons, List.map_nil]); first | done | rfl | (simp only [List.length_drop, List.length_take]; rfl)) ?_; (with_reducible refine (harfbuzz_parser_parseChar.calls k g s0_0 s0_1 61 t145 t146 w0 _ ?side1 ?side2 A2.out).mono ?_); (case side1 => repeat (first | (with_reducible first | exact HI0.out | apply IsS44.alloc | apply IsS44.drewN | apply IsS44.drew | apply IsS44.set_1) | exact HI0.out)); (case side2 => repeat (first | (with_reducible first | exact HB.out | apply below_alloc | apply pw_below_drewN | apply below_drew1 | refine below_set ?_ (IsS44.ge HI0.out)) | exact HB.out)); rintro e w5 ⟨rfl, hi, hb, hk⟩; refine ⟨_, rfl, ?_⟩; have n0_ := Aside0.mk (KeepBut.trans (by repeat (first | (with_reducible first | exact HK.out | apply KeepBut.set_ | apply keep_drewN | apply keep_drew | apply keep_alloc) | exact HK.out)) hk (.inl rfl)); have n1_ := Aside0.mk (hb); have n2_ := Aside0.mk (hi); clear HK; clear HB; clear HI0; have HK := n0_; have HB := n1_; have HI0 := n2_; clear n0_ n1_ n2_; (try clear hb); (try clear hb2); (try clear hk); (try clear hi); obtain ⟨ASz6_0, cSz6_0, HGz6, hgz6, HSz6_0⟩ := HI0.out; have hcz6_0 := cellS44_0 HGz6; have hcz6_1 := cellS44_1 HGz6; have hfz6_1 := blk_frozen HGz6 1; clear HGz6 hgz6; have HCz6_0 := Aside0.mk HSz6_0.2; replace HSz6_0 := HSz6_0.1) | ((with_reducible refine gate_callee (f := 30) rfl ?_); refine goesL_ (some 15) rfl rfl Tryd.func30 (by kernel_rfl) rfl #[.pointer (some ⟨g, 0, none⟩)] rfl (by (try simp only [List.map_toArray, List.map_cons, List.map_nil]); first | done | rfl | (simp only [List.length_drop, List.length_take]; rfl)) ?_; (with_reducible refine (harfbuzz_parser_parseUint32.calls k g s0_0 t146 t147 true t149 w0 _ ?side1 ?side2 A3.out GG).mono ?_); (case side1 => repeat (first | (with_reducible first | exact HI0.out | apply IsS44.alloc | apply IsS44.drewN | apply IsS44.drew | apply IsS44.set_1) | exact HI0.out)); (case side2 => repeat (first | (with_reducible first | exact HB.out | apply below_alloc | apply pw_below_drewN | apply below_drew1 | refine below_set ?_ (IsS44.ge HI0.out)) | exact HB.out)); rintro e w7 ⟨rfl, hi, hb, hk⟩; refine ⟨_, rfl, ?_⟩; have n0_ := Aside0.mk (KeepBut.trans (by repeat (first | (with_reducible first | exact HK.out | apply KeepBut.set_ | apply keep_drewN | apply keep_drew | apply keep_alloc) | exact HK.out)) hk (.inl rfl)); have n1_ := Aside0.mk (hb); have n2_ := Aside0.mk (hi); clear HK; clear HB; clear HI0; have HK := n0_; have HB := n1_; have HI0 := n2_; clear n0_ n1_ n2_; (try clear hb); (try clear hb2); (try clear hk); (try clear hi)))
    go_ret2
    exact ⟨by first | rfl | (simp [errW_none, errW_some] <;> rfl) | (simp [*, errW_none, errW_some] <;> rfl), by repeat (first | (with_reducible first | exact HI0.out | apply IsS44.alloc | apply IsS44.drewN | apply IsS44.drew | apply IsS44.set_1) | exact HI0.out), by repeat (first | (with_reducible first | exact HB.out | apply below_alloc | apply pw_below_drewN | apply below_drew1 | refine below_set ?_ (IsS44.ge HI0.out)) | exact HB.out), by repeat (first | (with_reducible first | exact HK.out | apply KeepBut.set_ | apply keep_drewN | apply keep_drew | apply keep_alloc) | exact HK.out)⟩
  · replace c4 := Bool.eq_false_iff.mpr c4
    subst c4
    have H1 : ((harfbuzz_parser_parseBool.f k s0_0 t146).bind fun bt150 => (some (bt150.1, bt150.2.1, bt150.2.2))) = some (r1, r2, r3) := by rw [if_neg (show ¬ (false = true) by decide)] at H; exact H
    clear H
    have H := H1
    clear H1
    replace H := Option.bind_eq_some_iff.mp H
    obtain ⟨⟨t150, t151, t152⟩, A80, H⟩ := H
    replace H : (some (t150, t151, t152)) = some (r1, r2, r3) := H
    have A8 := Aside0.mk A80
    clear A80
    simp only [Option.some.injEq, Prod.mk.injEq] at H
    obtain ⟨rfl, rfl, rfl⟩ := H
    go_enter Tryd.func20, Tryd.ntmps20
    go_wp2_with (first | ((with_reducible refine gate_callee (f := 27) rfl ?_); refine goesL_ (some 8) rfl rfl Tryd.func27 (by kernel_rfl) rfl #[.pointer (some ⟨g, 0, none⟩), .int .u8 61] rfl (by (try simp only [List.map_toArray, List.map_cons, List.map_nil]); first | done | rfl | (simp only [List.length_drop, List.length_take]; rfl)) ?_; (with_reducible refine (harfbuzz_parser_parseChar.calls k g s0_0 s0_1 61 t145 t146 w0 _ ?side1 ?side2 A2.out).mono ?_); (case side1 => repeat (first | (with_reducible first | exact HI0.out | apply IsS44.alloc | apply IsS44.drewN | apply IsS44.drew | apply IsS44.set_1) | exact HI0.out)); (case side2 => repeat (first | (with_reducible first | exact HB.out | apply below_alloc | apply pw_below_drewN | apply below_drew1 | refine below_set ?_ (IsS44.ge HI0.out)) | exact HB.out)); rintro e w9 ⟨rfl, hi, hb, hk⟩; refine ⟨_, rfl, ?_⟩; have n0_ := Aside0.mk (KeepBut.trans (by repeat (first | (with_reducible first | exact HK.out | apply KeepBut.set_ | apply keep_drewN | apply keep_drew | apply keep_alloc) | exact HK.out)) hk (.inl rfl)); have n1_ := Aside0.mk (hb); have n2_ := Aside0.mk (hi); clear HK; clear HB; clear HI0; have HK := n0_; have HB := n1_; have HI0 := n2_; clear n0_ n1_ n2_; (try clear hb); (try clear hb2); (try clear hk); (try clear hi); obtain ⟨ASz10_0, cSz10_0, HGz10, hgz10, HSz10_0⟩ := HI0.out; have hcz10_0 := cellS44_0 HGz10; have hcz10_1 := cellS44_1 HGz10; have hfz10_1 := blk_frozen HGz10 1; clear HGz10 hgz10; have HCz10_0 := Aside0.mk HSz10_0.2; replace HSz10_0 := HSz10_0.1) | ((with_reducible refine gate_callee (f := 30) rfl ?_); refine goesL_ (some 15) rfl rfl Tryd.func30 (by kernel_rfl) rfl #[.pointer (some ⟨g, 0, none⟩)] rfl (by (try simp only [List.map_toArray, List.map_cons, List.map_nil]); first | done | rfl | (simp only [List.length_drop, List.length_take]; rfl)) ?_; (with_reducible refine (harfbuzz_parser_parseUint32.calls k g s0_0 t146 t147 false t149 w0 _ ?side1 ?side2 A3.out GG).mono ?_); (case side1 => repeat (first | (with_reducible first | exact HI0.out | apply IsS44.alloc | apply IsS44.drewN | apply IsS44.drew | apply IsS44.set_1) | exact HI0.out)); (case side2 => repeat (first | (with_reducible first | exact HB.out | apply below_alloc | apply pw_below_drewN | apply below_drew1 | refine below_set ?_ (IsS44.ge HI0.out)) | exact HB.out)); rintro e w11 ⟨rfl, hi, hb, hk⟩; refine ⟨_, rfl, ?_⟩; have n0_ := Aside0.mk (KeepBut.trans (by repeat (first | (with_reducible first | exact HK.out | apply KeepBut.set_ | apply keep_drewN | apply keep_drew | apply keep_alloc) | exact HK.out)) hk (.inl rfl)); have n1_ := Aside0.mk (hb); have n2_ := Aside0.mk (hi); clear HK; clear HB; clear HI0; have HK := n0_; have HB := n1_; have HI0 := n2_; clear n0_ n1_ n2_; (try clear hb); (try clear hb2); (try clear hk); (try clear hi); obtain ⟨ASz12_0, cSz12_0, HGz12, hgz12, HSz12_0⟩ := HI0.out; have hcz12_0 := cellS44_0 HGz12; have hcz12_1 := cellS44_1 HGz12; have hfz12_1 := blk_frozen HGz12 1; clear HGz12 hgz12; have HCz12_0 := Aside0.mk HSz12_0.2; replace HSz12_0 := HSz12_0.1) | ((with_reducible refine gate_callee (f := 31) rfl ?_); refine goesL_ (some 26) rfl rfl Tryd.func31 (by kernel_rfl) rfl #[.pointer (some ⟨g, 0, none⟩)] rfl (by (try simp only [List.map_toArray, List.map_cons, List.map_nil]); first | done | rfl | (simp only [List.length_drop, List.length_take]; rfl)) ?_; (with_reducible refine (harfbuzz_parser_parseBool.calls k g s0_0 t146 t150 t151 t152 w0 _ ?side1 ?side2 A8.out).mono ?_); (case side1 => repeat (first | (with_reducible first | exact HI0.out | apply IsS44.alloc | apply IsS44.drewN | apply IsS44.drew | apply IsS44.set_1) | exact HI0.out)); (case side2 => repeat (first | (with_reducible first | exact HB.out | apply below_alloc | apply pw_below_drewN | apply below_drew1 | refine below_set ?_ (IsS44.ge HI0.out)) | exact HB.out)); rintro e w13 ⟨rfl, hi, hb, hk⟩; refine ⟨_, rfl, ?_⟩; have n0_ := Aside0.mk (KeepBut.trans (by repeat (first | (with_reducible first | exact HK.out | apply KeepBut.set_ | apply keep_drewN | apply keep_drew | apply keep_alloc) | exact HK.out)) hk (.inl rfl)); have n1_ := Aside0.mk (hb); have n2_ := Aside0.mk (hi); clear HK; clear HB; clear HI0; have HK := n0_; have HB := n1_; have HI0 := n2_; clear n0_ n1_ n2_; (try clear hb); (try clear hb2); (try clear hk); (try clear hi)))
    go_ret2
    exact ⟨by first | rfl | (simp [errW_none, errW_some] <;> rfl) | (simp [*, errW_none, errW_some] <;> rfl), by repeat (first | (with_reducible first | exact HI0.out | apply IsS44.alloc | apply IsS44.drewN | apply IsS44.drew | apply IsS44.set_1) | exact HI0.out), by repeat (first | (with_reducible first | exact HB.out | apply below_alloc | apply pw_below_drewN | apply below_drew1 | refine below_set ?_ (IsS44.ge HI0.out)) | exact HB.out), by repeat (first | (with_reducible first | exact HK.out | apply KeepBut.set_ | apply keep_drewN | apply keep_drew | apply keep_alloc) | exact HK.out)⟩

/-! ### harfbuzz_parser_parseOneFeature: function 12 -/
def harfbuzz_parser_parseOneFeature.f (k : Nat) (s0_0 : List Int) (s0_1 : Int) : Option (Int × Int × Int × Int × Option Int × Int) := (harfbuzz_parser_parseFeatureValuePrefix.f k s0_0 s0_1).bind fun bt154 => ((harfbuzz_parser_parseTag.f k s0_0 bt154.2).bind fun bt156 => (if bt156.2.1.isNone = true then ((harfbuzz_parser_parseFeatureIndices.f k s0_0 bt156.2.2).bind fun bt160 => (if bt160.2.2.1.isNone = true then ((harfbuzz_parser_parseFeatureValuePostfix.f k s0_0 bt160.2.2.2).bind fun bt165 => (if bt165.2.1 = true then ((harfbuzz_parser_skipSpaces.f k s0_0 bt165.2.2).bind fun t168 => (some (bt156.1, bt165.1, bt160.1, bt160.2.1, none, t168))) else ((harfbuzz_parser_skipSpaces.f k s0_0 bt165.2.2).bind fun t169 => (some (bt156.1, bt154.1, bt160.1, bt160.2.1, none, t169))))) else (some (bt156.1, bt154.1, bt160.1, bt160.2.1, some (bt160.2.2.1.getD 0), bt160.2.2.2)))) else (some (bt156.1, bt154.1, 0, 0, some (bt156.2.1.getD 0), bt156.2.2))))
theorem harfbuzz_parser_parseOneFeature.mono : ∀ a0 a1 k, LeO (harfbuzz_parser_parseOneFeature.f k a0 a1) (harfbuzz_parser_parseOneFeature.f (k + 1) a0 a1) := by
  intro a0 a1 k
  unfold harfbuzz_parser_parseOneFeature.f
  repeat' first
      | (with_reducible exact harfbuzz_parser_parseFeatureIndices.mono _ _ _)
      | (with_reducible exact harfbuzz_parser_parseFeatureValuePostfix.mono _ _ _)
      | (with_reducible exact harfbuzz_parser_parseFeatureValuePrefix.mono _ _ _)
      | (with_reducible exact harfbuzz_parser_parseTag.mono _ _ _)
      | (with_reducible exact harfbuzz_parser_skipSpaces.mono _ _ _)
      | (with_reducible exact LeO.refl _)
      | (with_reducible exact LeO.none _)
      | (with_reducible refine LeO.ite ?_ ?_)
      | (with_reducible refine LeO.bind ?_ (fun _ => ?_))
      | exact harfbuzz_parser_parseFeatureIndices.mono _ _ _
      | exact harfbuzz_parser_parseFeatureValuePostfix.mono _ _ _
      | exact harfbuzz_parser_parseFeatureValuePrefix.mono _ _ _
      | exact harfbuzz_parser_parseTag.mono _ _ _
      | exact harfbuzz_parser_skipSpaces.mono _ _ _
      | exact LeO.none _
      | refine LeO.ite ?_ ?_
      | refine LeO.bind ?_ (fun _ => ?_)
set_option maxHeartbeats 8000000 in
set_option maxRecDepth 100000 in
theorem harfbuzz_parser_parseOneFeature.calls (k : Nat) (g : Nat) (s0_0 : List Int) (s0_1 : Int) (r1 : Int) (r2 : Int) (r3 : Int) (r4 : Int) (r5 : Option Int) (r6 : Int) (w0 w : World) (hI : IsS44 w0 w g s0_0 s0_1) (hB : Below w0.heap.size w0 w) (h : harfbuzz_parser_parseOneFeature.f k s0_0 s0_1 = some (r1, r2, r3, r4, r5, r6)) (GG : Tab w0) :
    Calls Tryd.prog 12 #[.pointer (some ⟨g, 0, none⟩)] w fun e w' => ∃ e4_ : Value, e = .returned (.tuple #[.agg #[.int .u32 r1, .int .u32 r2, .int .i64 r3, .int .i64 r4], e4_]) ∧ EV e4_ r5 ∧ IsS44 w0 w' g s0_0 r6 ∧ Below w0.heap.size w0 w' ∧ KeepBut w w' g none := by
  have hu36 := Tryd.underlying36
  have hu38 := Tryd.underlying38
  have HI0 := Aside0.mk hI
  have HK := Aside0.mk (KeepBut.refl w g none)
  have HL := Aside0.mk hB.size
  clear hI
  have HW0 := Aside0.mk hB.size
  have HB := Aside0.mk hB
  clear hB
  have H : ((harfbuzz_parser_parseFeatureValuePrefix.f k s0_0 s0_1).bind fun bt154 => ((harfbuzz_parser_parseTag.f k s0_0 bt154.2).bind fun bt156 => (if bt156.2.1.isNone = true then ((harfbuzz_parser_parseFeatureIndices.f k s0_0 bt156.2.2).bind fun bt160 => (if bt160.2.2.1.isNone = true then ((harfbuzz_parser_parseFeatureValuePostfix.f k s0_0 bt160.2.2.2).bind fun bt165 => (if bt165.2.1 = true then ((harfbuzz_parser_skipSpaces.f k s0_0 bt165.2.2).bind fun t168 => (some (bt156.1, bt165.1, bt160.1, bt160.2.1, none, t168))) else ((harfbuzz_parser_skipSpaces.f k s0_0 bt165.2.2).bind fun t169 => (some (bt156.1, bt154.1, bt160.1, bt160.2.1, none, t169))))) else (some (bt156.1, bt154.1, bt160.1, bt160.2.1, some (bt160.2.2.1.getD 0), bt160.2.2.2)))) else (some (bt156.1, bt154.1, 0, 0, some (bt156.2.1.getD 0), bt156.2.2))))) = some (r1, r2, r3, r4, r5, r6) := h
  clear h
  replace H := Option.bind_eq_some_iff.mp H
  obtain ⟨⟨t154, t155⟩, A20, H⟩ := H
  replace H : ((harfbuzz_parser_parseTag.f k s0_0 t155).bind fun bt156 => (if bt156.2.1.isNone = true then ((harfbuzz_parser_parseFeatureIndices.f k s0_0 bt156.2.2).bind fun bt160 => (if bt160.2.2.1.isNone = true then ((harfbuzz_parser_parseFeatureValuePostfix.f k s0_0 bt160.2.2.2).bind fun bt165 => (if bt165.2.1 = true then ((harfbuzz_parser_skipSpaces.f k s0_0 bt165.2.2).bind fun t168 => (some (bt156.1, bt165.1, bt160.1, bt160.2.1, none, t168))) else ((harfbuzz_parser_skipSpaces.f k s0_0 bt165.2.2).bind fun t169 => (some (bt156.1, t154, bt160.1, bt160.2.1, none, t169))))) else (some (bt156.1, t154, bt160.1, bt160.2.1, some (bt160.2.2.1.getD 0), bt160.2.2.2)))) else (some (bt156.1, t154, 0, 0, some (bt156.2.1.getD 0), bt156.2.2)))) = some (r1, r2, r3, r4, r5, r6) := H
  have A2 := Aside0.mk A20
  clear A20
  replace H := Option.bind_eq_some_iff.mp H
  obtain ⟨⟨t156, t157, t158⟩, A30, H⟩ := H
  replace H : (if t157.isNone = true then ((harfbuzz_parser_parseFeatureIndices.f k s0_0 t158).bind fun bt160 => (if bt160.2.2.1.isNone = true then ((harfbuzz_parser_parseFeatureValuePostfix.f k s0_0 bt160.2.2.2).bind fun bt165 => (if bt165.2.1 = true then ((harfbuzz_parser_skipSpaces.f k s0_0 bt165.2.2).bind fun t168 => (some (t156, bt165.1, bt160.1, bt160.2.1, none, t168))) else ((harfbuzz_parser_skipSpaces.f k s0_0 bt165.2.2).bind fun t169 => (some (t156, t154, bt160.1, bt160.2.1, none, t169))))) else (some (t156, t154, bt160.1, bt160.2.1, some (bt160.2.2.1.getD 0), bt160.2.2.2)))) else (some (t156, t154, 0, 0, some (t157.getD 0), t158))) = some (r1, r2, r3, r4, r5, r6) := H
  have A3 := Aside0.mk A30
  clear A30
  rcases t157 with _ | q159
  · have H1 : ((harfbuzz_parser_parseFeatureIndices.f k s0_0 t158).bind fun bt160 => (if bt160.2.2.1.isNone = true then ((harfbuzz_parser_parseFeatureValuePostfix.f k s0_0 bt160.2.2.2).bind fun bt165 => (if bt165.2.1 = true then ((harfbuzz_parser_skipSpaces.f k s0_0 bt165.2.2).bind fun t168 => (some (t156, bt165.1, bt160.1, bt160.2.1, none, t168))) else ((harfbuzz_parser_skipSpaces.f k s0_0 bt165.2.2).bind fun t169 => (some (t156, t154, bt160.1, bt160.2.1, none, t169))))) else (some (t156, t154, bt160.1, bt160.2.1, some (bt160.2.2.1.getD 0), bt160.2.2.2)))) = some (r1, r2, r3, r4, r5, r6) := by rw [if_pos (show (none : Option Int).isNone = true by rfl)] at H; exact H
    clear H
    have H := H1
    clear H1
    try simp only [errW_none, errW_some]
    replace H := Option.bind_eq_some_iff.mp H
    obtain ⟨⟨t160, t161, t162, t163⟩, A40, H⟩ := H
    replace H : (if t162.isNone = true then ((harfbuzz_parser_parseFeatureValuePostfix.f k s0_0 t163).bind fun bt165 => (if bt165.2.1 = true then ((harfbuzz_parser_skipSpaces.f k s0_0 bt165.2.2).bind fun t168 => (some (t156, bt165.1, t160, t161, none, t168))) else ((harfbuzz_parser_skipSpaces.f k s0_0 bt165.2.2).bind fun t169 => (some (t156, t154, t160, t161, none, t169))))) else (some (t156, t154, t160, t161, some (t162.getD 0), t163))) = some (r1, r2, r3, r4, r5, r6) := H
    have A4 := Aside0.mk A40
    clear A40
    rcases t162 with _ | q164
    · have H1 : ((harfbuzz_parser_parseFeatureValuePostfix.f k s0_0 t163).bind fun bt165 => (if bt165.2.1 = true then ((harfbuzz_parser_skipSpaces.f k s0_0 bt165.2.2).bind fun t168 => (some (t156, bt165.1, t160, t161, none, t168))) else ((harfbuzz_parser_skipSpaces.f k s0_0 bt165.2.2).bind fun t169 => (some (t156, t154, t160, t161, none, t169))))) = some (r1, r2, r3, r4, r5, r6) := by rw [if_pos (show (none : Option Int).isNone = true by rfl)] at H; exact H
      clear H
      have H := H1
      clear H1
      try simp only [errW_none, errW_some]
      replace H := Option.bind_eq_some_iff.mp H
      obtain ⟨⟨t165, t166, t167⟩, A50, H⟩ := H
      replace H : (if t166 = true then ((harfbuzz_parser_skipSpaces.f k s0_0 t167).bind fun t168 => (some (t156, t165, t160, t161, none, t168))) else ((harfbuzz_parser_skipSpaces.f k s0_0 t167).bind fun t169 => (some (t156, t154, t160, t161, none, t169)))) = some (r1, r2, r3, r4, r5, r6) := H
      have A5 := Aside0.mk A50
      clear A50
      by_cases c6 : t166 = true
      · subst c6
        have H1 : ((harfbuzz_parser_skipSpaces.f k s0_0 t167).bind fun t168 => (some (t156, t165, t160, t161, none, t168))) = some (r1, r2, r3, r4, r5, r6) := by rw [if_pos rfl] at H; exact H
        clear H
        have H := H1
        clear H1
        replace H := Option.bind_eq_some_iff.mp H
        obtain ⟨t168, A70, H⟩ := H
        replace H : (some (t156, t165, t160, t161, none, t168)) = some (r1, r2, r3, r4, r5, r6) := H
        have A7 := Aside0.mk A70
        clear A70
        simp only [Option.some.injEq, Prod.mk.injEq] at H
        obtain ⟨rfl, rfl, rfl, rfl, rfl, rfl⟩ := H
        go_enter Tryd.func12, Tryd.ntmps12
        go_wp2_with (first | ((with_reducible refine gate_dst (N := 2) rfl ?_); refine box_event ?hg (N := 2) ?hd (cs := #[.int .u32 0, .int .u32 0, .int .i64 0, .int .i64 0]) (t := 36) ?hr ?_; (case hd => rfl); (case hg => rfl); (case hr => first | (go_simp; done) | (go_simp; rfl)); intro gb153 hg w8 hbox hb; have n0_ := Aside0.mk (IsS44.below (by repeat (first | (with_reducible first | exact HI0.out | apply IsS44.alloc | apply IsS44.drewN | apply IsS44.drew | apply IsS44.set_1) | exact HI0.out)) hb); have n1_ := Aside0.mk (KeepBut.trans (by repeat (first | (with_reducible first | exact HK.out | apply KeepBut.set_ | apply keep_drewN | apply keep_drew | apply keep_alloc) | exact HK.out)) (KeepBut.of_below hb g none) (.inl rfl)); have n2_ := Aside0.mk (below_step (by repeat (first | (with_reducible first | exact HB.out | apply below_alloc | apply pw_below_drewN | apply below_drew1 | refine below_set ?_ (IsS44.ge HI0.out)) | exact HB.out)) hb); have n3_ := Aside0.mk (hbox); have n4_ := Aside0.mk ((by rw [hg]; exact (keep_size (w := w) (g := g) (row := none) (by repeat (first | (with_reducible first | exact HK.out | apply KeepBut.set_ | apply keep_drewN | apply keep_drew | apply keep_alloc) | exact HK.out))) : w.heap.size ≤ gb153)); have n5_ := Aside0.mk ((Nat.le_trans HW0.out (by rw [hg]; exact (keep_size (w := w) (g := g) (row := none) (by repeat (first | (with_reducible first | exact HK.out | apply KeepBut.set_ | apply keep_drewN | apply keep_drew | apply keep_alloc) | exact HK.out))) : w.heap.size ≤ gb153) : w0.heap.size ≤ gb153)); have n6_ := Aside0.mk ((by rw [hg]; exact Nat.ne_of_lt (IsS44.lt (show IsS44 w0 _ g s0_0 s0_1 from by repeat (first | (with_reducible first | exact HI0.out | apply IsS44.alloc | apply IsS44.drewN | apply IsS44.drew | apply IsS44.set_1) | exact HI0.out))) : g ≠ gb153)); have n7_ := Aside0.mk ((by rw [hg]; exact Nat.ne_of_gt (IsS44.lt (show IsS44 w0 _ g s0_0 s0_1 from by repeat (first | (with_reducible first | exact HI0.out | apply IsS44.alloc | apply IsS44.drewN | apply IsS44.drew | apply IsS44.set_1) | exact HI0.out))) : gb153 ≠ g)); clear HI0; clear HK; clear HB; have HI0 := n0_; have HK := n1_; have HB := n2_; have BK153 := n3_; have GW153 := n4_; have GE153 := n5_; have NB0_153 := n6_; have NB153_0 := n7_; clear n0_ n1_ n2_ n3_ n4_ n5_ n6_ n7_; clear hb hbox hg) | ((with_reducible refine gate_callee (f := 17) rfl ?_); refine goesL_ (some 7) rfl rfl Tryd.func17 (by kernel_rfl) rfl #[.pointer (some ⟨g, 0, none⟩)] rfl (by (try simp only [List.map_toArray, List.map_cons, List.map_nil]); first | done | rfl | (simp only [List.length_drop, List.length_take]; rfl)) ?_; (with_reducible refine (harfbuzz_parser_parseFeatureValuePrefix.calls k g s0_0 s0_1 t154 t155 w0 _ ?side1 ?side2 A2.out).mono ?_); (case side1 => repeat (first | (with_reducible first | exact HI0.out | apply IsS44.alloc | apply IsS44.drewN | apply IsS44.drew | apply IsS44.set_1 | refine IsS44.far ?_ NB0_153.out _) | exact HI0.out)); (case side2 => repeat (first | (with_reducible first | exact HB.out | apply below_alloc | apply pw_below_drewN | apply below_drew1 | refine below_set ?_ (IsS44.ge HI0.out) | refine below_set ?_ GE153.out) | exact HB.out)); rintro e w9 ⟨rfl, hi, hb, hk⟩; refine ⟨_, rfl, ?_⟩; have n0_ := Aside0.mk (KeepBut.blk hk (g' := gb153) (o := .cells #[.int .u32 0, .int .u32 0, .int .i64 0, .int .i64 0] 36 (0, 0)) (by (with_reducible repeat (first | refine blk_drewN ?_ _ | refine blk_drew ?_ | refine blk_alloc ?_ _)); exact BK153.out) NB153_0.out (by simp)); have n1_ := Aside0.mk (KeepBut.trans (by repeat (first | (with_reducible first | exact HK.out | apply KeepBut.set_ | apply keep_drewN | apply keep_drew | apply keep_alloc | refine keep_far ?_ GW153.out _) | exact HK.out)) hk (.inl rfl)); have n2_ := Aside0.mk (hb); have n3_ := Aside0.mk (hi); clear BK153; clear HK; clear HB; clear HI0; have BK153 := n0_; have HK := n1_; have HB := n2_; have HI0 := n3_; clear n0_ n1_ n2_ n3_; (try clear hb); (try clear hb2); (try clear hk); (try clear hi); have hnb10 := NB153_0.out; have hnc10 := NB0_153.out; have hcz11_0 : w9.cell? ⟨gb153, 0, none⟩ = some (.int .u32 0) := (blk_cell BK153.out 0).trans rfl; have hcz11_1 : w9.cell? ⟨gb153, 1, none⟩ = some (.int .u32 0) := (blk_cell BK153.out 1).trans rfl; have hcz11_2 : w9.cell? ⟨gb153, 2, none⟩ = some (.int .i64 0) := (blk_cell BK153.out 2).trans rfl; have hcz11_3 : w9.cell? ⟨gb153, 3, none⟩ = some (.int .i64 0) := (blk_cell BK153.out 3).trans rfl; have hfz11_0 := blk_frozen BK153.out 0; have hfz11_1 := blk_frozen BK153.out 1; have hfz11_2 := blk_frozen BK153.out 2; have hfz11_3 := blk_frozen BK153.out 3) | ((with_reducible refine gate_callee (f := 18) rfl ?_); refine goesL_ (some 11) rfl rfl Tryd.func18 (by kernel_rfl) rfl #[.pointer (some ⟨g, 0, none⟩)] rfl (by (try simp only [List.map_toArray, List.map_cons, List.map_nil]); first | done | rfl | (simp only [List.length_drop, List.length_take]; rfl)) ?_; (with_reducible refine (harfbuzz_parser_parseTag.calls k g s0_0 t155 t156 none t158 w0 _ ?side1 ?side2 A3.out).mono ?_); (case side1 => repeat (first | (with_reducible first | exact HI0.out | apply IsS44.alloc | apply IsS44.drewN | apply IsS44.drew | apply IsS44.set_1 | refine IsS44.far ?_ NB0_153.out _) | exact HI0.out)); (case side2 => repeat (first | (with_reducible first | exact HB.out | apply below_alloc | apply pw_below_drewN | apply below_drew1 | refine below_set ?_ (IsS44.ge HI0.out) | refine below_set ?_ GE153.out) | exact HB.out)); rintro e w14 ⟨ev12, rfl, he13, hi, hb, hk⟩; refine ⟨_, rfl, ?_⟩; have n0_ := Aside0.mk (KeepBut.blk hk (g' := gb153) (o := .cells #[.int .u32 0, .int .u32 t154, .int .i64 0, .int .i64 0] 36 (0, 0)) (by (with_reducible repeat (first | refine blk_drewN ?_ _ | refine blk_drew ?_ | refine blk_alloc ?_ _)); refine blk_put (cs := #[.int .u32 0, .int .u32 0, .int .i64 0, .int .i64 0]) ?_ 1 _ rfl; (with_reducible repeat (first | refine blk_drewN ?_ _ | refine blk_drew ?_ | refine blk_alloc ?_ _)); exact BK153.out) NB153_0.out (by simp)); have n1_ := Aside0.mk (KeepBut.trans (by repeat (first | (with_reducible first | exact HK.out | apply KeepBut.set_ | apply keep_drewN | apply keep_drew | apply keep_alloc | refine keep_far ?_ GW153.out _) | exact HK.out)) hk (.inl rfl)); have n2_ := Aside0.mk (hb); have n3_ := Aside0.mk (hi); clear BK153; clear HK; clear HB; clear HI0; have BK153 := n0_; have HK := n1_; have HB := n2_; have HI0 := n3_; clear n0_ n1_ n2_ n3_; (try clear hb); (try clear hb2); (try clear hk); (try clear hi); (first | (obtain rfl := EV_none he13) | (obtain ⟨te_, pe_, rfl⟩ := EV_some he13) | skip); have hcz15_0 : w14.cell? ⟨gb153, 0, none⟩ = some (.int .u32 0) := (blk_cell BK153.out 0).trans rfl; have hcz15_1 : w14.cell? ⟨gb153, 1, none⟩ = some (.int .u32 t154) := (blk_cell BK153.out 1).trans rfl; have hcz15_2 : w14.cell? ⟨gb153, 2, none⟩ = some (.int .i64 0) := (blk_cell BK153.out 2).trans rfl; have hcz15_3 : w14.cell? ⟨gb153, 3, none⟩ = some (.int .i64 0) := (blk_cell BK153.out 3).trans rfl; have hfz15_0 := blk_frozen BK153.out 0; have hfz15_1 := blk_frozen BK153.out 1; have hfz15_2 := blk_frozen BK153.out 2; have hfz15_3 := blk_frozen BK153.out 3) | ((with_reducible refine gate_callee (f := 19) rfl ?_); refine goesL_ (some 21) rfl rfl Tryd.func19 (by kernel_rfl) rfl #[.pointer (some ⟨g, 0, none⟩)] rfl (by (try simp only [List.map_toArray, List.map_cons, List.map_nil]); first | done | rfl | (simp only [List.length_drop, List.length_take]; rfl)) ?_; (with_reducible refine (harfbuzz_parser_parseFeatureIndices.calls k g s0_0 t158 t160 t161 none t163 w0 _ ?side1 ?side2 A4.out GG).mono ?_); (case side1 => repeat (first | (with_reducible first | exact HI0.out | apply IsS44.alloc | apply IsS44.drewN | apply IsS44.drew | apply IsS44.set_1 | refine IsS44.far ?_ NB0_153.out _) | exact HI0.out)); (case side2 => repeat (first | (with_reducible first | exact HB.out | apply below_alloc | apply pw_below_drewN | apply below_drew1 | refine below_set ?_ (IsS44.ge HI0.out) | refine below_set ?_ GE153.out) | exact HB.out)); rintro e w18 ⟨ev16, rfl, he17, hi, hb, hk⟩; refine ⟨_, rfl, ?_⟩; have n0_ := Aside0.mk (KeepBut.blk hk (g' := gb153) (o := .cells #[.int .u32 t156, .int .u32 t154, .int .i64 0, .int .i64 0] 36 (0, 0)) (by (with_reducible repeat (first | refine blk_drewN ?_ _ | refine blk_drew ?_ | refine blk_alloc ?_ _)); refine blk_put (cs := #[.int .u32 0, .int .u32 t154, .int .i64 0, .int .i64 0]) ?_ 0 _ rfl; (with_reducible repeat (first | refine blk_drewN ?_ _ | refine blk_drew ?_ | refine blk_alloc ?_ _)); exact BK153.out) NB153_0.out (by simp)); have n1_ := Aside0.mk (KeepBut.trans (by repeat (first | (with_reducible first | exact HK.out | apply KeepBut.set_ | apply keep_drewN | apply keep_drew | apply keep_alloc | refine keep_far ?_ GW153.out _) | exact HK.out)) hk (.inl rfl)); have n2_ := Aside0.mk (hb); have n3_ := Aside0.mk (hi); clear BK153; clear HK; clear HB; clear HI0; have BK153 := n0_; have HK := n1_; have HB := n2_; have HI0 := n3_; clear n0_ n1_ n2_ n3_; (try clear hb); (try clear hb2); (try clear hk); (try clear hi); (first | (obtain rfl := EV_none he17) | (obtain ⟨te_, pe_, rfl⟩ := EV_some he17) | skip); have hcz19_0 : w18.cell? ⟨gb153, 0, none⟩ = some (.int .u32 t156) := (blk_cell BK153.out 0).trans rfl; have hcz19_1 : w18.cell? ⟨gb153, 1, none⟩ = some (.int .u32 t154) := (blk_cell BK153.out 1).trans rfl; have hcz19_2 : w18.cell? ⟨gb153, 2, none⟩ = some (.int .i64 0) := (blk_cell BK153.out 2).trans rfl; have hcz19_3 : w18.cell? ⟨gb153, 3, none⟩ = some (.int .i64 0) := (blk_cell BK153.out 3).trans rfl; have hfz19_0 := blk_frozen BK153.out 0; have hfz19_1 := blk_frozen BK153.out 1; have hfz19_2 := blk_frozen BK153.out 2; have hfz19_3 := blk_frozen BK153.out 3) | ((with_reducible refine gate_callee (f := 20) rfl ?_); refine goesL_ (some 33) rfl rfl Tryd.func20 (by kernel_rfl) rfl #[.pointer (some ⟨g, 0, none⟩)] rfl (by (try simp only [List.map_toArray, List.map_cons, List.map_nil]); first | done | rfl | (simp only [List.length_drop, List.length_take]; rfl)) ?_; (with_reducible refine (harfbuzz_parser_parseFeatureValuePostfix.calls k g s0_0 t163 t165 true t167 w0 _ ?side1 ?side2 A5.out GG).mono ?_); (case side1 => repeat (first | (with_reducible first | exact HI0.out | apply IsS44.alloc | apply IsS44.drewN | apply IsS44.drew | apply IsS44.set_1 | refine IsS44.far ?_ NB0_153.out _) | exact HI0.out)); (case side2 => repeat (first | (with_reducible first | exact HB.out | apply below_alloc | apply pw_below_drewN | apply below_drew1 | refine below_set ?_ (IsS44.ge HI0.out) | refine below_set ?_ GE153.out) | exact HB.out)); rintro e w20 ⟨rfl, hi, hb, hk⟩; refine ⟨_, rfl, ?_⟩; have n0_ := Aside0.mk (KeepBut.blk hk (g' := gb153) (o := .cells #[.int .u32 t156, .int .u32 t154, .int .i64 t160, .int .i64 t161] 36 (0, 0)) (by (with_reducible repeat (first | refine blk_drewN ?_ _ | refine blk_drew ?_ | refine blk_alloc ?_ _)); refine blk_put (cs := #[.int .u32 t156, .int .u32 t154, .int .i64 t160, .int .i64 0]) ?_ 3 _ rfl; (with_reducible repeat (first | refine blk_drewN ?_ _ | refine blk_drew ?_ | refine blk_alloc ?_ _)); refine blk_put (cs := #[.int .u32 t156, .int .u32 t154, .int .i64 0, .int .i64 0]) ?_ 2 _ rfl; (with_reducible repeat (first | refine blk_drewN ?_ _ | refine blk_drew ?_ | refine blk_alloc ?_ _)); exact BK153.out) NB153_0.out (by simp)); have n1_ := Aside0.mk (KeepBut.trans (by repeat (first | (with_reducible first | exact HK.out | apply KeepBut.set_ | apply keep_drewN | apply keep_drew | apply keep_alloc | refine keep_far ?_ GW153.out _) | exact HK.out)) hk (.inl rfl)); have n2_ := Aside0.mk (hb); have n3_ := Aside0.mk (hi); clear BK153; clear HK; clear HB; clear HI0; have BK153 := n0_; have HK := n1_; have HB := n2_; have HI0 := n3_; clear n0_ n1_ n2_ n3_; (try clear hb); (try clear hb2); (try clear hk); (try clear hi); have hcz21_0 : w20.cell? ⟨gb153, 0, none⟩ = some (.int .u32 t156) := (blk_cell BK153.out 0).trans rfl; have hcz21_1 : w20.cell? ⟨gb153, 1, none⟩ = some (.int .u32 t154) := (blk_cell BK153.out 1).trans rfl; have hcz21_2 : w20.cell? ⟨gb153, 2, none⟩ = some (.int .i64 t160) := (blk_cell BK153.out 2).trans rfl; have hcz21_3 : w20.cell? ⟨gb153, 3, none⟩ = some (.int .i64 t161) := (blk_cell BK153.out 3).trans rfl; have hfz21_0 := blk_frozen BK153.out 0; have hfz21_1 := blk_frozen BK153.out 1; have hfz21_2 := blk_frozen BK153.out 2; have hfz21_3 := blk_frozen BK153.out 3) | ((with_reducible refine gate_callee (f := 21) rfl ?_); refine goesL_ (some 40) rfl rfl Tryd.func21 (by kernel_rfl) rfl #[.pointer (some ⟨g, 0, none⟩)] rfl (by (try simp only [List.map_toArray, List.map_cons, List.map_nil]); first | done | rfl | (simp only [List.length_drop, List.length_take]; rfl)) ?_; (with_reducible refine (harfbuzz_parser_skipSpaces.calls k g s0_0 t167 t168 w0 _ ?side1 ?side2 A7.out).mono ?_); (case side1 => repeat (first | (with_reducible first | exact HI0.out | apply IsS44.alloc | apply IsS44.drewN | apply IsS44.drew | apply IsS44.set_1 | refine IsS44.far ?_ NB0_153.out _) | exact HI0.out)); (case side2 => repeat (first | (with_reducible first | exact HB.out | apply below_alloc | apply pw_below_drewN | apply below_drew1 | refine below_set ?_ (IsS44.ge HI0.out) | refine below_set ?_ GE153.out) | exact HB.out)); rintro e w22 ⟨rfl, hi, hb, hk⟩; refine ⟨_, rfl, ?_⟩; have n0_ := Aside0.mk (KeepBut.blk hk (g' := gb153) (o := .cells #[.int .u32 t156, .int .u32 t165, .int .i64 t160, .int .i64 t161] 36 (0, 0)) (by (with_reducible repeat (first | refine blk_drewN ?_ _ | refine blk_drew ?_ | refine blk_alloc ?_ _)); refine blk_put (cs := #[.int .u32 t156, .int .u32 t154, .int .i64 t160, .int .i64 t161]) ?_ 1 _ rfl; (with_reducible repeat (first | refine blk_drewN ?_ _ | refine blk_drew ?_ | refine blk_alloc ?_ _)); exact BK153.out) NB153_0.out (by simp)); have n1_ := Aside0.mk (KeepBut.trans (by repeat (first | (with_reducible first | exact HK.out | apply KeepBut.set_ | apply keep_drewN | apply keep_drew | apply keep_alloc | refine keep_far ?_ GW153.out _) | exact HK.out)) hk (.inl rfl)); have n2_ := Aside0.mk (hb); have n3_ := Aside0.mk (hi); clear BK153; clear HK; clear HB; clear HI0; have BK153 := n0_; have HK := n1_; have HB := n2_; have HI0 := n3_; clear n0_ n1_ n2_ n3_; (try clear hb); (try clear hb2); (try clear hk); (try clear hi); have hcz23_0 : w22.cell? ⟨gb153, 0, none⟩ = some (.int .u32 t156) := (blk_cell BK153.out 0).trans rfl; have hcz23_1 : w22.cell? ⟨gb153, 1, none⟩ = some (.int .u32 t165) := (blk_cell BK153.out 1).trans rfl; have hcz23_2 : w22.cell? ⟨gb153, 2, none⟩ = some (.int .i64 t160) := (blk_cell BK153.out 2).trans rfl; have hcz23_3 : w22.cell? ⟨gb153, 3, none⟩ = some (.int .i64 t161) := (blk_cell BK153.out 3).trans rfl; have hfz23_0 := blk_frozen BK153.out 0; have hfz23_1 := blk_frozen BK153.out 1; have hfz23_2 := blk_frozen BK153.out 2; have hfz23_3 := blk_frozen BK153.out 3))
        refine bodyPost_ret (results_ct rfl _ _ gb153 36 #[.int .u32 t156, .int .u32 t165, .int .i64 t160, .int .i64 t161] (0, 0) _ rfl (by (with_reducible repeat (first | refine blk_drewN ?_ _ | refine blk_drew ?_ | refine blk_alloc ?_ _)); refine blk_put (cs := #[.int .u32 t156, .int .u32 t165, .int .i64 t160, .int .i64 t161]) ?_ 3 _ rfl; (with_reducible repeat (first | refine blk_drewN ?_ _ | refine blk_drew ?_ | refine blk_alloc ?_ _)); refine blk_put (cs := #[.int .u32 t156, .int .u32 t165, .int .i64 t160, .int .i64 t161]) ?_ 2 _ rfl; (with_reducible repeat (first | refine blk_drewN ?_ _ | refine blk_drew ?_ | refine blk_alloc ?_ _)); refine blk_put (cs := #[.int .u32 t156, .int .u32 t165, .int .i64 t160, .int .i64 t161]) ?_ 1 _ rfl; (with_reducible repeat (first | refine blk_drewN ?_ _ | refine blk_drew ?_ | refine blk_alloc ?_ _)); refine blk_put (cs := #[.int .u32 t156, .int .u32 t165, .int .i64 t160, .int .i64 t161]) ?_ 0 _ rfl; (with_reducible repeat (first | refine blk_drewN ?_ _ | refine blk_drew ?_ | refine blk_alloc ?_ _)); exact BK153.out) Tryd.underlying36 rfl (by kernel_rfl)) rfl ?_
        exact ⟨_, by first | rfl | (simp [errW_none, errW_some] <;> rfl) | (simp [*, errW_none, errW_some] <;> rfl), (by first | assumption | exact rfl | exact ⟨_, _, rfl⟩), by repeat (first | (with_reducible first | exact HI0.out | apply IsS44.alloc | apply IsS44.drewN | apply IsS44.drew | apply IsS44.set_1 | refine IsS44.far ?_ NB0_153.out _) | exact HI0.out), by repeat (first | (with_reducible first | exact HB.out | apply below_alloc | apply pw_below_drewN | apply below_drew1 | refine below_set ?_ (IsS44.ge HI0.out) | refine below_set ?_ GE153.out) | exact HB.out), by repeat (first | (with_reducible first | exact HK.out | apply KeepBut.set_ | apply keep_drewN | apply keep_drew | apply keep_alloc | refine keep_far ?_ GW153.out _) | exact HK.out)⟩
      · replace c6 := Bool.eq_false_iff.mpr c6
        subst c6
        have H1 : ((harfbuzz_parser_skipSpaces.f k s0_0 t167).bind fun t169 => (some (t156, t154, t160, t161, none, t169))) = some (r1, r2, r3, r4, r5, r6) := by rw [if_neg (show ¬ (false = true) by decide)] at H; exact H
        clear H
        have H := H1
        clear H1
        replace H := Option.bind_eq_some_iff.mp H
        obtain ⟨t169, A240, H⟩ := H
        replace H : (some (t156, t154, t160, t161, none, t169)) = some (r1, r2, r3, r4, r5, r6) := H
        have A24 := Aside0.mk A240
        clear A240
        simp only [Option.some.injEq, Prod.mk.injEq] at H
        obtain ⟨rfl, rfl, rfl, rfl, rfl, rfl⟩ := H
        go_enter Tryd.func12, Tryd.ntmps12
        go_wp2_with (first | ((with_reducible refine gate_dst (N := 2) rfl ?_); refine box_event ?hg (N := 2) ?hd (cs := #[.int .u32 0, .int .u32 0, .int .i64 0, .int .i64 0]) (t := 36) ?hr ?_; (case hd => rfl); (case hg => rfl); (case hr => first | (go_simp; done) | (go_simp; rfl)); intro gb153 hg w25 hbox hb; have n0_ := Aside0.mk (IsS44.below (by repeat (first | (with_reducible first | exact HI0.out | apply IsS44.alloc | apply IsS44.drewN | apply IsS44.drew | apply IsS44.set_1) | exact HI0.out)) hb); have n1_ := Aside0.mk (KeepBut.trans (by repeat (first | (with_reducible first | exact HK.out | apply KeepBut.set_ | apply keep_drewN | apply keep_drew | apply keep_alloc) | exact HK.out)) (KeepBut.of_below hb g none) (.inl rfl)); have n2_ := Aside0.mk (below_step (by repeat (first | (with_reducible first | exact HB.out | apply below_alloc | apply pw_below_drewN | apply below_drew1 | refine below_set ?_ (IsS44.ge HI0.out)) | exact HB.out)) hb); have n3_ := Aside0.mk (hbox); have n4_ := Aside0.mk ((by rw [hg]; exact (keep_size (w := w) (g := g) (row := none) (by repeat (first | (with_reducible first | exact HK.out | apply KeepBut.set_ | apply keep_drewN | apply keep_drew | apply keep_alloc) | exact HK.out))) : w.heap.size ≤ gb153)); have n5_ := Aside0.mk ((Nat.le_trans HW0.out (by rw [hg]; exact (keep_size (w := w) (g := g) (row := none) (by repeat (first | (with_reducible first | exact HK.out | apply KeepBut.set_ | apply keep_drewN | apply keep_drew | apply keep_alloc) | exact HK.out))) : w.heap.size ≤ gb153) : w0.heap.size ≤ gb153)); have n6_ := Aside0.mk ((by rw [hg]; exact Nat.ne_of_lt (IsS44.lt (show IsS44 w0 _ g s0_0 s0_1 from by repeat (first | (with_reducible first | exact HI0.out | apply IsS44.alloc | apply IsS44.drewN | apply IsS44.drew | apply IsS44.set_1) | exact HI0.out))) : g ≠ gb153)); have n7_ := Aside0.mk ((by rw [hg]; exact Nat.ne_of_gt (IsS44.lt (show IsS44 w0 _ g s0_0 s0_1 from by repeat (first | (with_reducible first | exact HI0.out | apply IsS44.alloc | apply IsS44.drewN | apply IsS44.drew | apply IsS44.set_1) | exact HI0.out))) : gb153 ≠ g)); clear HI0; clear HK; clear HB; have HI0 := n0_; have HK := n1_; have HB := n2_; have BK153 := n3_; have GW153 := n4_; have GE153 := n5_; have NB0_153 := n6_; have NB153_0 := n7_; clear n0_ n1_ n2_ n3_ n4_ n5_ n6_ n7_; clear hb hbox hg) | ((with_reducible refine gate_callee (f := 17) rfl ?_); refine goesL_ (some 7) rfl rfl Tryd.func17 (by kernel_rfl) rfl #[.pointer (some ⟨g, 0, none⟩)] rfl (by (try simp only [List.map_toArray, List.map_cons, List.map_nil]); first | done | rfl | (simp only [List.length_drop, List.length_take]; rfl)) ?_; (with_reducible refine (harfbuzz_parser_parseFeatureValuePrefix.calls k g s0_0 s0_1 t154 t155 w0 _ ?side1 ?side2 A2.out).mono ?_); (case side1 => repeat (first | (with_reducible first | exact HI0.out | apply IsS44.alloc | apply IsS44.drewN | apply IsS44.drew | apply IsS44.set_1 | refine IsS44.far ?_ NB0_153.out _) | exact HI0.out)); (case side2 => repeat (first | (with_reducible first | exact HB.out | apply below_alloc | apply pw_below_drewN | apply below_drew1 | refine below_set ?_ (IsS44.ge HI0.out) | refine below_set ?_ GE153.out) | exact HB.out)); rintro e w26 ⟨rfl, hi, hb, hk⟩; refine ⟨_, rfl, ?_⟩; have n0_ := Aside0.mk (KeepBut.blk hk (g' := gb153) (o := .cells #[.int .u32 0, .int .u32 0, .int .i64 0, .int .i64 0] 36 (0, 0)) (by (with_reducible repeat (first | refine blk_drewN ?_ _ | refine blk_drew ?_ | refine blk_alloc ?_ _)); exact BK153.out) NB153_0.out (by simp)); have n1_ := Aside0.mk (KeepBut.trans (by repeat (first | (with_reducible first | exact HK.out | apply KeepBut.set_ | apply keep_drewN | apply keep_drew | apply keep_alloc | refine keep_far ?_ GW153.out _) | exact HK.out)) hk (.inl rfl)); have n2_ := Aside0.mk (hb); have n3_ := Aside0.mk (hi); clear BK153; clear HK; clear HB; clear HI0; have BK153 := n0_; have HK := n1_; have HB := n2_; have HI0 := n3_; clear n0_ n1_ n2_ n3_; (try clear hb); (try clear hb2); (try clear hk); (try clear hi); have hnb27 := NB153_0.out; have hnc27 := NB0_153.out; have hcz28_0 : w26.cell? ⟨gb153, 0, none⟩ = some (.int .u32 0) := (blk_cell BK153.out 0).trans rfl; have hcz28_1 : w26.cell? ⟨gb153, 1, none⟩ = some (.int .u32 0) := (blk_cell BK153.out 1).trans rfl; have hcz28_2 : w26.cell? ⟨gb153, 2, none⟩ = some (.int .i64 0) := (blk_cell BK153.out 2).trans rfl; have hcz28_3 : w26.cell? ⟨gb153, 3, none⟩ = some (.int .i64 0) := (blk_cell BK153.out 3).trans rfl; have hfz28_0 := blk_frozen BK153.out 0; have hfz28_1 := blk_frozen BK153.out 1; have hfz28_2 := blk_frozen BK153.out 2; have hfz28_3 := blk_frozen BK153.out 3) | ((with_reducible refine gate_callee (f := 18) rfl ?_); refine goesL_ (some 11) rfl rfl Tryd.func18 (by kernel_rfl) rfl #[.pointer (some ⟨g, 0, none⟩)] rfl (by (try simp only [List.map_toArray, List.map_cons, List.map_nil]); first | done | rfl | (simp only [List.length_drop, List.length_take]; rfl)) ?_; (with_reducible refine (harfbuzz_parser_parseTag.calls k g s0_0 t155 t156 none t158 w0 _ ?side1 ?side2 A3.out).mono ?_); (case side1 => repeat (first | (with_reducible first | exact HI0.out | apply IsS44.alloc | apply IsS44.drewN | apply IsS44.drew | apply IsS44.set_1 | refine IsS44.far ?_ NB0_153.out _) | exact HI0.out)); (case side2 => repeat (first | (with_reducible first | exact HB.out | apply below_alloc | apply pw_below_drewN | apply below_drew1 | refine below_set ?_ (IsS44.ge HI0.out) | refine below_set ?_ GE153.out) | exact HB.out)); rintro e w31 ⟨ev29, rfl, he30, hi, hb, hk⟩; refine ⟨_, rfl, ?_⟩; have n0_ := Aside0.mk (KeepBut.blk hk (g' := gb153) (o := .cells #[.int .u32 0, .int .u32 t154, .int .i64 0, .int .i64 0] 36 (0, 0)) (by (with_reducible repeat (first | refine blk_drewN ?_ _ | refine blk_drew ?_ | refine blk_alloc ?_ _)); refine blk_put (cs := #[.int .u32 0, .int .u32 0, .int .i64 0, .int .i64 0]) ?_ 1 _ rfl; (with_reducible repeat (first | refine blk_drewN ?_ _ | refine blk_drew ?_ | refine blk_alloc ?_ _)); exact BK153.out) NB153_0.out (by simp)); have n1_ := Aside0.mk (KeepBut.trans (by repeat (first | (with_reducible first | exact HK.out | apply KeepBut.set_ | apply keep_drewN | apply keep_drew | apply keep_alloc | refine keep_far ?_ GW153.out _) | exact HK.out)) hk (.inl rfl)); have n2_ := Aside0.mk (hb); have n3_ := Aside0.mk (hi); clear BK153; clear HK; clear HB; clear HI0; have BK153 := n0_; have HK := n1_; have HB := n2_; have HI0 := n3_; clear n0_ n1_ n2_ n3_; (try clear hb); (try clear hb2); (try clear hk); (try clear hi); (first | (obtain rfl := EV_none he30) | (obtain ⟨te_, pe_, rfl⟩ := EV_some he30) | skip); have hcz32_0 : w31.cell? ⟨gb153, 0, none⟩ = some (.int .u32 0) := (blk_cell BK153.out 0).trans rfl; have hcz32_1 : w31.cell? ⟨gb153, 1, none⟩ = some (.int .u32 t154) := (blk_cell BK153.out 1).trans rfl; have hcz32_2 : w31.cell? ⟨gb153, 2, none⟩ = some (.int .i64 0) := (blk_cell BK153.out 2).trans rfl; have hcz32_3 : w31.cell? ⟨gb153, 3, none⟩ = some (.int .i64 0) := (blk_cell BK153.out 3).trans rfl; have hfz32_0 := blk_frozen BK153.out 0; have hfz32_1 := blk_frozen BK153.out 1; have hfz32_2 := blk_frozen BK153.out 2; have hfz32_3 := blk_frozen BK153.out 3) | ((with_reducible refine gate_callee (f := 19) rfl ?_); refine goesL_ (some 21) rfl rfl Tryd.func19 (by kernel_rfl) rfl #[.pointer (some ⟨g, 0, none⟩)] rfl (by (try simp only [List.map_toArray, List.map_cons, List.map_nil]); first | done | rfl | (simp only [List.length_drop, List.length_take]; rfl)) ?_; (with_reducible refine (harfbuzz_parser_parseFeatureIndices.calls k g s0_0 t158 t160 t161 none t163 w0 _ ?side1 ?side2 A4.out GG).mono ?_); (case side1 => repeat (first | (with_reducible first | exact HI0.out | apply IsS44.alloc | apply IsS44.drewN | apply IsS44.drew | apply IsS44.set_1 | refine IsS44.far ?_ NB0_153.out _) | exact HI0.out)); (case side2 => repeat (first | (with_reducible first | exact HB.out | apply below_alloc | apply pw_below_drewN | apply below_drew1 | refine below_set ?_ (IsS44.ge HI0.out) | refine below_set ?_ GE153.out) | exact HB.out)); rintro e w35 ⟨ev33, rfl, he34, hi, hb, hk⟩; refine ⟨_, rfl, ?_⟩; have n0_ := Aside0.mk (KeepBut.blk hk (g' := gb153) (o := .cells #[.int .u32 t156, .int .u32 t154, .int .i64 0, .int .i64 0] 36 (0, 0)) (by (with_reducible repeat (first | refine blk_drewN ?_ _ | refine blk_drew ?_ | refine blk_alloc ?_ _)); refine blk_put (cs := #[.int .u32 0, .int .u32 t154, .int .i64 0, .int .i64 0]) ?_ 0 _ rfl; (with_reducible repeat (first | refine blk_drewN ?_ _ | refine blk_drew ?_ | refine blk_alloc ?_ _)); exact BK153.out) NB153_0.out (by simp)); have n1_ := Aside0.mk (KeepBut.trans (by repeat (first | (with_reducible first | exact HK.out | apply KeepBut.set_ | apply keep_drewN | apply keep_drew | apply keep_alloc | refine keep_far ?_ GW153.out _) | exact HK.out)) hk (.inl rfl)); have n2_ := Aside0.mk (hb); have n3_ := Aside0.mk (hi); clear BK153; clear HK; clear HB; clear HI0; have BK153 := n0_; have HK := n1_; have HB := n2_; have HI0 := n3_; clear n0_ n1_ n2_ n3_; (try clear hb); (try clear hb2); (try clear hk); (try clear hi); (first | (obtain rfl := EV_none he34) | (obtain ⟨te_, pe_, rfl⟩ := EV_some he34) | skip); have hcz36_0 : w35.cell? ⟨gb153, 0, none⟩ = some (.int .u32 t156) := (blk_cell BK153.out 0).trans rfl; have hcz36_1 : w35.cell? ⟨gb153, 1, none⟩ = some (.int .u32 t154) := (blk_cell BK153.out 1).trans rfl; have hcz36_2 : w35.cell? ⟨gb153, 2, none⟩ = some (.int .i64 0) := (blk_cell BK153.out 2).trans rfl; have hcz36_3 : w35.cell? ⟨gb153, 3, none⟩ = some (.int .i64 0) := (blk_cell BK153.out 3).trans rfl; have hfz36_0 := blk_frozen BK153.out 0; have hfz36_1 := blk_frozen BK153.out 1; have hfz36_2 := blk_frozen BK153.out 2; have hfz36_3 := blk_frozen BK153.out 3) | ((with_reducible refine gate_callee (f := 20) rfl ?_); refine goesL_ (some 33) rfl rfl Tryd.func20 (by kernel_rfl) rfl #[.pointer (some ⟨g, 0, none⟩)] rfl (by (try simp only [List.map_toArray, List.map_cons, List.map_nil]); first | done | rfl | (simp only [List.length_drop, List.length_take]; rfl)) ?_; (with_reducible refine (harfbuzz_parser_parseFeatureValuePostfix.calls k g s0_0 t163 t165 false t167 w0 _ ?side1 ?side2 A5.out GG).mono ?_); (case side1 => repeat (first | (with_reducible first | exact HI0.out | apply IsS44.alloc | apply IsS44.drewN | apply IsS44.drew | apply IsS44.set_1 | refine IsS44.far ?_ NB0_153.out _) | exact HI0.out)); (case side2 => repeat (first | (with_reducible first | exact HB.out | apply below_alloc | apply pw_below_drewN | apply below_drew1 | refine below_set ?_ (IsS44.ge HI0.out) | refine below_set ?_ GE153.out) | exact HB.out)); rintro e w37 ⟨rfl, hi, hb, hk⟩; refine ⟨_, rfl, ?_⟩; have n0_ := Aside0.mk (KeepBut.blk hk (g' := gb153) (o := .cells #[.int .u32 t156, .int .u32 t154, .int .i64 t160, .int .i64 t161] 36 (0, 0)) (by (with_reducible repeat (first | refine blk_drewN ?_ _ | refine blk_drew ?_ | refine blk_alloc ?_ _)); refine blk_put (cs := #[.int .u32 t156, .int .u32 t154, .int .i64 t160, .int .i64 0]) ?_ 3 _ rfl; (with_reducible repeat (first | refine blk_drewN ?_ _ | refine blk_drew ?_ | refine blk_alloc ?_ _)); refine blk_put (cs := #[.int .u32 t156, .int .u32 t154, .int .i64 0, .int .i64 0]) ?_ 2 _ rfl; (with_reducible repeat (first | refine blk_drewN ?_ _ | refine blk_drew ?_ | refine blk_alloc ?_ _)); exact BK153.out) NB153_0.out (by simp)); have n1_ := Aside0.mk (KeepBut.trans (by repeat (first | (with_reducible first | exact HK.out | apply KeepBut.set_ | apply keep_drewN | apply keep_drew | apply keep_alloc | refine keep_far ?_ GW153.out _) | exact HK.out)) hk (.inl rfl)); have n2_ := Aside0.mk (hb); have n3_ := Aside0.mk (hi); clear BK153; clear HK; clear HB; clear HI0; have BK153 := n0_; have HK := n1_; have HB := n2_; have HI0 := n3_; clear n0_ n1_ n2_ n3_; (try clear hb); (try clear hb2); (try clear hk); (try clear hi)) | ((with_reducible refine gate_callee (f := 21) rfl ?_); refine goesL_ (some 40) rfl rfl Tryd.func21 (by kernel_rfl) rfl #[.pointer (some ⟨g, 0, none⟩)] rfl (by (try simp only [List.map_toArray, List.map_cons, List.map_nil]); first | done | rfl | (simp only [List.length_drop, List.length_take]; rfl)) ?_; (with_reducible refine (harfbuzz_parser_skipSpaces.calls k g s0_0 t167 t169 w0 _ ?side1 ?side2 A24.out).mono ?_); (case side1 => repeat (first | (with_reducible first | exact HI0.out | apply IsS44.alloc | apply IsS44.drewN | apply IsS44.drew | apply IsS44.set_1 | refine IsS44.far ?_ NB0_153.out _) | exact HI0.out)); (case side2 => repeat (first | (with_reducible first | exact HB.out | apply below_alloc | apply pw_below_drewN | apply below_drew1 | refine below_set ?_ (IsS44.ge HI0.out) | refine below_set ?_ GE153.out) | exact HB.out)); rintro e w38 ⟨rfl, hi, hb, hk⟩; refine ⟨_, rfl, ?_⟩; have n0_ := Aside0.mk (KeepBut.blk hk (g' := gb153) (o := .cells #[.int .u32 t156, .int .u32 t154, .int .i64 t160, .int .i64 t161] 36 (0, 0)) (by (with_reducible repeat (first | refine blk_drewN ?_ _ | refine blk_drew ?_ | refine blk_alloc ?_ _)); exact BK153.out) NB153_0.out (by simp)); have n1_ := Aside0.mk (KeepBut.trans (by repeat (first | (with_reducible first | exact HK.out | apply KeepBut.set_ | apply keep_drewN | apply keep_drew | apply keep_alloc | refine keep_far ?_ GW153.out _) | exact HK.out)) hk (.inl rfl)); have n2_ := Aside0.mk (hb); have n3_ := Aside0.mk (hi); clear BK153; clear HK; clear HB; clear HI0; have BK153 := n0_; have HK := n1_; have HB := n2_; have HI0 := n3_; clear n0_ n1_ n2_ n3_; (try clear hb); (try clear hb2); (try clear hk); (try clear hi); have hcz39_0 : w38.cell? ⟨gb153, 0, none⟩ = some (.int .u32 t156) := (blk_cell BK153.out 0).trans rfl; have hcz39_1 : w38.cell? ⟨gb153, 1, none⟩ = some (.int .u32 t154) := (blk_cell BK153.out 1).trans rfl; have hcz39_2 : w38.cell? ⟨gb153, 2, none⟩ = some (.int .i64 t160) := (blk_cell BK153.out 2).trans rfl; have hcz39_3 : w38.cell? ⟨gb153, 3, none⟩ = some (.int .i64 t161) := (blk_cell BK153.out 3).trans rfl; have hfz39_0 := blk_frozen BK153.out 0; have hfz39_1 := blk_frozen BK153.out 1; have hfz39_2 := blk_frozen BK153.out 2; have hfz39_3 := blk_frozen BK153.out 3))
        refine bodyPost_ret (results_ct rfl _ _ gb153 36 #[.int .u32 t156, .int .u32 t154, .int .i64 t160, .int .i64 t161] (0, 0) _ rfl (by (with_reducible repeat (first | refine blk_drewN ?_ _ | refine blk_drew ?_ | refine blk_alloc ?_ _)); refine blk_put (cs := #[.int .u32 t156, .int .u32 t154, .int .i64 t160, .int .i64 t161]) ?_ 3 _ rfl; (with_reducible repeat (first | refine blk_drewN ?_ _ | refine blk_drew ?_ | refine blk_alloc ?_ _)); refine blk_put (cs := #[.int .u32 t156, .int .u32 t154, .int .i64 t160, .int .i64 t161]) ?_ 2 _ rfl; (with_reducible repeat (first | refine blk_drewN ?_ _ | refine blk_drew ?_ | refine blk_alloc ?_ _)); refine blk_put (cs := #[.int .u32 t156, .int .u32 t154, .int .i64 t160, .int .i64 t161]) ?_ 1 _ rfl; (with_reducible repeat (first | refine blk_drewN ?_ _ | refine blk_drew ?_ | refine blk_alloc ?_ _)); refine blk_put (cs := #[.int .u32 t156, .int .u32 t154, .int .i64 t160, .int .i64 t161]) ?_ 0 _ rfl; (with_reducible repeat (first | refine blk_drewN ?_ _ | refine blk_drew ?_ | refine blk_alloc ?_ _)); exact BK153.out) Tryd.underlying36 rfl (by kernel_rfl)) rfl ?_
        exact ⟨_, by first | rfl | (simp [errW_none, errW_some] <;> rfl) | (simp [*, errW_none, errW_some] <;> rfl), (by first | assumption | exact rfl | exact ⟨_, _, rfl⟩), by repeat (first | (with_reducible first | exact HI0.out | apply IsS44.alloc | apply IsS44.drewN | apply IsS44.drew | apply IsS44.set_1 | refine IsS44.far ?_ NB0_153.out _) | exact HI0.out), by repeat (first | (with_reducible first | exact HB.out | apply below_alloc | apply pw_below_drewN | apply below_drew1 | refine below_set ?_ (IsS44.ge HI0.out) | refine below_set ?_ GE153.out) | exact HB.out), by repeat (first | (with_reducible first | exact HK.out | apply KeepBut.set_ | apply keep_drewN | apply keep_drew | apply keep_alloc | refine keep_far ?_ GW153.out _) | exact HK.out)⟩
    · have H1 : (some (t156, t154, t160, t161, some q164, t163)) = some (r1, r2, r3, r4, r5, r6) := by rw [if_neg (show ¬ (some q164).isNone = true by simp)] at H; exact H
      clear H
      have H := H1
      clear H1
      try simp only [errW_none, errW_some]
      simp only [Option.some.injEq, Prod.mk.injEq] at H
      obtain ⟨rfl, rfl, rfl, rfl, rfl, rfl⟩ := H
      go_enter Tryd.func12, Tryd.ntmps12
      go_wp2_with (first | ((with_reducible refine gate_dst (N := 2) rfl ?_); refine box_event ?hg (N := 2) ?hd (cs := #[.int .u32 0, .int .u32 0, .int .i64 0, .int .i64 0]) (t := 36) ?hr ?_; (case hd => rfl); (case hg => rfl); (case hr => first | (go_simp; done) | (go_simp; rfl)); intro gb153 hg w40 hbox hb; have n0_ := Aside0.mk (IsS44.below (by repeat (first | (with_reducible first | exact HI0.out | apply IsS44.alloc | apply IsS44.drewN | apply IsS44.drew | apply IsS44.set_1) | exact HI0.out)) hb); have n1_ := Aside0.mk (KeepBut.trans (by repeat (first | (with_reducible first | exact HK.out | apply KeepBut.set_ | apply keep_drewN | apply keep_drew | apply keep_alloc) | exact HK.out)) (KeepBut.of_below hb g none) (.inl rfl)); have n2_ := Aside0.mk (below_step (by repeat (first | (with_reducible first | exact HB.out | apply below_alloc | apply pw_below_drewN | apply below_drew1 | refine below_set ?_ (IsS44.ge HI0.out)) | exact HB.out)) hb); have n3_ := Aside0.mk (hbox); have n4_ := Aside0.mk ((by rw [hg]; exact (keep_size (w := w) (g := g) (row := none) (by repeat (first | (with_reducible first | exact HK.out | apply KeepBut.set_ | apply keep_drewN | apply keep_drew | apply keep_alloc) | exact HK.out))) : w.heap.size ≤ gb153)); have n5_ := Aside0.mk ((Nat.le_trans HW0.out (by rw [hg]; exact (keep_size (w := w) (g := g) (row := none) (by repeat (first | (with_reducible first | exact HK.out | apply KeepBut.set_ | apply keep_drewN | apply keep_drew | apply keep_alloc) | exact HK.out))) : w.heap.size ≤ gb153) : w0.heap.size ≤ gb153)); have n6_ := Aside0.mk ((by rw [hg]; exact Nat.ne_of_lt (IsS44.lt (show IsS44 w0 _ g s0_0 s0_1 from by repeat (first | (with_reducible first | exact HI0.out | apply IsS44.alloc | apply IsS44.drewN | apply IsS44.drew | apply IsS44.set_1) | exact HI0.out))) : g ≠ gb153)); have n7_ := Aside0.mk ((by rw [hg]; exact Nat.ne_of_gt (IsS44.lt (show IsS44 w0 _ g s0_0 s0_1 from by repeat (first | (with_reducible first | exact HI0.out | apply IsS44.alloc | apply IsS44.drewN | apply IsS44.drew | apply IsS44.set_1) | exact HI0.out))) : gb153 ≠ g)); clear HI0; clear HK; clear HB; have HI0 := n0_; have HK := n1_; have HB := n2_; have BK153 := n3_; have GW153 := n4_; have GE153 := n5_; have NB0_153 := n6_; have NB153_0 := n7_; clear n0_ n1_ n2_ n3_ n4_ n5_ n6_ n7_; clear hb hbox hg) | ((with_reducible refine gate_callee (f := 17) rfl ?_); refine goesL_ (some 7) rfl rfl Tryd.func17 (by kernel_rfl) rfl #[.pointer (some ⟨g, 0, none⟩)] rfl (by (try simp only [List.map_toArray, List.map_cons, List.map_nil]); first | done | rfl | (simp only [List.length_drop, List.length_take]; rfl)) ?_; (with_reducible refine (harfbuzz_parser_parseFeatureValuePrefix.calls k g s0_0 s0_1 t154 t155 w0 _ ?side1 ?side2 A2.out).mono ?_); (case side1 => repeat (first | (with_reducible first | exact HI0.out | apply IsS44.alloc | apply IsS44.drewN | apply IsS44.drew | apply IsS44.set_1 | refine IsS44.far ?_ NB0_153.out _) | exact HI0.out)); (case side2 => repeat (first | (with_reducible first | exact HB.out | apply below_alloc | apply pw_below_drewN | apply below_drew1 | refine below_set ?_ (IsS44.ge HI0.out) | refine below_set ?_ GE153.out) | exact HB.out)); rintro e w41 ⟨rfl, hi, hb, hk⟩; refine ⟨_, rfl, ?_⟩; have n0_ := Aside0.mk (KeepBut.blk hk (g' := gb153) (o := .cells #[.int .u32 0, .int .u32 0, .int .i64 0, .int .i64 0] 36 (0, 0)) (by (with_reducible repeat (first | refine blk_drewN ?_ _ | refine blk_drew ?_ | refine blk_alloc ?_ _)); exact BK153.out) NB153_0.out (by simp)); have n1_ := Aside0.mk (KeepBut.trans (by repeat (first | (with_reducible first | exact HK.out | apply KeepBut.set_ | apply keep_drewN | apply keep_drew | apply keep_alloc | refine keep_far ?_ GW153.out _) | exact HK.out)) hk (.inl rfl)); have n2_ := Aside0.mk (hb); have n3_ := Aside0.mk (hi); clear BK153; clear HK; clear HB; clear HI0; have BK153 := n0_; have HK := n1_; have HB := n2_; have HI0 := n3_; clear n0_ n1_ n2_ n3_; (try clear hb); (try clear hb2); (try clear hk); (try clear hi); have hnb42 := NB153_0.out; have hnc42 := NB0_153.out; have hcz43_0 : w41.cell? ⟨gb153, 0, none⟩ = some (.int .u32 0) := (blk_cell BK153.out 0).trans rfl; have hcz43_1 : w41.cell? ⟨gb153, 1, none⟩ = some (.int .u32 0) := (blk_cell BK153.out 1).trans rfl; have hcz43_2 : w41.cell? ⟨gb153, 2, none⟩ = some (.int .i64 0) := (blk_cell BK153.out 2).trans rfl; have hcz43_3 : w41.cell? ⟨gb153, 3, none⟩ = some (.int .i64 0) := (blk_cell BK153.out 3).trans rfl; have hfz43_0 := blk_frozen BK153.out 0; have hfz43_1 := blk_frozen BK153.out 1; have hfz43_2 := blk_frozen BK153.out 2; have hfz43_3 := blk_frozen BK153.out 3) | ((with_reducible refine gate_callee (f := 18) rfl ?_); refine goesL_ (some 11) rfl rfl Tryd.func18 (by kernel_rfl) rfl #[.pointer (some ⟨g, 0, none⟩)] rfl (by (try simp only [List.map_toArray, List.map_cons, List.map_nil]); first | done | rfl | (simp only [List.length_drop, List.length_take]; rfl)) ?_; (with_reducible refine (harfbuzz_parser_parseTag.calls k g s0_0 t155 t156 none t158 w0 _ ?side1 ?side2 A3.out).mono ?_); (case side1 => repeat (first | (with_reducible first | exact HI0.out | apply IsS44.alloc | apply IsS44.drewN | apply IsS44.drew | apply IsS44.set_1 | refine IsS44.far ?_ NB0_153.out _) | exact HI0.out)); (case side2 => repeat (first | (with_reducible first | exact HB.out | apply below_alloc | apply pw_below_drewN | apply below_drew1 | refine below_set ?_ (IsS44.ge HI0.out) | refine below_set ?_ GE153.out) | exact HB.out)); rintro e w46 ⟨ev44, rfl, he45, hi, hb, hk⟩; refine ⟨_, rfl, ?_⟩; have n0_ := Aside0.mk (KeepBut.blk hk (g' := gb153) (o := .cells #[.int .u32 0, .int .u32 t154, .int .i64 0, .int .i64 0] 36 (0, 0)) (by (with_reducible repeat (first | refine blk_drewN ?_ _ | refine blk_drew ?_ | refine blk_alloc ?_ _)); refine blk_put (cs := #[.int .u32 0, .int .u32 0, .int .i64 0, .int .i64 0]) ?_ 1 _ rfl; (with_reducible repeat (first | refine blk_drewN ?_ _ | refine blk_drew ?_ | refine blk_alloc ?_ _)); exact BK153.out) NB153_0.out (by simp)); have n1_ := Aside0.mk (KeepBut.trans (by repeat (first | (with_reducible first | exact HK.out | apply KeepBut.set_ | apply keep_drewN | apply keep_drew | apply keep_alloc | refine keep_far ?_ GW153.out _) | exact HK.out)) hk (.inl rfl)); have n2_ := Aside0.mk (hb); have n3_ := Aside0.mk (hi); clear BK153; clear HK; clear HB; clear HI0; have BK153 := n0_; have HK := n1_; have HB := n2_; have HI0 := n3_; clear n0_ n1_ n2_ n3_; (try clear hb); (try clear hb2); (try clear hk); (try clear hi); (first | (obtain rfl := EV_none he45) | (obtain ⟨te_, pe_, rfl⟩ := EV_some he45) | skip); have hcz47_0 : w46.cell? ⟨gb153, 0, none⟩ = some (.int .u32 0) := (blk_cell BK153.out 0).trans rfl; have hcz47_1 : w46.cell? ⟨gb153, 1, none⟩ = some (.int .u32 t154) := (blk_cell BK153.out 1).trans rfl; have hcz47_2 : w46.cell? ⟨gb153, 2, none⟩ = some (.int .i64 0) := (blk_cell BK153.out 2).trans rfl; have hcz47_3 : w46.cell? ⟨gb153, 3, none⟩ = some (.int .i64 0) := (blk_cell BK153.out 3).trans rfl; have hfz47_0 := blk_frozen BK153.out 0; have hfz47_1 := blk_frozen BK153.out 1; have hfz47_2 := blk_frozen BK153.out 2; have hfz47_3 := blk_frozen BK153.out 3) | ((with_reducible refine gate_callee (f := 19) rfl ?_); refine goesL_ (some 21) rfl rfl Tryd.func19 (by kernel_rfl) rfl #[.pointer (some ⟨g, 0, none⟩)] rfl (by (try simp only [List.map_toArray, List.map_cons, List.map_nil]); first | done | rfl | (simp only [List.length_drop, List.length_take]; rfl)) ?_; (with_reducible refine (harfbuzz_parser_parseFeatureIndices.calls k g s0_0 t158 t160 t161 (some q164) t163 w0 _ ?side1 ?side2 A4.out GG).mono ?_); (case side1 => repeat (first | (with_reducible first | exact HI0.out | apply IsS44.alloc | apply IsS44.drewN | apply IsS44.drew | apply IsS44.set_1 | refine IsS44.far ?_ NB0_153.out _) | exact HI0.out)); (case side2 => repeat (first | (with_reducible first | exact HB.out | apply below_alloc | apply pw_below_drewN | apply below_drew1 | refine below_set ?_ (IsS44.ge HI0.out) | refine below_set ?_ GE153.out) | exact HB.out)); rintro e w50 ⟨ev48, rfl, he49, hi, hb, hk⟩; refine ⟨_, rfl, ?_⟩; have n0_ := Aside0.mk (KeepBut.blk hk (g' := gb153) (o := .cells #[.int .u32 t156, .int .u32 t154, .int .i64 0, .int .i64 0] 36 (0, 0)) (by (with_reducible repeat (first | refine blk_drewN ?_ _ | refine blk_drew ?_ | refine blk_alloc ?_ _)); refine blk_put (cs := #[.int .u32 0, .int .u32 t154, .int .i64 0, .int .i64 0]) ?_ 0 _ rfl; (with_reducible repeat (first | refine blk_drewN ?_ _ | refine blk_drew ?_ | refine blk_alloc ?_ _)); exact BK153.out) NB153_0.out (by simp)); have n1_ := Aside0.mk (KeepBut.trans (by repeat (first | (with_reducible first | exact HK.out | apply KeepBut.set_ | apply keep_drewN | apply keep_drew | apply keep_alloc | refine keep_far ?_ GW153.out _) | exact HK.out)) hk (.inl rfl)); have n2_ := Aside0.mk (hb); have n3_ := Aside0.mk (hi); clear BK153; clear HK; clear HB; clear HI0; have BK153 := n0_; have HK := n1_; have HB := n2_; have HI0 := n3_; clear n0_ n1_ n2_ n3_; (try clear hb); (try clear hb2); (try clear hk); (try clear hi); (first | (obtain rfl := EV_none he49) | (obtain ⟨te_, pe_, rfl⟩ := EV_some he49) | skip); have hcz51_0 : w50.cell? ⟨gb153, 0, none⟩ = some (.int .u32 t156) := (blk_cell BK153.out 0).trans rfl; have hcz51_1 : w50.cell? ⟨gb153, 1, none⟩ = some (.int .u32 t154) := (blk_cell BK153.out 1).trans rfl; have hcz51_2 : w50.cell? ⟨gb153, 2, none⟩ = some (.int .i64 0) := (blk_cell BK153.out 2).trans rfl; have hcz51_3 : w50.cell? ⟨gb153, 3, none⟩ = some (.int .i64 0) := (blk_cell BK153.out 3).trans rfl; have hfz51_0 := blk_frozen BK153.out 0; have hfz51_1 := blk_frozen BK153.out 1; have hfz51_2 := blk_frozen BK153.out 2; have hfz51_3 := blk_frozen BK153.out 3))
      refine bodyPost_ret (results_ct rfl _ _ gb153 36 #[.int .u32 t156, .int .u32 t154, .int .i64 t160, .int .i64 t161] (0, 0) _ rfl (by (with_reducible repeat (first | refine blk_drewN ?_ _ | refine blk_drew ?_ | refine blk_alloc ?_ _)); refine blk_put (cs := #[.int .u32 t156, .int .u32 t154, .int .i64 t160, .int .i64 t161]) ?_ 3 _ rfl; (with_reducible repeat (first | refine blk_drewN ?_ _ | refine blk_drew ?_ | refine blk_alloc ?_ _)); refine blk_put (cs := #[.int .u32 t156, .int .u32 t154, .int .i64 t160, .int .i64 t161]) ?_ 2 _ rfl; (with_reducible repeat (first | refine blk_drewN ?_ _ | refine blk_drew ?_ | refine blk_alloc ?_ _)); refine blk_put (cs := #[.int .u32 t156, .int .u32 t154, .int .i64 t160, .int .i64 t161]) ?_ 1 _ rfl; (with_reducible repeat (first | refine blk_drewN ?_ _ | refine blk_drew ?_ | refine blk_alloc ?_ _)); refine blk_put (cs := #[.int .u32 t156, .int .u32 t154, .int .i64 t160, .int .i64 t161]) ?_ 0 _ rfl; (with_reducible repeat (first | refine blk_drewN ?_ _ | refine blk_drew ?_ | refine blk_alloc ?_ _)); refine blk_put (cs := #[.int .u32 t156, .int .u32 t154, .int .i64 t160, .int .i64 0]) ?_ 3 _ rfl; (with_reducible repeat (first | refine blk_drewN ?_ _ | refine blk_drew ?_ | refine blk_alloc ?_ _)); refine blk_put (cs := #[.int .u32 t156, .int .u32 t154, .int .i64 0, .int .i64 0]) ?_ 2 _ rfl; (with_reducible repeat (first | refine blk_drewN ?_ _ | refine blk_drew ?_ | refine blk_alloc ?_ _)); exact BK153.out) Tryd.underlying36 rfl (by kernel_rfl)) rfl ?_
      exact ⟨_, by first | rfl | (simp [errW_none, errW_some] <;> rfl) | (simp [*, errW_none, errW_some] <;> rfl), (by first | assumption | exact rfl | exact ⟨_, _, rfl⟩), by repeat (first | (with_reducible first | exact HI0.out | apply IsS44.alloc | apply IsS44.drewN | apply IsS44.drew | apply IsS44.set_1 | refine IsS44.far ?_ NB0_153.out _) | exact HI0.out), by repeat (first | (with_reducible first | exact HB.out | apply below_alloc | apply pw_below_drewN | apply below_drew1 | refine below_set ?_ (IsS44.ge HI0.out) | refine below_set ?_ GE153.out) | exact HB.out), by repeat (first | (with_reducible first | exact HK.out | apply KeepBut.set_ | apply keep_drewN | apply keep_drew | apply keep_alloc | refine keep_far ?_ GW153.out _) | exact HK.out)⟩
  · have H1 : (some (t156, t154, 0, 0, some q159, t158)) = some (r1, r2, r3, r4, r5, r6) := by rw [if_neg (show ¬ (some q159).isNone = true by simp)] at H; exact H
    clear H
    have H := H1
    clear H1
    try simp only [errW_none, errW_some]
    simp only [Option.some.injEq, Prod.mk.injEq] at H
    obtain ⟨rfl, rfl, rfl, rfl, rfl, rfl⟩ := H
    go_enter Tryd.func12, Tryd.ntmps12
    go_wp2_with (first | ((with_reducible refine gate_dst (N := 2) rfl ?_); refine box_event ?hg (N := 2) ?hd (cs := #[.int .u32 0, .int .u32 0, .int .i64 0, .int .i64 0]) (t := 36) ?hr ?_; (case hd => rfl); (case hg => rfl); (case hr => first | (go_simp; done) | (go_simp; rfl)); intro gb153 hg w52 hbox hb; have n0_ := Aside0.mk (IsS44.below (by repeat (first | (with_reducible first | exact HI0.out | apply IsS44.alloc | apply IsS44.drewN | apply IsS44.drew | apply IsS44.set_1) | exact HI0.out)) hb); have n1_ := Aside0.mk (KeepBut.trans (by repeat (first | (with_reducible first | exact HK.out | apply KeepBut.set_ | apply keep_drewN | apply keep_drew | apply keep_alloc) | exact HK.out)) (KeepBut.of_below hb g none) (.inl rfl)); have n2_ := Aside0.mk (below_step (by repeat (first | (with_reducible first | exact HB.out | apply below_alloc | apply pw_below_drewN | apply below_drew1 | refine below_set ?_ (IsS44.ge HI0.out)) | exact HB.out)) hb); have n3_ := Aside0.mk (hbox); have n4_ := Aside0.mk ((by rw [hg]; exact (keep_size (w := w) (g := g) (row := none) (by repeat (first | (with_reducible first | exact HK.out | apply KeepBut.set_ | apply keep_drewN | apply keep_drew | apply keep_alloc) | exact HK.out))) : w.heap.size ≤ gb153)); have n5_ := Aside0.mk ((Nat.le_trans HW0.out (by rw [hg]; exact (keep_size (w := w) (g := g) (row := none) (by repeat (first | (with_reducible first | exact HK.out | apply KeepBut.set_ | apply keep_drewN | apply keep_drew | apply keep_alloc) | exact HK.out))) : w.heap.size ≤ gb153) : w0.heap.size ≤ gb153)); have n6_ := Aside0.mk ((by rw [hg]; exact Nat.ne_of_lt (IsS44.lt (show IsS44 w0 _ g s0_0 s0_1 from by repeat (first | (with_reducible first | exact HI0.out | apply IsS44.alloc | apply IsS44.drewN | apply IsS44.drew | apply IsS44.set_1) | exact HI0.out))) : g ≠ gb153)); have n7_ := Aside0.mk ((by rw [hg]; exact Nat.ne_of_gt (IsS44.lt (show IsS44 w0 _ g s0_0 s0_1 from by repeat (first | (with_reducible first | exact HI0.out | apply IsS44.alloc | apply IsS44.drewN | apply IsS44.drew | apply IsS44.set_1) | exact HI0.out))) : gb153 ≠ g)); clear HI0; clear HK; clear HB; have HI0 := n0_; have HK := n1_; have HB := n2_; have BK153 := n3_; have GW153 := n4_; have GE153 := n5_; have NB0_153 := n6_; have NB153_0 := n7_; clear n0_ n1_ n2_ n3_ n4_ n5_ n6_ n7_; clear hb hbox hg) | ((with_reducible refine gate_callee (f := 17) rfl ?_); refine goesL_ (some 7) rfl rfl Tryd.func17 (by kernel_rfl) rfl #[.pointer (some ⟨g, 0, none⟩)] rfl (by (try simp only [List.map_toArray, List.map_cons, List.map_nil]); first | done | rfl | (simp only [List.length_drop, List.length_take]; rfl)) ?_; (with_reducible refine (harfbuzz_parser_parseFeatureValuePrefix.calls k g s0_0 s0_1 t154 t155 w0 _ ?side1 ?side2 A2.out).mono ?_); (case side1 => repeat (first | (with_reducible first | exact HI0.out | apply IsS44.alloc | apply IsS44.drewN | apply IsS44.drew | apply IsS44.set_1 | refine IsS44.far ?_ NB0_153.out _) | exact HI0.out)); (case side2 => repeat (first | (with_reducible first | exact HB.out | apply below_alloc | apply pw_below_drewN | apply below_drew1 | refine below_set ?_ (IsS44.ge HI0.out) | refine below_set ?_ GE153.out) | exact HB.out)); rintro e w53 ⟨rfl, hi, hb, hk⟩; refine ⟨_, rfl, ?_⟩; have n0_ := Aside0.mk (KeepBut.blk hk (g' := gb153) (o := .cells #[.int .u32 0, .int .u32 0, .int .i64 0, .int .i64 0] 36 (0, 0)) (by (with_reducible repeat (first | refine blk_drewN ?_ _ | refine blk_drew ?_ | refine blk_alloc ?_ _)); exact BK153.out) NB153_0.out (by simp)); have n1_ := Aside0.mk (KeepBut.trans (by repeat (first | (with_reducible first | exact HK.out | apply KeepBut.set_ | apply keep_drewN | apply keep_drew | apply keep_alloc | refine keep_far ?_ GW153.out _) | exact HK.out)) hk (.inl rfl)); have n2_ := Aside0.mk (hb); have n3_ := Aside0.mk (hi); clear BK153; clear HK; clear HB; clear HI0; have BK153 := n0_; have HK := n1_; have HB := n2_; have HI0 := n3_; clear n0_ n1_ n2_ n3_; (try clear hb); (try clear hb2); (try clear hk); (try clear hi); have hnb54 := NB153_0.out; have hnc54 := NB0_153.out; have hcz55_0 : w53.cell? ⟨gb153, 0, none⟩ = some (.int .u32 0) := (blk_cell BK153.out 0).trans rfl; have hcz55_1 : w53.cell? ⟨gb153, 1, none⟩ = some (.int .u32 0) := (blk_cell BK153.out 1).trans rfl; have hcz55_2 : w53.cell? ⟨gb153, 2, none⟩ = some (.int .i64 0) := (blk_cell BK153.out 2).trans rfl; have hcz55_3 : w53.cell? ⟨gb153, 3, none⟩ = some (.int .i64 0) := (blk_cell BK153.out 3).trans rfl; have hfz55_0 := blk_frozen BK153.out 0; have hfz55_1 := blk_frozen BK153.out 1; have hfz55_2 := blk_frozen BK153.out 2; have hfz55_3 := blk_frozen BK153.out 3) | ((with_reducible refine gate_callee (f := 18) rfl ?_); refine goesL_ (some 11) rfl rfl Tryd.func18 (by kernel_rfl) rfl #[.pointer (some ⟨g, 0, none⟩)] rfl (by (try simp only [List.map_toArray, List.map_cons, List.map_nil]); first | done | rfl | (simp only [List.length_drop, List.length_take]; rfl)) ?_; (with_reducible refine (harfbuzz_parser_parseTag.calls k g s0_0 t155 t156 (some q159) t158 w0 _ ?side1 ?side2 A3.out).mono ?_); (case side1 => repeat (first | (with_reducible first | exact HI0.out | apply IsS44.alloc | apply IsS44.drewN | apply IsS44.drew | apply IsS44.set_1 | refine IsS44.far ?_ NB0_153.out _) | exact HI0.out)); (case side2 => repeat (first | (with_reducible first | exact HB.out | apply below_alloc | apply pw_below_drewN | apply below_drew1 | refine below_set ?_ (IsS44.ge HI0.out) | refine below_set ?_ GE153.out) | exact HB.out)); rintro e w58 ⟨ev56, rfl, he57, hi, hb, hk⟩; refine ⟨_, rfl, ?_⟩; have n0_ := Aside0.mk (KeepBut.blk hk (g' := gb153) (o := .cells #[.int .u32 0, .int .u32 t154, .int .i64 0, .int .i64 0] 36 (0, 0)) (by (with_reducible repeat (first | refine blk_drewN ?_ _ | refine blk_drew ?_ | refine blk_alloc ?_ _)); refine blk_put (cs := #[.int .u32 0, .int .u32 0, .int .i64 0, .int .i64 0]) ?_ 1 _ rfl; (with_reducible repeat (first | refine blk_drewN ?_ _ | refine blk_drew ?_ | refine blk_alloc ?_ _)); exact BK153.out) NB153_0.out (by simp)); have n1_ := Aside0.mk (KeepBut.trans (by repeat (first | (with_reducible first | exact HK.out | apply KeepBut.set_ | apply keep_drewN | apply keep_drew | apply keep_alloc | refine keep_far ?_ GW153.out _) | exact HK.out)) hk (.inl rfl)); have n2_ := Aside0.mk (hb); have n3_ := Aside0.mk (hi); clear BK153; clear HK; clear HB; clear HI0; have BK153 := n0_; have HK := n1_; have HB := n2_; have HI0 := n3_; clear n0_ n1_ n2_ n3_; (try clear hb); (try clear hb2); (try clear hk); (try clear hi); (first | (obtain rfl := EV_none he57) | (obtain ⟨te_, pe_, rfl⟩ := EV_some he57) | skip); have hcz59_0 : w58.cell? ⟨gb153, 0, none⟩ = some (.int .u32 0) := (blk_cell BK153.out 0).trans rfl; have hcz59_1 : w58.cell? ⟨gb153, 1, none⟩ = some (.int .u32 t154) := (blk_cell BK153.out 1).trans rfl; have hcz59_2 : w58.cell? ⟨gb153, 2, none⟩ = some (.int .i64 0) := (blk_cell BK153.out 2).trans rfl; have hcz59_3 : w58.cell? ⟨gb153, 3, none⟩ = some (.int .i64 0) := (blk_cell BK153.out 3).trans rfl; have hfz59_0 := blk_frozen BK153.out 0; have hfz59_1 := blk_frozen BK153.out 1; have hfz59_2 := blk_frozen BK153.out 2; have hfz59_3 := blk_frozen BK153.out 3))
    refine bodyPost_ret (results_ct rfl _ _ gb153 36 #[.int .u32 t156, .int .u32 t154, .int .i64 0, .int .i64 0] (0, 0) _ rfl (by (with_reducible repeat (first | refine blk_drewN ?_ _ | refine blk_drew ?_ | refine blk_alloc ?_ _)); refine blk_put (cs := #[.int .u32 t156, .int .u32 t154, .int .i64 0, .int .i64 0]) ?_ 3 _ rfl; (with_reducible repeat (first | refine blk_drewN ?_ _ | refine blk_drew ?_ | refine blk_alloc ?_ _)); refine blk_put (cs := #[.int .u32 t156, .int .u32 t154, .int .i64 0, .int .i64 0]) ?_ 2 _ rfl; (with_reducible repeat (first | refine blk_drewN ?_ _ | refine blk_drew ?_ | refine blk_alloc ?_ _)); refine blk_put (cs := #[.int .u32 t156, .int .u32 t154, .int .i64 0, .int .i64 0]) ?_ 1 _ rfl; (with_reducible repeat (first | refine blk_drewN ?_ _ | refine blk_drew ?_ | refine blk_alloc ?_ _)); refine blk_put (cs := #[.int .u32 t156, .int .u32 t154, .int .i64 0, .int .i64 0]) ?_ 0 _ rfl; (with_reducible repeat (first | refine blk_drewN ?_ _ | refine blk_drew ?_ | refine blk_alloc ?_ _)); refine blk_put (cs := #[.int .u32 0, .int .u32 t154, .int .i64 0, .int .i64 0]) ?_ 0 _ rfl; (with_reducible repeat (first | refine blk_drewN ?_ _ | refine blk_drew ?_ | refine blk_alloc ?_ _)); exact BK153.out) Tryd.underlying36 rfl (by kernel_rfl)) rfl ?_
    exact ⟨_, by first | rfl | (simp [errW_none, errW_some] <;> rfl) | (simp [*, errW_none, errW_some] <;> rfl), (by first | assumption | exact rfl | exact ⟨_, _, rfl⟩), by repeat (first | (with_reducible first | exact HI0.out | apply IsS44.alloc | apply IsS44.drewN | apply IsS44.drew | apply IsS44.set_1 | refine IsS44.far ?_ NB0_153.out _) | exact HI0.out), by repeat (first | (with_reducible first | exact HB.out | apply below_alloc | apply pw_below_drewN | apply below_drew1 | refine below_set ?_ (IsS44.ge HI0.out) | refine below_set ?_ GE153.out) | exact HB.out), by repeat (first | (with_reducible first | exact HK.out | apply KeepBut.set_ | apply keep_drewN | apply keep_drew | apply keep_alloc | refine keep_far ?_ GW153.out _) | exact HK.out)⟩

/-! ### harfbuzz_ParseFeature: function 9 -/
def harfbuzz_ParseFeature.f (k : Nat) (a0 : ByteArray) : Option (Int × Int × Int × Int × Option Int) := if a0.size ≤ 140737488351232 then (harfbuzz_parser_parseOneFeature.f k (bytesOf a0) 0).bind fun t => some (t.1, t.2.1, t.2.2.1, t.2.2.2.1, t.2.2.2.2.1) else none
theorem harfbuzz_ParseFeature.mono : ∀ a0 k, LeO (harfbuzz_ParseFeature.f k a0) (harfbuzz_ParseFeature.f (k + 1) a0) := by
  intro a0 k r h
  unfold harfbuzz_ParseFeature.f at h ⊢
  split at h
  · rename_i hs
    rw [if_pos hs]
    obtain ⟨t, h1, h2⟩ := Option.bind_eq_some_iff.1 h
    rw [harfbuzz_parser_parseOneFeature.mono _ _ k t h1, Option.bind_some]
    exact h2
  · cases h
set_option maxHeartbeats 4000000 in
set_option maxRecDepth 100000 in
theorem harfbuzz_ParseFeature.calls (k : Nat) (a0 : ByteArray) (r1 : Int) (r2 : Int) (r3 : Int) (r4 : Int) (r5 : Option Int) (w : World) (h : harfbuzz_ParseFeature.f k a0 = some (r1, r2, r3, r4, r5)) (GG : Tab w) :
    Calls Tryd.prog 9 #[.string a0] w fun e w' => ∃ e4_ : Value, e = .returned (.tuple #[.agg #[.int .u32 r1, .int .u32 r2, .int .i64 r3, .int .i64 r4], e4_]) ∧ EV e4_ r5 ∧ Below w.heap.size w w' := by
  unfold harfbuzz_ParseFeature.f at h
  split at h
  case isFalse => cases h
  rename_i hs
  obtain ⟨⟨q1, q2, q3, q4, q5, q6⟩, h1, h2⟩ := Option.bind_eq_some_iff.1 h
  simp only [Option.some.injEq, Prod.mk.injEq] at h2
  obtain ⟨rfl, rfl, rfl, rfl, rfl⟩ := h2
  clear h
  obtain ⟨w1, hw1⟩ : ∃ x, x = w.alloc (.cells #[.int .u32 0, .int .u32 0, .int .i64 0, .int .i64 0] 36) := ⟨_, rfl⟩
  obtain ⟨w2, hw2⟩ : ∃ x, x = Go.Lib.bytesWorld w1 5 a0 := ⟨_, rfl⟩
  obtain ⟨w3, hw3⟩ : ∃ x, x = w2.alloc (.cells #[.slice (some ⟨w.heap.size + 1, 0, none⟩) a0.size (grownCap w1 a0.size 0 5), .int .i64 0] 44) := ⟨_, rfl⟩
  have kc : ∀ W : World, (convert 9 33 (.string a0)).run Tryd.prog W = .ok (.slice (some ⟨W.heap.size, 0, none⟩) a0.size (grownCap W a0.size 0 5)) (Go.Lib.bytesWorld W 5 a0) := fun W => Go.Lib.run_convert_string_bytes W 9 33 5 a0 Tryd.underlying9 Tryd.underlying33 Tryd.underlying5
  have hb1 : Below w.heap.size w w1 := by rw [hw1]; exact (Below.refl _ _).alloc (Nat.le_refl _) _
  have hs1 : w1.heap.size = w.heap.size + 1 := by rw [hw1]; simp
  have hb2 : Below w.heap.size w w2 := below_step hb1 (by rw [hw2]; exact Go.Joins.below_bytesWorld _ w1 5 a0 (Nat.le_refl _))
  have hb23 : Below w2.heap.size w2 w3 := by rw [hw3]; exact (Below.refl _ _).alloc (Nat.le_refl _) _
  have hlen : (bytesOf a0).length = a0.size := bytesOf_length a0
  have hC : Kd.C (Kd.int .u8) w2 (some ⟨w1.heap.size, 0, none⟩) (bytesOf a0).length (bytesOf a0) := by
    rw [hlen, hw2]
    exact Kd.C_of_reads (enc := Value.int .u8) (d := (0 : Int)) (h1 := fun _ => rfl) (bytes_reads w1 5 a0 (by omega))
  have hI : IsS44 w2 w3 w2.heap.size (bytesOf a0) 0 := by
    rw [hs1] at hC
    refine ⟨some ⟨w.heap.size + 1, 0, none⟩, grownCap w1 a0.size 0 5, ?_, Nat.le_refl _, hC, by rw [hlen]; exact grownCap_ge _ _ _ _⟩
    rw [hw3, hlen]
    simpa using heap_alloc_new w2 _
  have hP := harfbuzz_parser_parseOneFeature.calls k w2.heap.size (bytesOf a0) 0 q1 q2 q3 q4 q5 q6 w2 w3 hI hb23 h1 (tab_below GG hb2)
  clear hI hC h1
  have hg1 : w1.heap[w.heap.size]? = some (.cells #[.int .u32 0, .int .u32 0, .int .i64 0, .int .i64 0] 36 (0, 0)) := by rw [hw1]; simpa using heap_alloc_new w _
  have hs12 : w1.heap.size ≤ w2.heap.size := by have := (show Below w1.heap.size w1 w2 by rw [hw2]; exact Go.Joins.below_bytesWorld _ w1 5 a0 (Nat.le_refl _)).size; exact this
  have hg3 : w3.heap[w.heap.size]? = some (.cells #[.int .u32 0, .int .u32 0, .int .i64 0, .int .i64 0] 36 (0, 0)) := by
    rw [hb23.block _ (by omega), (show Below w1.heap.size w1 w2 by rw [hw2]; exact Go.Joins.below_bytesWorld _ w1 5 a0 (Nat.le_refl _)).block _ (by omega)]
    exact hg1
  have hne : w.heap.size ≠ w2.heap.size := by omega
  have hlt3 : w.heap.size < w3.heap.size := by have := hb23.size; omega
  have hP2 : Calls Tryd.prog 12 #[.pointer (some ⟨w2.heap.size, 0, none⟩)] w3 fun e w' => ∃ e4_ : Value, e = .returned (.tuple #[.agg #[.int .u32 q1, .int .u32 q2, .int .i64 q3, .int .i64 q4], e4_]) ∧ EV e4_ q5 ∧ Aside0 (w'.heap[w.heap.size]? = some (.cells #[.int .u32 0, .int .u32 0, .int .i64 0, .int .i64 0] 36 (0, 0))) ∧ Aside0 (Below w.heap.size w w') := by
    refine hP.mono ?_
    rintro e w' ⟨ev, rfl, hev, hi, hb, hk⟩
    exact ⟨ev, rfl, hev, ⟨(hk.2 _ hlt3 hne (by simp)).trans hg3⟩, ⟨below_step hb2 hb⟩⟩
  clear hP hg1 hg3 hb1 hb2 hb23 hs1 hs12 hne hlt3 hlen GG
  go_enter Tryd.func9, Tryd.ntmps9
  go_wp2_with (go_at_call 12; rw [← hw1, ← hw2, ← hw3]; refine hP2.mono ?_; rintro e w' ⟨ev, rfl, hev, hG, hBW⟩; have hc0 := blk_cell hG.out 0; have hc1 := blk_cell hG.out 1; have hc2 := blk_cell hG.out 2; have hc3 := blk_cell hG.out 3; have hf0 := blk_frozen hG.out 0; have hf1 := blk_frozen hG.out 1; have hf2 := blk_frozen hG.out 2; have hf3 := blk_frozen hG.out 3)
  refine bodyPost_ret (results_ct rfl _ _ w.heap.size 36 #[.int .u32 q1, .int .u32 q2, .int .i64 q3, .int .i64 q4] (0, 0) _ rfl (by simpa using blk_set (blk_set (blk_set (blk_set hG.out 0 (.int .u32 q1)) 1 (.int .u32 q2)) 2 (.int .i64 q3)) 3 (.int .i64 q4)) Tryd.underlying36 rfl (by kernel_rfl)) rfl ?_
  exact ⟨_, rfl, hev, below_set (below_set (below_set (below_set hBW.out (Nat.le_refl _)) (Nat.le_refl _)) (Nat.le_refl _)) (Nat.le_refl _)⟩

/-! ### opentype_Tag_String: function 10 -/
def opentype_Tag_String.f (a0 : Int) : Option (ByteArray) := some (strOfNums (([(a0 / 16777216) % 256, (a0 / 65536) % 256, (a0 / 256) % 256, (a0) % 256] : List Int)))
set_option maxHeartbeats 8000000 in
set_option maxRecDepth 100000 in
theorem opentype_Tag_String.calls (a0 : Int) (r : ByteArray) (w : World) (h : opentype_Tag_String.f a0 = some r) :
    Calls Tryd.prog 10 #[.int .u32 a0] w fun e w' => e = .returned (.string r) ∧ Below w.heap.size w w' := by
  have HB := Aside0.mk (Below.refl w.heap.size w)
  have H : (some (strOfNums (([(a0 / 16777216) % 256, (a0 / 65536) % 256, (a0 / 256) % 256, (a0) % 256] : List Int)))) = some r := h
  clear h
  obtain ⟨y170, hy170⟩ : ∃ y_ : List Int, y_ = (([(a0 / 16777216) % 256, (a0 / 65536) % 256, (a0 / 256) % 256, (a0) % 256] : List Int)) := ⟨_, rfl⟩
  replace H : (some (strOfNums y170)) = some r := by first | (rw [hy170]; with_reducible exact H) | (have H2_ := (Option.bind_some _ _).symm.trans H; rw [hy170]; with_reducible exact H2_) | (have H2_ := (Option.bind_some _ _).symm.trans H; with_reducible exact H2_) | with_reducible exact H | (rw [hy170]; exact H) | exact H
  have Ny170 := Aside0.mk hy170
  clear hy170
  obtain rfl := Option.some.inj H
  go_enter Tryd.func10, Tryd.ntmps10
  go_wp2_with (first | ((with_reducible refine gate_dst (N := 14) rfl ?_); refine Kd.R_lit (Kd.int .u8) _ 5 ?hg (N := 14) ?hd (xs := ([(a0 / 16777216) % 256, (a0 / 65536) % 256, (a0 / 256) % 256, (a0) % 256] : List Int)) (inner := [.int .u8 ((a0 / 16777216) % 256), .int .u8 ((a0 / 65536) % 256), .int .u8 ((a0 / 256) % 256), .int .u8 ((a0) % 256)]) (ok := fun _ => True) (okp := fun _ => True) ?hr ?hp (fun _ hk => hk) trivial (Below.refl _ _) (Nat.le_refl _) (by simp) ?_; (case hd => rfl); (case hg => rfl); (case hr => first | (go_simp; done) | (go_simp; rfl)); (case hp => exact (Reps.one (show Kd.M (Kd.int .u8) _ _ _ ((a0 / 16777216) % 256) [.int .u8 ((a0 / 16777216) % 256)] from rfl) (Reps.one (show Kd.M (Kd.int .u8) _ _ _ ((a0 / 65536) % 256) [.int .u8 ((a0 / 65536) % 256)] from rfl) (Reps.one (show Kd.M (Kd.int .u8) _ _ _ ((a0 / 256) % 256) [.int .u8 ((a0 / 256) % 256)] from rfl) (Reps.one (show Kd.M (Kd.int .u8) _ _ _ ((a0) % 256) [.int .u8 ((a0) % 256)] from rfl) (Reps.none _ _)))))); intro v171 w2 ho3 hb hg_ hnew_; clear hg_ hnew_; (first | rw [← Ny170.out] at ho3 | (simp only [Int.reduceToNat] at ho3; rw [← Ny170.out] at ho3)); have n0_ := Aside0.mk (Kd.R_lower ho3 (below_size (by repeat (first | (with_reducible first | exact HB.out | apply below_alloc | apply pw_below_drewN | apply below_drew1) | exact HB.out)))); have n1_ := Aside0.mk (below_step (by repeat (first | (with_reducible first | exact HB.out | apply below_alloc | apply pw_below_drewN | apply below_drew1) | exact HB.out)) hb); clear HB; have HO172 := n0_; have HB := n1_; clear n0_ n1_; clear hb ho3; have hcv4 := own_string (P := Tryd.prog) Tryd.underlying33 Tryd.underlying5 Tryd.underlying9 (Kd.own_of_R HO172.out)))
  go_ret
  exact ⟨by first | rfl | (simp [errW_none, errW_some] <;> rfl) | (simp [*, errW_none, errW_some] <;> rfl), by repeat (first | (with_reducible first | exact HB.out | apply below_alloc | apply pw_below_drewN | apply below_drew1) | exact HB.out)⟩

end Go.Proofs.YtlclakahgmoafaaDoor.PFnAskNone
