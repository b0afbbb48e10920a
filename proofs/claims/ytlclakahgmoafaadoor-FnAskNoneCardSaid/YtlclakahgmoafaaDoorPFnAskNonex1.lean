-- Written by a program of this session (xprint) out of the translation; Lean checks it.
import Derived.Test.YtlclakahgmoafaaDoorPFnAskNonex0
namespace Go.Proofs.YtlclakahgmoafaaDoor.PFnAskNone
open Go.RowKit Go.Proofs.YtlclakahgmoafaaDoorW.PrintWords Go.Proofs.YtlclakahgmoafaaDoorW.PrintLast Go.Proofs.YtlclakahgmoafaaDoorW.PrintMore
attribute [local go_sem] max2_int min2_int max_two min_two max_three min_three max_four min_four   -- for this text's walks alone
set_option linter.unusedVariables false
set_option linter.unusedSimpArgs false

/-! ### laws_askTag: function 5 -/
def laws_askTag.l0 : Nat → Int → List Int → Int → Option (ByteArray)
  | 0, _, _, _ => none
  | k + 1, x0, x3, x4 => if x4 < 4 then (if 0 ≤ (Int.tmod x0 62) then (if (Int.tmod x0 62) < 62 then (if x3.length < 140737488355328 then (laws_askTag.l0 k ((Int.tdiv x0 62) % 4294967296) (x3 ++ [bt (⟨#[97, 98, 99, 100, 101, 102, 103, 104, 105, 106, 107, 108, 109, 110, 111, 112, 113, 114, 115, 116, 117, 118, 119, 120, 121, 122, 65, 66, 67, 68, 69, 70, 71, 72, 73, 74, 75, 76, 77, 78, 79, 80, 81, 82, 83, 84, 85, 86, 87, 88, 89, 90, 48, 49, 50, 51, 52, 53, 54, 55, 56, 57]⟩ : ByteArray) (Int.tmod x0 62)]) (wrap64 (x4 + 1))) else (none)) else (none)) else (none)) else (some (strOfNums x3))
def laws_askTag.f (k : Nat) (a0 : Int) : Option (ByteArray) := laws_askTag.l0 k a0 ([] : List Int) 0
theorem laws_askTag.mono_l : ∀ k, (∀ y0 y1 y2, LeO (laws_askTag.l0 k y0 y1 y2) (laws_askTag.l0 (k + 1) y0 y1 y2))
  | 0 => fun _ _ _ r h => by simp [laws_askTag.l0] at h
  | k + 1 => by
    have ih0 := laws_askTag.mono_l k
    · intro y0 y1 y2
      unfold laws_askTag.l0
      repeat' first
      | (with_reducible exact ih0 _ _ _)
      | (with_reducible exact LeO.refl _)
      | (with_reducible exact LeO.none _)
      | (with_reducible refine LeO.ite ?_ ?_)
      | (with_reducible refine LeO.bind ?_ (fun _ => ?_))
      | exact ih0 _ _ _
      | exact LeO.none _
      | refine LeO.ite ?_ ?_
      | refine LeO.bind ?_ (fun _ => ?_)
theorem laws_askTag.mono : ∀ a0 k, LeO (laws_askTag.f k a0) (laws_askTag.f (k + 1) a0) := by
  intro a0 k
  have ih0 := laws_askTag.mono_l k
  unfold laws_askTag.f
  repeat' first
      | (with_reducible exact ih0 _ _ _)
      | (with_reducible exact LeO.refl _)
      | (with_reducible exact LeO.none _)
      | (with_reducible refine LeO.ite ?_ ?_)
      | (with_reducible refine LeO.bind ?_ (fun _ => ?_))
      | exact ih0 _ _ _
      | exact LeO.none _
      | refine LeO.ite ?_ ?_
      | refine LeO.bind ?_ (fun _ => ?_)
set_option maxHeartbeats 8000000 in
set_option maxRecDepth 100000 in
theorem laws_askTag.calls (k : Nat) (a0 : Int) (r : ByteArray) (w : World) (h : laws_askTag.f k a0 = some r) :
    Calls Tryd.prog 5 #[.int .u32 a0] w fun e w' => e = .returned (.string r) ∧ Below w.heap.size w w' := by
  have HB := Aside0.mk (Below.refl w.heap.size w)
  have H : (laws_askTag.l0 k a0 ([] : List Int) 0) = some r := h
  clear h
  have H' := Aside0.mk H
  clear H
  go_enter Tryd.func5, Tryd.ntmps5
  go_wp2
  go_loopg [0, 3, 4] k (fun kq v0 v3 v4 w' => ∃ (x0_1 : Int) (x3_1 : List Int) (x4_1 : Int), v0 = .int .u32 x0_1 ∧ v4 = .int .i64 x4_1 ∧ Aside0 (laws_askTag.l0 kq x0_1 x3_1 x4_1 = some r) ∧ Aside0 (kq ≤ k) ∧ Aside0 (Kd.R (Kd.int .u8) 5 w' w.heap.size (fun _ => True) v3 x3_1) ∧ Aside0 (Below w.heap.size w w'))
  case atStart => exact ⟨(a0), (([] : List Int)), (0), (by first | rfl | (simp; done) | (simp [*]; done)), (by first | rfl | (simp; done) | (simp [*]; done)), H', ⟨Nat.le_refl _⟩, ⟨by first | exact Kd.R_nil _ _ _ _ _ | exact Kd.N_nil _ _ _ _ _ | exact Kd.V_nil _ _ _ _ _ | exact Kd.Q_nil _ _ _ _ _ | exact Kd.S_nil _ _ _ _ _⟩, ⟨by repeat (first | (with_reducible first | exact HB.out | apply below_alloc | apply pw_below_drewN | apply below_drew1) | exact HB.out)⟩⟩
  case round =>
    clear H'
    obtain ⟨x0_1, x3_1, x4_1, rfl, rfl, HA, HK1, HO_3, HB⟩ := hrel
    cases gk with
    | zero => exact absurd HA.out (by simp [laws_askTag.l0])
    | succ k1 =>
      have H := HA.out
      clear HA
      simp only [laws_askTag.l0] at H
      by_cases c2 : x4_1 < 4
      · rw [if_pos c2] at H
        have c2b0 : decide (x4_1 < 4) = true := decide_eq_true c2
        clear c2
        obtain ⟨ji3, hji3⟩ : ∃ j_ : Int, (Int.tmod x0_1 62) = j_ := ⟨_, rfl⟩
        replace H : (if 0 ≤ (ji3) then (if (ji3) < 62 then (if x3_1.length < 140737488355328 then (laws_askTag.l0 k1 ((Int.tdiv x0_1 62) % 4294967296) (x3_1 ++ [bt (⟨#[97, 98, 99, 100, 101, 102, 103, 104, 105, 106, 107, 108, 109, 110, 111, 112, 113, 114, 115, 116, 117, 118, 119, 120, 121, 122, 65, 66, 67, 68, 69, 70, 71, 72, 73, 74, 75, 76, 77, 78, 79, 80, 81, 82, 83, 84, 85, 86, 87, 88, 89, 90, 48, 49, 50, 51, 52, 53, 54, 55, 56, 57]⟩ : ByteArray) (ji3)]) (wrap64 (x4_1 + 1))) else (none)) else (none)) else (none)) = some r := by first | (rw [hji3] at H; exact H) | (simp only [hji3] at H ⊢; exact H)
        by_cases c4 : 0 ≤ (ji3)
        · rw [if_pos c4] at H
          have c4b0 : decide (0 ≤ (ji3)) = true := decide_eq_true c4
          clear c4
          by_cases c5 : (ji3) < 62
          · rw [if_pos c5] at H
            have c5b0 : decide ((ji3) < 62) = true := decide_eq_true c5
            clear c5
            by_cases c7 : x3_1.length < 140737488355328
            · rw [if_pos c7] at H
              have LMc7 := Aside0.mk c7
              clear c7
              obtain ⟨y101, hy101⟩ : ∃ y_ : List Int, y_ = (x3_1 ++ [bt (⟨#[97, 98, 99, 100, 101, 102, 103, 104, 105, 106, 107, 108, 109, 110, 111, 112, 113, 114, 115, 116, 117, 118, 119, 120, 121, 122, 65, 66, 67, 68, 69, 70, 71, 72, 73, 74, 75, 76, 77, 78, 79, 80, 81, 82, 83, 84, 85, 86, 87, 88, 89, 90, 48, 49, 50, 51, 52, 53, 54, 55, 56, 57]⟩ : ByteArray) (ji3)]) := ⟨_, rfl⟩
              replace H : (laws_askTag.l0 k1 ((Int.tdiv x0_1 62) % 4294967296) y101 (wrap64 (x4_1 + 1))) = some r := by first | (rw [hy101]; with_reducible exact H) | (have H2_ := (Option.bind_some _ _).symm.trans H; rw [hy101]; with_reducible exact H2_) | (have H2_ := (Option.bind_some _ _).symm.trans H; with_reducible exact H2_) | with_reducible exact H | (rw [hy101]; exact H) | exact H
              have Ny101 := Aside0.mk hy101
              clear hy101
              have H' := Aside0.mk H
              clear H
              have p6 : 0 ≤ ((ji3) : Int) := of_decide_eq_true (by first | (with_reducible assumption) | assumption)
              have q6 : (ji3) < (62 : Int) := of_decide_eq_true (by first | (with_reducible assumption) | assumption)
              have hx6 := bt_at (⟨#[97, 98, 99, 100, 101, 102, 103, 104, 105, 106, 107, 108, 109, 110, 111, 112, 113, 114, 115, 116, 117, 118, 119, 120, 121, 122, 65, 66, 67, 68, 69, 70, 71, 72, 73, 74, 75, 76, 77, 78, 79, 80, 81, 82, 83, 84, 85, 86, 87, 88, 89, 90, 48, 49, 50, 51, 52, 53, 54, 55, 56, 57]⟩ : ByteArray) (ji3)
              replace p6 := eq_true p6
              replace q6 := eq_true q6
              go_wp2_with (first | ((with_reducible refine gate_builtin (b := .append) (xs := #[.tmp 6, .tmp 10]) rfl ?_); at_builtin; refine Kd.R_append (Kd.int .u8) (w0 := w) w.heap.size rfl (.tmp 6) (.tmp 10) 33 5 (.int .u8 0) 1 rfl Tryd.underlying33 info5 rfl (by decide) (by omega) u3 x3_1 (bt (⟨#[97, 98, 99, 100, 101, 102, 103, 104, 105, 106, 107, 108, 109, 110, 111, 112, 113, 114, 115, 116, 117, 118, 119, 120, 121, 122, 65, 66, 67, 68, 69, 70, 71, 72, 73, 74, 75, 76, 77, 78, 79, 80, 81, 82, 83, 84, 85, 86, 87, 88, 89, 90, 48, 49, 50, 51, 52, 53, 54, 55, 56, 57]⟩ : ByteArray) (ji3)) [.int .u8 (bt (⟨#[97, 98, 99, 100, 101, 102, 103, 104, 105, 106, 107, 108, 109, 110, 111, 112, 113, 114, 115, 116, 117, 118, 119, 120, 121, 122, 65, 66, 67, 68, 69, 70, 71, 72, 73, 74, 75, 76, 77, 78, 79, 80, 81, 82, 83, 84, 85, 86, 87, 88, 89, 90, 48, 49, 50, 51, 52, 53, 54, 55, 56, 57]⟩ : ByteArray) (ji3))] (fun _ => True) (fun _ => False) rfl rfl ?aP (fun _ hk => hk.elim) ?aF ?aO ?aB ?aS ?aL ?_; (case aP => exact rfl); (case aB => exact (by repeat (first | (with_reducible first | exact HB.out | apply below_alloc | apply pw_below_drewN | apply below_drew1) | exact HB.out))); (case aF => exact (fun _ _ => trivial)); (case aO => exact (by (with_reducible repeat (first | apply Kd.R_alloc | apply Kd.R_drewN | apply Kd.R_drew)); exact HO_3.out)); (case aS => exact (below_size (by repeat (first | (with_reducible first | exact HB.out | apply below_alloc | apply pw_below_drewN | apply below_drew1) | exact HB.out)))); (case aL => have := LMc7.out; omega); intro v102 w8 ho hb hg hat; rw [← Ny101.out] at ho; have n0_ := Aside0.mk (hb); have n1_ := Aside0.mk (ho); clear HB; clear HO_3; have HB := n0_; have HO103 := n1_; clear n0_ n1_; clear ho hb hg hat))
              go_roundg k1
              case measure => have := HK1.out; omega
              case rel => exact ⟨((Int.tdiv x0_1 62) % 4294967296), (y101), (wrap64 (x4_1 + 1)), (by first | rfl | (simp; done) | (simp [*]; done)), (by first | rfl | (simp; done) | (simp [*]; done)), H', ⟨by have := HK1.out; omega⟩, ⟨by (with_reducible repeat (first | apply Kd.R_alloc | apply Kd.R_drewN | apply Kd.R_drew)); exact HO103.out⟩, ⟨by repeat (first | (with_reducible first | exact HB.out | apply below_alloc | apply pw_below_drewN | apply below_drew1) | exact HB.out)⟩⟩
            · rw [if_neg c7] at H
              exact absurd H (by simp)
          · rw [if_neg c5] at H
            exact absurd H (by simp)
        · rw [if_neg c4] at H
          exact absurd H (by simp)
      · rw [if_neg c2] at H
        have c2b0 : decide (x4_1 < 4) = false := decide_eq_false c2
        clear c2
        obtain rfl := Option.some.inj H
        have hcv9 := own_string (P := Tryd.prog) Tryd.underlying33 Tryd.underlying5 Tryd.underlying9 (Kd.own_of_R HO_3.out)
        go_wp2
        go_ret
        exact ⟨by first | rfl | (simp [errW_none, errW_some] <;> rfl) | (simp [*, errW_none, errW_some] <;> rfl), by repeat (first | (with_reducible first | exact HB.out | apply below_alloc | apply pw_below_drewN | apply below_drew1) | exact HB.out)⟩

/-! ### strconv_Itoa: function 6 -/
/-- What the walk needs of the package variables: the table of powers, and strconv's two errors. -/
structure Tab (w : World) : Prop where
  pow : Go.Lib.TabIs Tryd.prog w "internal/strconv.uint64pow10" .u64 Go.Lib.pow10Tab
  syn : ∃ tp p, w.var? Tryd.prog "strconv.ErrSyntax" = some #[.iface tp p]
  rng : ∃ tp p, w.var? Tryd.prog "strconv.ErrRange" = some #[.iface tp p]
theorem ask_grown (w : World) (q : Nat) (os : Array Obj) : Below w.heap.size w (Go.Sort.grow (w.drewN q) os) :=
  ⟨rfl, rfl, rfl, by simp [Go.Sort.grow], fun i hi => by
    show ((w.drewN q).heap ++ os)[i]? = _
    rw [Array.getElem?_append_left (by show i < w.heap.size; omega)]
    rfl⟩
def strconv_Itoa.f (a0 : Int) : Option ByteArray := if -9223372036854775808 ≤ a0 ∧ a0 ≤ 9223372036854775807 then some ⟨(Go.Lib.itoa a0).toArray⟩ else none
theorem strconv_Itoa.calls (a0 : Int) (r : ByteArray) (w : World) (h : strconv_Itoa.f a0 = some r) (GG : Tab w) :
    Calls Tryd.prog 6 #[.int .i64 a0] w fun e w' => e = .returned (.string r) ∧ Below w.heap.size w w' := by
  unfold strconv_Itoa.f at h
  split at h
  · rename_i hs
    obtain rfl := Option.some.inj h
    refine (Tryd.strconv_Itoa a0 hs.1 hs.2 w GG.pow).mono ?_
    rintro e w' ⟨rfl, k, os, rfl⟩
    exact ⟨rfl, ask_grown w k os⟩
  · cases h

/-! ### harfbuzz_isSpace: function 32 -/
def harfbuzz_isSpace.f (a0 : Int) : Option (Bool) := if a0 = 32 then (some true) else (if a0 = 12 then (some true) else (if a0 = 10 then (some true) else (if a0 = 13 then (some true) else (if a0 = 9 then (some true) else (some (a0 == 11))))))
set_option maxHeartbeats 8000000 in
set_option maxRecDepth 100000 in
theorem harfbuzz_isSpace.calls (a0 : Int) (r : Bool) (w : World) (h : harfbuzz_isSpace.f a0 = some r) :
    Calls Tryd.prog 32 #[.int .u8 a0] w fun e w' => e = .returned (.bool r) ∧ Drawn0 w w' := by
  have H : (if a0 = 32 then (some true) else (if a0 = 12 then (some true) else (if a0 = 10 then (some true) else (if a0 = 13 then (some true) else (if a0 = 9 then (some true) else (some (a0 == 11))))))) = some r := h
  clear h
  by_cases c2 : a0 = 32
  · rw [if_pos c2] at H
    have c2b0 : (a0 == 32) = true := beq_iff_eq.mpr c2
    have c2b1 : (a0 != 32) = false := bne_eq_false_iff_eq.mpr c2
    clear c2
    obtain rfl := Option.some.inj H
    go_enter Tryd.func32, Tryd.ntmps32
    go_wp2
    go_ret
    exact ⟨by first | rfl | (simp; done) | (simp [*]; done), by repeat (first | exact Drawn0.refl _ | apply Drawn0.step)⟩
  · rw [if_neg c2] at H
    have c2b0 : (a0 == 32) = false := beq_eq_false_iff_ne.mpr c2
    have c2b1 : (a0 != 32) = true := bne_iff_ne.mpr c2
    by_cases c3 : a0 = 12
    · rw [if_pos c3] at H
      have c3b0 : (a0 == 12) = true := beq_iff_eq.mpr c3
      have c3b1 : (a0 != 12) = false := bne_eq_false_iff_eq.mpr c3
      clear c3
      obtain rfl := Option.some.inj H
      go_enter Tryd.func32, Tryd.ntmps32
      go_wp2
      go_ret
      exact ⟨by first | rfl | (simp; done) | (simp [*]; done), by repeat (first | exact Drawn0.refl _ | apply Drawn0.step)⟩
    · rw [if_neg c3] at H
      have c3b0 : (a0 == 12) = false := beq_eq_false_iff_ne.mpr c3
      have c3b1 : (a0 != 12) = true := bne_iff_ne.mpr c3
      by_cases c4 : a0 = 10
      · rw [if_pos c4] at H
        have c4b0 : (a0 == 10) = true := beq_iff_eq.mpr c4
        have c4b1 : (a0 != 10) = false := bne_eq_false_iff_eq.mpr c4
        clear c4
        obtain rfl := Option.some.inj H
        go_enter Tryd.func32, Tryd.ntmps32
        go_wp2
        go_ret
        exact ⟨by first | rfl | (simp; done) | (simp [*]; done), by repeat (first | exact Drawn0.refl _ | apply Drawn0.step)⟩
      · rw [if_neg c4] at H
        have c4b0 : (a0 == 10) = false := beq_eq_false_iff_ne.mpr c4
        have c4b1 : (a0 != 10) = true := bne_iff_ne.mpr c4
        by_cases c5 : a0 = 13
        · rw [if_pos c5] at H
          have c5b0 : (a0 == 13) = true := beq_iff_eq.mpr c5
          have c5b1 : (a0 != 13) = false := bne_eq_false_iff_eq.mpr c5
          clear c5
          obtain rfl := Option.some.inj H
          go_enter Tryd.func32, Tryd.ntmps32
          go_wp2
          go_ret
          exact ⟨by first | rfl | (simp; done) | (simp [*]; done), by repeat (first | exact Drawn0.refl _ | apply Drawn0.step)⟩
        · rw [if_neg c5] at H
          have c5b0 : (a0 == 13) = false := beq_eq_false_iff_ne.mpr c5
          have c5b1 : (a0 != 13) = true := bne_iff_ne.mpr c5
          by_cases c6 : a0 = 9
          · rw [if_pos c6] at H
            have c6b0 : (a0 == 9) = true := beq_iff_eq.mpr c6
            have c6b1 : (a0 != 9) = false := bne_eq_false_iff_eq.mpr c6
            clear c6
            obtain rfl := Option.some.inj H
            go_enter Tryd.func32, Tryd.ntmps32
            go_wp2
            go_ret
            exact ⟨by first | rfl | (simp; done) | (simp [*]; done), by repeat (first | exact Drawn0.refl _ | apply Drawn0.step)⟩
          · rw [if_neg c6] at H
            have c6b0 : (a0 == 9) = false := beq_eq_false_iff_ne.mpr c6
            have c6b1 : (a0 != 9) = true := bne_iff_ne.mpr c6
            obtain rfl := Option.some.inj H
            go_enter Tryd.func32, Tryd.ntmps32
            go_wp2
            go_ret
            exact ⟨by first | rfl | (simp; done) | (simp [*]; done), by repeat (first | exact Drawn0.refl _ | apply Drawn0.step)⟩

/-- A state of type 44 at block g of W; what its slices lead to came in by w0. -/
def IsS44 (w0 W : World) (g : Nat) (f0 : List Int) (f1 : Int) : Prop := ∃ A0 c0, W.heap[g]? = some (.cells #[.slice A0 f0.length c0, .int .i64 f1] 44 (0, 0)) ∧ w0.heap.size ≤ g ∧ (Kd.C (Kd.int .u8) w0 A0 f0.length f0 ∧ f0.length ≤ c0)
theorem IsS44.grown {w0 W : World} {g : Nat} {f0 : List Int} {f1 : Int} {W1 : World} {row : Option Nat} (h : IsS44 w0 W g f0 f1) (hw : W.grownBy W1 row) (hne : some g ≠ row) : IsS44 w0 W1 g f0 f1 := by
  obtain ⟨A0, c0, hb, hg, hr0⟩ := h
  exact ⟨A0, c0, blk_grown hb hw hne, hg, hr0⟩
theorem IsS44.own_neN {w0 W : World} {g : Nat} {f0 : List Int} {f1 : Int} {α : Type} {d : Kd α} {e : Nat} {base : Nat} {ok : Nat → Prop} {v : Value} {xs : List α} (h : IsS44 w0 W g f0 f1) (ho : Kd.N d e W base ok v xs) (ht : e ≠ 44) : some g ≠ v.ownBlock := by
  obtain ⟨A0, c0, hb, hg, hr0⟩ := h
  exact Kd.N_ne ho hb ht
theorem IsS44.fresh {w0 W : World} {g : Nat} {f0 : List Int} {f1 : Int} (h : IsS44 w0 W g f0 f1) : ∀ k, W.heap.size ≤ k → k ≠ g := by
  obtain ⟨A0, c0, hb, hg, hr0⟩ := h
  exact Kd.freshB hb
theorem IsS44.kept {w0 W : World} {g : Nat} {f0 : List Int} {f1 : Int} {W1 : World} {S : Nat → Prop} (h : IsS44 w0 W g f0 f1) (hk : Kept W W1 S) (hne : ¬ S g) : IsS44 w0 W1 g f0 f1 := by
  obtain ⟨A0, c0, hb, hg, hr0⟩ := h
  exact ⟨A0, c0, blk_kept hb hk hne, hg, hr0⟩
theorem IsS44.below {w0 W : World} {g : Nat} {f0 : List Int} {f1 : Int} {W1 : World} (h : IsS44 w0 W g f0 f1) (hw : Below W.heap.size W W1) : IsS44 w0 W1 g f0 f1 := h.grown (grown_of_below hw none) (by simp)
theorem IsS44.alloc {w0 W : World} {g : Nat} {f0 : List Int} {f1 : Int} (h : IsS44 w0 W g f0 f1) (o : Obj) : IsS44 w0 (W.alloc o) g f0 f1 := h.below (below_alloc (Below.refl _ _) o)
theorem IsS44.drewN {w0 W : World} {g : Nat} {f0 : List Int} {f1 : Int} (h : IsS44 w0 W g f0 f1) (m : Nat) : IsS44 w0 (W.drewN m) g f0 f1 := h
theorem IsS44.drew {w0 W : World} {g : Nat} {f0 : List Int} {f1 : Int} (h : IsS44 w0 W g f0 f1) : IsS44 w0 W.drew g f0 f1 := h
theorem IsS44.at_ {w0 W : World} {g : Nat} {f0 : List Int} {f1 : Int} {w' : World} {m : Nat} (hq : W.drewN m = w') (h : IsS44 w0 W g f0 f1) : IsS44 w0 w' g f0 f1 := by subst hq; exact IsS44.drewN h m
theorem IsS44.apart {w0 W : World} {g : Nat} {f0 : List Int} {f1 : Int} {α : Type} {d : Kd α} {e : Nat} {base : Nat} {ok : Nat → Prop} {v : Value} {xs : List α} (h : IsS44 w0 W g f0 f1) (ho : d.R e W base ok v xs) (ht : ∀ q, q ∈ e :: d.E → q ≠ 44) : d.R e W base (fun k => ok k ∧ k ≠ g) v xs := by
  obtain ⟨A0, c0, hb, hg, hr0⟩ := h
  exact Kd.R_types ho hb ht
theorem IsS44.own_ne {w0 W : World} {g : Nat} {f0 : List Int} {f1 : Int} {α : Type} {d : Kd α} {e : Nat} {base : Nat} {ok : Nat → Prop} {v : Value} {xs : List α} (h : IsS44 w0 W g f0 f1) (ho : d.R e W base ok v xs) (ht : e ≠ 44) : some g ≠ v.ownBlock := by
  obtain ⟨A0, c0, hb, hg, hr0⟩ := h
  exact Kd.R_ne ho hb ht
theorem IsS44.apartQ {w0 W : World} {g : Nat} {f0 : List Int} {f1 : Int} {α : Type} {d : Kd α} {e : Nat} {base : Nat} {ok : Nat → Prop} {v : Value} {xs : List α} (h : IsS44 w0 W g f0 f1) (ho : d.Q e W base ok v xs) (ht : ∀ q, q ∈ e :: d.E → q ≠ 44) : d.Q e W base (fun k => ok k ∧ k ≠ g) v xs := by
  obtain ⟨A0, c0, hb, hg, hr0⟩ := h
  exact Kd.Q_types ho hb ht
theorem IsS44.own_neQ {w0 W : World} {g : Nat} {f0 : List Int} {f1 : Int} {α : Type} {d : Kd α} {e : Nat} {base : Nat} {ok : Nat → Prop} {v : Value} {xs : List α} (h : IsS44 w0 W g f0 f1) (ho : d.Q e W base ok v xs) (ht : e ≠ 44) : some g ≠ v.ownBlock := by
  obtain ⟨A0, c0, hb, hg, hr0⟩ := h
  exact Kd.Q_ne ho hb ht
theorem IsS44.apartS {w0 W : World} {g : Nat} {f0 : List Int} {f1 : Int} {α : Type} {d : Kd α} {e : Nat} {base : Nat} {ok : Nat → Prop} {v : Value} {xs : List α} (h : IsS44 w0 W g f0 f1) (ho : d.S e W base ok v xs) (ht : ∀ q, q ∈ e :: d.E → q ≠ 44) : d.S e W base (fun k => ok k ∧ k ≠ g) v xs := by
  obtain ⟨A0, c0, hb, hg, hr0⟩ := h
  exact Kd.S_types ho hb ht
theorem IsS44.own_neS {w0 W : World} {g : Nat} {f0 : List Int} {f1 : Int} {α : Type} {d : Kd α} {e : Nat} {base : Nat} {ok : Nat → Prop} {v : Value} {xs : List α} (h : IsS44 w0 W g f0 f1) (ho : d.S e W base ok v xs) (ht : e ≠ 44) : some g ≠ v.ownBlock := by
  obtain ⟨A0, c0, hb, hg, hr0⟩ := h
  exact Kd.S_ne ho hb ht
theorem IsS44.lt {w0 W : World} {g : Nat} {f0 : List Int} {f1 : Int} (h : IsS44 w0 W g f0 f1) : g < W.heap.size := by
  obtain ⟨A0, c0, hb, hg, hr0⟩ := h
  exact blk_lt hb
theorem IsS44.ge {w0 W : World} {g : Nat} {f0 : List Int} {f1 : Int} (h : IsS44 w0 W g f0 f1) : w0.heap.size ≤ g := by
  obtain ⟨A0, c0, hb, hg, hr0⟩ := h
  exact hg
theorem IsS44.ne_blk {w0 W : World} {g : Nat} {f0 : List Int} {f1 : Int} {a : Nat} {cs : Array Value} {t : TypeId} {fr : Nat × Nat} (h : IsS44 w0 W g f0 f1) (hb2 : W.heap[a]? = some (.cells cs t fr)) (ht : t ≠ 44) : g ≠ a := by
  obtain ⟨A0, c0, hb, hg, hr0⟩ := h
  rintro rfl
  rw [hb] at hb2
  injection hb2 with hb2
  injection hb2 with _ ht2
  exact ht ht2.symm
theorem IsS44.far {w0 W : World} {g : Nat} {f0 : List Int} {f1 : Int} {p : Addr} (h : IsS44 w0 W g f0 f1) (hne : g ≠ p.block) (u : Value) : IsS44 w0 (W.setCell p u) g f0 f1 := by
  obtain ⟨A0, c0, hb, hg, hr0⟩ := h
  exact ⟨A0, c0, blk_far hb hne u, hg, hr0⟩
theorem cellS44_0 {W : World} {g : Nat} {A0 : Option Addr} {c0 : Nat} {f0 : List Int} {f1 : Int} (h : W.heap[g]? = some (.cells #[.slice A0 f0.length c0, .int .i64 f1] 44 (0, 0))) : W.cell? ⟨g, 0, none⟩ = some (.slice A0 f0.length c0) := (blk_cell h 0).trans rfl
theorem cellS44_1 {W : World} {g : Nat} {A0 : Option Addr} {c0 : Nat} {f0 : List Int} {f1 : Int} (h : W.heap[g]? = some (.cells #[.slice A0 f0.length c0, .int .i64 f1] 44 (0, 0))) : W.cell? ⟨g, 1, none⟩ = some (.int .i64 f1) := (blk_cell h 1).trans rfl
theorem IsS44.set_1 {w0 W : World} {g : Nat} {f0 : List Int} {f1 : Int} (h : IsS44 w0 W g f0 f1) (x : Int) : IsS44 w0 (W.setCell ⟨g, 1, none⟩ (.int .i64 x)) g f0 x := by
  obtain ⟨A0, c0, hb, hg, hr0⟩ := h
  exact ⟨A0, c0, by simpa using blk_set hb 1 (.int .i64 x), hg, hr0⟩
theorem IsS44.new (w0 W : World) (A0 : Option Addr) (c0 : Nat) (f0 : List Int) (f1 : Int) (hB : Below w0.heap.size w0 W) (hr0 : (Kd.C (Kd.int .u8) w0 A0 f0.length f0 ∧ f0.length ≤ c0)) : IsS44 w0 (W.alloc (.cells #[.slice A0 f0.length c0, .int .i64 f1] 44)) W.heap.size f0 f1 := ⟨A0, c0, by simpa using heap_alloc_new W _, hB.size, hr0⟩

/-! ### harfbuzz_parser_skipSpaces: function 21 -/
def harfbuzz_parser_skipSpaces.l0 : Nat → List Int → Int → Option (Int)
  | 0, _, _ => none
  | k + 1, x1000, x1001 => if x1001 < (x1000.length : Int) then (if 0 ≤ x1001 then ((harfbuzz_isSpace.f (rd x1000 x1001)).bind fun t105 => (if t105 = true then (harfbuzz_parser_skipSpaces.l0 k x1000 (wrap64 (x1001 + 1))) else (some x1001))) else (none)) else (some x1001)
def harfbuzz_parser_skipSpaces.f (k : Nat) (s0_0 : List Int) (s0_1 : Int) : Option (Int) := harfbuzz_parser_skipSpaces.l0 k s0_0 s0_1
theorem harfbuzz_parser_skipSpaces.mono_l : ∀ k, (∀ y0 y1, LeO (harfbuzz_parser_skipSpaces.l0 k y0 y1) (harfbuzz_parser_skipSpaces.l0 (k + 1) y0 y1))
  | 0 => fun _ _ r h => by simp [harfbuzz_parser_skipSpaces.l0] at h
  | k + 1 => by
    have ih0 := harfbuzz_parser_skipSpaces.mono_l k
    · intro y0 y1
      unfold harfbuzz_parser_skipSpaces.l0
      repeat' first
      | (with_reducible exact ih0 _ _)
      | (with_reducible exact LeO.refl _)
      | (with_reducible exact LeO.none _)
      | (with_reducible refine LeO.ite ?_ ?_)
      | (with_reducible refine LeO.bind ?_ (fun _ => ?_))
      | exact ih0 _ _
      | exact LeO.none _
      | refine LeO.ite ?_ ?_
      | refine LeO.bind ?_ (fun _ => ?_)
theorem harfbuzz_parser_skipSpaces.mono : ∀ a0 a1 k, LeO (harfbuzz_parser_skipSpaces.f k a0 a1) (harfbuzz_parser_skipSpaces.f (k + 1) a0 a1) := by
  intro a0 a1 k
  have ih0 := harfbuzz_parser_skipSpaces.mono_l k
  unfold harfbuzz_parser_skipSpaces.f
  repeat' first
      | (with_reducible exact ih0 _ _)
      | (with_reducible exact LeO.refl _)
      | (with_reducible exact LeO.none _)
      | (with_reducible refine LeO.ite ?_ ?_)
      | (with_reducible refine LeO.bind ?_ (fun _ => ?_))
      | exact ih0 _ _
      | exact LeO.none _
      | refine LeO.ite ?_ ?_
      | refine LeO.bind ?_ (fun _ => ?_)
set_option maxHeartbeats 8000000 in
set_option maxRecDepth 100000 in
theorem harfbuzz_parser_skipSpaces.calls (k : Nat) (g : Nat) (s0_0 : List Int) (s0_1 : Int) (r : Int) (w0 w : World) (hI : IsS44 w0 w g s0_0 s0_1) (hB : Below w0.heap.size w0 w) (h : harfbuzz_parser_skipSpaces.f k s0_0 s0_1 = some r) :
    Calls Tryd.prog 21 #[.pointer (some ⟨g, 0, none⟩)] w fun e w' => e = .returned (.tuple #[]) ∧ IsS44 w0 w' g s0_0 r ∧ Below w0.heap.size w0 w' ∧ KeepBut w w' g none := by
  have HI0 := Aside0.mk hI
  have HK := Aside0.mk (KeepBut.refl w g none)
  have HL := Aside0.mk hB.size
  clear hI
  have HW0 := Aside0.mk hB.size
  have HB := Aside0.mk hB
  clear hB
  have H : (harfbuzz_parser_skipSpaces.l0 k s0_0 s0_1) = some r := h
  clear h
  have H' := Aside0.mk H
  clear H
  go_enter Tryd.func21, Tryd.ntmps21
  go_wp2
  repeat (go_quiet (fail); try go_wp2)
  go_loopg [] k (fun kq w' => ∃ (x1001_1 : Int), Aside0 (harfbuzz_parser_skipSpaces.l0 kq s0_0 x1001_1 = some r) ∧ Aside0 (kq ≤ k) ∧ Aside0 (IsS44 w0 w' g s0_0 x1001_1) ∧ Aside0 (KeepBut w w' g none) ∧ Aside0 (Below w0.heap.size w0 w'))
  case atStart => exact ⟨(s0_1), H', ⟨Nat.le_refl _⟩, ⟨by repeat (first | (with_reducible first | exact HI0.out | apply IsS44.alloc | apply IsS44.drewN | apply IsS44.drew | apply IsS44.set_1) | exact HI0.out)⟩, ⟨by repeat (first | (with_reducible first | exact HK.out | apply KeepBut.set_ | apply keep_drewN | apply keep_drew | apply keep_alloc) | exact HK.out)⟩, ⟨by repeat (first | (with_reducible first | exact HB.out | apply below_alloc | apply pw_below_drewN | apply below_drew1 | refine below_set ?_ (IsS44.ge HI0.out)) | exact HB.out)⟩⟩
  case round =>
    clear H'
    obtain ⟨x1001_1, HA, HK1, HI0, HK, HB⟩ := hrel
    cases gk with
    | zero => exact absurd HA.out (by simp [harfbuzz_parser_skipSpaces.l0])
    | succ k1 =>
      have H := HA.out
      clear HA
      simp only [harfbuzz_parser_skipSpaces.l0] at H
      by_cases c2 : x1001_1 < (s0_0.length : Int)
      · rw [if_pos c2] at H
        have c2b0 : decide (x1001_1 < (s0_0.length : Int)) = true := decide_eq_true c2
        clear c2
        by_cases c3 : 0 ≤ x1001_1
        · rw [if_pos c3] at H
          have c3b0 : decide (0 ≤ x1001_1) = true := decide_eq_true c3
          clear c3
          replace H := Option.bind_eq_some_iff.mp H
          obtain ⟨t105, A40, H⟩ := H
          replace H : (if t105 = true then (harfbuzz_parser_skipSpaces.l0 k1 s0_0 (wrap64 (x1001_1 + 1))) else (some x1001_1)) = some r := H
          have A4 := Aside0.mk A40
          clear A40
          by_cases c5 : t105 = true
          · subst c5
            have H1 : (harfbuzz_parser_skipSpaces.l0 k1 s0_0 (wrap64 (x1001_1 + 1))) = some r := by rw [if_pos rfl] at H; exact H
            clear H
            have H := H1
            clear H1
            have H' := Aside0.mk H
            clear H
            obtain ⟨ASz6_0, cSz6_0, HGz6, hgz6, HSz6_0⟩ := HI0.out
            have hcz6_0 := cellS44_0 HGz6
            have hcz6_1 := cellS44_1 HGz6
            have hfz6_1 := blk_frozen HGz6 1
            clear HGz6 hgz6
            have HCz6_0 := Aside0.mk HSz6_0.2
            replace HSz6_0 := HSz6_0.1
            have p104 : 0 ≤ (x1001_1 : Int) := of_decide_eq_true (by first | (with_reducible assumption) | assumption)
            have q104 : x1001_1 < (s0_0.length : Int) := of_decide_eq_true (by first | (with_reducible assumption) | assumption)
            obtain ⟨ad104, e104, hx104_0⟩ := Kd.at_int HSz6_0 x1001_1 p104 q104
            cases e104
            replace hx104_0 := pw_cell_below HB.out hx104_0
            replace p104 := eq_true p104
            replace q104 := eq_true q104
            go_wp2_with (first | (go_at_call 32; (with_reducible refine (harfbuzz_isSpace.calls (rd s0_0 x1001_1) true _ A4.out).mono ?_); rintro e w' ⟨rfl, ⟨nd, rfl⟩⟩; (try first | exact ⟨rfl, _, World.drewN_drewN _ _ _⟩ | exact ⟨rfl, _, Eq.trans (World.drewN_drewN _ _ _) (congrArg (World.drewN _) (Nat.add_assoc _ _ _))⟩)))
            repeat (go_quiet (first | (go_at_call 32; (with_reducible refine (harfbuzz_isSpace.calls (rd s0_0 x1001_1) true _ A4.out).mono ?_); rintro e w' ⟨rfl, ⟨nd, rfl⟩⟩; (try first | exact ⟨rfl, _, World.drewN_drewN _ _ _⟩ | exact ⟨rfl, _, Eq.trans (World.drewN_drewN _ _ _) (congrArg (World.drewN _) (Nat.add_assoc _ _ _))⟩))); try go_wp2_with (first | (go_at_call 32; (with_reducible refine (harfbuzz_isSpace.calls (rd s0_0 x1001_1) true _ A4.out).mono ?_); rintro e w' ⟨rfl, ⟨nd, rfl⟩⟩; (try first | exact ⟨rfl, _, World.drewN_drewN _ _ _⟩ | exact ⟨rfl, _, Eq.trans (World.drewN_drewN _ _ _) (congrArg (World.drewN _) (Nat.add_assoc _ _ _))⟩))))
            go_roundg k1
            case measure => have := HK1.out; omega
            case rel => exact ⟨(wrap64 (x1001_1 + 1)), H', ⟨by have := HK1.out; omega⟩, ⟨by repeat (first | (with_reducible first | exact HI0.out | apply IsS44.alloc | apply IsS44.drewN | apply IsS44.drew | apply IsS44.set_1) | exact HI0.out)⟩, ⟨by repeat (first | (with_reducible first | exact HK.out | apply KeepBut.set_ | apply keep_drewN | apply keep_drew | apply keep_alloc) | exact HK.out)⟩, ⟨by repeat (first | (with_reducible first | exact HB.out | apply below_alloc | apply pw_below_drewN | apply below_drew1 | refine below_set ?_ (IsS44.ge HI0.out)) | exact HB.out)⟩⟩
          · replace c5 := Bool.eq_false_iff.mpr c5
            subst c5
            have H1 : (some x1001_1) = some r := by rw [if_neg (show ¬ (false = true) by decide)] at H; exact H
            clear H
            have H := H1
            clear H1
            obtain rfl := Option.some.inj H
            obtain ⟨ASz7_0, cSz7_0, HGz7, hgz7, HSz7_0⟩ := HI0.out
            have hcz7_0 := cellS44_0 HGz7
            have hcz7_1 := cellS44_1 HGz7
            have hfz7_1 := blk_frozen HGz7 1
            clear HGz7 hgz7
            have HCz7_0 := Aside0.mk HSz7_0.2
            replace HSz7_0 := HSz7_0.1
            have p104 : 0 ≤ (x1001_1 : Int) := of_decide_eq_true (by first | (with_reducible assumption) | assumption)
            have q104 : x1001_1 < (s0_0.length : Int) := of_decide_eq_true (by first | (with_reducible assumption) | assumption)
            obtain ⟨ad104, e104, hx104_0⟩ := Kd.at_int HSz7_0 x1001_1 p104 q104
            cases e104
            replace hx104_0 := pw_cell_below HB.out hx104_0
            replace p104 := eq_true p104
            replace q104 := eq_true q104
            go_wp2_with (first | (go_at_call 32; (with_reducible refine (harfbuzz_isSpace.calls (rd s0_0 x1001_1) false _ A4.out).mono ?_); rintro e w' ⟨rfl, ⟨nd, rfl⟩⟩; (try first | exact ⟨rfl, _, World.drewN_drewN _ _ _⟩ | exact ⟨rfl, _, Eq.trans (World.drewN_drewN _ _ _) (congrArg (World.drewN _) (Nat.add_assoc _ _ _))⟩)))
            repeat (go_quiet (first | (go_at_call 32; (with_reducible refine (harfbuzz_isSpace.calls (rd s0_0 x1001_1) false _ A4.out).mono ?_); rintro e w' ⟨rfl, ⟨nd, rfl⟩⟩; (try first | exact ⟨rfl, _, World.drewN_drewN _ _ _⟩ | exact ⟨rfl, _, Eq.trans (World.drewN_drewN _ _ _) (congrArg (World.drewN _) (Nat.add_assoc _ _ _))⟩))); try go_wp2_with (first | (go_at_call 32; (with_reducible refine (harfbuzz_isSpace.calls (rd s0_0 x1001_1) false _ A4.out).mono ?_); rintro e w' ⟨rfl, ⟨nd, rfl⟩⟩; (try first | exact ⟨rfl, _, World.drewN_drewN _ _ _⟩ | exact ⟨rfl, _, Eq.trans (World.drewN_drewN _ _ _) (congrArg (World.drewN _) (Nat.add_assoc _ _ _))⟩))))
            first | go_end0 | ((try simp only [Exit.inBlock, Exit.then]); refine bodyPost_ret (results_none rfl _ _ _) rfl ?_)
            exact ⟨by first | rfl | (simp [errW_none, errW_some] <;> rfl) | (simp [*, errW_none, errW_some] <;> rfl), by repeat (first | (with_reducible first | exact HI0.out | apply IsS44.alloc | apply IsS44.drewN | apply IsS44.drew | apply IsS44.set_1) | exact HI0.out), by repeat (first | (with_reducible first | exact HB.out | apply below_alloc | apply pw_below_drewN | apply below_drew1 | refine below_set ?_ (IsS44.ge HI0.out)) | exact HB.out), by repeat (first | (with_reducible first | exact HK.out | apply KeepBut.set_ | apply keep_drewN | apply keep_drew | apply keep_alloc) | exact HK.out)⟩
        · rw [if_neg c3] at H
          exact absurd H (by simp)
      · rw [if_neg c2] at H
        have c2b0 : decide (x1001_1 < (s0_0.length : Int)) = false := decide_eq_false c2
        clear c2
        obtain rfl := Option.some.inj H
        obtain ⟨ASz8_0, cSz8_0, HGz8, hgz8, HSz8_0⟩ := HI0.out
        have hcz8_0 := cellS44_0 HGz8
        have hcz8_1 := cellS44_1 HGz8
        have hfz8_1 := blk_frozen HGz8 1
        clear HGz8 hgz8
        have HCz8_0 := Aside0.mk HSz8_0.2
        replace HSz8_0 := HSz8_0.1
        go_wp2
        repeat (go_quiet (fail); try go_wp2)
        first | go_end0 | ((try simp only [Exit.inBlock, Exit.then]); refine bodyPost_ret (results_none rfl _ _ _) rfl ?_)
        exact ⟨by first | rfl | (simp [errW_none, errW_some] <;> rfl) | (simp [*, errW_none, errW_some] <;> rfl), by repeat (first | (with_reducible first | exact HI0.out | apply IsS44.alloc | apply IsS44.drewN | apply IsS44.drew | apply IsS44.set_1) | exact HI0.out), by repeat (first | (with_reducible first | exact HB.out | apply below_alloc | apply pw_below_drewN | apply below_drew1 | refine below_set ?_ (IsS44.ge HI0.out)) | exact HB.out), by repeat (first | (with_reducible first | exact HK.out | apply KeepBut.set_ | apply keep_drewN | apply keep_drew | apply keep_alloc) | exact HK.out)⟩

/-! ### harfbuzz_parser_parseChar: function 27 -/
def harfbuzz_parser_parseChar.f (k : Nat) (s0_0 : List Int) (s0_1 : Int) (a1 : Int) : Option (Bool × Int) := (harfbuzz_parser_skipSpaces.f k s0_0 s0_1).bind fun t106 => (if t106 = (s0_0.length : Int) then (some (false, t106)) else (if 0 ≤ t106 then (if t106 < (s0_0.length : Int) then (if (rd s0_0 t106) = a1 then (some (true, wrap64 (t106 + 1))) else (some (false, t106))) else (none)) else (none)))
theorem harfbuzz_parser_parseChar.mono : ∀ a0 a1 a2 k, LeO (harfbuzz_parser_parseChar.f k a0 a1 a2) (harfbuzz_parser_parseChar.f (k + 1) a0 a1 a2) := by
  intro a0 a1 a2 k
  unfold harfbuzz_parser_parseChar.f
  repeat' first
      | (with_reducible exact harfbuzz_parser_skipSpaces.mono _ _ _)
      | (with_reducible exact LeO.refl _)
      | (with_reducible exact LeO.none _)
      | (with_reducible refine LeO.ite ?_ ?_)
      | (with_reducible refine LeO.bind ?_ (fun _ => ?_))
      | exact harfbuzz_parser_skipSpaces.mono _ _ _
      | exact LeO.none _
      | refine LeO.ite ?_ ?_
      | refine LeO.bind ?_ (fun _ => ?_)
set_option maxHeartbeats 8000000 in
set_option maxRecDepth 100000 in
theorem harfbuzz_parser_parseChar.calls (k : Nat) (g : Nat) (s0_0 : List Int) (s0_1 : Int) (a1 : Int) (r1 : Bool) (r2 : Int) (w0 w : World) (hI : IsS44 w0 w g s0_0 s0_1) (hB : Below w0.heap.size w0 w) (h : harfbuzz_parser_parseChar.f k s0_0 s0_1 a1 = some (r1, r2)) :
    Calls Tryd.prog 27 #[.pointer (some ⟨g, 0, none⟩), .int .u8 a1] w fun e w' => e = .returned (.bool r1) ∧ IsS44 w0 w' g s0_0 r2 ∧ Below w0.heap.size w0 w' ∧ KeepBut w w' g none := by
  have HI0 := Aside0.mk hI
  have HK := Aside0.mk (KeepBut.refl w g none)
  have HL := Aside0.mk hB.size
  clear hI
  have HW0 := Aside0.mk hB.size
  have HB := Aside0.mk hB
  clear hB
  have H : ((harfbuzz_parser_skipSpaces.f k s0_0 s0_1).bind fun t106 => (if t106 = (s0_0.length : Int) then (some (false, t106)) else (if 0 ≤ t106 then (if t106 < (s0_0.length : Int) then (if (rd s0_0 t106) = a1 then (some (true, wrap64 (t106 + 1))) else (some (false, t106))) else (none)) else (none)))) = some (r1, r2) := h
  clear h
  replace H := Option.bind_eq_some_iff.mp H
  obtain ⟨t106, A30, H⟩ := H
  replace H : (if t106 = (s0_0.length : Int) then (some (false, t106)) else (if 0 ≤ t106 then (if t106 < (s0_0.length : Int) then (if (rd s0_0 t106) = a1 then (some (true, wrap64 (t106 + 1))) else (some (false, t106))) else (none)) else (none))) = some (r1, r2) := H
  have A3 := Aside0.mk A30
  clear A30
  by_cases c4 : t106 = (s0_0.length : Int)
  · rw [if_pos c4] at H
    have c4b0 : (t106 == (s0_0.length : Int)) = true := beq_iff_eq.mpr c4
    have c4b1 : (t106 != (s0_0.length : Int)) = false := bne_eq_false_iff_eq.mpr c4
    clear c4
    simp only [Option.some.injEq, Prod.mk.injEq] at H
    obtain ⟨rfl, rfl⟩ := H
    go_enter Tryd.func27, Tryd.ntmps27
    go_wp2_with (first | (go_at_call 21; (with_reducible refine (harfbuzz_parser_skipSpaces.calls k g s0_0 s0_1 t106 w0 _ ?side1 ?side2 A3.out).mono ?_); (case side1 => repeat (first | (with_reducible first | exact HI0.out | apply IsS44.alloc | apply IsS44.drewN | apply IsS44.drew | apply IsS44.set_1) | exact HI0.out)); (case side2 => repeat (first | (with_reducible first | exact HB.out | apply below_alloc | apply pw_below_drewN | apply below_drew1 | refine below_set ?_ (IsS44.ge HI0.out)) | exact HB.out)); rintro e w5 ⟨rfl, hi, hb, hk⟩; have n0_ := Aside0.mk (KeepBut.trans (by repeat (first | (with_reducible first | exact HK.out | apply KeepBut.set_ | apply keep_drewN | apply keep_drew | apply keep_alloc) | exact HK.out)) hk (.inl rfl)); have n1_ := Aside0.mk (hb); have n2_ := Aside0.mk (hi); clear HK; clear HB; clear HI0; have HK := n0_; have HB := n1_; have HI0 := n2_; clear n0_ n1_ n2_; (try clear hb); (try clear hb2); (try clear hk); (try clear hi); obtain ⟨ASz6_0, cSz6_0, HGz6, hgz6, HSz6_0⟩ := HI0.out; have hcz6_0 := cellS44_0 HGz6; have hcz6_1 := cellS44_1 HGz6; have hfz6_1 := blk_frozen HGz6 1; clear HGz6 hgz6; have HCz6_0 := Aside0.mk HSz6_0.2; replace HSz6_0 := HSz6_0.1))
    repeat (go_quiet (first | (go_at_call 21; (with_reducible refine (harfbuzz_parser_skipSpaces.calls k g s0_0 s0_1 t106 w0 _ ?side1 ?side2 A3.out).mono ?_); (case side1 => repeat (first | (with_reducible first | exact HI0.out | apply IsS44.alloc | apply IsS44.drewN | apply IsS44.drew | apply IsS44.set_1) | exact HI0.out)); (case side2 => repeat (first | (with_reducible first | exact HB.out | apply below_alloc | apply pw_below_drewN | apply below_drew1 | refine below_set ?_ (IsS44.ge HI0.out)) | exact HB.out)); rintro e w5 ⟨rfl, hi, hb, hk⟩; have n0_ := Aside0.mk (KeepBut.trans (by repeat (first | (with_reducible first | exact HK.out | apply KeepBut.set_ | apply keep_drewN | apply keep_drew | apply keep_alloc) | exact HK.out)) hk (.inl rfl)); have n1_ := Aside0.mk (hb); have n2_ := Aside0.mk (hi); clear HK; clear HB; clear HI0; have HK := n0_; have HB := n1_; have HI0 := n2_; clear n0_ n1_ n2_; (try clear hb); (try clear hb2); (try clear hk); (try clear hi); obtain ⟨ASz6_0, cSz6_0, HGz6, hgz6, HSz6_0⟩ := HI0.out; have hcz6_0 := cellS44_0 HGz6; have hcz6_1 := cellS44_1 HGz6; have hfz6_1 := blk_frozen HGz6 1; clear HGz6 hgz6; have HCz6_0 := Aside0.mk HSz6_0.2; replace HSz6_0 := HSz6_0.1)); try go_wp2_with (first | (go_at_call 21; (with_reducible refine (harfbuzz_parser_skipSpaces.calls k g s0_0 s0_1 t106 w0 _ ?side1 ?side2 A3.out).mono ?_); (case side1 => repeat (first | (with_reducible first | exact HI0.out | apply IsS44.alloc | apply IsS44.drewN | apply IsS44.drew | apply IsS44.set_1) | exact HI0.out)); (case side2 => repeat (first | (with_reducible first | exact HB.out | apply below_alloc | apply pw_below_drewN | apply below_drew1 | refine below_set ?_ (IsS44.ge HI0.out)) | exact HB.out)); rintro e w5 ⟨rfl, hi, hb, hk⟩; have n0_ := Aside0.mk (KeepBut.trans (by repeat (first | (with_reducible first | exact HK.out | apply KeepBut.set_ | apply keep_drewN | apply keep_drew | apply keep_alloc) | exact HK.out)) hk (.inl rfl)); have n1_ := Aside0.mk (hb); have n2_ := Aside0.mk (hi); clear HK; clear HB; clear HI0; have HK := n0_; have HB := n1_; have HI0 := n2_; clear n0_ n1_ n2_; (try clear hb); (try clear hb2); (try clear hk); (try clear hi); obtain ⟨ASz6_0, cSz6_0, HGz6, hgz6, HSz6_0⟩ := HI0.out; have hcz6_0 := cellS44_0 HGz6; have hcz6_1 := cellS44_1 HGz6; have hfz6_1 := blk_frozen HGz6 1; clear HGz6 hgz6; have HCz6_0 := Aside0.mk HSz6_0.2; replace HSz6_0 := HSz6_0.1)))
    go_ret
    exact ⟨by first | rfl | (simp [errW_none, errW_some] <;> rfl) | (simp [*, errW_none, errW_some] <;> rfl), by repeat (first | (with_reducible first | exact HI0.out | apply IsS44.alloc | apply IsS44.drewN | apply IsS44.drew | apply IsS44.set_1) | exact HI0.out), by repeat (first | (with_reducible first | exact HB.out | apply below_alloc | apply pw_below_drewN | apply below_drew1 | refine below_set ?_ (IsS44.ge HI0.out)) | exact HB.out), by repeat (first | (with_reducible first | exact HK.out | apply KeepBut.set_ | apply keep_drewN | apply keep_drew | apply keep_alloc) | exact HK.out)⟩
  · rw [if_neg c4] at H
    have c4b0 : (t106 == (s0_0.length : Int)) = false := beq_eq_false_iff_ne.mpr c4
    have c4b1 : (t106 != (s0_0.length : Int)) = true := bne_iff_ne.mpr c4
    by_cases c7 : 0 ≤ t106
    · rw [if_pos c7] at H
      have c7b0 : decide (0 ≤ t106) = true := decide_eq_true c7
      clear c7
      by_cases c8 : t106 < (s0_0.length : Int)
      · rw [if_pos c8] at H
        have c8b0 : decide (t106 < (s0_0.length : Int)) = true := decide_eq_true c8
        clear c8
        by_cases c9 : (rd s0_0 t106) = a1
        · rw [if_pos c9] at H
          have c9b0 : ((rd s0_0 t106) == a1) = true := beq_iff_eq.mpr c9
          have c9b1 : ((rd s0_0 t106) != a1) = false := bne_eq_false_iff_eq.mpr c9
          clear c9
          simp only [Option.some.injEq, Prod.mk.injEq] at H
          obtain ⟨rfl, rfl⟩ := H
          go_enter Tryd.func27, Tryd.ntmps27
          go_wp2_with (first | (go_at_call 21; (with_reducible refine (harfbuzz_parser_skipSpaces.calls k g s0_0 s0_1 t106 w0 _ ?side1 ?side2 A3.out).mono ?_); (case side1 => repeat (first | (with_reducible first | exact HI0.out | apply IsS44.alloc | apply IsS44.drewN | apply IsS44.drew | apply IsS44.set_1) | exact HI0.out)); (case side2 => repeat (first | (with_reducible first | exact HB.out | apply below_alloc | apply pw_below_drewN | apply below_drew1 | refine below_set ?_ (IsS44.ge HI0.out)) | exact HB.out)); rintro e w10 ⟨rfl, hi, hb, hk⟩; have n0_ := Aside0.mk (KeepBut.trans (by repeat (first | (with_reducible first | exact HK.out | apply KeepBut.set_ | apply keep_drewN | apply keep_drew | apply keep_alloc) | exact HK.out)) hk (.inl rfl)); have n1_ := Aside0.mk (hb); have n2_ := Aside0.mk (hi); clear HK; clear HB; clear HI0; have HK := n0_; have HB := n1_; have HI0 := n2_; clear n0_ n1_ n2_; (try clear hb); (try clear hb2); (try clear hk); (try clear hi); obtain ⟨ASz11_0, cSz11_0, HGz11, hgz11, HSz11_0⟩ := HI0.out; have hcz11_0 := cellS44_0 HGz11; have hcz11_1 := cellS44_1 HGz11; have hfz11_1 := blk_frozen HGz11 1; clear HGz11 hgz11; have HCz11_0 := Aside0.mk HSz11_0.2; replace HSz11_0 := HSz11_0.1; have p107 : 0 ≤ (t106 : Int) := of_decide_eq_true (by first | (with_reducible assumption) | assumption); have q107 : t106 < (s0_0.length : Int) := of_decide_eq_true (by first | (with_reducible assumption) | assumption); obtain ⟨ad107, e107, hx107_0⟩ := Kd.at_int HSz11_0 t106 p107 q107; cases e107; replace hx107_0 := pw_cell_below HB.out hx107_0; replace p107 := eq_true p107; replace q107 := eq_true q107))
          repeat (go_quiet (first | (go_at_call 21; (with_reducible refine (harfbuzz_parser_skipSpaces.calls k g s0_0 s0_1 t106 w0 _ ?side1 ?side2 A3.out).mono ?_); (case side1 => repeat (first | (with_reducible first | exact HI0.out | apply IsS44.alloc | apply IsS44.drewN | apply IsS44.drew | apply IsS44.set_1) | exact HI0.out)); (case side2 => repeat (first | (with_reducible first | exact HB.out | apply below_alloc | apply pw_below_drewN | apply below_drew1 | refine below_set ?_ (IsS44.ge HI0.out)) | exact HB.out)); rintro e w10 ⟨rfl, hi, hb, hk⟩; have n0_ := Aside0.mk (KeepBut.trans (by repeat (first | (with_reducible first | exact HK.out | apply KeepBut.set_ | apply keep_drewN | apply keep_drew | apply keep_alloc) | exact HK.out)) hk (.inl rfl)); have n1_ := Aside0.mk (hb); have n2_ := Aside0.mk (hi); clear HK; clear HB; clear HI0; have HK := n0_; have HB := n1_; have HI0 := n2_; clear n0_ n1_ n2_; (try clear hb); (try clear hb2); (try clear hk); (try clear hi); obtain ⟨ASz11_0, cSz11_0, HGz11, hgz11, HSz11_0⟩ := HI0.out; have hcz11_0 := cellS44_0 HGz11; have hcz11_1 := cellS44_1 HGz11; have hfz11_1 := blk_frozen HGz11 1; clear HGz11 hgz11; have HCz11_0 := Aside0.mk HSz11_0.2; replace HSz11_0 := HSz11_0.1; have p107 : 0 ≤ (t106 : Int) := of_decide_eq_true (by first | (with_reducible assumption) | assumption); have q107 : t106 < (s0_0.length : Int) := of_decide_eq_true (by first | (with_reducible assumption) | assumption); obtain ⟨ad107, e107, hx107_0⟩ := Kd.at_int HSz11_0 t106 p107 q107; cases e107; replace hx107_0 := pw_cell_below HB.out hx107_0; replace p107 := eq_true p107; replace q107 := eq_true q107)); try go_wp2_with (first | (go_at_call 21; (with_reducible refine (harfbuzz_parser_skipSpaces.calls k g s0_0 s0_1 t106 w0 _ ?side1 ?side2 A3.out).mono ?_); (case side1 => repeat (first | (with_reducible first | exact HI0.out | apply IsS44.alloc | apply IsS44.drewN | apply IsS44.drew | apply IsS44.set_1) | exact HI0.out)); (case side2 => repeat (first | (with_reducible first | exact HB.out | apply below_alloc | apply pw_below_drewN | apply below_drew1 | refine below_set ?_ (IsS44.ge HI0.out)) | exact HB.out)); rintro e w10 ⟨rfl, hi, hb, hk⟩; have n0_ := Aside0.mk (KeepBut.trans (by repeat (first | (with_reducible first | exact HK.out | apply KeepBut.set_ | apply keep_drewN | apply keep_drew | apply keep_alloc) | exact HK.out)) hk (.inl rfl)); have n1_ := Aside0.mk (hb); have n2_ := Aside0.mk (hi); clear HK; clear HB; clear HI0; have HK := n0_; have HB := n1_; have HI0 := n2_; clear n0_ n1_ n2_; (try clear hb); (try clear hb2); (try clear hk); (try clear hi); obtain ⟨ASz11_0, cSz11_0, HGz11, hgz11, HSz11_0⟩ := HI0.out; have hcz11_0 := cellS44_0 HGz11; have hcz11_1 := cellS44_1 HGz11; have hfz11_1 := blk_frozen HGz11 1; clear HGz11 hgz11; have HCz11_0 := Aside0.mk HSz11_0.2; replace HSz11_0 := HSz11_0.1; have p107 : 0 ≤ (t106 : Int) := of_decide_eq_true (by first | (with_reducible assumption) | assumption); have q107 : t106 < (s0_0.length : Int) := of_decide_eq_true (by first | (with_reducible assumption) | assumption); obtain ⟨ad107, e107, hx107_0⟩ := Kd.at_int HSz11_0 t106 p107 q107; cases e107; replace hx107_0 := pw_cell_below HB.out hx107_0; replace p107 := eq_true p107; replace q107 := eq_true q107)))
          go_ret
          exact ⟨by first | rfl | (simp [errW_none, errW_some] <;> rfl) | (simp [*, errW_none, errW_some] <;> rfl), by repeat (first | (with_reducible first | exact HI0.out | apply IsS44.alloc | apply IsS44.drewN | apply IsS44.drew | apply IsS44.set_1) | exact HI0.out), by repeat (first | (with_reducible first | exact HB.out | apply below_alloc | apply pw_below_drewN | apply below_drew1 | refine below_set ?_ (IsS44.ge HI0.out)) | exact HB.out), by repeat (first | (with_reducible first | exact HK.out | apply KeepBut.set_ | apply keep_drewN | apply keep_drew | apply keep_alloc) | exact HK.out)⟩
        · rw [if_neg c9] at H
          have c9b0 : ((rd s0_0 t106) == a1) = false := beq_eq_false_iff_ne.mpr c9
          have c9b1 : ((rd s0_0 t106) != a1) = true := bne_iff_ne.mpr c9
          simp only [Option.some.injEq, Prod.mk.injEq] at H
          obtain ⟨rfl, rfl⟩ := H
          go_enter Tryd.func27, Tryd.ntmps27
          go_wp2_with (first | (go_at_call 21; (with_reducible refine (harfbuzz_parser_skipSpaces.calls k g s0_0 s0_1 t106 w0 _ ?side1 ?side2 A3.out).mono ?_); (case side1 => repeat (first | (with_reducible first | exact HI0.out | apply IsS44.alloc | apply IsS44.drewN | apply IsS44.drew | apply IsS44.set_1) | exact HI0.out)); (case side2 => repeat (first | (with_reducible first | exact HB.out | apply below_alloc | apply pw_below_drewN | apply below_drew1 | refine below_set ?_ (IsS44.ge HI0.out)) | exact HB.out)); rintro e w12 ⟨rfl, hi, hb, hk⟩; have n0_ := Aside0.mk (KeepBut.trans (by repeat (first | (with_reducible first | exact HK.out | apply KeepBut.set_ | apply keep_drewN | apply keep_drew | apply keep_alloc) | exact HK.out)) hk (.inl rfl)); have n1_ := Aside0.mk (hb); have n2_ := Aside0.mk (hi); clear HK; clear HB; clear HI0; have HK := n0_; have HB := n1_; have HI0 := n2_; clear n0_ n1_ n2_; (try clear hb); (try clear hb2); (try clear hk); (try clear hi); obtain ⟨ASz13_0, cSz13_0, HGz13, hgz13, HSz13_0⟩ := HI0.out; have hcz13_0 := cellS44_0 HGz13; have hcz13_1 := cellS44_1 HGz13; have hfz13_1 := blk_frozen HGz13 1; clear HGz13 hgz13; have HCz13_0 := Aside0.mk HSz13_0.2; replace HSz13_0 := HSz13_0.1; have p107 : 0 ≤ (t106 : Int) := of_decide_eq_true (by first | (with_reducible assumption) | assumption); have q107 : t106 < (s0_0.length : Int) := of_decide_eq_true (by first | (with_reducible assumption) | assumption); obtain ⟨ad107, e107, hx107_0⟩ := Kd.at_int HSz13_0 t106 p107 q107; cases e107; replace hx107_0 := pw_cell_below HB.out hx107_0; replace p107 := eq_true p107; replace q107 := eq_true q107))
          repeat (go_quiet (first | (go_at_call 21; (with_reducible refine (harfbuzz_parser_skipSpaces.calls k g s0_0 s0_1 t106 w0 _ ?side1 ?side2 A3.out).mono ?_); (case side1 => repeat (first | (with_reducible first | exact HI0.out | apply IsS44.alloc | apply IsS44.drewN | apply IsS44.drew | apply IsS44.set_1) | exact HI0.out)); (case side2 => repeat (first | (with_reducible first | exact HB.out | apply below_alloc | apply pw_below_drewN | apply below_drew1 | refine below_set ?_ (IsS44.ge HI0.out)) | exact HB.out)); rintro e w12 ⟨rfl, hi, hb, hk⟩; have n0_ := Aside0.mk (KeepBut.trans (by repeat (first | (with_reducible first | exact HK.out | apply KeepBut.set_ | apply keep_drewN | apply keep_drew | apply keep_alloc) | exact HK.out)) hk (.inl rfl)); have n1_ := Aside0.mk (hb); have n2_ := Aside0.mk (hi); clear HK; clear HB; clear HI0; have HK := n0_; have HB := n1_; have HI0 := n2_; clear n0_ n1_ n2_; (try clear hb); (try clear hb2); (try clear hk); (try clear hi); obtain ⟨ASz13_0, cSz13_0, HGz13, hgz13, HSz13_0⟩ := HI0.out; have hcz13_0 := cellS44_0 HGz13; have hcz13_1 := cellS44_1 HGz13; have hfz13_1 := blk_frozen HGz13 1; clear HGz13 hgz13; have HCz13_0 := Aside0.mk HSz13_0.2; replace HSz13_0 := HSz13_0.1; have p107 : 0 ≤ (t106 : Int) := of_decide_eq_true (by first | (with_reducible assumption) | assumption); have q107 : t106 < (s0_0.length : Int) := of_decide_eq_true (by first | (with_reducible assumption) | assumption); obtain ⟨ad107, e107, hx107_0⟩ := Kd.at_int HSz13_0 t106 p107 q107; cases e107; replace hx107_0 := pw_cell_below HB.out hx107_0; replace p107 := eq_true p107; replace q107 := eq_true q107)); try go_wp2_with (first | (go_at_call 21; (with_reducible refine (harfbuzz_parser_skipSpaces.calls k g s0_0 s0_1 t106 w0 _ ?side1 ?side2 A3.out).mono ?_); (case side1 => repeat (first | (with_reducible first | exact HI0.out | apply IsS44.alloc | apply IsS44.drewN | apply IsS44.drew | apply IsS44.set_1) | exact HI0.out)); (case side2 => repeat (first | (with_reducible first | exact HB.out | apply below_alloc | apply pw_below_drewN | apply below_drew1 | refine below_set ?_ (IsS44.ge HI0.out)) | exact HB.out)); rintro e w12 ⟨rfl, hi, hb, hk⟩; have n0_ := Aside0.mk (KeepBut.trans (by repeat (first | (with_reducible first | exact HK.out | apply KeepBut.set_ | apply keep_drewN | apply keep_drew | apply keep_alloc) | exact HK.out)) hk (.inl rfl)); have n1_ := Aside0.mk (hb); have n2_ := Aside0.mk (hi); clear HK; clear HB; clear HI0; have HK := n0_; have HB := n1_; have HI0 := n2_; clear n0_ n1_ n2_; (try clear hb); (try clear hb2); (try clear hk); (try clear hi); obtain ⟨ASz13_0, cSz13_0, HGz13, hgz13, HSz13_0⟩ := HI0.out; have hcz13_0 := cellS44_0 HGz13; have hcz13_1 := cellS44_1 HGz13; have hfz13_1 := blk_frozen HGz13 1; clear HGz13 hgz13; have HCz13_0 := Aside0.mk HSz13_0.2; replace HSz13_0 := HSz13_0.1; have p107 : 0 ≤ (t106 : Int) := of_decide_eq_true (by first | (with_reducible assumption) | assumption); have q107 : t106 < (s0_0.length : Int) := of_decide_eq_true (by first | (with_reducible assumption) | assumption); obtain ⟨ad107, e107, hx107_0⟩ := Kd.at_int HSz13_0 t106 p107 q107; cases e107; replace hx107_0 := pw_cell_below HB.out hx107_0; replace p107 := eq_true p107; replace q107 := eq_true q107)))
          go_ret
          exact ⟨by first | rfl | (simp [errW_none, errW_some] <;> rfl) | (simp [*, errW_none, errW_some] <;> rfl), by repeat (first | (with_reducible first | exact HI0.out | apply IsS44.alloc | apply IsS44.drewN | apply IsS44.drew | apply IsS44.set_1) | exact HI0.out), by repeat (first | (with_reducible first | exact HB.out | apply below_alloc | apply pw_below_drewN | apply below_drew1 | refine below_set ?_ (IsS44.ge HI0.out)) | exact HB.out), by repeat (first | (with_reducible first | exact HK.out | apply KeepBut.set_ | apply keep_drewN | apply keep_drew | apply keep_alloc) | exact HK.out)⟩
      · rw [if_neg c8] at H
        exact absurd H (by simp)
    · rw [if_neg c7] at H
      exact absurd H (by simp)

/-! ### harfbuzz_parser_parseFeatureValuePrefix: function 17 -/
def harfbuzz_parser_parseFeatureValuePrefix.f (k : Nat) (s0_0 : List Int) (s0_1 : Int) : Option (Int × Int) := (harfbuzz_parser_parseChar.f k s0_0 s0_1 45).bind fun bt108 => (if bt108.1 = true then (some (0, bt108.2)) else ((harfbuzz_parser_parseChar.f k s0_0 bt108.2 43).bind fun bt110 => (some (1, bt110.2))))
theorem harfbuzz_parser_parseFeatureValuePrefix.mono : ∀ a0 a1 k, LeO (harfbuzz_parser_parseFeatureValuePrefix.f k a0 a1) (harfbuzz_parser_parseFeatureValuePrefix.f (k + 1) a0 a1) := by
  intro a0 a1 k
  unfold harfbuzz_parser_parseFeatureValuePrefix.f
  repeat' first
      | (with_reducible exact harfbuzz_parser_parseChar.mono _ _ _ _)
      | (with_reducible exact LeO.refl _)
      | (with_reducible exact LeO.none _)
      | (with_reducible refine LeO.ite ?_ ?_)
      | (with_reducible refine LeO.bind ?_ (fun _ => ?_))
      | exact harfbuzz_parser_parseChar.mono _ _ _ _
      | exact LeO.none _
      | refine LeO.ite ?_ ?_
      | refine LeO.bind ?_ (fun _ => ?_)
set_option maxHeartbeats 8000000 in
set_option maxRecDepth 100000 in
theorem harfbuzz_parser_parseFeatureValuePrefix.calls (k : Nat) (g : Nat) (s0_0 : List Int) (s0_1 : Int) (r1 : Int) (r2 : Int) (w0 w : World) (hI : IsS44 w0 w g s0_0 s0_1) (hB : Below w0.heap.size w0 w) (h : harfbuzz_parser_parseFeatureValuePrefix.f k s0_0 s0_1 = some (r1, r2)) :
    Calls Tryd.prog 17 #[.pointer (some ⟨g, 0, none⟩)] w fun e w' => e = .returned (.int .u32 r1) ∧ IsS44 w0 w' g s0_0 r2 ∧ Below w0.heap.size w0 w' ∧ KeepBut w w' g none := by
  have HI0 := Aside0.mk hI
  have HK := Aside0.mk (KeepBut.refl w g none)
  have HL := Aside0.mk hB.size
  clear hI
  have HW0 := Aside0.mk hB.size
  have HB := Aside0.mk hB
  clear hB
  have H : ((harfbuzz_parser_parseChar.f k s0_0 s0_1 45).bind fun bt108 => (if bt108.1 = true then (some (0, bt108.2)) else ((harfbuzz_parser_parseChar.f k s0_0 bt108.2 43).bind fun bt110 => (some (1, bt110.2))))) = some (r1, r2) := h
  clear h
  replace H := Option.bind_eq_some_iff.mp H
  obtain ⟨⟨t108, t109⟩, A20, H⟩ := H
  replace H : (if t108 = true then (some (0, t109)) else ((harfbuzz_parser_parseChar.f k s0_0 t109 43).bind fun bt110 => (some (1, bt110.2)))) = some (r1, r2) := H
  have A2 := Aside0.mk A20
  clear A20
  by_cases c3 : t108 = true
  · subst c3
    have H1 : (some (0, t109)) = some (r1, r2) := by rw [if_pos rfl] at H; exact H
    clear H
    have H := H1
    clear H1
    simp only [Option.some.injEq, Prod.mk.injEq] at H
    obtain ⟨rfl, rfl⟩ := H
    go_enter Tryd.func17, Tryd.ntmps17
    go_wp2_with (first | ((with_reducible refine gate_callee (f := 27) rfl ?_); refine goesL_ (some 4) rfl rfl Tryd.func27 (by kernel_rfl) rfl #[.pointer (some ⟨g, 0, none⟩), .int .u8 45] rfl (by (try simp only [List.map_toArray, List.map_cons, List.map_nil]); first | done | rfl | (simp only [List.length_drop, List.length_take]; rfl)) ?_; (with_reducible refine (harfbuzz_parser_parseChar.calls k g s0_0 s0_1 45 true t109 w0 _ ?side1 ?side2 A2.out).mono ?_); (case side1 => repeat (first | (with_reducible first | exact HI0.out | apply IsS44.alloc | apply IsS44.drewN | apply IsS44.drew | apply IsS44.set_1) | exact HI0.out)); (case side2 => repeat (first | (with_reducible first | exact HB.out | apply below_alloc | apply pw_below_drewN | apply below_drew1 | refine below_set ?_ (IsS44.ge HI0.out)) | exact HB.out)); rintro e w4 ⟨rfl, hi, hb, hk⟩; refine ⟨_, rfl, ?_⟩; have n0_ := Aside0.mk (KeepBut.trans (by repeat (first | (with_reducible first | exact HK.out | apply KeepBut.set_ | apply keep_drewN | apply keep_drew | apply keep_alloc) | exact HK.out)) hk (.inl rfl)); have n1_ := Aside0.mk (hb); have n2_ := Aside0.mk (hi); clear HK; clear HB; clear HI0; have HK := n0_; have HB := n1_; have HI0 := n2_; clear n0_ n1_ n2_; (try clear hb); (try clear hb2); (try clear hk); (try clear hi)))
    go_ret
    exact ⟨by first | rfl | (simp [errW_none, errW_some] <;> rfl) | (simp [*, errW_none, errW_some] <;> rfl), by repeat (first | (with_reducible first | exact HI0.out | apply IsS44.alloc | apply IsS44.drewN | apply IsS44.drew | apply IsS44.set_1) | exact HI0.out), by repeat (first | (with_reducible first | exact HB.out | apply below_alloc | apply pw_below_drewN | apply below_drew1 | refine below_set ?_ (IsS44.ge HI0.out)) | exact HB.out), by repeat (first | (with_reducible first | exact HK.out | apply KeepBut.set_ | apply keep_drewN | apply keep_drew | apply keep_alloc) | exact HK.out)⟩
  · replace c3 := Bool.eq_false_iff.mpr c3
    subst c3
    have H1 : ((harfbuzz_parser_parseChar.f k s0_0 t109 43).bind fun bt110 => (some (1, bt110.2))) = some (r1, r2) := by rw [if_neg (show ¬ (false = true) by decide)] at H; exact H
    clear H
    have H := H1
    clear H1
    replace H := Option.bind_eq_some_iff.mp H
    obtain ⟨⟨t110, t111⟩, A50, H⟩ := H
    replace H : (some (1, t111)) = some (r1, r2) := H
    have A5 := Aside0.mk A50
    clear A50
    simp only [Option.some.injEq, Prod.mk.injEq] at H
    obtain ⟨rfl, rfl⟩ := H
    go_enter Tryd.func17, Tryd.ntmps17
    go_wp2_with (first | ((with_reducible refine gate_callee (f := 27) rfl ?_); refine goesL_ (some 4) rfl rfl Tryd.func27 (by kernel_rfl) rfl #[.pointer (some ⟨g, 0, none⟩), .int .u8 45] rfl (by (try simp only [List.map_toArray, List.map_cons, List.map_nil]); first | done | rfl | (simp only [List.length_drop, List.length_take]; rfl)) ?_; (with_reducible refine (harfbuzz_parser_parseChar.calls k g s0_0 s0_1 45 false t109 w0 _ ?side1 ?side2 A2.out).mono ?_); (case side1 => repeat (first | (with_reducible first | exact HI0.out | apply IsS44.alloc | apply IsS44.drewN | apply IsS44.drew | apply IsS44.set_1) | exact HI0.out)); (case side2 => repeat (first | (with_reducible first | exact HB.out | apply below_alloc | apply pw_below_drewN | apply below_drew1 | refine below_set ?_ (IsS44.ge HI0.out)) | exact HB.out)); rintro e w6 ⟨rfl, hi, hb, hk⟩; refine ⟨_, rfl, ?_⟩; have n0_ := Aside0.mk (KeepBut.trans (by repeat (first | (with_reducible first | exact HK.out | apply KeepBut.set_ | apply keep_drewN | apply keep_drew | apply keep_alloc) | exact HK.out)) hk (.inl rfl)); have n1_ := Aside0.mk (hb); have n2_ := Aside0.mk (hi); clear HK; clear HB; clear HI0; have HK := n0_; have HB := n1_; have HI0 := n2_; clear n0_ n1_ n2_; (try clear hb); (try clear hb2); (try clear hk); (try clear hi)) | ((with_reducible refine gate_callee (f := 27) rfl ?_); refine goesL_ (some 6) rfl rfl Tryd.func27 (by kernel_rfl) rfl #[.pointer (some ⟨g, 0, none⟩), .int .u8 43] rfl (by (try simp only [List.map_toArray, List.map_cons, List.map_nil]); first | done | rfl | (simp only [List.length_drop, List.length_take]; rfl)) ?_; (with_reducible refine (harfbuzz_parser_parseChar.calls k g s0_0 t109 43 t110 t111 w0 _ ?side1 ?side2 A5.out).mono ?_); (case side1 => repeat (first | (with_reducible first | exact HI0.out | apply IsS44.alloc | apply IsS44.drewN | apply IsS44.drew | apply IsS44.set_1) | exact HI0.out)); (case side2 => repeat (first | (with_reducible first | exact HB.out | apply below_alloc | apply pw_below_drewN | apply below_drew1 | refine below_set ?_ (IsS44.ge HI0.out)) | exact HB.out)); rintro e w7 ⟨rfl, hi, hb, hk⟩; refine ⟨_, rfl, ?_⟩; have n0_ := Aside0.mk (KeepBut.trans (by repeat (first | (with_reducible first | exact HK.out | apply KeepBut.set_ | apply keep_drewN | apply keep_drew | apply keep_alloc) | exact HK.out)) hk (.inl rfl)); have n1_ := Aside0.mk (hb); have n2_ := Aside0.mk (hi); clear HK; clear HB; clear HI0; have HK := n0_; have HB := n1_; have HI0 := n2_; clear n0_ n1_ n2_; (try clear hb); (try clear hb2); (try clear hk); (try clear hi)))
    go_ret
    exact ⟨by first | rfl | (simp [errW_none, errW_some] <;> rfl) | (simp [*, errW_none, errW_some] <;> rfl), by repeat (first | (with_reducible first | exact HI0.out | apply IsS44.alloc | apply IsS44.drewN | apply IsS44.drew | apply IsS44.set_1) | exact HI0.out), by repeat (first | (with_reducible first | exact HB.out | apply below_alloc | apply pw_below_drewN | apply below_drew1 | refine below_set ?_ (IsS44.ge HI0.out)) | exact HB.out), by repeat (first | (with_reducible first | exact HK.out | apply KeepBut.set_ | apply keep_drewN | apply keep_drew | apply keep_alloc) | exact HK.out)⟩

/-! ### errors_New: function 28 -/
def errors_New.f (a0 : ByteArray) : Option (Option Int) := some (some 0)
set_option maxHeartbeats 400000 in
theorem errors_New.calls (a0 : ByteArray) (r : Option Int) (w : World) (h : errors_New.f a0 = some r) :
    Calls Tryd.prog 28 #[.string a0] w fun e w' => ∃ e0_ : Value, e = .returned e0_ ∧ EV e0_ r ∧ Below w.heap.size w w' := by
  obtain rfl := Option.some.inj h
  go_enter Tryd.func28, Tryd.ntmps28
  go_wp2
  go_ret
  exact ⟨_, rfl, ⟨_, _, rfl⟩, (Below.refl _ _).alloc (Nat.le_refl _) _⟩

/-! ### opentype_NewTag: function 35 -/
def opentype_NewTag.f (a0 : Int) (a1 : Int) (a2 : Int) (a3 : Int) : Option (Int) := some (Go.bits .or .u32 (Go.bits .or .u32 (Go.bits .or .u32 ((a3) % 4294967296) ((((a2) % 4294967296) * 256) % 4294967296)) ((((a1) % 4294967296) * 65536) % 4294967296)) ((((a0) % 4294967296) * 16777216) % 4294967296))
set_option maxHeartbeats 8000000 in
set_option maxRecDepth 100000 in
theorem opentype_NewTag.calls (a0 : Int) (a1 : Int) (a2 : Int) (a3 : Int) (r : Int) (w : World) (h : opentype_NewTag.f a0 a1 a2 a3 = some r) :
    Calls Tryd.prog 35 #[.int .u8 a0, .int .u8 a1, .int .u8 a2, .int .u8 a3] w fun e w' => e = .returned (.int .u32 r) ∧ Drawn0 w w' := by
  have H : (some (Go.bits .or .u32 (Go.bits .or .u32 (Go.bits .or .u32 ((a3) % 4294967296) ((((a2) % 4294967296) * 256) % 4294967296)) ((((a1) % 4294967296) * 65536) % 4294967296)) ((((a0) % 4294967296) * 16777216) % 4294967296))) = some r := h
  clear h
  obtain rfl := Option.some.inj H
  go_enter Tryd.func35, Tryd.ntmps35
  go_wp2
  go_ret
  exact ⟨by first | rfl | (simp; done) | (simp [*]; done), by repeat (first | exact Drawn0.refl _ | apply Drawn0.step)⟩

/-! ### opentype_MustNewTag: function 29 -/
def opentype_MustNewTag.f (a0 : ByteArray) : Option (Int) := if (a0.size : Int) = 4 then (if 3 < (a0.size : Int) then (if 0 < (a0.size : Int) then (if 1 < (a0.size : Int) then (if 2 < (a0.size : Int) then ((opentype_NewTag.f (bt a0 0) (bt a0 1) (bt a0 2) (bt a0 3)).bind fun t112 => (some t112)) else (none)) else (none)) else (none)) else (none)) else (none)
set_option maxHeartbeats 8000000 in
set_option maxRecDepth 100000 in
theorem opentype_MustNewTag.calls (a0 : ByteArray) (r : Int) (w : World) (h : opentype_MustNewTag.f a0 = some r) :
    Calls Tryd.prog 29 #[.string a0] w fun e w' => e = .returned (.int .u32 r) ∧ Drawn0 w w' := by
  have H : (if (a0.size : Int) = 4 then (if 3 < (a0.size : Int) then (if 0 < (a0.size : Int) then (if 1 < (a0.size : Int) then (if 2 < (a0.size : Int) then ((opentype_NewTag.f (bt a0 0) (bt a0 1) (bt a0 2) (bt a0 3)).bind fun t112 => (some t112)) else (none)) else (none)) else (none)) else (none)) else (none)) = some r := h
  clear h
  by_cases c2 : (a0.size : Int) = 4
  · rw [if_pos c2] at H
    have c2b0 : ((a0.size : Int) == 4) = true := beq_iff_eq.mpr c2
    have c2b1 : ((a0.size : Int) != 4) = false := bne_eq_false_iff_eq.mpr c2
    clear c2
    by_cases c3 : 3 < (a0.size : Int)
    · rw [if_pos c3] at H
      have c3b0 : decide (3 < (a0.size : Int)) = true := decide_eq_true c3
      have c3b1 : decide (3 < a0.size) = true := decide_eq_true (by omega)
      clear c3
      by_cases c5 : 0 < (a0.size : Int)
      · rw [if_pos c5] at H
        have c5b0 : decide (0 < (a0.size : Int)) = true := decide_eq_true c5
        have c5b1 : decide (0 < a0.size) = true := decide_eq_true (by omega)
        clear c5
        by_cases c7 : 1 < (a0.size : Int)
        · rw [if_pos c7] at H
          have c7b0 : decide (1 < (a0.size : Int)) = true := decide_eq_true c7
          have c7b1 : decide (1 < a0.size) = true := decide_eq_true (by omega)
          clear c7
          by_cases c9 : 2 < (a0.size : Int)
          · rw [if_pos c9] at H
            have c9b0 : decide (2 < (a0.size : Int)) = true := decide_eq_true c9
            have c9b1 : decide (2 < a0.size) = true := decide_eq_true (by omega)
            clear c9
            replace H := Option.bind_eq_some_iff.mp H
            obtain ⟨t112, A120, H⟩ := H
            replace H : (some t112) = some r := H
            have A12 := Aside0.mk A120
            clear A120
            obtain rfl := Option.some.inj H
            have p4 : 0 ≤ (3 : Int) := (by omega)
            have q4 : 3 < a0.size := (by have : (3 : Int) < (a0.size : Int) := of_decide_eq_true (by first | (with_reducible assumption) | assumption); omega)
            have hx4 : ∀ h : 3 < a0.size, ((a0[3]'h).toNat : Int) = bt a0 3 := bt_at a0 3
            clear p4
            have qi4 : (3 < (a0.size : Int)) = True := eq_true (of_decide_eq_true (by first | (with_reducible assumption) | assumption))
            replace q4 := eq_true q4
            have p6 : 0 ≤ (0 : Int) := (by omega)
            have q6 : 0 < a0.size := (by have : (0 : Int) < (a0.size : Int) := of_decide_eq_true (by first | (with_reducible assumption) | assumption); omega)
            have hx6 : ∀ h : 0 < a0.size, ((a0[0]'h).toNat : Int) = bt a0 0 := bt_at a0 0
            clear p6
            have qi6 : (0 < (a0.size : Int)) = True := eq_true (of_decide_eq_true (by first | (with_reducible assumption) | assumption))
            replace q6 := eq_true q6
            have p8 : 0 ≤ (1 : Int) := (by omega)
            have q8 : 1 < a0.size := (by have : (1 : Int) < (a0.size : Int) := of_decide_eq_true (by first | (with_reducible assumption) | assumption); omega)
            have hx8 : ∀ h : 1 < a0.size, ((a0[1]'h).toNat : Int) = bt a0 1 := bt_at a0 1
            clear p8
            have qi8 : (1 < (a0.size : Int)) = True := eq_true (of_decide_eq_true (by first | (with_reducible assumption) | assumption))
            replace q8 := eq_true q8
            have p10 : 0 ≤ (2 : Int) := (by omega)
            have q10 : 2 < a0.size := (by have : (2 : Int) < (a0.size : Int) := of_decide_eq_true (by first | (with_reducible assumption) | assumption); omega)
            have hx10 : ∀ h : 2 < a0.size, ((a0[2]'h).toNat : Int) = bt a0 2 := bt_at a0 2
            clear p10
            have qi10 : (2 < (a0.size : Int)) = True := eq_true (of_decide_eq_true (by first | (with_reducible assumption) | assumption))
            replace q10 := eq_true q10
            have p11 : 0 ≤ (3 : Int) := (by omega)
            have q11 : 3 < a0.size := (by have : (3 : Int) < (a0.size : Int) := of_decide_eq_true (by first | (with_reducible assumption) | assumption); omega)
            have hx11 : ∀ h : 3 < a0.size, ((a0[3]'h).toNat : Int) = bt a0 3 := bt_at a0 3
            clear p11
            have qi11 : (3 < (a0.size : Int)) = True := eq_true (of_decide_eq_true (by first | (with_reducible assumption) | assumption))
            replace q11 := eq_true q11
            go_enter Tryd.func29, Tryd.ntmps29
            go_wp2_with (first | (go_at_call 35; (with_reducible refine (opentype_NewTag.calls (bt a0 0) (bt a0 1) (bt a0 2) (bt a0 3) t112 _ A12.out).mono ?_); rintro e w' ⟨rfl, ⟨nd, rfl⟩⟩; (try first | exact ⟨rfl, _, World.drewN_drewN _ _ _⟩ | exact ⟨rfl, _, Eq.trans (World.drewN_drewN _ _ _) (congrArg (World.drewN _) (Nat.add_assoc _ _ _))⟩)))
            repeat (go_quiet (first | (go_at_call 35; (with_reducible refine (opentype_NewTag.calls (bt a0 0) (bt a0 1) (bt a0 2) (bt a0 3) t112 _ A12.out).mono ?_); rintro e w' ⟨rfl, ⟨nd, rfl⟩⟩; (try first | exact ⟨rfl, _, World.drewN_drewN _ _ _⟩ | exact ⟨rfl, _, Eq.trans (World.drewN_drewN _ _ _) (congrArg (World.drewN _) (Nat.add_assoc _ _ _))⟩))); try go_wp2_with (first | (go_at_call 35; (with_reducible refine (opentype_NewTag.calls (bt a0 0) (bt a0 1) (bt a0 2) (bt a0 3) t112 _ A12.out).mono ?_); rintro e w' ⟨rfl, ⟨nd, rfl⟩⟩; (try first | exact ⟨rfl, _, World.drewN_drewN _ _ _⟩ | exact ⟨rfl, _, Eq.trans (World.drewN_drewN _ _ _) (congrArg (World.drewN _) (Nat.add_assoc _ _ _))⟩))))
            go_ret
            exact ⟨by first | rfl | (simp; done) | (simp [*]; done), by repeat (first | exact Drawn0.refl _ | apply Drawn0.step)⟩
          · rw [if_neg c9] at H
            exact absurd H (by simp)
        · rw [if_neg c7] at H
          exact absurd H (by simp)
      · rw [if_neg c5] at H
        exact absurd H (by simp)
    · rw [if_neg c3] at H
      exact absurd H (by simp)
  · rw [if_neg c2] at H
    exact absurd H (by simp)

end Go.Proofs.YtlclakahgmoafaaDoor.PFnAskNone
