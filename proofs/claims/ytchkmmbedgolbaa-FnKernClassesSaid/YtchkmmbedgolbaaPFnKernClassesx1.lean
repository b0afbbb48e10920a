-- Written by a program of this session (xprint) out of the translation; Lean checks it.
import Derived.Test.YtchkmmbedgolbaaPFnKernClassesx0
namespace Go.Proofs.Ytchkmmbedgolbaa.PFnKernClasses
open Go.RowKit Go.Proofs.YtchkmmbedgolbaaW.PrintWords Go.Proofs.YtchkmmbedgolbaaW.PrintLast Go.Proofs.YtchkmmbedgolbaaW.PrintMore
attribute [local go_sem] max2_int min2_int max_two min_two max_three min_three max_four min_four   -- for this text's walks alone
set_option linter.unusedVariables false
set_option linter.unusedSimpArgs false

/-! ### laws_FnKernClasses_1: function 8 -/
mutual
def laws_FnKernClasses_1.l0 : Nat → List Int → List (S27) → Int → Option ((List (S27)))
 | 0, _, _, _ => none
 | k + 1, x0, x3, x4 => if x4 < (x0.length : Int) then (laws_FnKernClasses_1.j1 k x0 x3 x4 (decide (x4 < 10))) else (laws_FnKernClasses_1.j1 k x0 x3 x4 false)
def laws_FnKernClasses_1.j1 : Nat → List Int → List (S27) → Int → Bool → Option ((List (S27)))
 | 0, _, _, _, _ => none
 | k + 1, x0, x3, x4, x12 => if x12 = true then (if 0 ≤ x4 then (if x4 < (x0.length : Int) then (if (Int.tmod (rd x0 x4) 4) > 0 then (if x3.length < 8796093022208 then (laws_FnKernClasses_1.l0 k x0 (x3 ++ [(⟨x4, wrap64 (Int.tmod ((rd x0 x4) / 4) 16)⟩ : S27)]) (wrap64 (x4 + 1))) else (none)) else (laws_FnKernClasses_1.l0 k x0 x3 (wrap64 (x4 + 1)))) else (none)) else (none)) else (some x3)
end
def laws_FnKernClasses_1.f (k : Nat) (l0 : List Int) : Option ((List (S27))) := laws_FnKernClasses_1.l0 k l0 ([] : List (S27)) 0
theorem laws_FnKernClasses_1.mono_l : ∀ k, (∀ y0 y1 y2, LeO (laws_FnKernClasses_1.l0 k y0 y1 y2) (laws_FnKernClasses_1.l0 (k + 1) y0 y1 y2)) ∧ (∀ y0 y1 y2 y3, LeO (laws_FnKernClasses_1.j1 k y0 y1 y2 y3) (laws_FnKernClasses_1.j1 (k + 1) y0 y1 y2 y3))
 | 0 => ⟨fun _ _ _ r h => by simp [laws_FnKernClasses_1.l0] at h, fun _ _ _ _ r h => by simp [laws_FnKernClasses_1.j1] at h⟩
 | k + 1 => by
  obtain ⟨ih0, ih1⟩ := laws_FnKernClasses_1.mono_l k
  refine ⟨?_, ?_⟩
  ·intro y0 y1 y2
   unfold laws_FnKernClasses_1.l0
   repeat' first
   | (with_reducible exact ih0 _ _ _)
   | (with_reducible exact ih1 _ _ _ _)
   | (with_reducible exact LeO.refl _)
   | (with_reducible exact LeO.none _)
   | (with_reducible refine LeO.ite ?_ ?_)
   | (with_reducible refine LeO.bind ?_ (fun _ => ?_))
   | exact ih0 _ _ _
   | exact ih1 _ _ _ _
   | exact LeO.none _
   | refine LeO.ite ?_ ?_
   | refine LeO.bind ?_ (fun _ => ?_)
  ·intro y0 y1 y2 y3
   unfold laws_FnKernClasses_1.j1
   repeat' first
   | (with_reducible exact ih0 _ _ _)
   | (with_reducible exact ih1 _ _ _ _)
   | (with_reducible exact LeO.refl _)
   | (with_reducible exact LeO.none _)
   | (with_reducible refine LeO.ite ?_ ?_)
   | (with_reducible refine LeO.bind ?_ (fun _ => ?_))
   | exact ih0 _ _ _
   | exact ih1 _ _ _ _
   | exact LeO.none _
   | refine LeO.ite ?_ ?_
   | refine LeO.bind ?_ (fun _ => ?_)
theorem laws_FnKernClasses_1.mono : ∀ a0 k, LeO (laws_FnKernClasses_1.f k a0) (laws_FnKernClasses_1.f (k + 1) a0) := by
 intro a0 k
 obtain ⟨ih0, ih1⟩ := laws_FnKernClasses_1.mono_l k
 unfold laws_FnKernClasses_1.f
 repeat' first
   | (with_reducible exact ih0 _ _ _)
   | (with_reducible exact ih1 _ _ _ _)
   | (with_reducible exact LeO.refl _)
   | (with_reducible exact LeO.none _)
   | (with_reducible refine LeO.ite ?_ ?_)
   | (with_reducible refine LeO.bind ?_ (fun _ => ?_))
   | exact ih0 _ _ _
   | exact ih1 _ _ _ _
   | exact LeO.none _
   | refine LeO.ite ?_ ?_
   | refine LeO.bind ?_ (fun _ => ?_)
set_option maxHeartbeats 8000000 in
set_option maxRecDepth 100000 in
theorem laws_FnKernClasses_1.calls (k : Nat) (A0 : Option Addr) (c0 : Nat) (l0 : List Int) (r : List (S27)) (w : World) (hr0 : Kd.C (Kd.int .u8) w A0 l0.length l0) (hc0 : l0.length ≤ c0) (h : laws_FnKernClasses_1.f k l0 = some r) :
  Calls Try.prog 8 #[.slice A0 l0.length c0] w fun e w' => ∃ v0_ : Value, e = .returned (v0_) ∧ Kd.R k27 27 w' w.heap.size (fun _ => True) v0_ r ∧ Below w.heap.size w w' := by
 have hu27 := Try.underlying27
 have HR0 := Aside0.mk hr0
 have HC0 := Aside0.mk hc0
 clear hr0 hc0
 have HB := Aside0.mk (Below.refl w.heap.size w)
 have H : (laws_FnKernClasses_1.l0 k l0 ([] : List (S27)) 0) = some r := h
 clear h
 have H' := Aside0.mk H
 clear H
 go_enter Try.func8, Try.ntmps8
 go_wp2
 go_loopg [3, 4] k (fun kq v3 v4 w' => ∃ (x3_1 : List (S27)) (x4_1 : Int), v4 = .int .i64 x4_1 ∧ Aside0 (laws_FnKernClasses_1.l0 kq l0 x3_1 x4_1 = some r) ∧ Aside0 (kq ≤ k) ∧ Aside0 (Kd.R k27 27 w' w.heap.size (fun _ => True) v3 x3_1) ∧ Aside0 (Below w.heap.size w w'))
 case atStart => exact ⟨(([] : List (S27))), (0), (by first | rfl | (simp; done) | (simp [*]; done)), H', ⟨Nat.le_refl _⟩, ⟨by first | exact Kd.R_nil _ _ _ _ _ | exact Kd.N_nil _ _ _ _ _ | exact Kd.V_nil _ _ _ _ _ | exact Kd.Q_nil _ _ _ _ _ | exact Kd.S_nil _ _ _ _ _⟩, ⟨by repeat (first | (with_reducible first | exact HB.out | apply below_alloc | apply pw_below_drewN | apply below_drew1) | exact HB.out)⟩⟩
 case round =>
  clear H'
  obtain ⟨x3_1, x4_1, rfl, HA, HK1, HO_3, HB⟩ := hrel
  cases gk with
  | zero => exact absurd HA.out (by simp [laws_FnKernClasses_1.l0])
  | succ k1 =>
   have H := HA.out
   clear HA
   simp only [laws_FnKernClasses_1.l0] at H
   have HC2 := Aside0.mk H
   clear H
   go_upto_region 3 with (fail)
   go_cut [12] (fun v12 wc => ∃ (kq : Nat) (x12_1 : Bool), v12 = .bool x12_1 ∧ Aside0 (laws_FnKernClasses_1.j1 kq l0 x3_1 x4_1 x12_1 = some r) ∧ Aside0 (kq ≤ k1) ∧ Aside0 (Kd.R k27 27 wc w.heap.size (fun _ => True) u3 x3_1) ∧ Aside0 (Below w.heap.size w wc))
   case first =>
    have H := HC2.out
    clear HC2
    by_cases c3 : x4_1 < (l0.length : Int)
    ·rw [if_pos c3] at H
     have c3b0 : decide (x4_1 < (l0.length : Int)) = true := decide_eq_true c3
     clear c3
     (first | rw [c3b0] | (simp only [i64_w, i32_w]; rw [c3b0]) | skip)
     have H' := Aside0.mk H
     clear H
     go_wp2
     go_meet
     case rel => exact ⟨_, (decide (x4_1 < 10)), (by first | rfl | (simp; done) | (simp [*]; done)), H', ⟨by have := HK1.out; first | omega | exact Nat.le_refl _⟩, ⟨by (with_reducible repeat (first | apply Kd.R_alloc | apply Kd.R_drewN | apply Kd.R_drew)); exact HO_3.out⟩, ⟨by repeat (first | (with_reducible first | exact HB.out | apply below_alloc | apply pw_below_drewN | apply below_drew1) | exact HB.out)⟩⟩
    ·rw [if_neg c3] at H
     have c3b0 : decide (x4_1 < (l0.length : Int)) = false := decide_eq_false c3
     clear c3
     (first | rw [c3b0] | (simp only [i64_w, i32_w]; rw [c3b0]) | skip)
     have H' := Aside0.mk H
     clear H
     go_wp2
     go_meet
     case rel => exact ⟨_, (false), (by first | rfl | (simp; done) | (simp [*]; done)), H', ⟨by have := HK1.out; first | omega | exact Nat.le_refl _⟩, ⟨by (with_reducible repeat (first | apply Kd.R_alloc | apply Kd.R_drewN | apply Kd.R_drew)); exact HO_3.out⟩, ⟨by repeat (first | (with_reducible first | exact HB.out | apply below_alloc | apply pw_below_drewN | apply below_drew1) | exact HB.out)⟩⟩
   case rest =>
    clear HC2
    try clear p2
    try clear c3
    try clear c3b0
    obtain ⟨kq, x12_1, rfl, HA, HJ1, HO_3, HB⟩ := hcut
    cases kq with
    | zero => exact absurd HA.out (by simp [laws_FnKernClasses_1.j1])
    | succ kj1 =>
     have H := HA.out
     clear HA
     simp only [laws_FnKernClasses_1.j1] at H
     by_cases c4 : x12_1 = true
     ·subst c4
      have H1 : (if 0 ≤ x4_1 then (if x4_1 < (l0.length : Int) then (if (Int.tmod (rd l0 x4_1) 4) > 0 then (if x3_1.length < 8796093022208 then (laws_FnKernClasses_1.l0 kj1 l0 (x3_1 ++ [(⟨x4_1, wrap64 (Int.tmod ((rd l0 x4_1) / 4) 16)⟩ : S27)]) (wrap64 (x4_1 + 1))) else (none)) else (laws_FnKernClasses_1.l0 kj1 l0 x3_1 (wrap64 (x4_1 + 1)))) else (none)) else (none)) = some r := by rw [if_pos rfl] at H; exact H
      clear H
      have H := H1
      clear H1
      by_cases c5 : 0 ≤ x4_1
      ·rw [if_pos c5] at H
       have c5b0 : decide (0 ≤ x4_1) = true := decide_eq_true c5
       clear c5
       by_cases c6 : x4_1 < (l0.length : Int)
       ·rw [if_pos c6] at H
        have c6b0 : decide (x4_1 < (l0.length : Int)) = true := decide_eq_true c6
        clear c6
        by_cases c7 : (Int.tmod (rd l0 x4_1) 4) > 0
        ·rw [if_pos c7] at H
         have c7b0 : decide (0 < (Int.tmod (rd l0 x4_1) 4)) = true := decide_eq_true c7
         clear c7
         by_cases c8 : x3_1.length < 8796093022208
         ·rw [if_pos c8] at H
          have LMc8 := Aside0.mk c8
          clear c8
          obtain ⟨y103, hy103⟩ : ∃ y_ : List (S27), y_ = (x3_1 ++ [(⟨x4_1, wrap64 (Int.tmod ((rd l0 x4_1) / 4) 16)⟩ : S27)]) := ⟨_, rfl⟩
          replace H : (laws_FnKernClasses_1.l0 kj1 l0 y103 (wrap64 (x4_1 + 1))) = some r := by first | (rw [hy103]; with_reducible exact H) | (have H2_ := (Option.bind_some _ _).symm.trans H; rw [hy103]; with_reducible exact H2_) | (have H2_ := (Option.bind_some _ _).symm.trans H; with_reducible exact H2_) | with_reducible exact H | (rw [hy103]; exact H) | exact H
          have Ny103 := Aside0.mk hy103
          clear hy103
          have H' := Aside0.mk H
          clear H
          have p101 : 0 ≤ (x4_1 : Int) := of_decide_eq_true (by first | (with_reducible assumption) | assumption)
          have q101 : x4_1 < (l0.length : Int) := of_decide_eq_true (by first | (with_reducible assumption) | assumption)
          obtain ⟨ad101, e101, hx101_0⟩ := Kd.at_int HR0.out x4_1 p101 q101
          cases e101
          replace hx101_0 := (HB.out.cell (World.block_lt_of_cell? w _ hx101_0)).trans hx101_0
          replace p101 := eq_true p101
          replace q101 := eq_true q101
          have p102 : 0 ≤ (x4_1 : Int) := of_decide_eq_true (by first | (with_reducible assumption) | assumption)
          have q102 : x4_1 < (l0.length : Int) := of_decide_eq_true (by first | (with_reducible assumption) | assumption)
          obtain ⟨ad102, e102, hx102_0⟩ := Kd.at_int HR0.out x4_1 p102 q102
          obtain rfl : ad101 = ad102 := (by injection e102)
          replace hx102_0 := (HB.out.cell (World.block_lt_of_cell? w _ hx102_0)).trans hx102_0
          replace p102 := eq_true p102
          replace q102 := eq_true q102
          go_wp2_with (first | ((with_reducible refine gate_builtin (b := .append) (xs := #[.tmp 21, .tmp 31]) rfl ?_); at_builtin; refine Kd.R_append k27 (w0 := w) w.heap.size rfl (.tmp 21) (.tmp 31) 24 27 (.agg #[(.int .i64 0), (.int .i64 0)]) 16 rfl Try.underlying24 info27 rfl (by decide) (by omega) u3 x3_1 (⟨x4_1, wrap64 (Int.tmod ((rd l0 x4_1) / 4) 16)⟩ : S27) [.int .i64 x4_1, .int .i64 (wrap64 (Int.tmod ((rd l0 x4_1) / 4) 16))] (fun _ => True) (fun _ => False) rfl rfl ?aP (fun _ hk => hk.elim) ?aF ?aO ?aB ?aS ?aL ?_; (case aP => exact k27_mkM _ _ _ (⟨x4_1, wrap64 (Int.tmod ((rd l0 x4_1) / 4) 16)⟩ : S27)); (case aB => exact (by repeat (first | (with_reducible first | exact HB.out | apply below_alloc | apply pw_below_drewN | apply below_drew1) | exact HB.out))); (case aF => exact (fun _ _ => trivial)); (case aO => exact (by (with_reducible repeat (first | apply Kd.R_alloc | apply Kd.R_drewN | apply Kd.R_drew)); exact HO_3.out)); (case aS => exact (below_size (by repeat (first | (with_reducible first | exact HB.out | apply below_alloc | apply pw_below_drewN | apply below_drew1) | exact HB.out)))); (case aL => have := LMc8.out; omega); intro v104 w9 ho hb hg hat; rw [← Ny103.out] at ho; have n0_ := Aside0.mk (hb); have n1_ := Aside0.mk (ho); clear HB; clear HO_3; have HB := n0_; have HO105 := n1_; clear n0_ n1_; clear ho hb hg hat))
          go_roundg kj1
          case measure => have := HK1.out; have := HJ1.out; omega
          case rel => exact ⟨(y103), (wrap64 (x4_1 + 1)), (by first | rfl | (simp; done) | (simp [*]; done)), H', ⟨by have := HK1.out; have := HJ1.out; omega⟩, ⟨by (with_reducible repeat (first | apply Kd.R_alloc | apply Kd.R_drewN | apply Kd.R_drew)); exact HO105.out⟩, ⟨by repeat (first | (with_reducible first | exact HB.out | apply below_alloc | apply pw_below_drewN | apply below_drew1) | exact HB.out)⟩⟩
         ·rw [if_neg c8] at H
          exact absurd H (by simp)
        ·rw [if_neg c7] at H
         have c7b0 : decide (0 < (Int.tmod (rd l0 x4_1) 4)) = false := decide_eq_false c7
         clear c7
         have H' := Aside0.mk H
         clear H
         have p101 : 0 ≤ (x4_1 : Int) := of_decide_eq_true (by first | (with_reducible assumption) | assumption)
         have q101 : x4_1 < (l0.length : Int) := of_decide_eq_true (by first | (with_reducible assumption) | assumption)
         obtain ⟨ad101, e101, hx101_0⟩ := Kd.at_int HR0.out x4_1 p101 q101
         cases e101
         replace hx101_0 := (HB.out.cell (World.block_lt_of_cell? w _ hx101_0)).trans hx101_0
         replace p101 := eq_true p101
         replace q101 := eq_true q101
         go_wp2
         go_roundg kj1
         case measure => have := HK1.out; have := HJ1.out; omega
         case rel => exact ⟨(x3_1), (wrap64 (x4_1 + 1)), (by first | rfl | (simp; done) | (simp [*]; done)), H', ⟨by have := HK1.out; have := HJ1.out; omega⟩, ⟨by (with_reducible repeat (first | apply Kd.R_alloc | apply Kd.R_drewN | apply Kd.R_drew)); exact HO_3.out⟩, ⟨by repeat (first | (with_reducible first | exact HB.out | apply below_alloc | apply pw_below_drewN | apply below_drew1) | exact HB.out)⟩⟩
       ·rw [if_neg c6] at H
        exact absurd H (by simp)
      ·rw [if_neg c5] at H
       exact absurd H (by simp)
     ·replace c4 := Bool.eq_false_iff.mpr c4
      subst c4
      have H1 : (some x3_1) = some r := by rw [if_neg (show ¬ (false = true) by decide)] at H; exact H
      clear H
      have H := H1
      clear H1
      obtain rfl := Option.some.inj H
      go_wp2
      go_ret
      exact ⟨_, by first | rfl | (simp [errW_none, errW_some] <;> rfl) | (simp [*, errW_none, errW_some] <;> rfl), by (with_reducible repeat (first | apply Kd.R_alloc | apply Kd.R_drewN | apply Kd.R_drew)); exact HO_3.out, by repeat (first | (with_reducible first | exact HB.out | apply below_alloc | apply pw_below_drewN | apply below_drew1) | exact HB.out)⟩

/-! ### spec_AatClass: function 9 -/
def spec_AatClass.l0 : Nat → Int → Int → List (S27) → Int → Int → Option (Int)
 | 0, _, _, _, _, _ => none
 | k + 1, x1, x2, x9, x10, x11 => if x11 < x10 then (if 0 ≤ x11 then (if x11 < (x9.length : Int) then (if ((rd_T27 x9 x11).f0) = x1 then (some ((rd_T27 x9 x11).f1)) else (spec_AatClass.l0 k x1 x2 x9 x10 (wrap64 (x11 + 1)))) else (none)) else (none)) else (some x2)
def spec_AatClass.f (k : Nat) (l0 : List (S27)) (a1 : Int) (a2 : Int) : Option (Int) := spec_AatClass.l0 k a1 a2 l0 (l0.length : Int) 0
theorem spec_AatClass.mono_l : ∀ k, (∀ y0 y1 y2 y3 y4, LeO (spec_AatClass.l0 k y0 y1 y2 y3 y4) (spec_AatClass.l0 (k + 1) y0 y1 y2 y3 y4))
 | 0 => fun _ _ _ _ _ r h => by simp [spec_AatClass.l0] at h
 | k + 1 => by
  have ih0 := spec_AatClass.mono_l k
  ·intro y0 y1 y2 y3 y4
   unfold spec_AatClass.l0
   repeat' first
   | (with_reducible exact ih0 _ _ _ _ _)
   | (with_reducible exact LeO.refl _)
   | (with_reducible exact LeO.none _)
   | (with_reducible refine LeO.ite ?_ ?_)
   | (with_reducible refine LeO.bind ?_ (fun _ => ?_))
   | exact ih0 _ _ _ _ _
   | exact LeO.none _
   | refine LeO.ite ?_ ?_
   | refine LeO.bind ?_ (fun _ => ?_)
theorem spec_AatClass.mono : ∀ a0 a1 a2 k, LeO (spec_AatClass.f k a0 a1 a2) (spec_AatClass.f (k + 1) a0 a1 a2) := by
 intro a0 a1 a2 k
 have ih0 := spec_AatClass.mono_l k
 unfold spec_AatClass.f
 repeat' first
   | (with_reducible exact ih0 _ _ _ _ _)
   | (with_reducible exact LeO.refl _)
   | (with_reducible exact LeO.none _)
   | (with_reducible refine LeO.ite ?_ ?_)
   | (with_reducible refine LeO.bind ?_ (fun _ => ?_))
   | exact ih0 _ _ _ _ _
   | exact LeO.none _
   | refine LeO.ite ?_ ?_
   | refine LeO.bind ?_ (fun _ => ?_)
set_option maxHeartbeats 8000000 in
set_option maxRecDepth 100000 in
theorem spec_AatClass.calls (k : Nat) (A0 : Option Addr) (c0 : Nat) (l0 : List (S27)) (a1 : Int) (a2 : Int) (r : Int) (w : World) (hr0 : Kd.C k27 w A0 l0.length l0) (hc0 : l0.length ≤ c0) (h : spec_AatClass.f k l0 a1 a2 = some r) :
  Calls Try.prog 9 #[.slice A0 l0.length c0, .int .i64 a1, .int .i64 a2] w fun e w' => e = .returned (.int .i64 r) ∧ Below w.heap.size w w' := by
 have hu27 := Try.underlying27
 have HR0 := Aside0.mk hr0
 have HC0 := Aside0.mk hc0
 clear hr0 hc0
 have HB := Aside0.mk (Below.refl w.heap.size w)
 have H : (spec_AatClass.l0 k a1 a2 l0 (l0.length : Int) 0) = some r := h
 clear h
 have H' := Aside0.mk H
 clear H
 go_enter Try.func9, Try.ntmps9
 go_wp2
 go_loopg [11] k (fun kq v11 w' => ∃ (x11_1 : Int), v11 = .int .i64 x11_1 ∧ Aside0 (spec_AatClass.l0 kq a1 a2 l0 (l0.length : Int) x11_1 = some r) ∧ Aside0 (kq ≤ k) ∧ Aside0 (Below w.heap.size w w'))
 case atStart => exact ⟨(0), (by first | rfl | (simp; done) | (simp [*]; done)), H', ⟨Nat.le_refl _⟩, ⟨by repeat (first | (with_reducible first | exact HB.out | apply below_alloc | apply pw_below_drewN | apply below_drew1) | exact HB.out)⟩⟩
 case round =>
  clear H'
  try clear p2
  obtain ⟨x11_1, rfl, HA, HK1, HB⟩ := hrel
  cases gk with
  | zero => exact absurd HA.out (by simp [spec_AatClass.l0])
  | succ k1 =>
   have H := HA.out
   clear HA
   simp only [spec_AatClass.l0] at H
   by_cases c4 : x11_1 < (l0.length : Int)
   ·rw [if_pos c4] at H
    have c4b0 : decide (x11_1 < (l0.length : Int)) = true := decide_eq_true c4
    clear c4
    by_cases c5 : 0 ≤ x11_1
    ·rw [if_pos c5] at H
     have c5b0 : decide (0 ≤ x11_1) = true := decide_eq_true c5
     clear c5
     by_cases c6 : x11_1 < (l0.length : Int)
     ·rw [if_pos c6] at H
      have c6b0 : decide (x11_1 < (l0.length : Int)) = true := decide_eq_true c6
      clear c6
      by_cases c7 : ((rd_T27 l0 x11_1).f0) = a1
      ·rw [if_pos c7] at H
       have c7b0 : (((rd_T27 l0 x11_1).f0) == a1) = true := beq_iff_eq.mpr c7
       have c7b1 : (((rd_T27 l0 x11_1).f0) != a1) = false := bne_eq_false_iff_eq.mpr c7
       clear c7
       obtain rfl := Option.some.inj H
       have p106 : 0 ≤ (x11_1 : Int) := of_decide_eq_true (by first | (with_reducible assumption) | assumption)
       have q106 : x11_1 < (l0.length : Int) := of_decide_eq_true (by first | (with_reducible assumption) | assumption)
       obtain ⟨ad106, e106, hx106_0, hx106_1⟩ := at_T27 HR0.out x11_1 p106 q106
       cases e106
       replace hx106_0 := (HB.out.cell (World.block_lt_of_cell? w _ hx106_0)).trans hx106_0
       replace hx106_1 := (HB.out.cell (World.block_lt_of_cell? w _ hx106_1)).trans hx106_1
       replace p106 := eq_true p106
       replace q106 := eq_true q106
       go_wp2_with (first | ((with_reducible refine gate_dst (N := 8) rfl ?_); refine box_event ?hg (N := 8) ?hd (cs := #[.int .i64 0, .int .i64 0]) (t := 27) ?hr ?_; (case hd => rfl); (case hg => rfl); (case hr => first | (go_simp; done) | (go_simp; rfl)); intro gb107 hg w8 hbox hb; have n0_ := Aside0.mk (below_step (by repeat (first | (with_reducible first | exact HB.out | apply below_alloc | apply pw_below_drewN | apply below_drew1) | exact HB.out)) hb); have n1_ := Aside0.mk (hbox); have n2_ := Aside0.mk ((by rw [hg]; exact (below_size (by repeat (first | (with_reducible first | exact HB.out | apply below_alloc | apply pw_below_drewN | apply below_drew1) | exact HB.out))) : w.heap.size ≤ gb107)); have n3_ := Aside0.mk ((by rw [hg]; exact (below_size (by repeat (first | (with_reducible first | exact HB.out | apply below_alloc | apply pw_below_drewN | apply below_drew1) | exact HB.out))) : w.heap.size ≤ gb107)); clear HB; have HB := n0_; have BK107 := n1_; have GW107 := n2_; have GE107 := n3_; clear n0_ n1_ n2_ n3_; clear hb hbox hg; have hcz9_0 : w8.cell? ⟨gb107, 0, none⟩ = some (.int .i64 0) := (blk_cell BK107.out 0).trans rfl; have hcz9_1 : w8.cell? ⟨gb107, 1, none⟩ = some (.int .i64 0) := (blk_cell BK107.out 1).trans rfl; have hfz9_0 := blk_frozen BK107.out 0; have hfz9_1 := blk_frozen BK107.out 1))
       go_ret
       exact ⟨by first | rfl | (simp [errW_none, errW_some] <;> rfl) | (simp [*, errW_none, errW_some] <;> rfl), by repeat (first | (with_reducible first | exact HB.out | apply below_alloc | apply pw_below_drewN | apply below_drew1 | refine below_set ?_ GE107.out) | exact HB.out)⟩
      ·rw [if_neg c7] at H
       have c7b0 : (((rd_T27 l0 x11_1).f0) == a1) = false := beq_eq_false_iff_ne.mpr c7
       have c7b1 : (((rd_T27 l0 x11_1).f0) != a1) = true := bne_iff_ne.mpr c7
       have H' := Aside0.mk H
       clear H
       have p106 : 0 ≤ (x11_1 : Int) := of_decide_eq_true (by first | (with_reducible assumption) | assumption)
       have q106 : x11_1 < (l0.length : Int) := of_decide_eq_true (by first | (with_reducible assumption) | assumption)
       obtain ⟨ad106, e106, hx106_0, hx106_1⟩ := at_T27 HR0.out x11_1 p106 q106
       cases e106
       replace hx106_0 := (HB.out.cell (World.block_lt_of_cell? w _ hx106_0)).trans hx106_0
       replace hx106_1 := (HB.out.cell (World.block_lt_of_cell? w _ hx106_1)).trans hx106_1
       replace p106 := eq_true p106
       replace q106 := eq_true q106
       go_wp2_with (first | ((with_reducible refine gate_dst (N := 8) rfl ?_); refine box_event ?hg (N := 8) ?hd (cs := #[.int .i64 0, .int .i64 0]) (t := 27) ?hr ?_; (case hd => rfl); (case hg => rfl); (case hr => first | (go_simp; done) | (go_simp; rfl)); intro gb107 hg w10 hbox hb; have n0_ := Aside0.mk (below_step (by repeat (first | (with_reducible first | exact HB.out | apply below_alloc | apply pw_below_drewN | apply below_drew1) | exact HB.out)) hb); have n1_ := Aside0.mk (hbox); have n2_ := Aside0.mk ((by rw [hg]; exact (below_size (by repeat (first | (with_reducible first | exact HB.out | apply below_alloc | apply pw_below_drewN | apply below_drew1) | exact HB.out))) : w.heap.size ≤ gb107)); have n3_ := Aside0.mk ((by rw [hg]; exact (below_size (by repeat (first | (with_reducible first | exact HB.out | apply below_alloc | apply pw_below_drewN | apply below_drew1) | exact HB.out))) : w.heap.size ≤ gb107)); clear HB; have HB := n0_; have BK107 := n1_; have GW107 := n2_; have GE107 := n3_; clear n0_ n1_ n2_ n3_; clear hb hbox hg; have hcz11_0 : w10.cell? ⟨gb107, 0, none⟩ = some (.int .i64 0) := (blk_cell BK107.out 0).trans rfl; have hcz11_1 : w10.cell? ⟨gb107, 1, none⟩ = some (.int .i64 0) := (blk_cell BK107.out 1).trans rfl; have hfz11_0 := blk_frozen BK107.out 0; have hfz11_1 := blk_frozen BK107.out 1))
       go_roundg k1
       case measure => have := HK1.out; omega
       case rel => exact ⟨(wrap64 (x11_1 + 1)), (by first | rfl | (simp; done) | (simp [*]; done)), H', ⟨by have := HK1.out; omega⟩, ⟨by repeat (first | (with_reducible first | exact HB.out | apply below_alloc | apply pw_below_drewN | apply below_drew1 | refine below_set ?_ GE107.out) | exact HB.out)⟩⟩
     ·rw [if_neg c6] at H
      exact absurd H (by simp)
    ·rw [if_neg c5] at H
     exact absurd H (by simp)
   ·rw [if_neg c4] at H
    have c4b0 : decide (x11_1 < (l0.length : Int)) = false := decide_eq_false c4
    clear c4
    obtain rfl := Option.some.inj H
    go_wp2
    go_ret
    exact ⟨by first | rfl | (simp [errW_none, errW_some] <;> rfl) | (simp [*, errW_none, errW_some] <;> rfl), by repeat (first | (with_reducible first | exact HB.out | apply below_alloc | apply pw_below_drewN | apply below_drew1) | exact HB.out)⟩

/-- A state of type 73 at block g of W; what its slices lead to came in by w0. -/
def IsS73 (w0 W : World) (g : Nat) (f0 : Int) (f1 : Int) (f2 : Bool) : Prop := W.heap[g]? = some (.cells #[.int .i64 f0, .int .i64 f1, .bool f2] 73 (0, 0)) ∧ w0.heap.size ≤ g
theorem IsS73.grown {w0 W : World} {g : Nat} {f0 : Int} {f1 : Int} {f2 : Bool} {W1 : World} {row : Option Nat} (h : IsS73 w0 W g f0 f1 f2) (hw : W.grownBy W1 row) (hne : some g ≠ row) : IsS73 w0 W1 g f0 f1 f2 := by
 obtain ⟨hb, hg⟩ := h
 exact ⟨blk_grown hb hw hne, hg⟩
theorem IsS73.own_neN {w0 W : World} {g : Nat} {f0 : Int} {f1 : Int} {f2 : Bool} {α : Type} {d : Kd α} {e : Nat} {base : Nat} {ok : Nat → Prop} {v : Value} {xs : List α} (h : IsS73 w0 W g f0 f1 f2) (ho : Kd.N d e W base ok v xs) (ht : e ≠ 73) : some g ≠ v.ownBlock := by
 obtain ⟨hb, hg⟩ := h
 exact Kd.N_ne ho hb ht
theorem IsS73.fresh {w0 W : World} {g : Nat} {f0 : Int} {f1 : Int} {f2 : Bool} (h : IsS73 w0 W g f0 f1 f2) : ∀ k, W.heap.size ≤ k → k ≠ g := by
 obtain ⟨hb, hg⟩ := h
 exact Kd.freshB hb
theorem IsS73.kept {w0 W : World} {g : Nat} {f0 : Int} {f1 : Int} {f2 : Bool} {W1 : World} {S : Nat → Prop} (h : IsS73 w0 W g f0 f1 f2) (hk : Kept W W1 S) (hne : ¬ S g) : IsS73 w0 W1 g f0 f1 f2 := by
 obtain ⟨hb, hg⟩ := h
 exact ⟨blk_kept hb hk hne, hg⟩
theorem IsS73.below {w0 W : World} {g : Nat} {f0 : Int} {f1 : Int} {f2 : Bool} {W1 : World} (h : IsS73 w0 W g f0 f1 f2) (hw : Below W.heap.size W W1) : IsS73 w0 W1 g f0 f1 f2 := h.grown (grown_of_below hw none) (by simp)
theorem IsS73.alloc {w0 W : World} {g : Nat} {f0 : Int} {f1 : Int} {f2 : Bool} (h : IsS73 w0 W g f0 f1 f2) (o : Obj) : IsS73 w0 (W.alloc o) g f0 f1 f2 := h.below (below_alloc (Below.refl _ _) o)
theorem IsS73.drewN {w0 W : World} {g : Nat} {f0 : Int} {f1 : Int} {f2 : Bool} (h : IsS73 w0 W g f0 f1 f2) (m : Nat) : IsS73 w0 (W.drewN m) g f0 f1 f2 := h
theorem IsS73.drew {w0 W : World} {g : Nat} {f0 : Int} {f1 : Int} {f2 : Bool} (h : IsS73 w0 W g f0 f1 f2) : IsS73 w0 W.drew g f0 f1 f2 := h
theorem IsS73.at_ {w0 W : World} {g : Nat} {f0 : Int} {f1 : Int} {f2 : Bool} {w' : World} {m : Nat} (hq : W.drewN m = w') (h : IsS73 w0 W g f0 f1 f2) : IsS73 w0 w' g f0 f1 f2 := by subst hq; exact IsS73.drewN h m
theorem IsS73.apart {w0 W : World} {g : Nat} {f0 : Int} {f1 : Int} {f2 : Bool} {α : Type} {d : Kd α} {e : Nat} {base : Nat} {ok : Nat → Prop} {v : Value} {xs : List α} (h : IsS73 w0 W g f0 f1 f2) (ho : d.R e W base ok v xs) (ht : ∀ q, q ∈ e :: d.E → q ≠ 73) : d.R e W base (fun k => ok k ∧ k ≠ g) v xs := by
 obtain ⟨hb, hg⟩ := h
 exact Kd.R_types ho hb ht
theorem IsS73.own_ne {w0 W : World} {g : Nat} {f0 : Int} {f1 : Int} {f2 : Bool} {α : Type} {d : Kd α} {e : Nat} {base : Nat} {ok : Nat → Prop} {v : Value} {xs : List α} (h : IsS73 w0 W g f0 f1 f2) (ho : d.R e W base ok v xs) (ht : e ≠ 73) : some g ≠ v.ownBlock := by
 obtain ⟨hb, hg⟩ := h
 exact Kd.R_ne ho hb ht
theorem IsS73.apartQ {w0 W : World} {g : Nat} {f0 : Int} {f1 : Int} {f2 : Bool} {α : Type} {d : Kd α} {e : Nat} {base : Nat} {ok : Nat → Prop} {v : Value} {xs : List α} (h : IsS73 w0 W g f0 f1 f2) (ho : d.Q e W base ok v xs) (ht : ∀ q, q ∈ e :: d.E → q ≠ 73) : d.Q e W base (fun k => ok k ∧ k ≠ g) v xs := by
 obtain ⟨hb, hg⟩ := h
 exact Kd.Q_types ho hb ht
theorem IsS73.own_neQ {w0 W : World} {g : Nat} {f0 : Int} {f1 : Int} {f2 : Bool} {α : Type} {d : Kd α} {e : Nat} {base : Nat} {ok : Nat → Prop} {v : Value} {xs : List α} (h : IsS73 w0 W g f0 f1 f2) (ho : d.Q e W base ok v xs) (ht : e ≠ 73) : some g ≠ v.ownBlock := by
 obtain ⟨hb, hg⟩ := h
 exact Kd.Q_ne ho hb ht
theorem IsS73.apartS {w0 W : World} {g : Nat} {f0 : Int} {f1 : Int} {f2 : Bool} {α : Type} {d : Kd α} {e : Nat} {base : Nat} {ok : Nat → Prop} {v : Value} {xs : List α} (h : IsS73 w0 W g f0 f1 f2) (ho : d.S e W base ok v xs) (ht : ∀ q, q ∈ e :: d.E → q ≠ 73) : d.S e W base (fun k => ok k ∧ k ≠ g) v xs := by
 obtain ⟨hb, hg⟩ := h
 exact Kd.S_types ho hb ht
theorem IsS73.own_neS {w0 W : World} {g : Nat} {f0 : Int} {f1 : Int} {f2 : Bool} {α : Type} {d : Kd α} {e : Nat} {base : Nat} {ok : Nat → Prop} {v : Value} {xs : List α} (h : IsS73 w0 W g f0 f1 f2) (ho : d.S e W base ok v xs) (ht : e ≠ 73) : some g ≠ v.ownBlock := by
 obtain ⟨hb, hg⟩ := h
 exact Kd.S_ne ho hb ht
theorem IsS73.lt {w0 W : World} {g : Nat} {f0 : Int} {f1 : Int} {f2 : Bool} (h : IsS73 w0 W g f0 f1 f2) : g < W.heap.size := by
 obtain ⟨hb, hg⟩ := h
 exact blk_lt hb
theorem IsS73.ge {w0 W : World} {g : Nat} {f0 : Int} {f1 : Int} {f2 : Bool} (h : IsS73 w0 W g f0 f1 f2) : w0.heap.size ≤ g := by
 obtain ⟨hb, hg⟩ := h
 exact hg
theorem IsS73.ne_blk {w0 W : World} {g : Nat} {f0 : Int} {f1 : Int} {f2 : Bool} {a : Nat} {cs : Array Value} {t : TypeId} {fr : Nat × Nat} (h : IsS73 w0 W g f0 f1 f2) (hb2 : W.heap[a]? = some (.cells cs t fr)) (ht : t ≠ 73) : g ≠ a := by
 obtain ⟨hb, hg⟩ := h
 rintro rfl
 rw [hb] at hb2
 injection hb2 with hb2
 injection hb2 with _ ht2
 exact ht ht2.symm
theorem IsS73.far {w0 W : World} {g : Nat} {f0 : Int} {f1 : Int} {f2 : Bool} {p : Addr} (h : IsS73 w0 W g f0 f1 f2) (hne : g ≠ p.block) (u : Value) : IsS73 w0 (W.setCell p u) g f0 f1 f2 := by
 obtain ⟨hb, hg⟩ := h
 exact ⟨blk_far hb hne u, hg⟩
theorem IsS73.of {w0 W : World} {g : Nat} {f0 : Int} {f1 : Int} {f2 : Bool} (h : W.heap[g]? = some (.cells #[.int .i64 f0, .int .i64 f1, .bool f2] 73 (0, 0))) (hg : w0.heap.size ≤ g) : IsS73 w0 W g f0 f1 f2 := ⟨h, hg⟩
theorem IsS73.cells {w0 W : World} {g : Nat} {f0 : Int} {f1 : Int} {f2 : Bool} (h : IsS73 w0 W g f0 f1 f2) : W.heap[g]? = some (.cells #[.int .i64 f0, .int .i64 f1, .bool f2] 73 (0, 0)) := h.1
theorem cellS73_0 {W : World} {g : Nat} {f0 : Int} {f1 : Int} {f2 : Bool} (h : W.heap[g]? = some (.cells #[.int .i64 f0, .int .i64 f1, .bool f2] 73 (0, 0))) : W.cell? ⟨g, 0, none⟩ = some (.int .i64 f0) := (blk_cell h 0).trans rfl
theorem IsS73.set_0 {w0 W : World} {g : Nat} {f0 : Int} {f1 : Int} {f2 : Bool} (h : IsS73 w0 W g f0 f1 f2) (x : Int) : IsS73 w0 (W.setCell ⟨g, 0, none⟩ (.int .i64 x)) g x f1 f2 := by
 obtain ⟨hb, hg⟩ := h
 exact ⟨by simpa using blk_set hb 0 (.int .i64 x), hg⟩
theorem cellS73_1 {W : World} {g : Nat} {f0 : Int} {f1 : Int} {f2 : Bool} (h : W.heap[g]? = some (.cells #[.int .i64 f0, .int .i64 f1, .bool f2] 73 (0, 0))) : W.cell? ⟨g, 1, none⟩ = some (.int .i64 f1) := (blk_cell h 1).trans rfl
theorem IsS73.set_1 {w0 W : World} {g : Nat} {f0 : Int} {f1 : Int} {f2 : Bool} (h : IsS73 w0 W g f0 f1 f2) (x : Int) : IsS73 w0 (W.setCell ⟨g, 1, none⟩ (.int .i64 x)) g f0 x f2 := by
 obtain ⟨hb, hg⟩ := h
 exact ⟨by simpa using blk_set hb 1 (.int .i64 x), hg⟩
theorem cellS73_2 {W : World} {g : Nat} {f0 : Int} {f1 : Int} {f2 : Bool} (h : W.heap[g]? = some (.cells #[.int .i64 f0, .int .i64 f1, .bool f2] 73 (0, 0))) : W.cell? ⟨g, 2, none⟩ = some (.bool f2) := (blk_cell h 2).trans rfl
theorem IsS73.set_2 {w0 W : World} {g : Nat} {f0 : Int} {f1 : Int} {f2 : Bool} (h : IsS73 w0 W g f0 f1 f2) (x : Bool) : IsS73 w0 (W.setCell ⟨g, 2, none⟩ (.bool x)) g f0 f1 x := by
 obtain ⟨hb, hg⟩ := h
 exact ⟨by simpa using blk_set hb 2 (.bool x), hg⟩
theorem IsS73.new (w0 W : World) (f0 : Int) (f1 : Int) (f2 : Bool) (hB : Below w0.heap.size w0 W) : IsS73 w0 (W.alloc (.cells #[.int .i64 f0, .int .i64 f1, .bool f2] 73)) W.heap.size f0 f1 f2 := ⟨by simpa using heap_alloc_new W _, hB.size⟩

/-! ### impl_builder_must: function 52 -/
def impl_builder_must.f (s0_0 : Int) (s0_1 : Int) (s0_2 : Bool) (a1 : Bool) : Option (Int × Int × Bool) := if s0_2 = true then (some (s0_0, s0_1, true)) else (some (s0_0, s0_1, !a1))
set_option maxHeartbeats 8000000 in
set_option maxRecDepth 100000 in
theorem impl_builder_must.calls (g : Nat) (s0_0 : Int) (s0_1 : Int) (s0_2 : Bool) (a1 : Bool) (r1 : Int) (r2 : Int) (r3 : Bool) (w0 w : World) (hI : IsS73 w0 w g s0_0 s0_1 s0_2) (hB : Below w0.heap.size w0 w) (h : impl_builder_must.f s0_0 s0_1 s0_2 a1 = some (r1, r2, r3)) :
  Calls Try.prog 52 #[.pointer (some ⟨g, 0, none⟩), .bool a1] w fun e w' => e = .returned (.tuple #[]) ∧ IsS73 w0 w' g r1 r2 r3 ∧ Below w0.heap.size w0 w' ∧ KeepBut w w' g none := by
 have HI0 := Aside0.mk hI
 have HK := Aside0.mk (KeepBut.refl w g none)
 have HL := Aside0.mk hB.size
 clear hI
 have HW0 := Aside0.mk hB.size
 have HB := Aside0.mk hB
 clear hB
 have H : (if s0_2 = true then (some (s0_0, s0_1, true)) else (some (s0_0, s0_1, !a1))) = some (r1, r2, r3) := h
 clear h
 by_cases c3 : s0_2 = true
 ·subst c3
  have H1 : (some (s0_0, s0_1, true)) = some (r1, r2, r3) := by rw [if_pos rfl] at H; exact H
  clear H
  have H := H1
  clear H1
  simp only [Option.some.injEq, Prod.mk.injEq] at H
  obtain ⟨rfl, rfl, rfl⟩ := H
  obtain ⟨HGz4, hgz4⟩ := HI0.out
  have hcz4_0 := cellS73_0 HGz4
  have hcz4_1 := cellS73_1 HGz4
  have hcz4_2 := cellS73_2 HGz4
  have hfz4_0 := blk_frozen HGz4 0
  have hfz4_1 := blk_frozen HGz4 1
  have hfz4_2 := blk_frozen HGz4 2
  clear HGz4 hgz4
  go_enter Try.func52, Try.ntmps52
  go_wp2
  first | go_end0 | ((try simp only [Exit.inBlock, Exit.then]); refine bodyPost_ret (results_none rfl _ _ _) rfl ?_)
  exact ⟨by first | rfl | (simp [errW_none, errW_some] <;> rfl) | (simp [*, errW_none, errW_some] <;> rfl), by repeat (first | (with_reducible first | exact HI0.out | apply IsS73.alloc | apply IsS73.drewN | apply IsS73.drew | apply IsS73.set_0 | apply IsS73.set_1 | apply IsS73.set_2) | exact HI0.out), by repeat (first | (with_reducible first | exact HB.out | apply below_alloc | apply pw_below_drewN | apply below_drew1 | refine below_set ?_ (IsS73.ge HI0.out)) | exact HB.out), by repeat (first | (with_reducible first | exact HK.out | apply KeepBut.set_ | apply keep_drewN | apply keep_drew | apply keep_alloc) | exact HK.out)⟩
 ·replace c3 := Bool.eq_false_iff.mpr c3
  subst c3
  have H1 : (some (s0_0, s0_1, !a1)) = some (r1, r2, r3) := by rw [if_neg (show ¬ (false = true) by decide)] at H; exact H
  clear H
  have H := H1
  clear H1
  simp only [Option.some.injEq, Prod.mk.injEq] at H
  obtain ⟨rfl, rfl, rfl⟩ := H
  obtain ⟨HGz5, hgz5⟩ := HI0.out
  have hcz5_0 := cellS73_0 HGz5
  have hcz5_1 := cellS73_1 HGz5
  have hcz5_2 := cellS73_2 HGz5
  have hfz5_0 := blk_frozen HGz5 0
  have hfz5_1 := blk_frozen HGz5 1
  have hfz5_2 := blk_frozen HGz5 2
  clear HGz5 hgz5
  go_enter Try.func52, Try.ntmps52
  go_wp2
  first | go_end0 | ((try simp only [Exit.inBlock, Exit.then]); refine bodyPost_ret (results_none rfl _ _ _) rfl ?_)
  exact ⟨by first | rfl | (simp [errW_none, errW_some] <;> rfl) | (simp [*, errW_none, errW_some] <;> rfl), by repeat (first | (with_reducible first | exact HI0.out | apply IsS73.alloc | apply IsS73.drewN | apply IsS73.drew | apply IsS73.set_0 | apply IsS73.set_1 | apply IsS73.set_2) | exact HI0.out), by repeat (first | (with_reducible first | exact HB.out | apply below_alloc | apply pw_below_drewN | apply below_drew1 | refine below_set ?_ (IsS73.ge HI0.out)) | exact HB.out), by repeat (first | (with_reducible first | exact HK.out | apply KeepBut.set_ | apply keep_drewN | apply keep_drew | apply keep_alloc) | exact HK.out)⟩

/-! ### impl_builder_small: function 32 -/
def impl_builder_small.f (s0_0 : Int) (s0_1 : Int) (s0_2 : Bool) (a1 : Int) : Option (Int × Int × Int × Bool) := if a1 ≥ 0 then ((impl_builder_must.f s0_0 s0_1 s0_2 (decide (a1 ≤ 65535))).bind fun bt108 => (some (IntKind.u16.wrap (a1), bt108.1, bt108.2.1, bt108.2.2))) else ((impl_builder_must.f s0_0 s0_1 s0_2 false).bind fun bt111 => (some (IntKind.u16.wrap (a1), bt111.1, bt111.2.1, bt111.2.2)))
set_option maxHeartbeats 8000000 in
set_option maxRecDepth 100000 in
theorem impl_builder_small.calls (g : Nat) (s0_0 : Int) (s0_1 : Int) (s0_2 : Bool) (a1 : Int) (r1 : Int) (r2 : Int) (r3 : Int) (r4 : Bool) (w0 w : World) (hI : IsS73 w0 w g s0_0 s0_1 s0_2) (hB : Below w0.heap.size w0 w) (h : impl_builder_small.f s0_0 s0_1 s0_2 a1 = some (r1, r2, r3, r4)) :
  Calls Try.prog 32 #[.pointer (some ⟨g, 0, none⟩), .int .i64 a1] w fun e w' => e = .returned (.int .u16 r1) ∧ IsS73 w0 w' g r2 r3 r4 ∧ Below w0.heap.size w0 w' ∧ KeepBut w w' g none := by
 have HI0 := Aside0.mk hI
 have HK := Aside0.mk (KeepBut.refl w g none)
 have HL := Aside0.mk hB.size
 clear hI
 have HW0 := Aside0.mk hB.size
 have HB := Aside0.mk hB
 clear hB
 have H : (if a1 ≥ 0 then ((impl_builder_must.f s0_0 s0_1 s0_2 (decide (a1 ≤ 65535))).bind fun bt108 => (some (IntKind.u16.wrap (a1), bt108.1, bt108.2.1, bt108.2.2))) else ((impl_builder_must.f s0_0 s0_1 s0_2 false).bind fun bt111 => (some (IntKind.u16.wrap (a1), bt111.1, bt111.2.1, bt111.2.2)))) = some (r1, r2, r3, r4) := h
 clear h
 by_cases c3 : a1 ≥ 0
 ·rw [if_pos c3] at H
  have c3b0 : decide (0 ≤ a1) = true := decide_eq_true c3
  clear c3
  replace H := Option.bind_eq_some_iff.mp H
  obtain ⟨⟨t108, t109, t110⟩, A40, H⟩ := H
  replace H : (some (IntKind.u16.wrap (a1), t108, t109, t110)) = some (r1, r2, r3, r4) := H
  have A4 := Aside0.mk A40
  clear A40
  simp only [Option.some.injEq, Prod.mk.injEq] at H
  obtain ⟨rfl, rfl, rfl, rfl⟩ := H
  go_enter Try.func32, Try.ntmps32
  go_wp2_with (first | ((with_reducible refine gate_callee (f := 52) rfl ?_); refine goesL_ (some 12) rfl rfl Try.func52 (by kernel_rfl) rfl #[.pointer (some ⟨g, 0, none⟩), .bool (decide (a1 ≤ 65535))] rfl (by (try simp only [List.map_toArray, List.map_cons, List.map_nil]); first | done | rfl | (simp only [List.length_drop, List.length_take]; rfl)) ?_; (with_reducible refine (impl_builder_must.calls g s0_0 s0_1 s0_2 (decide (a1 ≤ 65535)) t108 t109 t110 w0 _ ?side1 ?side2 A4.out).mono ?_); (case side1 => repeat (first | (with_reducible first | exact HI0.out | apply IsS73.alloc | apply IsS73.drewN | apply IsS73.drew | apply IsS73.set_0 | apply IsS73.set_1 | apply IsS73.set_2) | exact HI0.out)); (case side2 => repeat (first | (with_reducible first | exact HB.out | apply below_alloc | apply pw_below_drewN | apply below_drew1 | refine below_set ?_ (IsS73.ge HI0.out)) | exact HB.out)); rintro e w5 ⟨rfl, hi, hb, hk⟩; refine ⟨_, rfl, ?_⟩; have n0_ := Aside0.mk (KeepBut.trans (by repeat (first | (with_reducible first | exact HK.out | apply KeepBut.set_ | apply keep_drewN | apply keep_drew | apply keep_alloc) | exact HK.out)) hk (.inl rfl)); have n1_ := Aside0.mk (hb); have n2_ := Aside0.mk (hi); clear HK; clear HB; clear HI0; have HK := n0_; have HB := n1_; have HI0 := n2_; clear n0_ n1_ n2_; (try clear hb); (try clear hb2); (try clear hk); (try clear hi)))
  go_ret
  exact ⟨by first | rfl | (simp [errW_none, errW_some] <;> rfl) | (simp [*, errW_none, errW_some] <;> rfl), by repeat (first | (with_reducible first | exact HI0.out | apply IsS73.alloc | apply IsS73.drewN | apply IsS73.drew | apply IsS73.set_0 | apply IsS73.set_1 | apply IsS73.set_2) | exact HI0.out), by repeat (first | (with_reducible first | exact HB.out | apply below_alloc | apply pw_below_drewN | apply below_drew1 | refine below_set ?_ (IsS73.ge HI0.out)) | exact HB.out), by repeat (first | (with_reducible first | exact HK.out | apply KeepBut.set_ | apply keep_drewN | apply keep_drew | apply keep_alloc) | exact HK.out)⟩
 ·rw [if_neg c3] at H
  have c3b0 : decide (0 ≤ a1) = false := decide_eq_false c3
  clear c3
  replace H := Option.bind_eq_some_iff.mp H
  obtain ⟨⟨t111, t112, t113⟩, A60, H⟩ := H
  replace H : (some (IntKind.u16.wrap (a1), t111, t112, t113)) = some (r1, r2, r3, r4) := H
  have A6 := Aside0.mk A60
  clear A60
  simp only [Option.some.injEq, Prod.mk.injEq] at H
  obtain ⟨rfl, rfl, rfl, rfl⟩ := H
  go_enter Try.func32, Try.ntmps32
  go_wp2_with (first | ((with_reducible refine gate_callee (f := 52) rfl ?_); refine goesL_ (some 12) rfl rfl Try.func52 (by kernel_rfl) rfl #[.pointer (some ⟨g, 0, none⟩), .bool false] rfl (by (try simp only [List.map_toArray, List.map_cons, List.map_nil]); first | done | rfl | (simp only [List.length_drop, List.length_take]; rfl)) ?_; (with_reducible refine (impl_builder_must.calls g s0_0 s0_1 s0_2 false t111 t112 t113 w0 _ ?side1 ?side2 A6.out).mono ?_); (case side1 => repeat (first | (with_reducible first | exact HI0.out | apply IsS73.alloc | apply IsS73.drewN | apply IsS73.drew | apply IsS73.set_0 | apply IsS73.set_1 | apply IsS73.set_2) | exact HI0.out)); (case side2 => repeat (first | (with_reducible first | exact HB.out | apply below_alloc | apply pw_below_drewN | apply below_drew1 | refine below_set ?_ (IsS73.ge HI0.out)) | exact HB.out)); rintro e w7 ⟨rfl, hi, hb, hk⟩; refine ⟨_, rfl, ?_⟩; have n0_ := Aside0.mk (KeepBut.trans (by repeat (first | (with_reducible first | exact HK.out | apply KeepBut.set_ | apply keep_drewN | apply keep_drew | apply keep_alloc) | exact HK.out)) hk (.inl rfl)); have n1_ := Aside0.mk (hb); have n2_ := Aside0.mk (hi); clear HK; clear HB; clear HI0; have HK := n0_; have HB := n1_; have HI0 := n2_; clear n0_ n1_ n2_; (try clear hb); (try clear hb2); (try clear hk); (try clear hi)))
  go_ret
  exact ⟨by first | rfl | (simp [errW_none, errW_some] <;> rfl) | (simp [*, errW_none, errW_some] <;> rfl), by repeat (first | (with_reducible first | exact HI0.out | apply IsS73.alloc | apply IsS73.drewN | apply IsS73.drew | apply IsS73.set_0 | apply IsS73.set_1 | apply IsS73.set_2) | exact HI0.out), by repeat (first | (with_reducible first | exact HB.out | apply below_alloc | apply pw_below_drewN | apply below_drew1 | refine below_set ?_ (IsS73.ge HI0.out)) | exact HB.out), by repeat (first | (with_reducible first | exact HK.out | apply KeepBut.set_ | apply keep_drewN | apply keep_drew | apply keep_alloc) | exact HK.out)⟩

end Go.Proofs.Ytchkmmbedgolbaa.PFnKernClasses
