-- Written by a program of this session (xprint) out of the translation; Lean checks it.
import Derived.Test.YtchkmmbedgolbaaPFnTuplesOfx0
import Derived.Test.YtchkmmbedgolbaaPFnTuplesOfx9
namespace Go.Proofs.Ytchkmmbedgolbaa.PFnTuplesOf
open Go.RowKit Go.Proofs.YtchkmmbedgolbaaW.PrintWords Go.Proofs.YtchkmmbedgolbaaW.PrintLast Go.Proofs.YtchkmmbedgolbaaW.PrintMore
attribute [local go_sem] max2_int min2_int max_two min_two max_three min_three max_four min_four   -- for this text's walks alone
set_option linter.unusedVariables false
set_option linter.unusedSimpArgs false
theorem z11_7 {p : Prop} (h : p := by kernel_rfl) : p := h
theorem z11_6 {p : Prop} (h : p := by first | assumption | exact rfl | exact ⟨_, _, rfl⟩) : p := h
theorem z11_5 {p : Prop} (h : p := by first | rfl | (simp; done) | (simp [*]; done)) : p := h
theorem z11_4 {p : Prop} (h : p := by (try simp only [List.map_toArray, List.map_cons, List.map_nil]); first | done | rfl | (simp only [List.length_drop, List.length_take]; rfl)) : p := h
theorem z11_3 {p : Prop} (h : p := by (with_reducible repeat (first | apply Kd.V_alloc | apply Kd.V_drewN | apply Kd.V_drew)); exact HO_0.out) : p := h
theorem z11_2 {p : Prop} (h : p := by first | (with_reducible assumption) | assumption) : p := h
theorem z11_1 {p : Prop} (h : p := by (with_reducible repeat (first | apply Kd.R_alloc | apply Kd.R_drewN | apply Kd.R_drew)); exact HO_6.out) : p := h
theorem z11_0 {p : Prop} (h : p := by repeat (first | (with_reducible first | exact HB.out | apply below_alloc | apply pw_below_drewN | apply below_drew1 | refine below_set ?_ GB57.out) | exact HB.out)) : p := h

mutual
def fUD.l0 : Nat → List Int → Int → List Int → Int → Option (List Int × Option Int)
 | 0, _, _, _, _ => none
 | k + 1, x0, x1, x6, x7 => if x7 < x1 then (if (x0.length : Int) = 0 then ((eN.f (⟨#[105, 110, 118, 97, 108, 105, 100, 32, 112, 97, 99, 107, 101, 100, 32, 100, 101, 108, 116, 97, 115, 32, 40, 69, 79, 70, 41]⟩ : ByteArray)).bind fun t360 => (some (([] : List Int), t360))) else (if 0 < (x0.length : Int) then (if (Go.bits .and .u8 (rd x0 0) 128) = 0 then (if (wrap64 (x7 + (((Go.bits .and .u8 (rd x0 0) 63) + 1) % 256))) > x1 then ((eN.f (⟨#[105, 110, 118, 97, 108, 105, 100, 32, 112, 97, 99, 107, 101, 100, 32, 100, 101, 108, 116, 97, 115, 32, 40, 101, 120, 112, 101, 99, 116, 101, 100, 32, 37, 100, 32, 112, 111, 105, 110, 116, 32, 110, 117, 109, 98, 101, 114, 115, 44, 32, 103, 111, 116, 32, 37, 100, 41]⟩ : ByteArray)).bind fun t362 => (some (([] : List Int), t362))) else (if (Go.bits .and .u8 (rd x0 0) 64) = 0 then (if (x0.length : Int) < (1 + (((Go.bits .and .u8 (rd x0 0) 63) + 1) % 256)) then ((eN.f (⟨#[105, 110, 118, 97, 108, 105, 100, 32, 112, 97, 99, 107, 101, 100, 32, 100, 101, 108, 116, 97, 115, 32, 40, 69, 79, 70, 41]⟩ : ByteArray)).bind fun t363 => (some (([] : List Int), t363))) else (fUD.l2 k x0 x1 x6 x7 (((Go.bits .and .u8 (rd x0 0) 63) + 1) % 256) 0)) else (if (x0.length : Int) < (1 + (2 * (((Go.bits .and .u8 (rd x0 0) 63) + 1) % 256))) then ((eN.f (⟨#[105, 110, 118, 97, 108, 105, 100, 32, 112, 97, 99, 107, 101, 100, 32, 100, 101, 108, 116, 97, 115, 32, 40, 69, 79, 70, 41]⟩ : ByteArray)).bind fun t371 => (some (([] : List Int), t371))) else (fUD.l1 k x0 x1 x6 x7 (((Go.bits .and .u8 (rd x0 0) 63) + 1) % 256) 0)))) else (if 1 ≤ (x0.length : Int) then (fUD.l0 k (x0.drop 1) x1 x6 (wrap64 (x7 + (((Go.bits .and .u8 (rd x0 0) 63) + 1) % 256)))) else (none))) else (none))) else (some (x6, none))
def fUD.l2 : Nat → List Int → Int → List Int → Int → Int → Int → Option (List Int × Option Int)
 | 0, _, _, _, _, _, _ => none
 | k + 1, x0, x1, x6, x7, x9, x14 => if x14 < x9 then (if 0 ≤ ((1 + x14) % 256) then (if ((1 + x14) % 256) < (x0.length : Int) then (if 0 ≤ x7 then (if x7 < (x6.length : Int) then (fUD.l2 k x0 x1 (x6.set (x7 : Int).toNat (IntKind.i16.wrap (IntKind.i8.wrap (rd x0 ((1 + x14) % 256))))) (wrap64 (x7 + 1)) x9 ((x14 + 1) % 256)) else (none)) else (none)) else (none)) else (none)) else (if 0 ≤ ((1 + x9) % 256) then (if ((1 + x9) % 256) ≤ (x0.length : Int) then (fUD.l0 k (x0.drop (((1 + x9) % 256) : Int).toNat) x1 x6 x7) else (none)) else (none))
def fUD.l1 : Nat → List Int → Int → List Int → Int → Int → Int → Option (List Int × Option Int)
 | 0, _, _, _, _, _, _ => none
 | k + 1, x0, x1, x6, x7, x9, x13 => if x13 < x9 then (if 0 ≤ ((1 + ((2 * x13) % 256)) % 256) then (if ((1 + ((2 * x13) % 256)) % 256) ≤ (x0.length : Int) then ((bU.f (x0.drop (((1 + ((2 * x13) % 256)) % 256) : Int).toNat)).bind fun t377 => (if 0 ≤ x7 then (if x7 < (x6.length : Int) then (fUD.l1 k x0 x1 (x6.set (x7 : Int).toNat (IntKind.i16.wrap (t377))) (wrap64 (x7 + 1)) x9 ((x13 + 1) % 256)) else (none)) else (none))) else (none)) else (none)) else (if 0 ≤ ((1 + ((2 * x9) % 256)) % 256) then (if ((1 + ((2 * x9) % 256)) % 256) ≤ (x0.length : Int) then (fUD.l0 k (x0.drop (((1 + ((2 * x9) % 256)) % 256) : Int).toNat) x1 x6 x7) else (none)) else (none))
end
def fUD.f (k : Nat) (l0 : List Int) (a1 : Int) : Option (List Int × Option Int) := if 0 ≤ a1 then (if (a1 : Int).toNat ≤ 140737488355328 then (fUD.l0 k l0 a1 (List.replicate (a1 : Int).toNat 0) 0) else (none)) else (none)
theorem fUD.mono_l : ∀ k, (∀ y0 y1 y2 y3, LeO (fUD.l0 k y0 y1 y2 y3) (fUD.l0 (k + 1) y0 y1 y2 y3)) ∧ (∀ y0 y1 y2 y3 y4 y5, LeO (fUD.l2 k y0 y1 y2 y3 y4 y5) (fUD.l2 (k + 1) y0 y1 y2 y3 y4 y5)) ∧ (∀ y0 y1 y2 y3 y4 y5, LeO (fUD.l1 k y0 y1 y2 y3 y4 y5) (fUD.l1 (k + 1) y0 y1 y2 y3 y4 y5))
 | 0 => ⟨fun _ _ _ _ r h => by simp [fUD.l0] at h, fun _ _ _ _ _ _ r h => by simp [fUD.l2] at h, fun _ _ _ _ _ _ r h => by simp [fUD.l1] at h⟩
 | k + 1 => by
  obtain ⟨ih0, ih1, ih2⟩ := fUD.mono_l k
  refine ⟨?_, ?_, ?_⟩
  all_goals intros
  all_goals first | unfold fUD.l0 | unfold fUD.l2 | unfold fUD.l1
  all_goals repeat' first
  | (with_reducible exact ih0 _ _ _ _)
  | (with_reducible exact ih1 _ _ _ _ _ _)
  | (with_reducible exact ih2 _ _ _ _ _ _)
  | (with_reducible exact LeO.refl _)
  | (with_reducible exact LeO.none _)
  | (with_reducible refine LeO.ite ?_ ?_)
  | (with_reducible refine LeO.bind ?_ (fun _ => ?_))
theorem fUD.mono : ∀ a0 a1 k, LeO (fUD.f k a0 a1) (fUD.f (k + 1) a0 a1) := by
 intro a0 a1 k
 obtain ⟨ih0, ih1, ih2⟩ := fUD.mono_l k
 unfold fUD.f
 repeat' first
   | (with_reducible exact ih0 _ _ _ _)
   | (with_reducible exact ih1 _ _ _ _ _ _)
   | (with_reducible exact ih2 _ _ _ _ _ _)
   | (with_reducible exact LeO.refl _)
   | (with_reducible exact LeO.none _)
   | (with_reducible refine LeO.ite ?_ ?_)
   | (with_reducible refine LeO.bind ?_ (fun _ => ?_))
def fUD.T22 : Bool × List (List Nat × List Nat) := (true, [([], []), ([], []), ([], []), ([], []), ([], []), ([4], [4]), ([5], [5]), ([3, 6], [3, 6]), ([2, 7], [2, 7]), ([8], [8]), ([0, 1, 0, 1, 2, 3, 4, 5, 6, 7, 8, 9], [0, 1]), ([10, 9, 8, 0, 1, 2, 3, 4, 5, 6, 7, 8, 9], [9, 10])])
def fUD.B22 : List Nat := [0, 0, 0, 0, 0, 16, 48, 120, 252, 508, 1023, 2047]
theorem fUD.tab22 : rtab .any (opsOf Try.f79 22) = fUD.T22 := by kernel_rfl
theorem fUD.bits22 : waitsOk fUD.T22.2 fUD.B22 = true := by kernel_rfl
set_option maxHeartbeats 8000000 in
set_option maxRecDepth 100000 in
theorem fUD.calls (k : Nat) (P0_ : Nat → Prop) (A0 : Option Addr) (c0 : Nat) (l0 : List Int) (a1 : Int) (r1 : List Int) (r2 : Option Int) (w : World) (hs0 : Kd.V (Kd.int .u8) 5 w w.heap.size (fun k_ => P0_ k_) (.slice A0 l0.length c0) l0) (h : fUD.f k l0 a1 = some (r1, r2)) :
  Calls Try.prog 79 #[.slice A0 l0.length c0, .int .i64 a1] w fun e w' => ∃ v0_ : Value, ∃ e1_ : Value, e = .returned (.tuple #[v0_, e1_]) ∧ Kd.R (Kd.int .i16) 30 w' w.heap.size (fun k_ => (w.heap.size ≤ k_)) v0_ r1 ∧ EV e1_ r2 ∧ Below w.heap.size w w' := by
 have HO0 := Aside0.mk (show Kd.V (Kd.int .u8) 5 w w.heap.size (fun k_ => (P0_ k_ ∨ w.heap.size ≤ k_)) (.slice A0 l0.length c0) l0 from Kd.V_mono hs0 (fun k_ hk => .inl hk))
 have HB := Aside0.mk (Below.refl w.heap.size w)
 have H : (if 0 ≤ a1 then (if (a1 : Int).toNat ≤ 140737488355328 then (fUD.l0 k l0 a1 (List.replicate (a1 : Int).toNat 0) 0) else (none)) else (none)) = some (r1, r2) := h
 clear h
 by_cases c3 : 0 ≤ a1
 rotate_left
 ·rw [if_neg c3] at H
  exact absurd H (by simp)
 rw [if_pos c3] at H
 have c3b0 := eq_true c3
 have c3b1 : decide (0 ≤ a1) = true := decide_eq_true c3
 clear c3
 by_cases c4 : (a1 : Int).toNat ≤ 140737488355328
 rotate_left
 ·rw [if_neg c4] at H
  exact absurd H (by simp)
 rw [if_pos c4] at H
 have c4b0 := eq_true c4
 have c4b1 : decide ((a1 : Int).toNat ≤ 140737488355328) = true := decide_eq_true c4
 clear c4
 obtain ⟨y357, hy357⟩ : ∃ y_ : List Int, y_ = (List.replicate (a1 : Int).toNat 0) := ⟨_, rfl⟩
 replace H : (fUD.l0 k l0 a1 y357 0) = some (r1, r2) := by first | (rw [hy357]; with_reducible exact H) | (have H2_ := (Option.bind_some _ _).symm.trans H; rw [hy357]; with_reducible exact H2_) | (have H2_ := (Option.bind_some _ _).symm.trans H; with_reducible exact H2_) | with_reducible exact H | (rw [hy357]; exact H) | exact H
 have Ny357 := Aside0.mk hy357
 clear hy357
 have H' := Aside0.mk H
 clear H
 go_enter Try.func79, Try.ntmps79
 go_wp2_with (first | ((with_reducible refine gate_dst (N := 16) rfl ?_); refine Kd.R_make (Kd.int .i16) _ 30 rfl (N := 16) rfl 23 _ _ rfl a1 rfl rfl Try.underlying23 (.int .i16 0) 2 info30 rfl (by decide) (by omega) 0 (ok := fun _ => True) (okp := fun _ => True) rfl (fun _ hk => hk) trivial (of_decide_eq_true z11_2) (Nat.le_trans (Nat.mul_le_mul_right _ (of_decide_eq_true z11_2 : a1.toNat ≤ 140737488355328)) (by omega)) (Below.refl _ _) (Nat.le_refl _) ?_; intro v358 w5 ho6 hb hg_ hnew_; clear hg_ hnew_; (first | rw [← Ny357.out] at ho6 | (simp only [Int.reduceToNat] at ho6; rw [← Ny357.out] at ho6)); have n0_ := Aside0.mk (Kd.V_elder' (by (with_reducible repeat (first | apply Kd.V_alloc | apply Kd.V_drewN | apply Kd.V_drew)); exact HO0.out) (Kd.R_base ho6) hb); have n1_ := Aside0.mk (Kd.R_lower (Kd.R_newM (M := fun k_ => (w.heap.size ≤ k_)) ho6 (below_size z11_0) (fun k_ h_ => h_)) (below_size z11_0)); have n2_ := Aside0.mk (below_step z11_0 hb); clear HO0; clear HB; have HO0 := n0_; have HO359 := n1_; have HB := n2_; clear n0_ n1_ n2_; clear hb ho6))
 go_loopg [0, 7] k (fun kq v0 v7 w' => ∃ (x0_1 : List Int) (x6_1 : List Int) (x7_1 : Int), v7 = .int .i64 x7_1 ∧ Aside0 (fUD.l0 kq x0_1 a1 x6_1 x7_1 = some (r1, r2)) ∧ Aside0 (kq ≤ k) ∧ Aside0 (Kd.V (Kd.int .u8) 5 w' w.heap.size (fun k_ => (P0_ k_ ∨ w.heap.size ≤ k_) ∧ some k_ ≠ (v358 : Value).ownBlock) v0 x0_1) ∧ Aside0 (Kd.R (Kd.int .i16) 30 w' w.heap.size (fun k_ => (w.heap.size ≤ k_)) v358 x6_1) ∧ Aside0 (Below w.heap.size w w'))
 case atStart => exact ⟨(l0), (y357), (0), z11_5, H', ⟨Nat.le_refl _⟩, ⟨by (with_reducible repeat (first | apply Kd.V_alloc | apply Kd.V_drewN | apply Kd.V_drew)); exact HO0.out⟩, ⟨by (with_reducible repeat (first | apply Kd.R_alloc | apply Kd.R_drewN | apply Kd.R_drew)); exact Kd.R_mono HO359.out (fun _ hk => hk.1)⟩, ⟨z11_0⟩⟩
 case round =>
  clear H'
  clear c3b0 c3b1 c4b0 c4b1
  obtain ⟨x0_1, x6_1, x7_1, rfl, HA, HK1, HO_0, HO_6, HB⟩ := hrel
  cases gk with
  | zero => exact absurd HA.out (by simp [fUD.l0])
  | succ k1 =>
   have H := HA.out
   clear HA
   simp only [fUD.l0] at H
   by_cases c7 : x7_1 < a1
   ·rw [if_pos c7] at H
    have c7b0 : decide (x7_1 < a1) = true := decide_eq_true c7
    clear c7
    by_cases c8 : (x0_1.length : Int) = 0
    ·rw [if_pos c8] at H
     have c8b0 : ((x0_1.length : Int) == 0) = true := beq_iff_eq.mpr c8
     have c8b1 : ((x0_1.length : Int) != 0) = false := bne_eq_false_iff_eq.mpr c8
     clear c8
     replace H := Option.bind_eq_some_iff.mp H
     obtain ⟨t360, A90, H⟩ := H
     replace H : (some (([] : List Int), t360)) = some (r1, r2) := H
     have A9 := Aside0.mk A90
     clear A90
     simp only [Option.some.injEq, Prod.mk.injEq] at H
     obtain ⟨rfl, rfl⟩ := H
     obtain ⟨Ao10, co10, eo10⟩ := Kd.V_slice HO_0.out
     subst eo10
     go_wp2_with (first | ((with_reducible refine gate_callee (f := 56) rfl ?_); refine goesL_ (some 23) rfl rfl Try.func56 z11_7 rfl #[.string (⟨#[105, 110, 118, 97, 108, 105, 100, 32, 112, 97, 99, 107, 101, 100, 32, 100, 101, 108, 116, 97, 115, 32, 40, 69, 79, 70, 41]⟩ : ByteArray)] rfl z11_4 ?_; (with_reducible refine (eN.calls (⟨#[105, 110, 118, 97, 108, 105, 100, 32, 112, 97, 99, 107, 101, 100, 32, 100, 101, 108, 116, 97, 115, 32, 40, 69, 79, 70, 41]⟩ : ByteArray) t360 _ A9.out).mono ?_); rintro e w13 ⟨ev11, rfl, he12, hb⟩; refine ⟨_, rfl, ?_⟩; have n0_ := Aside0.mk (Kd.V_below z11_3 hb); have n1_ := Aside0.mk (Kd.R_below z11_1 hb); have n2_ := Aside0.mk (below_step z11_0 hb); clear HO_0; clear HO_6; clear HB; have HO_0 := n0_; have HO_6 := n1_; have HB := n2_; clear n0_ n1_ n2_ hb; (first | (obtain rfl := EV_none he12) | (obtain ⟨te_, pe_, rfl⟩ := EV_some he12) | skip)))
     go_ret2
     exact ⟨_, _, by first | rfl | (simp [errW_none, errW_some] <;> rfl) | (simp [*, errW_none, errW_some] <;> rfl), by first | exact Kd.R_nil _ _ _ _ _ | exact Kd.N_nil _ _ _ _ _ | exact Kd.V_nil _ _ _ _ _ | exact Kd.Q_nil _ _ _ _ _ | exact Kd.S_nil _ _ _ _ _, z11_6, by repeat (first | (with_reducible first | exact HB.out | apply below_alloc | apply pw_below_drewN | apply below_drew1 | refine below_set ?_ GB57.out) | exact HB.out)⟩
    ·rw [if_neg c8] at H
     have c8b0 : ((x0_1.length : Int) == 0) = false := beq_eq_false_iff_ne.mpr c8
     have c8b1 : ((x0_1.length : Int) != 0) = true := bne_iff_ne.mpr c8
     have c8b2 : ¬ (x0_1 = []) := fun h_ => c8 (by rw [h_]; rfl)
     by_cases c14 : 0 < (x0_1.length : Int)
     rotate_left
     ·rw [if_neg c14] at H
      exact absurd H (by simp)
     rw [if_pos c14] at H
     have c14b0 : decide (0 < (x0_1.length : Int)) = true := decide_eq_true c14
     have c14b1 : decide (0 < x0_1.length) = true := decide_eq_true (by omega)
     clear c14
     by_cases c15 : (Go.bits .and .u8 (rd x0_1 0) 128) = 0
     ·rw [if_pos c15] at H
      have c15b0 : ((Go.bits .and .u8 (rd x0_1 0) 128) == 0) = true := beq_iff_eq.mpr c15
      have c15b1 : ((Go.bits .and .u8 (rd x0_1 0) 128) != 0) = false := bne_eq_false_iff_eq.mpr c15
      clear c15
      by_cases c16 : (wrap64 (x7_1 + (((Go.bits .and .u8 (rd x0_1 0) 63) + 1) % 256))) > a1
      ·rw [if_pos c16] at H
       have c16b0 : decide (a1 < (wrap64 (x7_1 + (((Go.bits .and .u8 (rd x0_1 0) 63) + 1) % 256)))) = true := decide_eq_true c16
       clear c16
       replace H := Option.bind_eq_some_iff.mp H
       obtain ⟨t362, A170, H⟩ := H
       replace H : (some (([] : List Int), t362)) = some (r1, r2) := H
       have A17 := Aside0.mk A170
       clear A170
       simp only [Option.some.injEq, Prod.mk.injEq] at H
       obtain ⟨rfl, rfl⟩ := H
       obtain ⟨Ao18, co18, eo18⟩ := Kd.V_slice HO_0.out
       subst eo18
       have p361 : 0 ≤ (0 : Int) := (by omega)
       have q361 : 0 < (x0_1.length : Int) := of_decide_eq_true z11_2
       obtain ⟨ad361, e361, hx361_0⟩ := Kd.at_int (Kd.V_reads' HO_0.out).2.2 0 p361 q361
       cases e361
       have qi361 : (0 < x0_1.length) = True := eq_true (by omega)
       (try rw [show ((0 : Int)).toNat = 0 from rfl] at hx361_0)
       (try rw [Addr.add_zero'] at hx361_0)
       replace p361 := eq_true p361
       replace q361 := eq_true q361
       go_wp2_with (first | ((with_reducible refine gate_callee (f := 56) rfl ?_); refine goesL_ (some 47) rfl rfl Try.func56 z11_7 rfl #[.string (⟨#[105, 110, 118, 97, 108, 105, 100, 32, 112, 97, 99, 107, 101, 100, 32, 100, 101, 108, 116, 97, 115, 32, 40, 101, 120, 112, 101, 99, 116, 101, 100, 32, 37, 100, 32, 112, 111, 105, 110, 116, 32, 110, 117, 109, 98, 101, 114, 115, 44, 32, 103, 111, 116, 32, 37, 100, 41]⟩ : ByteArray)] rfl z11_4 ?_; (with_reducible refine (eN.calls (⟨#[105, 110, 118, 97, 108, 105, 100, 32, 112, 97, 99, 107, 101, 100, 32, 100, 101, 108, 116, 97, 115, 32, 40, 101, 120, 112, 101, 99, 116, 101, 100, 32, 37, 100, 32, 112, 111, 105, 110, 116, 32, 110, 117, 109, 98, 101, 114, 115, 44, 32, 103, 111, 116, 32, 37, 100, 41]⟩ : ByteArray) t362 _ A17.out).mono ?_); rintro e w21 ⟨ev19, rfl, he20, hb⟩; refine ⟨_, rfl, ?_⟩; have n0_ := Aside0.mk (Kd.V_below z11_3 hb); have n1_ := Aside0.mk (Kd.R_below z11_1 hb); have n2_ := Aside0.mk (below_step z11_0 hb); clear HO_0; clear HO_6; clear HB; have HO_0 := n0_; have HO_6 := n1_; have HB := n2_; clear n0_ n1_ n2_ hb; (first | (obtain rfl := EV_none he20) | (obtain ⟨te_, pe_, rfl⟩ := EV_some he20) | skip)))
       go_ret2
       exact ⟨_, _, by first | rfl | (simp [errW_none, errW_some] <;> rfl) | (simp [*, errW_none, errW_some] <;> rfl), by first | exact Kd.R_nil _ _ _ _ _ | exact Kd.N_nil _ _ _ _ _ | exact Kd.V_nil _ _ _ _ _ | exact Kd.Q_nil _ _ _ _ _ | exact Kd.S_nil _ _ _ _ _, z11_6, by repeat (first | (with_reducible first | exact HB.out | apply below_alloc | apply pw_below_drewN | apply below_drew1 | refine below_set ?_ GB57.out) | exact HB.out)⟩
      ·rw [if_neg c16] at H
       have c16b0 : decide (a1 < (wrap64 (x7_1 + (((Go.bits .and .u8 (rd x0_1 0) 63) + 1) % 256)))) = false := decide_eq_false c16
       clear c16
       by_cases c22 : (Go.bits .and .u8 (rd x0_1 0) 64) = 0
       ·rw [if_pos c22] at H
        have c22b0 : ((Go.bits .and .u8 (rd x0_1 0) 64) == 0) = true := beq_iff_eq.mpr c22
        have c22b1 : ((Go.bits .and .u8 (rd x0_1 0) 64) != 0) = false := bne_eq_false_iff_eq.mpr c22
        clear c22
        by_cases c23 : (x0_1.length : Int) < (1 + (((Go.bits .and .u8 (rd x0_1 0) 63) + 1) % 256))
        ·rw [if_pos c23] at H
         have c23b0 : decide ((x0_1.length : Int) < (1 + (((Go.bits .and .u8 (rd x0_1 0) 63) + 1) % 256))) = true := decide_eq_true c23
         clear c23
         replace H := Option.bind_eq_some_iff.mp H
         obtain ⟨t363, A240, H⟩ := H
         replace H : (some (([] : List Int), t363)) = some (r1, r2) := H
         have A24 := Aside0.mk A240
         clear A240
         simp only [Option.some.injEq, Prod.mk.injEq] at H
         obtain ⟨rfl, rfl⟩ := H
         obtain ⟨Ao25, co25, eo25⟩ := Kd.V_slice HO_0.out
         subst eo25
         have p361 : 0 ≤ (0 : Int) := (by omega)
         have q361 : 0 < (x0_1.length : Int) := of_decide_eq_true z11_2
         obtain ⟨ad361, e361, hx361_0⟩ := Kd.at_int (Kd.V_reads' HO_0.out).2.2 0 p361 q361
         cases e361
         have qi361 : (0 < x0_1.length) = True := eq_true (by omega)
         (try rw [show ((0 : Int)).toNat = 0 from rfl] at hx361_0)
         (try rw [Addr.add_zero'] at hx361_0)
         replace p361 := eq_true p361
         replace q361 := eq_true q361
         go_wp2_with (first | ((with_reducible refine gate_callee (f := 56) rfl ?_); refine goesL_ (some 89) rfl rfl Try.func56 z11_7 rfl #[.string (⟨#[105, 110, 118, 97, 108, 105, 100, 32, 112, 97, 99, 107, 101, 100, 32, 100, 101, 108, 116, 97, 115, 32, 40, 69, 79, 70, 41]⟩ : ByteArray)] rfl z11_4 ?_; (with_reducible refine (eN.calls (⟨#[105, 110, 118, 97, 108, 105, 100, 32, 112, 97, 99, 107, 101, 100, 32, 100, 101, 108, 116, 97, 115, 32, 40, 69, 79, 70, 41]⟩ : ByteArray) t363 _ A24.out).mono ?_); rintro e w28 ⟨ev26, rfl, he27, hb⟩; refine ⟨_, rfl, ?_⟩; have n0_ := Aside0.mk (Kd.V_below z11_3 hb); have n1_ := Aside0.mk (Kd.R_below z11_1 hb); have n2_ := Aside0.mk (below_step z11_0 hb); clear HO_0; clear HO_6; clear HB; have HO_0 := n0_; have HO_6 := n1_; have HB := n2_; clear n0_ n1_ n2_ hb; (first | (obtain rfl := EV_none he27) | (obtain ⟨te_, pe_, rfl⟩ := EV_some he27) | skip)))
         go_ret2
         exact ⟨_, _, by first | rfl | (simp [errW_none, errW_some] <;> rfl) | (simp [*, errW_none, errW_some] <;> rfl), by first | exact Kd.R_nil _ _ _ _ _ | exact Kd.N_nil _ _ _ _ _ | exact Kd.V_nil _ _ _ _ _ | exact Kd.Q_nil _ _ _ _ _ | exact Kd.S_nil _ _ _ _ _, z11_6, by repeat (first | (with_reducible first | exact HB.out | apply below_alloc | apply pw_below_drewN | apply below_drew1 | refine below_set ?_ GB57.out) | exact HB.out)⟩
        ·rw [if_neg c23] at H
         have c23b0 : decide ((x0_1.length : Int) < (1 + (((Go.bits .and .u8 (rd x0_1 0) 63) + 1) % 256))) = false := decide_eq_false c23
         clear c23
         have H' := Aside0.mk H
         clear H
         obtain ⟨Ao29, co29, eo29⟩ := Kd.V_slice HO_0.out
         subst eo29
         have p361 : 0 ≤ (0 : Int) := (by omega)
         have q361 : 0 < (x0_1.length : Int) := of_decide_eq_true z11_2
         obtain ⟨ad361, e361, hx361_0⟩ := Kd.at_int (Kd.V_reads' HO_0.out).2.2 0 p361 q361
         cases e361
         have qi361 : (0 < x0_1.length) = True := eq_true (by omega)
         (try rw [show ((0 : Int)).toNat = 0 from rfl] at hx361_0)
         (try rw [Addr.add_zero'] at hx361_0)
         replace p361 := eq_true p361
         replace q361 := eq_true q361
         go_wp2
         go_loopg [7, 14] k1 (fun kq v7 v14 w' => ∃ (x6_2 : List Int) (x7_2 : Int) (x14_2 : Int), v7 = .int .i64 x7_2 ∧ v14 = .int .u8 x14_2 ∧ Aside0 (fUD.l2 kq x0_1 a1 x6_2 x7_2 (((Go.bits .and .u8 (rd x0_1 0) 63) + 1) % 256) x14_2 = some (r1, r2)) ∧ Aside0 (kq ≤ k1) ∧ Aside0 (Kd.V (Kd.int .u8) 5 w' w.heap.size (fun k_ => (P0_ k_ ∨ w.heap.size ≤ k_) ∧ some k_ ≠ (v358 : Value).ownBlock) (.slice (some ad361) x0_1.length co29) x0_1) ∧ Aside0 (Kd.R (Kd.int .i16) 30 w' w.heap.size (fun k_ => (w.heap.size ≤ k_)) v358 x6_2) ∧ Aside0 (Below w.heap.size w w'))
         case atStart => exact ⟨(x6_1), (x7_1), (0), z11_5, z11_5, H', ⟨Nat.le_refl _⟩, ⟨z11_3⟩, ⟨z11_1⟩, ⟨z11_0⟩⟩
         case round =>
          clear H'
          clear c7b0 c8 c8b0 c8b1 c8b2 c14b0 c14b1 c15b0 c15b1 c16b0 c22b0 c22b1 c23b0 hx361_0 p361 q361
          obtain ⟨x6_2, x7_2, x14_2, rfl, rfl, HA, HK2, HO_0, HO_6, HB⟩ := hrel
          cases gk with
          | zero => exact absurd HA.out (by simp [fUD.l2])
          | succ k2 =>
           have H := HA.out
           clear HA
           simp only [fUD.l2] at H
           by_cases c30 : x14_2 < (((Go.bits .and .u8 (rd x0_1 0) 63) + 1) % 256)
           ·rw [if_pos c30] at H
            have c30b0 : decide (x14_2 < (((Go.bits .and .u8 (rd x0_1 0) 63) + 1) % 256)) = true := decide_eq_true c30
            clear c30
            obtain ⟨ji31, hji31⟩ : ∃ j_ : Int, ((1 + x14_2) % 256) = j_ := ⟨_, rfl⟩
            replace H : (if 0 ≤ (ji31) then (if (ji31) < (x0_1.length : Int) then (if 0 ≤ x7_2 then (if x7_2 < (x6_2.length : Int) then (fUD.l2 k2 x0_1 a1 (x6_2.set (x7_2 : Int).toNat (IntKind.i16.wrap (IntKind.i8.wrap (rd x0_1 (ji31))))) (wrap64 (x7_2 + 1)) (((Go.bits .and .u8 (rd x0_1 0) 63) + 1) % 256) ((x14_2 + 1) % 256)) else (none)) else (none)) else (none)) else (none)) = some (r1, r2) := by first | (rw [hji31] at H; exact H) | (simp only [hji31] at H ⊢; exact H)
            by_cases c32 : 0 ≤ (ji31)
            rotate_left
            ·rw [if_neg c32] at H
             exact absurd H (by simp)
            rw [if_pos c32] at H
            have c32b0 : decide (0 ≤ (ji31)) = true := decide_eq_true c32
            clear c32
            by_cases c33 : (ji31) < (x0_1.length : Int)
            rotate_left
            ·rw [if_neg c33] at H
             exact absurd H (by simp)
            rw [if_pos c33] at H
            have c33b0 : decide ((ji31) < (x0_1.length : Int)) = true := decide_eq_true c33
            clear c33
            by_cases c34 : 0 ≤ x7_2
            rotate_left
            ·rw [if_neg c34] at H
             exact absurd H (by simp)
            rw [if_pos c34] at H
            have c34b0 : decide (0 ≤ x7_2) = true := decide_eq_true c34
            clear c34
            by_cases c35 : x7_2 < (x6_2.length : Int)
            rotate_left
            ·rw [if_neg c35] at H
             exact absurd H (by simp)
            rw [if_pos c35] at H
            have c35b0 : decide (x7_2 < (x6_2.length : Int)) = true := decide_eq_true c35
            clear c35
            obtain ⟨y365, hy365⟩ : ∃ y_ : List Int, y_ = (x6_2.set (x7_2 : Int).toNat (IntKind.i16.wrap (IntKind.i8.wrap (rd x0_1 (ji31))))) := ⟨_, rfl⟩
            replace H : (fUD.l2 k2 x0_1 a1 y365 (wrap64 (x7_2 + 1)) (((Go.bits .and .u8 (rd x0_1 0) 63) + 1) % 256) ((x14_2 + 1) % 256)) = some (r1, r2) := by first | (rw [hy365]; with_reducible exact H) | (have H2_ := (Option.bind_some _ _).symm.trans H; rw [hy365]; with_reducible exact H2_) | (have H2_ := (Option.bind_some _ _).symm.trans H; with_reducible exact H2_) | with_reducible exact H | (rw [hy365]; exact H) | exact H
            have Ny365 := Aside0.mk hy365
            clear hy365
            have H' := Aside0.mk H
            clear H
            have p364 : 0 ≤ ((ji31) : Int) := of_decide_eq_true z11_2
            have q364 : (ji31) < (x0_1.length : Int) := of_decide_eq_true z11_2
            obtain ⟨ad364, e364, hx364_0⟩ := Kd.at_int (Kd.V_reads' HO_0.out).2.2 (ji31) p364 q364
            obtain rfl : ad361 = ad364 := (by injection e364)
            replace p364 := eq_true p364
            replace q364 := eq_true q364
            have p36 : 0 ≤ (x7_2 : Int) := of_decide_eq_true z11_2
            have q36 : (x7_2 : Int) < ((x6_2.length : Int) : Int) := of_decide_eq_true z11_2
            obtain ⟨go36, co36, eo36, gb36, gl36, cl36, HG36⟩ := Kd.R_form HO_6.out (by omega)
            (first | cases eo36 | (injection eo36 with ea_ en_ ec_; (first | subst ea_ | (injection ea_ with ea_; subst ea_)); subst ec_; clear en_))
            have GB36 := Aside0.mk gb36
            have GG36 := Aside0.mk HG36
            clear gb36 gl36 HG36
            obtain ⟨hx36_0, hf36_0⟩ := Kd.R_celln 0 HO_6.out (x7_2 : Int) p36 q36
            replace p36 := eq_true p36
            replace q36 := eq_true q36
            have HP37 := Kd.R_putg HO_6.out (x7_2 : Int) (IntKind.i16.wrap (IntKind.i8.wrap (rd x0_1 (ji31))))
            go_wp2_with (first | ((with_reducible refine gate_store (t := 30) (p := 104) rfl ?_); refine store_event (t := 30) (p := 104) (v := ?vo_w38) (w1 := (wr.setCell ⟨go36, (x7_2 : Int).toNat, none⟩ (.int .i16 (IntKind.i16.wrap (IntKind.i8.wrap (rd x0_1 (ji31))))))) ?hg ?ho ?hn ?hr ?_; (case ho => rfl); (case hg => rfl); (case hn => rfl); (case hr => first | (go_simp; done) | (go_simp; rfl)); intro w38 hw; have hg : wr.grownBy w38 (some go36) := (by rw [hw]; exact HP37.2); have hp_ : Kd.R (Kd.int .i16) 30 w38 w.heap.size (fun k_ => (w.heap.size ≤ k_)) (.slice (some ⟨go36, 0, none⟩) x6_2.length co36) y365 := (by rw [hw, Ny365.out]; exact HP37.1); clear HP37; have n0_ := Aside0.mk (Kd.V_afterv (v := (.slice (some ⟨go36, 0, none⟩) x6_2.length co36)) (v1 := (.slice (some ⟨go36, 0, none⟩) x6_2.length co36)) (ok := (fun k_ => (P0_ k_ ∨ w.heap.size ≤ k_))) z11_3 hg (.inl rfl)); have n1_ := Aside0.mk (hp_); have n2_ := Aside0.mk ((by rw [hw]; exact below_set (HB.out) GB36.out : Below w.heap.size w w38)); clear HO_0; clear HO_6; clear HB; have HO_0 := n0_; have HO_6 := n1_; have HB := n2_; clear n0_ n1_ n2_; clear hg hw hp_))
            go_roundg k2
            case measure => have := HK1.out; have := HK2.out; omega
            case rel => exact ⟨(y365), (wrap64 (x7_2 + 1)), ((x14_2 + 1) % 256), z11_5, z11_5, H', ⟨by have := HK1.out; have := HK2.out; omega⟩, ⟨z11_3⟩, ⟨z11_1⟩, ⟨z11_0⟩⟩
           ·rw [if_neg c30] at H
            have c30b0 : decide (x14_2 < (((Go.bits .and .u8 (rd x0_1 0) 63) + 1) % 256)) = false := decide_eq_false c30
            clear c30
            obtain ⟨ji39, hji39⟩ : ∃ j_ : Int, ((1 + (((Go.bits .and .u8 (rd x0_1 0) 63) + 1) % 256)) % 256) = j_ := ⟨_, rfl⟩
            replace H : (if 0 ≤ (ji39) then (if (ji39) ≤ (x0_1.length : Int) then (fUD.l0 k2 (x0_1.drop ((ji39) : Int).toNat) a1 x6_2 x7_2) else (none)) else (none)) = some (r1, r2) := by first | (rw [hji39] at H; exact H) | (simp only [hji39] at H ⊢; exact H)
            by_cases c40 : 0 ≤ (ji39)
            rotate_left
            ·rw [if_neg c40] at H
             exact absurd H (by simp)
            rw [if_pos c40] at H
            have c40b0 := eq_true c40
            have c40b1 : decide (0 ≤ (ji39)) = true := decide_eq_true c40
            clear c40
            by_cases c41 : (ji39) ≤ (x0_1.length : Int)
            rotate_left
            ·rw [if_neg c41] at H
             exact absurd H (by simp)
            rw [if_pos c41] at H
            have c41b0 := eq_true c41
            have c41b1 : decide ((ji39) ≤ (x0_1.length : Int)) = true := decide_eq_true c41
            clear c41
            obtain ⟨y366, hy366⟩ : ∃ y_ : List Int, y_ = (x0_1.drop ((ji39) : Int).toNat) := ⟨_, rfl⟩
            replace H : (fUD.l0 k2 y366 a1 x6_2 x7_2) = some (r1, r2) := by first | (rw [hy366]; with_reducible exact H) | (have H2_ := (Option.bind_some _ _).symm.trans H; rw [hy366]; with_reducible exact H2_) | (have H2_ := (Option.bind_some _ _).symm.trans H; with_reducible exact H2_) | with_reducible exact H | (rw [hy366]; exact H) | exact H
            have Ny366 := Aside0.mk hy366
            clear hy366
            have H' := Aside0.mk H
            clear H
            have q42 : ((ji39) : Int) ≤ ((x0_1.length : Int) : Int) := of_decide_eq_true z11_2
            obtain ⟨i042, hi042, _, hsz42, _⟩ := info_parts info5
            have hroom42 : x0_1.length ≤ co29 := (Kd.V_reads' HO_0.out).2.1
            have hC42 : Kd.F (Kd.int .u8) _ _ (some ad361) x0_1.length x0_1 := (Kd.V_at (base := w.heap.size) HO_0.out).2.2
            have q042 : (0 : Int) ≤ ((ji39) : Int) := of_decide_eq_true z11_2
            have hcut42 := cut_from (P := Try.prog) 22 5 .u8 Try.underlying22 hi042 1 hsz42 (some ad361) x0_1.length co29 (ji39) q042 q42
            have hr42 := Kd.F_cut (m := ((ji39) : Int).toNat) (c := co29) hC42 (by omega) hroom42
            obtain ⟨A42, hA42⟩ : ∃ A1, A1 = (if co29 = ((ji39) : Int).toNat then (some ad361) else ((some ad361) : Option Addr).map (·.add (((ji39) : Int).toNat * 1))) := ⟨_, rfl⟩
            obtain ⟨c42, hc42⟩ : ∃ c1, c1 = co29 - ((ji39) : Int).toNat := ⟨_, rfl⟩
            have hy42 : y366.length = x0_1.length - ((ji39) : Int).toNat := (by rw [Ny366.out, List.length_drop] <;> omega)
            rw [show (x0_1).drop ((ji39) : Int).toNat = y366 from Ny366.out.symm] at hr42
            replace hr42 : Kd.F (Kd.int .u8) _ _ A42 y366.length y366 := (by rw [hA42]; exact hr42)
            rw [← hy42, ← hA42, ← hc42] at hcut42
            have HO370 := Aside0.mk (show Kd.V (Kd.int .u8) 5 _ w.heap.size _ (.slice A42 y366.length c42) y366 from Kd.V_mk (by rw [hy42, hc42]; exact Nat.sub_le_sub_right hroom42 _) hr42)
            have HC370 := Aside0.mk (show y366.length ≤ c42 from by rw [hy42, hc42]; exact Nat.sub_le_sub_right hroom42 _)
            clear hr42 hC42 hroom42 hi042 hsz42 hc42
            have KY42 := Aside0.mk hy42
            have KA42 := Aside0.mk hA42
            clear hy42 hA42
            replace q42 := eq_true q42
            go_wp2
            go_roundg k2
            case measure => have := HK1.out; have := HK2.out; omega
            case rel => exact ⟨(y366), (x6_2), (x7_2), z11_5, H', ⟨by have := HK1.out; have := HK2.out; omega⟩, ⟨by (with_reducible repeat (first | apply Kd.V_alloc | apply Kd.V_drewN | apply Kd.V_drew)); exact HO370.out⟩, ⟨z11_1⟩, ⟨z11_0⟩⟩
       ·rw [if_neg c22] at H
        have c22b0 : ((Go.bits .and .u8 (rd x0_1 0) 64) == 0) = false := beq_eq_false_iff_ne.mpr c22
        have c22b1 : ((Go.bits .and .u8 (rd x0_1 0) 64) != 0) = true := bne_iff_ne.mpr c22
        by_cases c43 : (x0_1.length : Int) < (1 + (2 * (((Go.bits .and .u8 (rd x0_1 0) 63) + 1) % 256)))
        ·rw [if_pos c43] at H
         have c43b0 : decide ((x0_1.length : Int) < (1 + (2 * (((Go.bits .and .u8 (rd x0_1 0) 63) + 1) % 256)))) = true := decide_eq_true c43
         clear c43
         replace H := Option.bind_eq_some_iff.mp H
         obtain ⟨t371, A440, H⟩ := H
         replace H : (some (([] : List Int), t371)) = some (r1, r2) := H
         have A44 := Aside0.mk A440
         clear A440
         simp only [Option.some.injEq, Prod.mk.injEq] at H
         obtain ⟨rfl, rfl⟩ := H
         obtain ⟨Ao45, co45, eo45⟩ := Kd.V_slice HO_0.out
         subst eo45
         have p361 : 0 ≤ (0 : Int) := (by omega)
         have q361 : 0 < (x0_1.length : Int) := of_decide_eq_true z11_2
         obtain ⟨ad361, e361, hx361_0⟩ := Kd.at_int (Kd.V_reads' HO_0.out).2.2 0 p361 q361
         cases e361
         have qi361 : (0 < x0_1.length) = True := eq_true (by omega)
         (try rw [show ((0 : Int)).toNat = 0 from rfl] at hx361_0)
         (try rw [Addr.add_zero'] at hx361_0)
         replace p361 := eq_true p361
         replace q361 := eq_true q361
         go_wp2_with (first | ((with_reducible refine gate_callee (f := 56) rfl ?_); refine goesL_ (some 59) rfl rfl Try.func56 z11_7 rfl #[.string (⟨#[105, 110, 118, 97, 108, 105, 100, 32, 112, 97, 99, 107, 101, 100, 32, 100, 101, 108, 116, 97, 115, 32, 40, 69, 79, 70, 41]⟩ : ByteArray)] rfl z11_4 ?_; (with_reducible refine (eN.calls (⟨#[105, 110, 118, 97, 108, 105, 100, 32, 112, 97, 99, 107, 101, 100, 32, 100, 101, 108, 116, 97, 115, 32, 40, 69, 79, 70, 41]⟩ : ByteArray) t371 _ A44.out).mono ?_); rintro e w48 ⟨ev46, rfl, he47, hb⟩; refine ⟨_, rfl, ?_⟩; have n0_ := Aside0.mk (Kd.V_below z11_3 hb); have n1_ := Aside0.mk (Kd.R_below z11_1 hb); have n2_ := Aside0.mk (below_step z11_0 hb); clear HO_0; clear HO_6; clear HB; have HO_0 := n0_; have HO_6 := n1_; have HB := n2_; clear n0_ n1_ n2_ hb; (first | (obtain rfl := EV_none he47) | (obtain ⟨te_, pe_, rfl⟩ := EV_some he47) | skip)))
         go_ret2
         exact ⟨_, _, by first | rfl | (simp [errW_none, errW_some] <;> rfl) | (simp [*, errW_none, errW_some] <;> rfl), by first | exact Kd.R_nil _ _ _ _ _ | exact Kd.N_nil _ _ _ _ _ | exact Kd.V_nil _ _ _ _ _ | exact Kd.Q_nil _ _ _ _ _ | exact Kd.S_nil _ _ _ _ _, z11_6, by repeat (first | (with_reducible first | exact HB.out | apply below_alloc | apply pw_below_drewN | apply below_drew1 | refine below_set ?_ GB57.out) | exact HB.out)⟩
        ·rw [if_neg c43] at H
         have c43b0 : decide ((x0_1.length : Int) < (1 + (2 * (((Go.bits .and .u8 (rd x0_1 0) 63) + 1) % 256)))) = false := decide_eq_false c43
         clear c43
         have H' := Aside0.mk H
         clear H
         obtain ⟨Ao49, co49, eo49⟩ := Kd.V_slice HO_0.out
         subst eo49
         have p361 : 0 ≤ (0 : Int) := (by omega)
         have q361 : 0 < (x0_1.length : Int) := of_decide_eq_true z11_2
         obtain ⟨ad361, e361, hx361_0⟩ := Kd.at_int (Kd.V_reads' HO_0.out).2.2 0 p361 q361
         cases e361
         have qi361 : (0 < x0_1.length) = True := eq_true (by omega)
         (try rw [show ((0 : Int)).toNat = 0 from rfl] at hx361_0)
         (try rw [Addr.add_zero'] at hx361_0)
         replace p361 := eq_true p361
         replace q361 := eq_true q361
         go_wp2
         go_loopg [7, 13] k1 (fun kq v7 v13 w' => ∃ (x6_2 : List Int) (x7_2 : Int) (x13_2 : Int), v7 = .int .i64 x7_2 ∧ v13 = .int .u8 x13_2 ∧ Aside0 (fUD.l1 kq x0_1 a1 x6_2 x7_2 (((Go.bits .and .u8 (rd x0_1 0) 63) + 1) % 256) x13_2 = some (r1, r2)) ∧ Aside0 (kq ≤ k1) ∧ Aside0 (Kd.V (Kd.int .u8) 5 w' w.heap.size (fun k_ => (P0_ k_ ∨ w.heap.size ≤ k_) ∧ some k_ ≠ (v358 : Value).ownBlock) (.slice (some ad361) x0_1.length co49) x0_1) ∧ Aside0 (Kd.R (Kd.int .i16) 30 w' w.heap.size (fun k_ => (w.heap.size ≤ k_)) v358 x6_2) ∧ Aside0 (Below w.heap.size w w'))
         case atStart => exact ⟨(x6_1), (x7_1), (0), z11_5, z11_5, H', ⟨Nat.le_refl _⟩, ⟨z11_3⟩, ⟨z11_1⟩, ⟨z11_0⟩⟩
         case round =>
          clear H'
          clear c7b0 c8 c8b0 c8b1 c8b2 c14b0 c14b1 c15b0 c15b1 c16b0 c22 c22b0 c22b1 c43b0 hx361_0 p361 q361
          obtain ⟨x6_2, x7_2, x13_2, rfl, rfl, HA, HK2, HO_0, HO_6, HB⟩ := hrel
          cases gk with
          | zero => exact absurd HA.out (by simp [fUD.l1])
          | succ k2 =>
           have H := HA.out
           clear HA
           simp only [fUD.l1] at H
           by_cases c50 : x13_2 < (((Go.bits .and .u8 (rd x0_1 0) 63) + 1) % 256)
           ·rw [if_pos c50] at H
            have c50b0 : decide (x13_2 < (((Go.bits .and .u8 (rd x0_1 0) 63) + 1) % 256)) = true := decide_eq_true c50
            clear c50
            obtain ⟨ji51, hji51⟩ : ∃ j_ : Int, ((1 + ((2 * x13_2) % 256)) % 256) = j_ := ⟨_, rfl⟩
            have hji51b : 1 + 2 * x13_2 % 256 = ji51 := by omega
            replace H : (if 0 ≤ (ji51) then (if (ji51) ≤ (x0_1.length : Int) then ((bU.f (x0_1.drop ((ji51) : Int).toNat)).bind fun t377 => (if 0 ≤ x7_2 then (if x7_2 < (x6_2.length : Int) then (fUD.l1 k2 x0_1 a1 (x6_2.set (x7_2 : Int).toNat (IntKind.i16.wrap (t377))) (wrap64 (x7_2 + 1)) (((Go.bits .and .u8 (rd x0_1 0) 63) + 1) % 256) ((x13_2 + 1) % 256)) else (none)) else (none))) else (none)) else (none)) = some (r1, r2) := by first | (rw [hji51] at H; exact H) | (simp only [hji51] at H ⊢; exact H)
            by_cases c52 : 0 ≤ (ji51)
            rotate_left
            ·rw [if_neg c52] at H
             exact absurd H (by simp)
            rw [if_pos c52] at H
            have c52b0 := eq_true c52
            have c52b1 : decide (0 ≤ (ji51)) = true := decide_eq_true c52
            clear c52
            by_cases c53 : (ji51) ≤ (x0_1.length : Int)
            rotate_left
            ·rw [if_neg c53] at H
             exact absurd H (by simp)
            rw [if_pos c53] at H
            have c53b0 := eq_true c53
            have c53b1 : decide ((ji51) ≤ (x0_1.length : Int)) = true := decide_eq_true c53
            clear c53
            obtain ⟨y372, hy372⟩ : ∃ y_ : List Int, y_ = (x0_1.drop ((ji51) : Int).toNat) := ⟨_, rfl⟩
            replace H : ((bU.f y372).bind fun t377 => (if 0 ≤ x7_2 then (if x7_2 < (x6_2.length : Int) then (fUD.l1 k2 x0_1 a1 (x6_2.set (x7_2 : Int).toNat (IntKind.i16.wrap (t377))) (wrap64 (x7_2 + 1)) (((Go.bits .and .u8 (rd x0_1 0) 63) + 1) % 256) ((x13_2 + 1) % 256)) else (none)) else (none))) = some (r1, r2) := by first | (rw [hy372]; with_reducible exact H) | (have H2_ := (Option.bind_some _ _).symm.trans H; rw [hy372]; with_reducible exact H2_) | (have H2_ := (Option.bind_some _ _).symm.trans H; with_reducible exact H2_) | with_reducible exact H | (rw [hy372]; exact H) | exact H
            have Ny372 := Aside0.mk hy372
            clear hy372
            replace H := Option.bind_eq_some_iff.mp H
            obtain ⟨t377, A540, H⟩ := H
            replace H : (if 0 ≤ x7_2 then (if x7_2 < (x6_2.length : Int) then (fUD.l1 k2 x0_1 a1 (x6_2.set (x7_2 : Int).toNat (IntKind.i16.wrap (t377))) (wrap64 (x7_2 + 1)) (((Go.bits .and .u8 (rd x0_1 0) 63) + 1) % 256) ((x13_2 + 1) % 256)) else (none)) else (none)) = some (r1, r2) := H
            have A54 := Aside0.mk A540
            clear A540
            by_cases c55 : 0 ≤ x7_2
            rotate_left
            ·rw [if_neg c55] at H
             exact absurd H (by simp)
            rw [if_pos c55] at H
            have c55b0 : decide (0 ≤ x7_2) = true := decide_eq_true c55
            clear c55
            by_cases c56 : x7_2 < (x6_2.length : Int)
            rotate_left
            ·rw [if_neg c56] at H
             exact absurd H (by simp)
            rw [if_pos c56] at H
            have c56b0 : decide (x7_2 < (x6_2.length : Int)) = true := decide_eq_true c56
            clear c56
            obtain ⟨y378, hy378⟩ : ∃ y_ : List Int, y_ = (x6_2.set (x7_2 : Int).toNat (IntKind.i16.wrap (t377))) := ⟨_, rfl⟩
            replace H : (fUD.l1 k2 x0_1 a1 y378 (wrap64 (x7_2 + 1)) (((Go.bits .and .u8 (rd x0_1 0) 63) + 1) % 256) ((x13_2 + 1) % 256)) = some (r1, r2) := by first | (rw [hy378]; with_reducible exact H) | (have H2_ := (Option.bind_some _ _).symm.trans H; rw [hy378]; with_reducible exact H2_) | (have H2_ := (Option.bind_some _ _).symm.trans H; with_reducible exact H2_) | with_reducible exact H | (rw [hy378]; exact H) | exact H
            have Ny378 := Aside0.mk hy378
            clear hy378
            have H' := Aside0.mk H
            clear H
            try go_wp2
            have n0_ := Aside0.mk (Kd.V_drew HO_0.out)
            have n1_ := Aside0.mk (Kd.R_drew HO_6.out)
            have n2_ := Aside0.mk (below_drew1 HB.out)
            clear HO_0
            clear HO_6
            clear HB
            have HO_0 := n0_
            have HO_6 := n1_
            have HB := n2_
            clear n0_ n1_ n2_
            have q59 : ((ji51) : Int) ≤ ((x0_1.length : Int) : Int) := of_decide_eq_true z11_2
            obtain ⟨i059, hi059, _, hsz59, _⟩ := info_parts info5
            have hroom59 : x0_1.length ≤ co49 := (Kd.V_reads' HO_0.out).2.1
            have hC59 : Kd.F (Kd.int .u8) _ _ (some ad361) x0_1.length x0_1 := (Kd.V_at (base := w.heap.size) HO_0.out).2.2
            have q059 : (0 : Int) ≤ ((ji51) : Int) := of_decide_eq_true z11_2
            have hcut59 := cut_from (P := Try.prog) 22 5 .u8 Try.underlying22 hi059 1 hsz59 (some ad361) x0_1.length co49 (ji51) q059 q59
            have hr59 := Kd.F_cut (m := ((ji51) : Int).toNat) (c := co49) hC59 (by omega) hroom59
            obtain ⟨A59, hA59⟩ : ∃ A1, A1 = (if co49 = ((ji51) : Int).toNat then (some ad361) else ((some ad361) : Option Addr).map (·.add (((ji51) : Int).toNat * 1))) := ⟨_, rfl⟩
            obtain ⟨c59, hc59⟩ : ∃ c1, c1 = co49 - ((ji51) : Int).toNat := ⟨_, rfl⟩
            have hy59 : y372.length = x0_1.length - ((ji51) : Int).toNat := (by rw [Ny372.out, List.length_drop] <;> omega)
            rw [show (x0_1).drop ((ji51) : Int).toNat = y372 from Ny372.out.symm] at hr59
            replace hr59 : Kd.F (Kd.int .u8) _ _ A59 y372.length y372 := (by rw [hA59]; exact hr59)
            rw [← hy59, ← hA59, ← hc59] at hcut59
            have HO376 := Aside0.mk (show Kd.V (Kd.int .u8) 5 _ w.heap.size _ (.slice A59 y372.length c59) y372 from Kd.V_mk (by rw [hy59, hc59]; exact Nat.sub_le_sub_right hroom59 _) hr59)
            have HC376 := Aside0.mk (show y372.length ≤ c59 from by rw [hy59, hc59]; exact Nat.sub_le_sub_right hroom59 _)
            clear hr59 hC59 hroom59 hi059 hsz59 hc59
            have KY59 := Aside0.mk hy59
            have KA59 := Aside0.mk hA59
            clear hy59 hA59
            replace q59 := eq_true q59
            refine start_ (n := 12) (S := fun w' => True) (ds := [11]) #[ff,ff,ff,ff,ff,ff,ff,ff,ff,ff,ff,ff] z11_7 rfl rfl trivial (fun hHeld => ?_); refine with_tabW fUD.tab22 fUD.bits22 (fun HT_ HW_ => ?_)
            generalize wr.drew = w58 at HO_0 HO_6 HB HO376 hHeld ⊢
            refine pure_ (i := 0) (N := some 65) (v := ?_) (a' := ?_) #[tt,ff,ff,ff,ff,ff,ff,ff,ff,ff,ff,ff] rfl rfl (any_of HT_.out z11_7) (fun _ _ _ h => h) (Or.inl ⟨by rfl, ?_⟩) ?_ ?_
            rotate_left
            ·intro w'
             go_simp
             with_reducible rfl
            rotate_left
            ·simp only [Act.put, L1_, L2_, L3_, i64_w, i32_w]
             rfl
            refine pure_ (i := 1) (N := some 66) (v := ?_) (a' := ?_) #[tt,tt,ff,ff,ff,ff,ff,ff,ff,ff,ff,ff] rfl rfl (any_of HT_.out z11_7) (fun _ _ _ h => h) (Or.inl ⟨by rfl, ?_⟩) ?_ ?_
            rotate_left
            ·intro w'
             go_simp
             with_reducible rfl
            rotate_left
            ·simp only [Act.put, L1_, L2_, L3_, i64_w, i32_w]
             rfl
            refine pure_ (i := 2) (N := some 67) (v := ?_) (a' := ?_) #[tt,tt,tt,ff,ff,ff,ff,ff,ff,ff,ff,ff] rfl rfl (any_of HT_.out z11_7) (fun _ _ _ h => h) (Or.inl ⟨by rfl, ?_⟩) ?_ ?_
            rotate_left
            ·intro w'
             go_simp
             with_reducible rfl
            rotate_left
            ·simp only [Act.put, L1_, L2_, L3_, i64_w, i32_w]
             rfl
            refine pure_ (i := 3) (N := some 68) (v := ?_) (a' := ?_) #[tt,tt,tt,tt,ff,ff,ff,ff,ff,ff,ff,ff] rfl rfl (any_of HT_.out z11_7) (fun _ _ _ h => h) (Or.inl ⟨by rfl, ?_⟩) ?_ ?_
            rotate_left
            ·intro w'
             go_simp
             with_reducible rfl
            rotate_left
            ·simp only [Act.put, L1_, L2_, L3_, i64_w, i32_w]
             rfl
            refine pure_ (i := 4) (N := some 69) (v := ?_) (a' := ?_) #[tt,tt,tt,tt,tt,ff,ff,ff,ff,ff,ff,ff] rfl rfl (any_of HT_.out z11_7) (fun _ _ _ h => h) (Or.inl ⟨by rfl, ?_⟩) ?_ ?_
            rotate_left
            ·intro w'
             go_simp
             with_reducible rfl
            rotate_left
            ·simp only [Act.put, L1_, L2_, L3_, i64_w, i32_w]
             rfl
            refine pure_ (i := 5) (N := some 70) (v := ?_) (a' := ?_) #[tt,tt,tt,tt,tt,tt,ff,ff,ff,ff,ff,ff] rfl rfl (any_of HT_.out z11_7) (fun _ _ _ h => h) (Or.inl ⟨by rfl, ?_⟩) ?_ ?_
            rotate_left
            ·intro w'
             go_simp
             with_reducible rfl
            rotate_left
            ·(try go_ints); (try simp (disch := omega) only [n3_]); simp only [Act.put, L1_, L2_, L3_, i64_w, i32_w]
             rfl
            refine pure_ (i := 6) (N := some 71) (v := ?_) (a' := ?_) #[tt,tt,tt,tt,tt,tt,tt,ff,ff,ff,ff,ff] rfl rfl (any_of HT_.out z11_7) (fun _ _ _ h => h) (Or.inl ⟨by rfl, ?_⟩) ?_ ?_
            rotate_left
            ·intro w'
             go_simp
             with_reducible rfl
            rotate_left
            ·(try go_ints); (try simp (disch := omega) only [n3_]); simp only [Act.put, L1_, L2_, L3_, i64_w, i32_w]
             rfl
            refine pure_ (i := 7) (N := some 72) (v := ?_) (a' := ?_) #[tt,tt,tt,tt,tt,tt,tt,tt,ff,ff,ff,ff] rfl rfl (any_of HT_.out z11_7) (fun _ _ _ h => h) (Or.inl ⟨by rfl, ?_⟩) ?_ ?_
            rotate_left
            ·intro w'
             go_simp
             with_reducible rfl
            rotate_left
            ·simp only [Act.put, L1_, L2_, L3_, i64_w, i32_w]
             rfl
            refine one_ (i := 8) (N := some 73) #[tt,tt,tt,tt,tt,tt,tt,tt,tt,ff,ff,ff] rfl rfl (one_of HT_.out z11_7) (by decide) (fun K hK => ?_)
            refine goes_ Try.func57 z11_7 rfl #[.agg #[], .slice A59 y372.length c59] (by rfl) rfl rfl z11_4 ?_
            with_reducible refine (bU.calls _ _ y372 t377 _ ?side1 ?side2 A54.out).mono ?_
            (case side1 => repeat (first | exact (Kd.V_reads' HO376.out).2.2 | (with_reducible refine Kd.C_alloc ?_ _) | (with_reducible refine Kd.C_drewN ?_ _) | (with_reducible refine Kd.C_drew ?_)))
            (case side2 => exact (Kd.V_reads' HO376.out).2.1)
            rintro e w60 ⟨rfl, hb⟩
            refine ⟨_, rfl, ?_⟩
            have n0_ := Aside0.mk (Kd.V_below z11_3 hb)
            have n1_ := Aside0.mk (Kd.R_below z11_1 hb)
            have n2_ := Aside0.mk (Kd.V_below (by (with_reducible repeat (first | apply Kd.V_alloc | apply Kd.V_drewN | apply Kd.V_drew)); exact HO376.out) hb)
            have n3_ := Aside0.mk (below_step z11_0 hb)
            clear HO_0
            clear HO_6
            clear HO376
            clear HB
            have HO_0 := n0_
            have HO_6 := n1_
            have HO376 := n2_
            have HB := n3_
            clear n0_ n1_ n2_ n3_
            clear hb
            have p57 : 0 ≤ (x7_2 : Int) := of_decide_eq_true z11_2
            have q57 : (x7_2 : Int) < ((x6_2.length : Int) : Int) := of_decide_eq_true z11_2
            obtain ⟨go57, co57, eo57, gb57, gl57, cl57, HG57⟩ := Kd.R_form HO_6.out (by omega)
            (first | cases eo57 | (injection eo57 with ea_ en_ ec_; (first | subst ea_ | (injection ea_ with ea_; subst ea_)); subst ec_; clear en_))
            have GB57 := Aside0.mk gb57
            have GG57 := Aside0.mk HG57
            clear gb57 gl57 HG57
            obtain ⟨hx57_0, hf57_0⟩ := Kd.R_celln 0 HO_6.out (x7_2 : Int) p57 q57
            replace p57 := eq_true p57
            replace q57 := eq_true q57
            have HP61 := Kd.R_putn HO_6.out (x7_2 : Int) (IntKind.i16.wrap (t377))
            rw [← Ny378.out] at HP61
            have HQ61 := Aside0.mk HP61
            clear HP61
            refine hK.out _ _ trivial (fun hHeld => ?_)
            clear hK K
            refine norm_ (a' := ?_) ?_ ?_
            rotate_left
            ·show Act.put _ (some 73) _ = _
             simp only [Act.put, L1_, L2_, L3_, i64_w, i32_w]
             rfl
            refine pure_ (i := 9) (N := some 74) (v := ?_) (a' := ?_) #[tt,tt,tt,tt,tt,tt,tt,tt,tt,tt,ff,ff] rfl rfl (any_of HT_.out z11_7) (fun _ _ _ h => h) (Or.inl ⟨by rfl, ?_⟩) ?_ ?_
            rotate_left
            ·intro w'
             go_simp
             with_reducible rfl
            rotate_left
            ·(try go_ints); (try simp (disch := omega) only [n3_]); simp only [Act.put, L1_, L2_, L3_, i64_w, i32_w]
             rfl
            refine pure_ (i := 10) (N := some 75) (v := ?_) (a' := ?_) #[tt,tt,tt,tt,tt,tt,tt,tt,tt,tt,tt,ff] rfl rfl (any_of HT_.out z11_7) (fun _ _ _ h => h) (Or.inl ⟨by rfl, ?_⟩) ?_ ?_
            rotate_left
            ·intro w'
             go_simp
             with_reducible rfl
            rotate_left
            ·simp only [Act.put, L1_, L2_, L3_, i64_w, i32_w]
             rfl
            refine last_ (i := 11) (N := none) #[tt,tt,tt,tt,tt,tt,tt,tt,tt,tt,tt,tt] rfl rfl (one_of HT_.out z11_7) (by decide) (fun K hK => ?_)
            refine skip_ (w1 := ?_) (by rfl) rfl ?_ ?_
            rotate_left
            ·go_simp
             rfl
            refine hK.out _ _ ?_
            clear hK K
            refine done_ (done_of HT_.out z11_7) ?_
            try go_wp2
            go_roundg k2
            case measure => have := HK1.out; have := HK2.out; omega
            case rel => exact ⟨(y378), (wrap64 (x7_2 + 1)), ((x13_2 + 1) % 256), z11_5, z11_5, H', ⟨by have := HK1.out; have := HK2.out; omega⟩, ⟨by (with_reducible repeat (first | apply Kd.V_alloc | apply Kd.V_drewN | apply Kd.V_drew)); exact Kd.V_mono (Kd.V_far (p := ⟨go57, (x7_2 : Int).toNat, none⟩) (Kd.V_mono HO_0.out (fun k_ hk => (⟨hk, fun e_ => hk.2 (by rw [e_]; rfl)⟩ : _ ∧ k_ ≠ go57))) (fun _ hk => hk.2) (.int .i16 (IntKind.i16.wrap (t377)))) (fun _ hk => ⟨hk.1.1, hk.1.2⟩)⟩, ⟨by (with_reducible repeat (first | apply Kd.R_alloc | apply Kd.R_drewN | apply Kd.R_drew)); exact HQ61.out⟩, ⟨z11_0⟩⟩
           ·rw [if_neg c50] at H
            have c50b0 : decide (x13_2 < (((Go.bits .and .u8 (rd x0_1 0) 63) + 1) % 256)) = false := decide_eq_false c50
            clear c50
            obtain ⟨ji62, hji62⟩ : ∃ j_ : Int, ((1 + ((2 * (((Go.bits .and .u8 (rd x0_1 0) 63) + 1) % 256)) % 256)) % 256) = j_ := ⟨_, rfl⟩
            have hji62b : 1 + 2 * (((Go.bits .and .u8 (rd x0_1 0) 63) + 1) % 256) % 256 = ji62 := by omega
            replace H : (if 0 ≤ (ji62) then (if (ji62) ≤ (x0_1.length : Int) then (fUD.l0 k2 (x0_1.drop ((ji62) : Int).toNat) a1 x6_2 x7_2) else (none)) else (none)) = some (r1, r2) := by first | (rw [hji62] at H; exact H) | (simp only [hji62] at H ⊢; exact H)
            by_cases c63 : 0 ≤ (ji62)
            rotate_left
            ·rw [if_neg c63] at H
             exact absurd H (by simp)
            rw [if_pos c63] at H
            have c63b0 := eq_true c63
            have c63b1 : decide (0 ≤ (ji62)) = true := decide_eq_true c63
            clear c63
            by_cases c64 : (ji62) ≤ (x0_1.length : Int)
            rotate_left
            ·rw [if_neg c64] at H
             exact absurd H (by simp)
            rw [if_pos c64] at H
            have c64b0 := eq_true c64
            have c64b1 : decide ((ji62) ≤ (x0_1.length : Int)) = true := decide_eq_true c64
            clear c64
            obtain ⟨y379, hy379⟩ : ∃ y_ : List Int, y_ = (x0_1.drop ((ji62) : Int).toNat) := ⟨_, rfl⟩
            replace H : (fUD.l0 k2 y379 a1 x6_2 x7_2) = some (r1, r2) := by first | (rw [hy379]; with_reducible exact H) | (have H2_ := (Option.bind_some _ _).symm.trans H; rw [hy379]; with_reducible exact H2_) | (have H2_ := (Option.bind_some _ _).symm.trans H; with_reducible exact H2_) | with_reducible exact H | (rw [hy379]; exact H) | exact H
            have Ny379 := Aside0.mk hy379
            clear hy379
            have H' := Aside0.mk H
            clear H
            have q65 : ((ji62) : Int) ≤ ((x0_1.length : Int) : Int) := of_decide_eq_true z11_2
            obtain ⟨i065, hi065, _, hsz65, _⟩ := info_parts info5
            have hroom65 : x0_1.length ≤ co49 := (Kd.V_reads' HO_0.out).2.1
            have hC65 : Kd.F (Kd.int .u8) _ _ (some ad361) x0_1.length x0_1 := (Kd.V_at (base := w.heap.size) HO_0.out).2.2
            have q065 : (0 : Int) ≤ ((ji62) : Int) := of_decide_eq_true z11_2
            have hcut65 := cut_from (P := Try.prog) 22 5 .u8 Try.underlying22 hi065 1 hsz65 (some ad361) x0_1.length co49 (ji62) q065 q65
            have hr65 := Kd.F_cut (m := ((ji62) : Int).toNat) (c := co49) hC65 (by omega) hroom65
            obtain ⟨A65, hA65⟩ : ∃ A1, A1 = (if co49 = ((ji62) : Int).toNat then (some ad361) else ((some ad361) : Option Addr).map (·.add (((ji62) : Int).toNat * 1))) := ⟨_, rfl⟩
            obtain ⟨c65, hc65⟩ : ∃ c1, c1 = co49 - ((ji62) : Int).toNat := ⟨_, rfl⟩
            have hy65 : y379.length = x0_1.length - ((ji62) : Int).toNat := (by rw [Ny379.out, List.length_drop] <;> omega)
            rw [show (x0_1).drop ((ji62) : Int).toNat = y379 from Ny379.out.symm] at hr65
            replace hr65 : Kd.F (Kd.int .u8) _ _ A65 y379.length y379 := (by rw [hA65]; exact hr65)
            rw [← hy65, ← hA65, ← hc65] at hcut65
            have HO383 := Aside0.mk (show Kd.V (Kd.int .u8) 5 _ w.heap.size _ (.slice A65 y379.length c65) y379 from Kd.V_mk (by rw [hy65, hc65]; exact Nat.sub_le_sub_right hroom65 _) hr65)
            have HC383 := Aside0.mk (show y379.length ≤ c65 from by rw [hy65, hc65]; exact Nat.sub_le_sub_right hroom65 _)
            clear hr65 hC65 hroom65 hi065 hsz65 hc65
            have KY65 := Aside0.mk hy65
            have KA65 := Aside0.mk hA65
            clear hy65 hA65
            replace q65 := eq_true q65
            go_wp2
            go_roundg k2
            case measure => have := HK1.out; have := HK2.out; omega
            case rel => exact ⟨(y379), (x6_2), (x7_2), z11_5, H', ⟨by have := HK1.out; have := HK2.out; omega⟩, ⟨by (with_reducible repeat (first | apply Kd.V_alloc | apply Kd.V_drewN | apply Kd.V_drew)); exact HO383.out⟩, ⟨z11_1⟩, ⟨z11_0⟩⟩
     ·rw [if_neg c15] at H
      have c15b0 : ((Go.bits .and .u8 (rd x0_1 0) 128) == 0) = false := beq_eq_false_iff_ne.mpr c15
      have c15b1 : ((Go.bits .and .u8 (rd x0_1 0) 128) != 0) = true := bne_iff_ne.mpr c15
      by_cases c66 : 1 ≤ (x0_1.length : Int)
      rotate_left
      ·rw [if_neg c66] at H
       exact absurd H (by simp)
      rw [if_pos c66] at H
      have c66b0 := eq_true c66
      have c66b1 : decide (1 ≤ (x0_1.length : Int)) = true := decide_eq_true c66
      clear c66
      obtain ⟨y384, hy384⟩ : ∃ y_ : List Int, y_ = (x0_1.drop 1) := ⟨_, rfl⟩
      replace H : (fUD.l0 k1 y384 a1 x6_1 (wrap64 (x7_1 + (((Go.bits .and .u8 (rd x0_1 0) 63) + 1) % 256)))) = some (r1, r2) := by first | (rw [hy384]; with_reducible exact H) | (have H2_ := (Option.bind_some _ _).symm.trans H; rw [hy384]; with_reducible exact H2_) | (have H2_ := (Option.bind_some _ _).symm.trans H; with_reducible exact H2_) | with_reducible exact H | (rw [hy384]; exact H) | exact H
      have Ny384 := Aside0.mk hy384
      clear hy384
      have H' := Aside0.mk H
      clear H
      obtain ⟨Ao67, co67, eo67⟩ := Kd.V_slice HO_0.out
      subst eo67
      have p361 : 0 ≤ (0 : Int) := (by omega)
      have q361 : 0 < (x0_1.length : Int) := of_decide_eq_true z11_2
      obtain ⟨ad361, e361, hx361_0⟩ := Kd.at_int (Kd.V_reads' HO_0.out).2.2 0 p361 q361
      cases e361
      have qi361 : (0 < x0_1.length) = True := eq_true (by omega)
      (try rw [show ((0 : Int)).toNat = 0 from rfl] at hx361_0)
      (try rw [Addr.add_zero'] at hx361_0)
      replace p361 := eq_true p361
      replace q361 := eq_true q361
      have q68 : (1 : Int) ≤ ((x0_1.length : Int) : Int) := of_decide_eq_true z11_2
      obtain ⟨i068, hi068, _, hsz68, _⟩ := info_parts info5
      have hroom68 : x0_1.length ≤ co67 := (Kd.V_reads' HO_0.out).2.1
      have hC68 : Kd.F (Kd.int .u8) _ _ (some ad361) x0_1.length x0_1 := (Kd.V_at (base := w.heap.size) HO_0.out).2.2
      have hcut68 := cut_from (P := Try.prog) 22 5 .i64 Try.underlying22 hi068 1 hsz68 (some ad361) x0_1.length co67 1 (by omega) q68
      have hr68 := Kd.F_cut (m := (1 : Int).toNat) (c := co67) hC68 (by omega) hroom68
      obtain ⟨A68, hA68⟩ : ∃ A1, A1 = (if co67 = (1 : Int).toNat then (some ad361) else ((some ad361) : Option Addr).map (·.add ((1 : Int).toNat * 1))) := ⟨_, rfl⟩
      obtain ⟨c68, hc68⟩ : ∃ c1, c1 = co67 - (1 : Int).toNat := ⟨_, rfl⟩
      have hy68 : y384.length = x0_1.length - (1 : Int).toNat := (by rw [Ny384.out, List.length_drop] <;> omega)
      rw [show (x0_1).drop (1 : Int).toNat = y384 from Ny384.out.symm] at hr68
      replace hr68 : Kd.F (Kd.int .u8) _ _ A68 y384.length y384 := (by rw [hA68]; exact hr68)
      rw [← hy68, ← hA68, ← hc68] at hcut68
      have HO388 := Aside0.mk (show Kd.V (Kd.int .u8) 5 _ w.heap.size _ (.slice A68 y384.length c68) y384 from Kd.V_mk (by rw [hy68, hc68]; exact Nat.sub_le_sub_right hroom68 _) hr68)
      have HC388 := Aside0.mk (show y384.length ≤ c68 from by rw [hy68, hc68]; exact Nat.sub_le_sub_right hroom68 _)
      clear hr68 hC68 hroom68 hi068 hsz68 hc68
      have KY68 := Aside0.mk hy68
      have KA68 := Aside0.mk hA68
      clear hy68 hA68
      replace q68 := eq_true q68
      go_wp2
      go_roundg k1
      case measure => have := HK1.out; omega
      case rel => exact ⟨(y384), (x6_1), (wrap64 (x7_1 + (((Go.bits .and .u8 (rd x0_1 0) 63) + 1) % 256))), z11_5, H', ⟨by have := HK1.out; omega⟩, ⟨by (with_reducible repeat (first | apply Kd.V_alloc | apply Kd.V_drewN | apply Kd.V_drew)); exact HO388.out⟩, ⟨z11_1⟩, ⟨z11_0⟩⟩
   ·rw [if_neg c7] at H
    have c7b0 : decide (x7_1 < a1) = false := decide_eq_false c7
    clear c7
    simp only [Option.some.injEq, Prod.mk.injEq] at H
    obtain ⟨rfl, rfl⟩ := H
    go_wp2
    go_ret2
    exact ⟨_, _, by first | rfl | (simp [errW_none, errW_some] <;> rfl) | (simp [*, errW_none, errW_some] <;> rfl), by (with_reducible repeat (first | apply Kd.R_alloc | apply Kd.R_drewN | apply Kd.R_drew)); exact HO_6.out, z11_6, by repeat (first | (with_reducible first | exact HB.out | apply below_alloc | apply pw_below_drewN | apply below_drew1 | refine below_set ?_ GB57.out) | exact HB.out)⟩

end Go.Proofs.Ytchkmmbedgolbaa.PFnTuplesOf

