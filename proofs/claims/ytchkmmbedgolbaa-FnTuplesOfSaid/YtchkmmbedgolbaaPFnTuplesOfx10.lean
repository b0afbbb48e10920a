-- Written by a program of this session (xprint) out of the translation; Lean checks it.
import Derived.Test.YtchkmmbedgolbaaPFnTuplesOfx0
import Derived.Test.YtchkmmbedgolbaaPFnTuplesOfx9
namespace Go.Proofs.Ytchkmmbedgolbaa.PFnTuplesOf
open Go.RowKit Go.Proofs.YtchkmmbedgolbaaW.PrintWords Go.Proofs.YtchkmmbedgolbaaW.PrintLast Go.Proofs.YtchkmmbedgolbaaW.PrintMore
attribute [local go_sem] max2_int min2_int max_two min_two max_three min_three max_four min_four   -- for this text's walks alone
set_option linter.unusedVariables false
set_option linter.unusedSimpArgs false
theorem z10_9 {p : Prop} (h : p := by (with_reducible repeat (first | apply Kd.R_alloc | apply Kd.R_drewN | apply Kd.R_drew)); exact HO_64.out) : p := h
theorem z10_8 {p : Prop} (h : p := by (with_reducible repeat (first | apply Kd.V_alloc | apply Kd.V_drewN | apply Kd.V_drew)); exact HO341.out) : p := h
theorem z10_7 {p : Prop} (h : p := by first | assumption | exact rfl | exact ⟨_, _, rfl⟩) : p := h
theorem z10_6 {p : Prop} (h : p := by (with_reducible repeat (first | apply Kd.V_alloc | apply Kd.V_drewN | apply Kd.V_drew)); exact HO0.out) : p := h
theorem z10_5 {p : Prop} (h : p := by first | rfl | (simp; done) | (simp [*]; done)) : p := h
theorem z10_4 {p : Prop} (h : p := by (with_reducible repeat (first | apply Kd.V_alloc | apply Kd.V_drewN | apply Kd.V_drew)); exact HO_0.out) : p := h
theorem z10_3 {p : Prop} (h : p := by first | (with_reducible assumption) | assumption) : p := h
theorem z10_2 {p : Prop} (h : p := by (try simp only [List.map_toArray, List.map_cons, List.map_nil]); first | done | rfl | (simp only [List.length_drop, List.length_take]; rfl)) : p := h
theorem z10_1 {p : Prop} (h : p := by (with_reducible repeat (first | apply Kd.R_alloc | apply Kd.R_drewN | apply Kd.R_drew)); exact HO_8.out) : p := h
theorem z10_0 {p : Prop} (h : p := by repeat (first | (with_reducible first | exact HB.out | apply below_alloc | apply pw_below_drewN | apply below_drew1) | exact HB.out)) : p := h

mutual
def fPN.l0 : Nat → List Int → Int → Int → List Int → Option (List Int × List Int × Option Int)
 | 0, _, _, _, _ => none
 | k + 1, x0, x5, x7, x8 => if (x8.length : Int) < (wrap64 (x5)) then (if (x0.length : Int) = 0 then ((eN.f (⟨#[105, 110, 118, 97, 108, 105, 100, 32, 103, 108, 121, 112, 104, 32, 118, 97, 114, 105, 97, 116, 105, 111, 110, 32, 112, 111, 105, 110, 116, 115, 32, 110, 117, 109, 98, 101, 114, 115, 32, 40, 69, 79, 70, 41]⟩ : ByteArray)).bind fun t320 => (some (([] : List Int), ([] : List Int), t320))) else (if 0 < (x0.length : Int) then (if (Go.bits .and .u8 (rd x0 0) 128) = 0 then (if (x0.length : Int) < (1 + (((Go.bits .and .u8 (rd x0 0) 127) + 1) % 256)) then ((eN.f (⟨#[105, 110, 118, 97, 108, 105, 100, 32, 103, 108, 121, 112, 104, 32, 118, 97, 114, 105, 97, 116, 105, 111, 110, 32, 112, 111, 105, 110, 116, 115, 32, 110, 117, 109, 98, 101, 114, 115, 32, 40, 69, 79, 70, 41]⟩ : ByteArray)).bind fun t322 => (some (([] : List Int), ([] : List Int), t322))) else (if 1 ≤ (1 + (((Go.bits .and .u8 (rd x0 0) 127) + 1) % 256)) then (if (1 + (((Go.bits .and .u8 (rd x0 0) 127) + 1) % 256)) ≤ (x0.length : Int) then ((some ((x0.take ((1 + (((Go.bits .and .u8 (rd x0 0) 127) + 1) % 256)) : Int).toNat).drop 1 : List Int)).bind fun y323 => (fPN.l2 k x0 x5 x7 x8 (((Go.bits .and .u8 (rd x0 0) 127) + 1) % 256) y323 (y323.length : Int) 0)) else (none)) else (none))) else (if 1 ≤ (x0.length : Int) then ((tPU.f k (x0.drop 1) (((Go.bits .and .u8 (rd x0 0) 127) + 1) % 256)).bind fun bt342 => (if bt342.2.isNone = true then (fPN.l1 k x0 x5 x7 x8 (((Go.bits .and .u8 (rd x0 0) 127) + 1) % 256) bt342.1 (bt342.1.length : Int) 0) else ((eN.f (⟨#[105, 110, 118, 97, 108, 105, 100, 32, 103, 108, 121, 112, 104, 32, 118, 97, 114, 105, 97, 116, 105, 111, 110, 32, 112, 111, 105, 110, 116, 115, 32, 110, 117, 109, 98, 101, 114, 115, 58, 32, 37, 115]⟩ : ByteArray)).bind fun t356 => (some (([] : List Int), ([] : List Int), t356))))) else (none))) else (none))) else (some (x8, x0, none))
def fPN.l2 : Nat → List Int → Int → Int → List Int → Int → List Int → Int → Int → Option (List Int × List Int × Option Int)
 | 0, _, _, _, _, _, _, _, _ => none
 | k + 1, x0, x5, x7, x8, x11, x93, x94, x95 => if x95 < x94 then (if 0 ≤ x95 then (if x95 < (x93.length : Int) then (if x8.length < 70368744177664 then (fPN.l2 k x0 x5 (IntKind.u16.wrap ((IntKind.u16.wrap (rd x93 x95)) + x7)) (x8 ++ [IntKind.u16.wrap ((IntKind.u16.wrap (rd x93 x95)) + x7)]) x11 x93 x94 (wrap64 (x95 + 1))) else (none)) else (none)) else (none)) else (if 0 ≤ (wrap64 (1 + x11)) then (if (wrap64 (1 + x11)) ≤ (x0.length : Int) then (fPN.l0 k (x0.drop ((wrap64 (1 + x11)) : Int).toNat) x5 x7 x8) else (none)) else (none))
def fPN.l1 : Nat → List Int → Int → Int → List Int → Int → List Int → Int → Int → Option (List Int × List Int × Option Int)
 | 0, _, _, _, _, _, _, _, _ => none
 | k + 1, x0, x5, x7, x8, x11, x64, x65, x66 => if x66 < x65 then (if 0 ≤ x66 then (if x66 < (x64.length : Int) then (if x8.length < 70368744177664 then (fPN.l1 k x0 x5 (IntKind.u16.wrap ((rd x64 x66) + x7)) (x8 ++ [IntKind.u16.wrap ((rd x64 x66) + x7)]) x11 x64 x65 (wrap64 (x66 + 1))) else (none)) else (none)) else (none)) else (if 0 ≤ (wrap64 (1 + (wrap64 (2 * x11)))) then (if (wrap64 (1 + (wrap64 (2 * x11)))) ≤ (x0.length : Int) then (fPN.l0 k (x0.drop ((wrap64 (1 + (wrap64 (2 * x11)))) : Int).toNat) x5 x7 x8) else (none)) else (none))
end
def fPN.f (k : Nat) (l0 : List Int) : Option (List Int × List Int × Option Int) := (gPC.f l0).bind fun bt311 => (if bt311.2.2.isNone = true then (if bt311.1 = 0 then (some (([] : List Int), bt311.2.1, none)) else (if 0 ≤ bt311.1 then (if (bt311.1 : Int).toNat ≤ 140737488355328 then (fPN.l0 k bt311.2.1 bt311.1 0 (([] : List Int))) else (none)) else (none))) else (some (([] : List Int), ([] : List Int), some (bt311.2.2.getD 0))))
theorem fPN.mono_l : ∀ k, (∀ y0 y1 y2 y3, LeO (fPN.l0 k y0 y1 y2 y3) (fPN.l0 (k + 1) y0 y1 y2 y3)) ∧ (∀ y0 y1 y2 y3 y4 y5 y6 y7, LeO (fPN.l2 k y0 y1 y2 y3 y4 y5 y6 y7) (fPN.l2 (k + 1) y0 y1 y2 y3 y4 y5 y6 y7)) ∧ (∀ y0 y1 y2 y3 y4 y5 y6 y7, LeO (fPN.l1 k y0 y1 y2 y3 y4 y5 y6 y7) (fPN.l1 (k + 1) y0 y1 y2 y3 y4 y5 y6 y7))
 | 0 => ⟨fun _ _ _ _ r h => by simp [fPN.l0] at h, fun _ _ _ _ _ _ _ _ r h => by simp [fPN.l2] at h, fun _ _ _ _ _ _ _ _ r h => by simp [fPN.l1] at h⟩
 | k + 1 => by
  obtain ⟨ih0, ih1, ih2⟩ := fPN.mono_l k
  refine ⟨?_, ?_, ?_⟩
  all_goals intros
  all_goals first | unfold fPN.l0 | unfold fPN.l2 | unfold fPN.l1
  all_goals repeat' first
  | (with_reducible exact ih0 _ _ _ _)
  | (with_reducible exact ih1 _ _ _ _ _ _ _ _)
  | (with_reducible exact ih2 _ _ _ _ _ _ _ _)
  | (with_reducible exact tPU.mono _ _ _)
  | (with_reducible exact LeO.refl _)
  | (with_reducible exact LeO.none _)
  | (with_reducible refine LeO.ite ?_ ?_)
  | (with_reducible refine LeO.bind ?_ (fun _ => ?_))
theorem fPN.mono : ∀ a0 k, LeO (fPN.f k a0) (fPN.f (k + 1) a0) := by
 intro a0 k
 obtain ⟨ih0, ih1, ih2⟩ := fPN.mono_l k
 unfold fPN.f
 repeat' first
   | (with_reducible exact ih0 _ _ _ _)
   | (with_reducible exact ih1 _ _ _ _ _ _ _ _)
   | (with_reducible exact ih2 _ _ _ _ _ _ _ _)
   | (with_reducible exact tPU.mono _ _ _)
   | (with_reducible exact LeO.refl _)
   | (with_reducible exact LeO.none _)
   | (with_reducible refine LeO.ite ?_ ?_)
   | (with_reducible refine LeO.bind ?_ (fun _ => ?_))
set_option maxHeartbeats 8000000 in
set_option maxRecDepth 100000 in
theorem fPN.calls (k : Nat) (P0_ : Nat → Prop) (A0 : Option Addr) (c0 : Nat) (l0 : List Int) (r1 : List Int) (r2 : List Int) (r3 : Option Int) (w : World) (hs0 : Kd.V (Kd.int .u8) 5 w w.heap.size (fun k_ => P0_ k_) (.slice A0 l0.length c0) l0) (h : fPN.f k l0 = some (r1, r2, r3)) :
  Calls Try.prog 77 #[.slice A0 l0.length c0] w fun e w' => ∃ v0_ v1_ : Value, ∃ e2_ : Value, e = .returned (.tuple #[v0_, v1_, e2_]) ∧ Kd.R (Kd.int .u16) 35 w' w.heap.size (fun k_ => (w.heap.size ≤ k_)) v0_ r1 ∧ Kd.V (Kd.int .u8) 5 w' w.heap.size (fun k_ => (P0_ k_ ∨ w.heap.size ≤ k_) ∧ some k_ ≠ (v0_ : Value).ownBlock) v1_ r2 ∧ EV e2_ r3 ∧ Below w.heap.size w w' := by
 have hu115 := Try.underlying115
 have HO0 := Aside0.mk (show Kd.V (Kd.int .u8) 5 w w.heap.size (fun k_ => (P0_ k_ ∨ w.heap.size ≤ k_)) (.slice A0 l0.length c0) l0 from Kd.V_mono hs0 (fun k_ hk => .inl hk))
 have HB := Aside0.mk (Below.refl w.heap.size w)
 have H : ((gPC.f l0).bind fun bt311 => (if bt311.2.2.isNone = true then (if bt311.1 = 0 then (some (([] : List Int), bt311.2.1, none)) else (if 0 ≤ bt311.1 then (if (bt311.1 : Int).toNat ≤ 140737488355328 then (fPN.l0 k bt311.2.1 bt311.1 0 (([] : List Int))) else (none)) else (none))) else (some (([] : List Int), ([] : List Int), some (bt311.2.2.getD 0))))) = some (r1, r2, r3) := h
 clear h
 replace H := Option.bind_eq_some_iff.mp H
 obtain ⟨⟨t311, t312, t315⟩, A20, H⟩ := H
 replace H : (if t315.isNone = true then (if t311 = 0 then (some (([] : List Int), t312, none)) else (if 0 ≤ t311 then (if (t311 : Int).toNat ≤ 140737488355328 then (fPN.l0 k t312 t311 0 (([] : List Int))) else (none)) else (none))) else (some (([] : List Int), ([] : List Int), some (t315.getD 0)))) = some (r1, r2, r3) := H
 have A2 := Aside0.mk A20
 clear A20
 rcases t315 with _ | q316
 ·have H1 : (if t311 = 0 then (some (([] : List Int), t312, none)) else (if 0 ≤ t311 then (if (t311 : Int).toNat ≤ 140737488355328 then (fPN.l0 k t312 t311 0 (([] : List Int))) else (none)) else (none))) = some (r1, r2, r3) := by rw [if_pos (show (none : Option Int).isNone = true by rfl)] at H; exact H
  clear H
  have H := H1
  clear H1
  try simp only [errW_none, errW_some]
  by_cases c3 : t311 = 0
  ·rw [if_pos c3] at H
   have c3b0 : (t311 == 0) = true := beq_iff_eq.mpr c3
   have c3b1 : (t311 != 0) = false := bne_eq_false_iff_eq.mpr c3
   clear c3
   simp only [Option.some.injEq, Prod.mk.injEq] at H
   obtain ⟨rfl, rfl, rfl⟩ := H
   go_enter Try.func77, Try.ntmps77
   go_wp2_with (first | ((with_reducible refine gate_callee (f := 91) rfl ?_); refine goesL_ (some 22) rfl rfl Try.func91 (by kernel_rfl) rfl #[.slice A0 l0.length c0] rfl z10_2 ?_; (with_reducible refine (gPC.calls (fun k_ => (P0_ k_ ∨ w.heap.size ≤ k_)) _ _ l0 t311 t312 none _ ?side1 A2.out).mono ?_); (case side1 => exact HO0.out); rintro e w6 ⟨v313, ev4, rfl, ho0, he5, hb⟩; refine ⟨_, rfl, ?_⟩; have n0_ := Aside0.mk (Kd.V_below z10_6 hb); have n1_ := Aside0.mk (Kd.V_lower (Kd.V_mono (ok' := fun k_ => (P0_ k_ ∨ w.heap.size ≤ k_)) ho0 (fun k_ hk_ => Or.elim hk_ (fun hs_ => hs_) (fun hn_ => (.inr (Nat.le_trans (below_size z10_0) hn_))))) (below_size z10_0)); have n2_ := Aside0.mk (below_step z10_0 hb); clear HO0; clear HB; have HO0 := n0_; have HO314 := n1_; have HB := n2_; clear n0_ n1_ n2_ hb ho0; (first | (obtain rfl := EV_none he5) | (obtain ⟨te_, pe_, rfl⟩ := EV_some he5) | skip)))
   go_ret3
   exact ⟨_, _, _, by first | rfl | (simp [errW_none, errW_some] <;> rfl) | (simp [*, errW_none, errW_some] <;> rfl), by first | exact Kd.R_nil _ _ _ _ _ | exact Kd.N_nil _ _ _ _ _ | exact Kd.V_nil _ _ _ _ _ | exact Kd.Q_nil _ _ _ _ _ | exact Kd.S_nil _ _ _ _ _, by (with_reducible repeat (first | apply Kd.V_alloc | apply Kd.V_drewN | apply Kd.V_drew)); exact Kd.V_mono HO314.out (fun _ hk => ⟨hk, (by simp [Value.ownBlock])⟩), z10_7, by repeat (first | (with_reducible first | exact HB.out | apply below_alloc | apply pw_below_drewN | apply below_drew1) | exact HB.out)⟩
  ·rw [if_neg c3] at H
   have c3b0 : (t311 == 0) = false := beq_eq_false_iff_ne.mpr c3
   have c3b1 : (t311 != 0) = true := bne_iff_ne.mpr c3
   by_cases c7 : 0 ≤ t311
   rotate_left
   ·rw [if_neg c7] at H
    exact absurd H (by simp)
   rw [if_pos c7] at H
   have c7b0 := eq_true c7
   have c7b1 : decide (0 ≤ t311) = true := decide_eq_true c7
   clear c7
   by_cases c8 : (t311 : Int).toNat ≤ 140737488355328
   rotate_left
   ·rw [if_neg c8] at H
    exact absurd H (by simp)
   rw [if_pos c8] at H
   have c8b0 := eq_true c8
   have c8b1 : decide ((t311 : Int).toNat ≤ 140737488355328) = true := decide_eq_true c8
   clear c8
   obtain ⟨y317, hy317⟩ : ∃ y_ : List Int, y_ = (([] : List Int)) := ⟨_, rfl⟩
   replace H : (fPN.l0 k t312 t311 0 y317) = some (r1, r2, r3) := by first | (rw [hy317]; with_reducible exact H) | (have H2_ := (Option.bind_some _ _).symm.trans H; rw [hy317]; with_reducible exact H2_) | (have H2_ := (Option.bind_some _ _).symm.trans H; with_reducible exact H2_) | with_reducible exact H | (rw [hy317]; exact H) | exact H
   have Ny317 := Aside0.mk hy317
   clear hy317
   have H' := Aside0.mk H
   clear H
   go_enter Try.func77, Try.ntmps77
   go_wp2_with (first | ((with_reducible refine gate_callee (f := 91) rfl ?_); refine goesL_ (some 22) rfl rfl Try.func91 (by kernel_rfl) rfl #[.slice A0 l0.length c0] rfl z10_2 ?_; (with_reducible refine (gPC.calls (fun k_ => (P0_ k_ ∨ w.heap.size ≤ k_)) _ _ l0 t311 t312 none _ ?side1 A2.out).mono ?_); (case side1 => exact HO0.out); rintro e w11 ⟨v313, ev9, rfl, ho0, he10, hb⟩; refine ⟨_, rfl, ?_⟩; have n0_ := Aside0.mk (Kd.V_below z10_6 hb); have n1_ := Aside0.mk (Kd.V_lower (Kd.V_mono (ok' := fun k_ => (P0_ k_ ∨ w.heap.size ≤ k_)) ho0 (fun k_ hk_ => Or.elim hk_ (fun hs_ => hs_) (fun hn_ => (.inr (Nat.le_trans (below_size z10_0) hn_))))) (below_size z10_0)); have n2_ := Aside0.mk (below_step z10_0 hb); clear HO0; clear HB; have HO0 := n0_; have HO314 := n1_; have HB := n2_; clear n0_ n1_ n2_ hb ho0; (first | (obtain rfl := EV_none he10) | (obtain ⟨te_, pe_, rfl⟩ := EV_some he10) | skip)) | ((with_reducible refine gate_dst (N := 33) rfl ?_); refine R_make0 (Kd.int .u16) _ 35 rfl (N := 33) rfl 34 _ _ rfl t311 rfl rfl Try.underlying34 (.int .u16 0) 2 info35 (by decide) (by omega) (ok := fun _ => True) trivial (of_decide_eq_true z10_3) (Nat.le_trans (Nat.mul_le_mul_right _ (of_decide_eq_true z10_3 : t311.toNat ≤ 140737488355328)) (by omega)) (Below.refl _ _) (Nat.le_refl _) ?_; intro v318 w12 ho13 hb hg_ hnew_; clear hg_ hnew_; (first | rw [← Ny317.out] at ho13 | (simp only [Int.reduceToNat] at ho13; rw [← Ny317.out] at ho13)); have n0_ := Aside0.mk (Kd.V_elder' z10_6 (Kd.R_base ho13) hb); have n1_ := Aside0.mk (Kd.V_elder' (by (with_reducible repeat (first | apply Kd.V_alloc | apply Kd.V_drewN | apply Kd.V_drew)); exact HO314.out) (Kd.R_base ho13) hb); have n2_ := Aside0.mk (Kd.R_lower (Kd.R_newM (M := fun k_ => (w.heap.size ≤ k_)) ho13 (below_size z10_0) (fun k_ h_ => h_)) (below_size z10_0)); have n3_ := Aside0.mk (below_step z10_0 hb); clear HO0; clear HO314; clear HB; have HO0 := n0_; have HO314 := n1_; have HO319 := n2_; have HB := n3_; clear n0_ n1_ n2_ n3_; clear hb ho13))
   go_loopg [0, 7, 8] k (fun kq v0 v7 v8 w' => ∃ (x0_1 : List Int) (x7_1 : Int) (x8_1 : List Int), v7 = .int .u16 x7_1 ∧ Aside0 (fPN.l0 kq x0_1 t311 x7_1 x8_1 = some (r1, r2, r3)) ∧ Aside0 (kq ≤ k) ∧ Aside0 (Kd.V (Kd.int .u8) 5 w' w.heap.size (fun k_ => (P0_ k_ ∨ w.heap.size ≤ k_) ∧ some k_ ≠ (v8 : Value).ownBlock) v0 x0_1) ∧ Aside0 (Kd.R (Kd.int .u16) 35 w' w.heap.size (fun k_ => (w.heap.size ≤ k_)) v8 x8_1) ∧ Aside0 (Below w.heap.size w w'))
   case atStart => exact ⟨(t312), (0), (y317), z10_5, H', ⟨Nat.le_refl _⟩, ⟨by (with_reducible repeat (first | apply Kd.V_alloc | apply Kd.V_drewN | apply Kd.V_drew)); exact HO314.out⟩, ⟨by (with_reducible repeat (first | apply Kd.R_alloc | apply Kd.R_drewN | apply Kd.R_drew)); exact Kd.R_mono HO319.out (fun _ hk => hk.1)⟩, ⟨z10_0⟩⟩
   case round =>
    clear H'
    clear c3 c3b0 c3b1 c7b0 c7b1 c8b0 c8b1
    obtain ⟨x0_1, x7_1, x8_1, rfl, HA, HK1, HO_0, HO_8, HB⟩ := hrel
    cases gk with
    | zero => exact absurd HA.out (by simp [fPN.l0])
    | succ k1 =>
     have H := HA.out
     clear HA
     simp only [fPN.l0] at H
     by_cases c14 : (x8_1.length : Int) < (wrap64 (t311))
     ·rw [if_pos c14] at H
      have c14b0 : decide ((x8_1.length : Int) < (wrap64 (t311))) = true := decide_eq_true c14
      clear c14
      by_cases c15 : (x0_1.length : Int) = 0
      ·rw [if_pos c15] at H
       have c15b0 : ((x0_1.length : Int) == 0) = true := beq_iff_eq.mpr c15
       have c15b1 : ((x0_1.length : Int) != 0) = false := bne_eq_false_iff_eq.mpr c15
       clear c15
       replace H := Option.bind_eq_some_iff.mp H
       obtain ⟨t320, A160, H⟩ := H
       replace H : (some (([] : List Int), ([] : List Int), t320)) = some (r1, r2, r3) := H
       have A16 := Aside0.mk A160
       clear A160
       simp only [Option.some.injEq, Prod.mk.injEq] at H
       obtain ⟨rfl, rfl, rfl⟩ := H
       obtain ⟨Ao17, co17, eo17⟩ := Kd.R_slice HO_8.out
       subst eo17
       obtain ⟨Ao18, co18, eo18⟩ := Kd.V_slice HO_0.out
       subst eo18
       go_wp2_with (first | ((with_reducible refine gate_callee (f := 56) rfl ?_); refine goesL_ (some 42) rfl rfl Try.func56 (by kernel_rfl) rfl #[.string (⟨#[105, 110, 118, 97, 108, 105, 100, 32, 103, 108, 121, 112, 104, 32, 118, 97, 114, 105, 97, 116, 105, 111, 110, 32, 112, 111, 105, 110, 116, 115, 32, 110, 117, 109, 98, 101, 114, 115, 32, 40, 69, 79, 70, 41]⟩ : ByteArray)] rfl z10_2 ?_; (with_reducible refine (eN.calls (⟨#[105, 110, 118, 97, 108, 105, 100, 32, 103, 108, 121, 112, 104, 32, 118, 97, 114, 105, 97, 116, 105, 111, 110, 32, 112, 111, 105, 110, 116, 115, 32, 110, 117, 109, 98, 101, 114, 115, 32, 40, 69, 79, 70, 41]⟩ : ByteArray) t320 _ A16.out).mono ?_); rintro e w21 ⟨ev19, rfl, he20, hb⟩; refine ⟨_, rfl, ?_⟩; have n0_ := Aside0.mk (Kd.V_below z10_4 hb); have n1_ := Aside0.mk (Kd.R_below z10_1 hb); have n2_ := Aside0.mk (below_step z10_0 hb); clear HO_0; clear HO_8; clear HB; have HO_0 := n0_; have HO_8 := n1_; have HB := n2_; clear n0_ n1_ n2_ hb; (first | (obtain rfl := EV_none he20) | (obtain ⟨te_, pe_, rfl⟩ := EV_some he20) | skip)))
       go_ret3
       exact ⟨_, _, _, by first | rfl | (simp [errW_none, errW_some] <;> rfl) | (simp [*, errW_none, errW_some] <;> rfl), by first | exact Kd.R_nil _ _ _ _ _ | exact Kd.N_nil _ _ _ _ _ | exact Kd.V_nil _ _ _ _ _ | exact Kd.Q_nil _ _ _ _ _ | exact Kd.S_nil _ _ _ _ _, Kd.V_nil _ _ _ _ _, z10_7, by repeat (first | (with_reducible first | exact HB.out | apply below_alloc | apply pw_below_drewN | apply below_drew1) | exact HB.out)⟩
      ·rw [if_neg c15] at H
       have c15b0 : ((x0_1.length : Int) == 0) = false := beq_eq_false_iff_ne.mpr c15
       have c15b1 : ((x0_1.length : Int) != 0) = true := bne_iff_ne.mpr c15
       have c15b2 : ¬ (x0_1 = []) := fun h_ => c15 (by rw [h_]; rfl)
       by_cases c22 : 0 < (x0_1.length : Int)
       rotate_left
       ·rw [if_neg c22] at H
        exact absurd H (by simp)
       rw [if_pos c22] at H
       have c22b0 : decide (0 < (x0_1.length : Int)) = true := decide_eq_true c22
       have c22b1 : decide (0 < x0_1.length) = true := decide_eq_true (by omega)
       clear c22
       by_cases c23 : (Go.bits .and .u8 (rd x0_1 0) 128) = 0
       ·rw [if_pos c23] at H
        have c23b0 : ((Go.bits .and .u8 (rd x0_1 0) 128) == 0) = true := beq_iff_eq.mpr c23
        have c23b1 : ((Go.bits .and .u8 (rd x0_1 0) 128) != 0) = false := bne_eq_false_iff_eq.mpr c23
        clear c23
        by_cases c24 : (x0_1.length : Int) < (1 + (((Go.bits .and .u8 (rd x0_1 0) 127) + 1) % 256))
        ·rw [if_pos c24] at H
         have c24b0 : decide ((x0_1.length : Int) < (1 + (((Go.bits .and .u8 (rd x0_1 0) 127) + 1) % 256))) = true := decide_eq_true c24
         clear c24
         replace H := Option.bind_eq_some_iff.mp H
         obtain ⟨t322, A250, H⟩ := H
         replace H : (some (([] : List Int), ([] : List Int), t322)) = some (r1, r2, r3) := H
         have A25 := Aside0.mk A250
         clear A250
         simp only [Option.some.injEq, Prod.mk.injEq] at H
         obtain ⟨rfl, rfl, rfl⟩ := H
         obtain ⟨Ao26, co26, eo26⟩ := Kd.R_slice HO_8.out
         subst eo26
         obtain ⟨Ao27, co27, eo27⟩ := Kd.V_slice HO_0.out
         subst eo27
         have p321 : 0 ≤ (0 : Int) := (by omega)
         have q321 : 0 < (x0_1.length : Int) := of_decide_eq_true z10_3
         obtain ⟨ad321, e321, hx321_0⟩ := Kd.at_int (Kd.V_reads' HO_0.out).2.2 0 p321 q321
         cases e321
         have qi321 : (0 < x0_1.length) = True := eq_true (by omega)
         (try rw [show ((0 : Int)).toNat = 0 from rfl] at hx321_0)
         (try rw [Addr.add_zero'] at hx321_0)
         replace p321 := eq_true p321
         replace q321 := eq_true q321
         go_wp2_with (first | ((with_reducible refine gate_callee (f := 56) rfl ?_); refine goesL_ (some 89) rfl rfl Try.func56 (by kernel_rfl) rfl #[.string (⟨#[105, 110, 118, 97, 108, 105, 100, 32, 103, 108, 121, 112, 104, 32, 118, 97, 114, 105, 97, 116, 105, 111, 110, 32, 112, 111, 105, 110, 116, 115, 32, 110, 117, 109, 98, 101, 114, 115, 32, 40, 69, 79, 70, 41]⟩ : ByteArray)] rfl z10_2 ?_; (with_reducible refine (eN.calls (⟨#[105, 110, 118, 97, 108, 105, 100, 32, 103, 108, 121, 112, 104, 32, 118, 97, 114, 105, 97, 116, 105, 111, 110, 32, 112, 111, 105, 110, 116, 115, 32, 110, 117, 109, 98, 101, 114, 115, 32, 40, 69, 79, 70, 41]⟩ : ByteArray) t322 _ A25.out).mono ?_); rintro e w30 ⟨ev28, rfl, he29, hb⟩; refine ⟨_, rfl, ?_⟩; have n0_ := Aside0.mk (Kd.V_below z10_4 hb); have n1_ := Aside0.mk (Kd.R_below z10_1 hb); have n2_ := Aside0.mk (below_step z10_0 hb); clear HO_0; clear HO_8; clear HB; have HO_0 := n0_; have HO_8 := n1_; have HB := n2_; clear n0_ n1_ n2_ hb; (first | (obtain rfl := EV_none he29) | (obtain ⟨te_, pe_, rfl⟩ := EV_some he29) | skip)))
         go_ret3
         exact ⟨_, _, _, by first | rfl | (simp [errW_none, errW_some] <;> rfl) | (simp [*, errW_none, errW_some] <;> rfl), by first | exact Kd.R_nil _ _ _ _ _ | exact Kd.N_nil _ _ _ _ _ | exact Kd.V_nil _ _ _ _ _ | exact Kd.Q_nil _ _ _ _ _ | exact Kd.S_nil _ _ _ _ _, Kd.V_nil _ _ _ _ _, z10_7, by repeat (first | (with_reducible first | exact HB.out | apply below_alloc | apply pw_below_drewN | apply below_drew1) | exact HB.out)⟩
        ·rw [if_neg c24] at H
         have c24b0 : decide ((x0_1.length : Int) < (1 + (((Go.bits .and .u8 (rd x0_1 0) 127) + 1) % 256))) = false := decide_eq_false c24
         clear c24
         by_cases c31 : 1 ≤ (1 + (((Go.bits .and .u8 (rd x0_1 0) 127) + 1) % 256))
         rotate_left
         ·rw [if_neg c31] at H
          exact absurd H (by simp)
         rw [if_pos c31] at H
         have c31b0 := eq_true c31
         have c31b1 : decide (1 ≤ (1 + (((Go.bits .and .u8 (rd x0_1 0) 127) + 1) % 256))) = true := decide_eq_true c31
         by_cases c32 : (1 + (((Go.bits .and .u8 (rd x0_1 0) 127) + 1) % 256)) ≤ (x0_1.length : Int)
         rotate_left
         ·rw [if_neg c32] at H
          exact absurd H (by simp)
         rw [if_pos c32] at H
         have c32b0 := eq_true c32
         have c32b1 : decide ((1 + (((Go.bits .and .u8 (rd x0_1 0) 127) + 1) % 256)) ≤ (x0_1.length : Int)) = true := decide_eq_true c32
         obtain ⟨y323, hy323⟩ : ∃ y_ : List Int, y_ = ((x0_1.take ((1 + (((Go.bits .and .u8 (rd x0_1 0) 127) + 1) % 256)) : Int).toNat).drop 1) := ⟨_, rfl⟩
         replace H : (fPN.l2 k1 x0_1 t311 x7_1 x8_1 (((Go.bits .and .u8 (rd x0_1 0) 127) + 1) % 256) y323 (y323.length : Int) 0) = some (r1, r2, r3) := by first | (rw [hy323]; with_reducible exact H) | (have H2_ := (Option.bind_some _ _).symm.trans H; rw [hy323]; with_reducible exact H2_) | (have H2_ := (Option.bind_some _ _).symm.trans H; with_reducible exact H2_) | with_reducible exact H | (rw [hy323]; exact H) | exact H
         have Ny323 := Aside0.mk hy323
         clear hy323
         have H' := Aside0.mk H
         clear H
         obtain ⟨Ao33, co33, eo33⟩ := Kd.R_slice HO_8.out
         subst eo33
         obtain ⟨Ao34, co34, eo34⟩ := Kd.V_slice HO_0.out
         subst eo34
         have p321 : 0 ≤ (0 : Int) := (by omega)
         have q321 : 0 < (x0_1.length : Int) := of_decide_eq_true z10_3
         obtain ⟨ad321, e321, hx321_0⟩ := Kd.at_int (Kd.V_reads' HO_0.out).2.2 0 p321 q321
         cases e321
         have qi321 : (0 < x0_1.length) = True := eq_true (by omega)
         (try rw [show ((0 : Int)).toNat = 0 from rfl] at hx321_0)
         (try rw [Addr.add_zero'] at hx321_0)
         replace p321 := eq_true p321
         replace q321 := eq_true q321
         have q35 : ((1 + (((Go.bits .and .u8 (rd x0_1 0) 127) + 1) % 256)) : Int) ≤ ((x0_1.length : Int) : Int) := of_decide_eq_true z10_3
         obtain ⟨i035, hi035, _, hsz35, _⟩ := info_parts info5
         have hroom35 : x0_1.length ≤ co34 := (Kd.V_reads' HO_0.out).2.1
         have hC35 : Kd.F (Kd.int .u8) _ _ (some ad321) x0_1.length x0_1 := (Kd.V_at (base := w.heap.size) HO_0.out).2.2
         have ql35 : (1 : Int) ≤ ((1 + (((Go.bits .and .u8 (rd x0_1 0) 127) + 1) % 256)) : Int) := of_decide_eq_true z10_3
         have hcut35 := cut_mid (P := Try.prog) 22 5 .i64 .i64 Try.underlying22 hi035 1 hsz35 (some ad321) x0_1.length co34 1 (1 + (((Go.bits .and .u8 (rd x0_1 0) 127) + 1) % 256)) (by omega) ql35 q35 hroom35
         have hr35 := Kd.F_mid (lo := (1 : Int).toNat) (hi := ((1 + (((Go.bits .and .u8 (rd x0_1 0) 127) + 1) % 256)) : Int).toNat) (c := co34) hC35 (by omega) (by omega) hroom35
         obtain ⟨A35, hA35⟩ : ∃ A1, A1 = (if co34 = (1 : Int).toNat then (some ad321) else ((some ad321) : Option Addr).map (·.add ((1 : Int).toNat * 1))) := ⟨_, rfl⟩
         obtain ⟨c35, hc35⟩ : ∃ c1, c1 = co34 - (1 : Int).toNat := ⟨_, rfl⟩
         have hy35 : y323.length = ((1 + (((Go.bits .and .u8 (rd x0_1 0) 127) + 1) % 256)) : Int).toNat - (1 : Int).toNat := (by rw [Ny323.out, List.length_drop, List.length_take] <;> omega)
         rw [show ((x0_1).take ((1 + (((Go.bits .and .u8 (rd x0_1 0) 127) + 1) % 256)) : Int).toNat).drop (1 : Int).toNat = y323 from Ny323.out.symm] at hr35
         replace hr35 : Kd.F (Kd.int .u8) _ _ A35 y323.length y323 := (by rw [hA35]; exact hr35)
         rw [← hy35, ← hA35, ← hc35] at hcut35
         have HO327 := Aside0.mk (show Kd.V (Kd.int .u8) 5 _ w.heap.size _ (.slice A35 y323.length c35) y323 from Kd.V_mk (by rw [hy35, hc35]; exact Nat.sub_le_sub_right (Nat.le_trans (by omega) hroom35) _) hr35)
         have HC327 := Aside0.mk (show y323.length ≤ c35 from by rw [hy35, hc35]; exact Nat.sub_le_sub_right (Nat.le_trans (by omega) hroom35) _)
         clear hr35 hC35 hroom35 hi035 hsz35 hc35
         have KY35 := Aside0.mk hy35
         have KA35 := Aside0.mk hA35
         clear hy35 hA35
         replace q35 := eq_true q35
         go_wp2
         go_loopg [7, 8, 95] k1 (fun kq v7 v8 v95 w' => ∃ (x7_2 : Int) (x8_2 : List Int) (x95_2 : Int), v7 = .int .u16 x7_2 ∧ v95 = .int .i64 x95_2 ∧ Aside0 (fPN.l2 kq x0_1 t311 x7_2 x8_2 (((Go.bits .and .u8 (rd x0_1 0) 127) + 1) % 256) y323 (y323.length : Int) x95_2 = some (r1, r2, r3)) ∧ Aside0 (kq ≤ k1) ∧ Aside0 (Kd.V (Kd.int .u8) 5 w' w.heap.size (fun k_ => (P0_ k_ ∨ w.heap.size ≤ k_) ∧ some k_ ≠ (v8 : Value).ownBlock) (.slice (some ad321) x0_1.length co34) x0_1) ∧ Aside0 (Kd.R (Kd.int .u16) 35 w' w.heap.size (fun k_ => (w.heap.size ≤ k_)) v8 x8_2) ∧ Aside0 (Kd.V (Kd.int .u8) 5 w' w.heap.size (fun k_ => (P0_ k_ ∨ w.heap.size ≤ k_) ∧ some k_ ≠ (v8 : Value).ownBlock) (.slice A35 y323.length c35) y323) ∧ Aside0 (Below w.heap.size w w'))
         case atStart => exact ⟨(x7_1), (x8_1), (0), z10_5, z10_5, H', ⟨Nat.le_refl _⟩, ⟨z10_4⟩, ⟨z10_1⟩, ⟨by (with_reducible repeat (first | apply Kd.V_alloc | apply Kd.V_drewN | apply Kd.V_drew)); exact HO327.out⟩, ⟨z10_0⟩⟩
         case round =>
          clear H'
          clear c14b0 c15 c15b0 c15b1 c15b2 c22b0 c22b1 c23b0 c23b1 c24b0 c31 c31b0 c31b1 c32 c32b0 c32b1 q35 hx321_0 p321 q321
          obtain ⟨x7_2, x8_2, x95_2, rfl, rfl, HA, HK2, HO_0, HO_8, HO_93, HB⟩ := hrel
          cases gk with
          | zero => exact absurd HA.out (by simp [fPN.l2])
          | succ k2 =>
           have H := HA.out
           clear HA
           simp only [fPN.l2] at H
           by_cases c36 : x95_2 < (y323.length : Int)
           ·rw [if_pos c36] at H
            have c36b0 : decide (x95_2 < (y323.length : Int)) = true := decide_eq_true c36
            clear c36
            by_cases c37 : 0 ≤ x95_2
            rotate_left
            ·rw [if_neg c37] at H
             exact absurd H (by simp)
            rw [if_pos c37] at H
            have c37b0 : decide (0 ≤ x95_2) = true := decide_eq_true c37
            clear c37
            by_cases c38 : x95_2 < (y323.length : Int)
            rotate_left
            ·rw [if_neg c38] at H
             exact absurd H (by simp)
            rw [if_pos c38] at H
            have c38b0 : decide (x95_2 < (y323.length : Int)) = true := decide_eq_true c38
            clear c38
            by_cases c39 : x8_2.length < 70368744177664
            rotate_left
            ·rw [if_neg c39] at H
             exact absurd H (by simp)
            rw [if_pos c39] at H
            have LMc39 := Aside0.mk c39
            clear c39
            obtain ⟨y329, hy329⟩ : ∃ y_ : List Int, y_ = (x8_2 ++ [IntKind.u16.wrap ((IntKind.u16.wrap (rd y323 x95_2)) + x7_2)]) := ⟨_, rfl⟩
            replace H : (fPN.l2 k2 x0_1 t311 (IntKind.u16.wrap ((IntKind.u16.wrap (rd y323 x95_2)) + x7_2)) y329 (((Go.bits .and .u8 (rd x0_1 0) 127) + 1) % 256) y323 (y323.length : Int) (wrap64 (x95_2 + 1))) = some (r1, r2, r3) := by first | (rw [hy329]; with_reducible exact H) | (have H2_ := (Option.bind_some _ _).symm.trans H; rw [hy329]; with_reducible exact H2_) | (have H2_ := (Option.bind_some _ _).symm.trans H; with_reducible exact H2_) | with_reducible exact H | (rw [hy329]; exact H) | exact H
            have Ny329 := Aside0.mk hy329
            clear hy329
            have H' := Aside0.mk H
            clear H
            have p328 : 0 ≤ (x95_2 : Int) := of_decide_eq_true z10_3
            have q328 : x95_2 < (y323.length : Int) := of_decide_eq_true z10_3
            obtain ⟨ad328, e328, hx328_0⟩ := Kd.at_int (Kd.V_reads' HO_93.out).2.2 x95_2 p328 q328
            cases e328
            replace p328 := eq_true p328
            replace q328 := eq_true q328
            go_wp2_with (first | ((with_reducible refine gate_builtin (b := .append) (xs := #[.tmp 103, .tmp 105]) rfl ?_); at_builtin; refine Kd.R_append (Kd.int .u16) (w0 := w) w.heap.size rfl (.tmp 103) (.tmp 105) 34 35 (.int .u16 0) 2 rfl Try.underlying34 info35 rfl (by decide) (by omega) u8 x8_2 (IntKind.u16.wrap ((IntKind.u16.wrap (rd y323 x95_2)) + x7_2)) [.int .u16 (IntKind.u16.wrap ((IntKind.u16.wrap (rd y323 x95_2)) + x7_2))] (fun k_ => (w.heap.size ≤ k_)) (fun _ => False) rfl rfl ?aP (fun _ hk => hk.elim) ?aF ?aO ?aB ?aS ?aL ?_; (case aP => exact rfl); (case aB => exact z10_0); (case aF => exact (fun k_ hk => (Nat.le_trans (below_size z10_0) hk))); (case aO => exact z10_1); (case aS => exact (below_size z10_0)); (case aL => have := LMc39.out; omega); intro v330 w40 ho hb hg hat; rw [← Ny329.out] at ho; have n0_ := Aside0.mk (Kd.V_afterv (ok := (fun k_ => (P0_ k_ ∨ w.heap.size ≤ k_))) z10_4 hg hat); have n1_ := Aside0.mk (Kd.V_afterv (ok := (fun k_ => (P0_ k_ ∨ w.heap.size ≤ k_))) (by (with_reducible repeat (first | apply Kd.V_alloc | apply Kd.V_drewN | apply Kd.V_drew)); exact HO_93.out) hg hat); have n2_ := Aside0.mk (hb); have n3_ := Aside0.mk (ho); clear HO_0; clear HO_93; clear HB; clear HO_8; have HO_0 := n0_; have HO_93 := n1_; have HB := n2_; have HO331 := n3_; clear n0_ n1_ n2_ n3_; clear ho hb hg hat))
            go_roundg k2
            case measure => have := HK1.out; have := HK2.out; omega
            case rel => exact ⟨(IntKind.u16.wrap ((IntKind.u16.wrap (rd y323 x95_2)) + x7_2)), (y329), (wrap64 (x95_2 + 1)), z10_5, z10_5, H', ⟨by have := HK1.out; have := HK2.out; omega⟩, ⟨z10_4⟩, ⟨by (with_reducible repeat (first | apply Kd.R_alloc | apply Kd.R_drewN | apply Kd.R_drew)); exact HO331.out⟩, ⟨by (with_reducible repeat (first | apply Kd.V_alloc | apply Kd.V_drewN | apply Kd.V_drew)); exact HO_93.out⟩, ⟨z10_0⟩⟩
           ·rw [if_neg c36] at H
            have c36b0 : decide (x95_2 < (y323.length : Int)) = false := decide_eq_false c36
            clear c36
            obtain ⟨ji41, hji41⟩ : ∃ j_ : Int, (wrap64 (1 + (((Go.bits .and .u8 (rd x0_1 0) 127) + 1) % 256))) = j_ := ⟨_, rfl⟩
            replace H : (if 0 ≤ (ji41) then (if (ji41) ≤ (x0_1.length : Int) then (fPN.l0 k2 (x0_1.drop ((ji41) : Int).toNat) t311 x7_2 x8_2) else (none)) else (none)) = some (r1, r2, r3) := by first | (rw [hji41] at H; exact H) | (simp only [hji41] at H ⊢; exact H)
            have hji41w : (IntKind.i64.wrap (1 + (((Go.bits .and .u8 (rd x0_1 0) 127) + 1) % 256))) = ji41 := (i64_w _).trans hji41
            by_cases c42 : 0 ≤ (ji41)
            rotate_left
            ·rw [if_neg c42] at H
             exact absurd H (by simp)
            rw [if_pos c42] at H
            have c42b0 := eq_true c42
            have c42b1 : decide (0 ≤ (ji41)) = true := decide_eq_true c42
            clear c42
            by_cases c43 : (ji41) ≤ (x0_1.length : Int)
            rotate_left
            ·rw [if_neg c43] at H
             exact absurd H (by simp)
            rw [if_pos c43] at H
            have c43b0 := eq_true c43
            have c43b1 : decide ((ji41) ≤ (x0_1.length : Int)) = true := decide_eq_true c43
            clear c43
            obtain ⟨y332, hy332⟩ : ∃ y_ : List Int, y_ = (x0_1.drop ((ji41) : Int).toNat) := ⟨_, rfl⟩
            replace H : (fPN.l0 k2 y332 t311 x7_2 x8_2) = some (r1, r2, r3) := by first | (rw [hy332]; with_reducible exact H) | (have H2_ := (Option.bind_some _ _).symm.trans H; rw [hy332]; with_reducible exact H2_) | (have H2_ := (Option.bind_some _ _).symm.trans H; with_reducible exact H2_) | with_reducible exact H | (rw [hy332]; exact H) | exact H
            have Ny332 := Aside0.mk hy332
            clear hy332
            have H' := Aside0.mk H
            clear H
            have q44 : ((ji41) : Int) ≤ ((x0_1.length : Int) : Int) := of_decide_eq_true z10_3
            obtain ⟨i044, hi044, _, hsz44, _⟩ := info_parts info5
            have hroom44 : x0_1.length ≤ co34 := (Kd.V_reads' HO_0.out).2.1
            have hC44 : Kd.F (Kd.int .u8) _ _ (some ad321) x0_1.length x0_1 := (Kd.V_at (base := w.heap.size) HO_0.out).2.2
            have q044 : (0 : Int) ≤ ((ji41) : Int) := of_decide_eq_true z10_3
            have hcut44 := cut_from (P := Try.prog) 22 5 .i64 Try.underlying22 hi044 1 hsz44 (some ad321) x0_1.length co34 (ji41) q044 q44
            have hr44 := Kd.F_cut (m := ((ji41) : Int).toNat) (c := co34) hC44 (by omega) hroom44
            obtain ⟨A44, hA44⟩ : ∃ A1, A1 = (if co34 = ((ji41) : Int).toNat then (some ad321) else ((some ad321) : Option Addr).map (·.add (((ji41) : Int).toNat * 1))) := ⟨_, rfl⟩
            obtain ⟨c44, hc44⟩ : ∃ c1, c1 = co34 - ((ji41) : Int).toNat := ⟨_, rfl⟩
            have hy44 : y332.length = x0_1.length - ((ji41) : Int).toNat := (by rw [Ny332.out, List.length_drop] <;> omega)
            rw [show (x0_1).drop ((ji41) : Int).toNat = y332 from Ny332.out.symm] at hr44
            replace hr44 : Kd.F (Kd.int .u8) _ _ A44 y332.length y332 := (by rw [hA44]; exact hr44)
            rw [← hy44, ← hA44, ← hc44] at hcut44
            have HO336 := Aside0.mk (show Kd.V (Kd.int .u8) 5 _ w.heap.size _ (.slice A44 y332.length c44) y332 from Kd.V_mk (by rw [hy44, hc44]; exact Nat.sub_le_sub_right hroom44 _) hr44)
            have HC336 := Aside0.mk (show y332.length ≤ c44 from by rw [hy44, hc44]; exact Nat.sub_le_sub_right hroom44 _)
            clear hr44 hC44 hroom44 hi044 hsz44 hc44
            have KY44 := Aside0.mk hy44
            have KA44 := Aside0.mk hA44
            clear hy44 hA44
            replace q44 := eq_true q44
            go_wp2
            go_roundg k2
            case measure => have := HK1.out; have := HK2.out; omega
            case rel => exact ⟨(y332), (x7_2), (x8_2), z10_5, H', ⟨by have := HK1.out; have := HK2.out; omega⟩, ⟨by (with_reducible repeat (first | apply Kd.V_alloc | apply Kd.V_drewN | apply Kd.V_drew)); exact HO336.out⟩, ⟨z10_1⟩, ⟨z10_0⟩⟩
       ·rw [if_neg c23] at H
        have c23b0 : ((Go.bits .and .u8 (rd x0_1 0) 128) == 0) = false := beq_eq_false_iff_ne.mpr c23
        have c23b1 : ((Go.bits .and .u8 (rd x0_1 0) 128) != 0) = true := bne_iff_ne.mpr c23
        by_cases c45 : 1 ≤ (x0_1.length : Int)
        rotate_left
        ·rw [if_neg c45] at H
         exact absurd H (by simp)
        rw [if_pos c45] at H
        have c45b0 := eq_true c45
        have c45b1 : decide (1 ≤ (x0_1.length : Int)) = true := decide_eq_true c45
        clear c45
        obtain ⟨y337, hy337⟩ : ∃ y_ : List Int, y_ = (x0_1.drop 1) := ⟨_, rfl⟩
        replace H : ((tPU.f k1 y337 (((Go.bits .and .u8 (rd x0_1 0) 127) + 1) % 256)).bind fun bt342 => (if bt342.2.isNone = true then (fPN.l1 k1 x0_1 t311 x7_1 x8_1 (((Go.bits .and .u8 (rd x0_1 0) 127) + 1) % 256) bt342.1 (bt342.1.length : Int) 0) else ((eN.f (⟨#[105, 110, 118, 97, 108, 105, 100, 32, 103, 108, 121, 112, 104, 32, 118, 97, 114, 105, 97, 116, 105, 111, 110, 32, 112, 111, 105, 110, 116, 115, 32, 110, 117, 109, 98, 101, 114, 115, 58, 32, 37, 115]⟩ : ByteArray)).bind fun t356 => (some (([] : List Int), ([] : List Int), t356))))) = some (r1, r2, r3) := by first | (rw [hy337]; with_reducible exact H) | (have H2_ := (Option.bind_some _ _).symm.trans H; rw [hy337]; with_reducible exact H2_) | (have H2_ := (Option.bind_some _ _).symm.trans H; with_reducible exact H2_) | with_reducible exact H | (rw [hy337]; exact H) | exact H
        have Ny337 := Aside0.mk hy337
        clear hy337
        replace H := Option.bind_eq_some_iff.mp H
        obtain ⟨⟨t342, t343⟩, A460, H⟩ := H
        replace H : (if t343.isNone = true then (fPN.l1 k1 x0_1 t311 x7_1 x8_1 (((Go.bits .and .u8 (rd x0_1 0) 127) + 1) % 256) t342 (t342.length : Int) 0) else ((eN.f (⟨#[105, 110, 118, 97, 108, 105, 100, 32, 103, 108, 121, 112, 104, 32, 118, 97, 114, 105, 97, 116, 105, 111, 110, 32, 112, 111, 105, 110, 116, 115, 32, 110, 117, 109, 98, 101, 114, 115, 58, 32, 37, 115]⟩ : ByteArray)).bind fun t356 => (some (([] : List Int), ([] : List Int), t356)))) = some (r1, r2, r3) := H
        have A46 := Aside0.mk A460
        clear A460
        rcases t343 with _ | q346
        ·have H1 : (fPN.l1 k1 x0_1 t311 x7_1 x8_1 (((Go.bits .and .u8 (rd x0_1 0) 127) + 1) % 256) t342 (t342.length : Int) 0) = some (r1, r2, r3) := by rw [if_pos (show (none : Option Int).isNone = true by rfl)] at H; exact H
         clear H
         have H := H1
         clear H1
         try simp only [errW_none, errW_some]
         have H' := Aside0.mk H
         clear H
         obtain ⟨Ao47, co47, eo47⟩ := Kd.R_slice HO_8.out
         subst eo47
         obtain ⟨Ao48, co48, eo48⟩ := Kd.V_slice HO_0.out
         subst eo48
         have p321 : 0 ≤ (0 : Int) := (by omega)
         have q321 : 0 < (x0_1.length : Int) := of_decide_eq_true z10_3
         obtain ⟨ad321, e321, hx321_0⟩ := Kd.at_int (Kd.V_reads' HO_0.out).2.2 0 p321 q321
         cases e321
         have qi321 : (0 < x0_1.length) = True := eq_true (by omega)
         (try rw [show ((0 : Int)).toNat = 0 from rfl] at hx321_0)
         (try rw [Addr.add_zero'] at hx321_0)
         replace p321 := eq_true p321
         replace q321 := eq_true q321
         have q49 : (1 : Int) ≤ ((x0_1.length : Int) : Int) := of_decide_eq_true z10_3
         obtain ⟨i049, hi049, _, hsz49, _⟩ := info_parts info5
         have hroom49 : x0_1.length ≤ co48 := (Kd.V_reads' HO_0.out).2.1
         have hC49 : Kd.F (Kd.int .u8) _ _ (some ad321) x0_1.length x0_1 := (Kd.V_at (base := w.heap.size) HO_0.out).2.2
         have hcut49 := cut_from (P := Try.prog) 22 5 .i64 Try.underlying22 hi049 1 hsz49 (some ad321) x0_1.length co48 1 (by omega) q49
         have hr49 := Kd.F_cut (m := (1 : Int).toNat) (c := co48) hC49 (by omega) hroom49
         obtain ⟨A49, hA49⟩ : ∃ A1, A1 = (if co48 = (1 : Int).toNat then (some ad321) else ((some ad321) : Option Addr).map (·.add ((1 : Int).toNat * 1))) := ⟨_, rfl⟩
         obtain ⟨c49, hc49⟩ : ∃ c1, c1 = co48 - (1 : Int).toNat := ⟨_, rfl⟩
         have hy49 : y337.length = x0_1.length - (1 : Int).toNat := (by rw [Ny337.out, List.length_drop] <;> omega)
         rw [show (x0_1).drop (1 : Int).toNat = y337 from Ny337.out.symm] at hr49
         replace hr49 : Kd.F (Kd.int .u8) _ _ A49 y337.length y337 := (by rw [hA49]; exact hr49)
         rw [← hy49, ← hA49, ← hc49] at hcut49
         have HO341 := Aside0.mk (show Kd.V (Kd.int .u8) 5 _ w.heap.size _ (.slice A49 y337.length c49) y337 from Kd.V_mk (by rw [hy49, hc49]; exact Nat.sub_le_sub_right hroom49 _) hr49)
         have HC341 := Aside0.mk (show y337.length ≤ c49 from by rw [hy49, hc49]; exact Nat.sub_le_sub_right hroom49 _)
         clear hr49 hC49 hroom49 hi049 hsz49 hc49
         have KY49 := Aside0.mk hy49
         have KA49 := Aside0.mk hA49
         clear hy49 hA49
         replace q49 := eq_true q49
         go_wp2_with (first | ((with_reducible refine gate_callee (f := 92) rfl ?_); refine goesL_ (some 58) rfl rfl Try.func92 (by kernel_rfl) rfl #[.slice A49 y337.length c49, .int .i64 (((Go.bits .and .u8 (rd x0_1 0) 127) + 1) % 256)] rfl z10_2 ?_; (with_reducible refine (tPU.calls k1 _ _ y337 (((Go.bits .and .u8 (rd x0_1 0) 127) + 1) % 256) t342 none _ ?side1 ?side2 A46.out).mono ?_); (case side1 => repeat (first | exact (Kd.V_reads' HO341.out).2.2 | (with_reducible refine Kd.C_alloc ?_ _) | (with_reducible refine Kd.C_drewN ?_ _) | (with_reducible refine Kd.C_drew ?_))); (case side2 => exact (Kd.V_reads' HO341.out).2.1); rintro e w52 ⟨v344, ev50, rfl, ho0, he51, hb⟩; refine ⟨_, rfl, ?_⟩; have n0_ := Aside0.mk (Kd.V_elder' z10_4 (Kd.R_base ho0) hb); have n1_ := Aside0.mk (Kd.R_elder' z10_1 (Kd.R_base ho0) hb); have n2_ := Aside0.mk (Kd.V_elder' z10_8 (Kd.R_base ho0) hb); have n3_ := Aside0.mk (Kd.R_lower (Kd.R_new' (Kd.R_newM (M := fun k_ => (w.heap.size ≤ k_)) ho0 (below_size z10_0) (fun k_ h_ => h_)) (Kd.R_lt z10_1)) (below_size z10_0)); have n4_ := Aside0.mk (below_step z10_0 hb); clear HO_0; clear HO_8; clear HO341; clear HB; have HO_0 := n0_; have HO_8 := n1_; have HO341 := n2_; have HO345 := n3_; have HB := n4_; clear n0_ n1_ n2_ n3_ n4_ hb ho0; (first | (obtain rfl := EV_none he51) | (obtain ⟨te_, pe_, rfl⟩ := EV_some he51) | skip); obtain ⟨Ao53, co53, eo53⟩ := Kd.R_slice HO345.out; subst eo53))
         go_loopg [7, 8, 66] k1 (fun kq v7 v8 v66 w' => ∃ (x7_2 : Int) (x8_2 : List Int) (x66_2 : Int), v7 = .int .u16 x7_2 ∧ v66 = .int .i64 x66_2 ∧ Aside0 (fPN.l1 kq x0_1 t311 x7_2 x8_2 (((Go.bits .and .u8 (rd x0_1 0) 127) + 1) % 256) t342 (t342.length : Int) x66_2 = some (r1, r2, r3)) ∧ Aside0 (kq ≤ k1) ∧ Aside0 (Kd.V (Kd.int .u8) 5 w' w.heap.size (fun k_ => (P0_ k_ ∨ w.heap.size ≤ k_) ∧ some k_ ≠ (v8 : Value).ownBlock ∧ some k_ ≠ ((.slice Ao53 t342.length co53) : Value).ownBlock) (.slice (some ad321) x0_1.length co48) x0_1) ∧ Aside0 (Kd.R (Kd.int .u16) 35 w' w.heap.size (fun k_ => (w.heap.size ≤ k_) ∧ some k_ ≠ ((.slice Ao53 t342.length co53) : Value).ownBlock) v8 x8_2) ∧ Aside0 (Kd.R (Kd.int .u16) 35 w' w.heap.size (fun k_ => (w.heap.size ≤ k_) ∧ some k_ ≠ (v8 : Value).ownBlock) (.slice Ao53 t342.length co53) t342) ∧ Aside0 (Below w.heap.size w w'))
         case atStart => exact ⟨(x7_1), (x8_1), (0), z10_5, z10_5, H', ⟨Nat.le_refl _⟩, ⟨by (with_reducible repeat (first | apply Kd.V_alloc | apply Kd.V_drewN | apply Kd.V_drew)); exact Kd.V_mono HO_0.out (fun _ hk => ⟨hk.1.1, ⟨hk.1.2, hk.2⟩⟩)⟩, ⟨z10_1⟩, ⟨by (with_reducible repeat (first | apply Kd.R_alloc | apply Kd.R_drewN | apply Kd.R_drew)); exact Kd.R_mono HO345.out (fun _ hk => ⟨hk.1.1, hk.2⟩)⟩, ⟨z10_0⟩⟩
         case round =>
          clear H'
          clear c14b0 c15 c15b0 c15b1 c15b2 c22b0 c22b1 c23 c23b0 c23b1 c45b0 c45b1 q49 hx321_0 p321 q321
          obtain ⟨x7_2, x8_2, x66_2, rfl, rfl, HA, HK2, HO_0, HO_8, HO_64, HB⟩ := hrel
          cases gk with
          | zero => exact absurd HA.out (by simp [fPN.l1])
          | succ k2 =>
           have H := HA.out
           clear HA
           simp only [fPN.l1] at H
           by_cases c54 : x66_2 < (t342.length : Int)
           ·rw [if_pos c54] at H
            have c54b0 : decide (x66_2 < (t342.length : Int)) = true := decide_eq_true c54
            clear c54
            by_cases c55 : 0 ≤ x66_2
            rotate_left
            ·rw [if_neg c55] at H
             exact absurd H (by simp)
            rw [if_pos c55] at H
            have c55b0 : decide (0 ≤ x66_2) = true := decide_eq_true c55
            clear c55
            by_cases c56 : x66_2 < (t342.length : Int)
            rotate_left
            ·rw [if_neg c56] at H
             exact absurd H (by simp)
            rw [if_pos c56] at H
            have c56b0 : decide (x66_2 < (t342.length : Int)) = true := decide_eq_true c56
            clear c56
            by_cases c57 : x8_2.length < 70368744177664
            rotate_left
            ·rw [if_neg c57] at H
             exact absurd H (by simp)
            rw [if_pos c57] at H
            have LMc57 := Aside0.mk c57
            clear c57
            obtain ⟨y348, hy348⟩ : ∃ y_ : List Int, y_ = (x8_2 ++ [IntKind.u16.wrap ((rd t342 x66_2) + x7_2)]) := ⟨_, rfl⟩
            replace H : (fPN.l1 k2 x0_1 t311 (IntKind.u16.wrap ((rd t342 x66_2) + x7_2)) y348 (((Go.bits .and .u8 (rd x0_1 0) 127) + 1) % 256) t342 (t342.length : Int) (wrap64 (x66_2 + 1))) = some (r1, r2, r3) := by first | (rw [hy348]; with_reducible exact H) | (have H2_ := (Option.bind_some _ _).symm.trans H; rw [hy348]; with_reducible exact H2_) | (have H2_ := (Option.bind_some _ _).symm.trans H; with_reducible exact H2_) | with_reducible exact H | (rw [hy348]; exact H) | exact H
            have Ny348 := Aside0.mk hy348
            clear hy348
            have H' := Aside0.mk H
            clear H
            have p347 : 0 ≤ (x66_2 : Int) := of_decide_eq_true z10_3
            have q347 : x66_2 < (t342.length : Int) := of_decide_eq_true z10_3
            obtain ⟨ad347, e347, hx347_0⟩ := Kd.at_int (Kd.R_reads' HO_64.out).2.2 x66_2 p347 q347
            cases e347
            replace p347 := eq_true p347
            replace q347 := eq_true q347
            go_wp2_with (first | ((with_reducible refine gate_builtin (b := .append) (xs := #[.tmp 73, .tmp 75]) rfl ?_); at_builtin; refine Kd.R_append (Kd.int .u16) (w0 := w) w.heap.size rfl (.tmp 73) (.tmp 75) 34 35 (.int .u16 0) 2 rfl Try.underlying34 info35 rfl (by decide) (by omega) u8 x8_2 (IntKind.u16.wrap ((rd t342 x66_2) + x7_2)) [.int .u16 (IntKind.u16.wrap ((rd t342 x66_2) + x7_2))] (fun k_ => (w.heap.size ≤ k_) ∧ some k_ ≠ (.slice (some ad347) t342.length co53 : Value).ownBlock) (fun _ => False) rfl rfl ?aP (fun _ hk => hk.elim) ?aF ?aO ?aB ?aS ?aL ?_; (case aP => exact rfl); (case aB => exact z10_0); (case aF => exact (fun k_ hk => ⟨(Nat.le_trans (below_size z10_0) hk), Kd.fresh' (Kd.R_lt z10_9) k_ hk⟩)); (case aO => exact z10_1); (case aS => exact (below_size z10_0)); (case aL => have := LMc57.out; omega); intro v349 w58 ho hb hg hat; rw [← Ny348.out] at ho; have n0_ := Aside0.mk (Kd.V_afterv (ok := (fun k_ => (P0_ k_ ∨ w.heap.size ≤ k_) ∧ some k_ ≠ (.slice (some ad347) t342.length co53 : Value).ownBlock)) (by (with_reducible repeat (first | apply Kd.V_alloc | apply Kd.V_drewN | apply Kd.V_drew)); exact Kd.V_mono HO_0.out (fun _ hk => ⟨⟨hk.1, hk.2.2⟩, hk.2.1⟩)) hg hat); have n1_ := Aside0.mk (Kd.R_after (ok := (fun k_ => (w.heap.size ≤ k_))) z10_9 hg hat); have n2_ := Aside0.mk (hb); have n3_ := Aside0.mk (ho); clear HO_0; clear HO_64; clear HB; clear HO_8; have HO_0 := n0_; have HO_64 := n1_; have HB := n2_; have HO350 := n3_; clear n0_ n1_ n2_ n3_; clear ho hb hg hat))
            go_roundg k2
            case measure => have := HK1.out; have := HK2.out; omega
            case rel => exact ⟨(IntKind.u16.wrap ((rd t342 x66_2) + x7_2)), (y348), (wrap64 (x66_2 + 1)), z10_5, z10_5, H', ⟨by have := HK1.out; have := HK2.out; omega⟩, ⟨by (with_reducible repeat (first | apply Kd.V_alloc | apply Kd.V_drewN | apply Kd.V_drew)); exact Kd.V_mono HO_0.out (fun _ hk => ⟨hk.1.1, ⟨hk.2, hk.1.2⟩⟩)⟩, ⟨by (with_reducible repeat (first | apply Kd.R_alloc | apply Kd.R_drewN | apply Kd.R_drew)); exact HO350.out⟩, ⟨z10_9⟩, ⟨z10_0⟩⟩
           ·rw [if_neg c54] at H
            have c54b0 : decide (x66_2 < (t342.length : Int)) = false := decide_eq_false c54
            clear c54
            obtain ⟨ji59, hji59⟩ : ∃ j_ : Int, (wrap64 (1 + (wrap64 (2 * (((Go.bits .and .u8 (rd x0_1 0) 127) + 1) % 256))))) = j_ := ⟨_, rfl⟩
            have hji59b : 1 + 2 * (((Go.bits .and .u8 (rd x0_1 0) 127) + 1) % 256) = ji59 := by rw [← hji59]; unfold wrap64; omega
            replace H : (if 0 ≤ (ji59) then (if (ji59) ≤ (x0_1.length : Int) then (fPN.l0 k2 (x0_1.drop ((ji59) : Int).toNat) t311 x7_2 x8_2) else (none)) else (none)) = some (r1, r2, r3) := by first | (rw [hji59] at H; exact H) | (simp only [hji59] at H ⊢; exact H)
            have hji59w : (IntKind.i64.wrap (1 + (wrap64 (2 * (((Go.bits .and .u8 (rd x0_1 0) 127) + 1) % 256))))) = ji59 := (i64_w _).trans hji59
            by_cases c60 : 0 ≤ (ji59)
            rotate_left
            ·rw [if_neg c60] at H
             exact absurd H (by simp)
            rw [if_pos c60] at H
            have c60b0 := eq_true c60
            have c60b1 : decide (0 ≤ (ji59)) = true := decide_eq_true c60
            clear c60
            by_cases c61 : (ji59) ≤ (x0_1.length : Int)
            rotate_left
            ·rw [if_neg c61] at H
             exact absurd H (by simp)
            rw [if_pos c61] at H
            have c61b0 := eq_true c61
            have c61b1 : decide ((ji59) ≤ (x0_1.length : Int)) = true := decide_eq_true c61
            clear c61
            obtain ⟨y351, hy351⟩ : ∃ y_ : List Int, y_ = (x0_1.drop ((ji59) : Int).toNat) := ⟨_, rfl⟩
            replace H : (fPN.l0 k2 y351 t311 x7_2 x8_2) = some (r1, r2, r3) := by first | (rw [hy351]; with_reducible exact H) | (have H2_ := (Option.bind_some _ _).symm.trans H; rw [hy351]; with_reducible exact H2_) | (have H2_ := (Option.bind_some _ _).symm.trans H; with_reducible exact H2_) | with_reducible exact H | (rw [hy351]; exact H) | exact H
            have Ny351 := Aside0.mk hy351
            clear hy351
            have H' := Aside0.mk H
            clear H
            have q62 : ((ji59) : Int) ≤ ((x0_1.length : Int) : Int) := of_decide_eq_true z10_3
            obtain ⟨i062, hi062, _, hsz62, _⟩ := info_parts info5
            have hroom62 : x0_1.length ≤ co48 := (Kd.V_reads' HO_0.out).2.1
            have hC62 : Kd.F (Kd.int .u8) _ _ (some ad321) x0_1.length x0_1 := (Kd.V_at (base := w.heap.size) HO_0.out).2.2
            have q062 : (0 : Int) ≤ ((ji59) : Int) := of_decide_eq_true z10_3
            have hcut62 := cut_from (P := Try.prog) 22 5 .i64 Try.underlying22 hi062 1 hsz62 (some ad321) x0_1.length co48 (ji59) q062 q62
            have hr62 := Kd.F_cut (m := ((ji59) : Int).toNat) (c := co48) hC62 (by omega) hroom62
            obtain ⟨A62, hA62⟩ : ∃ A1, A1 = (if co48 = ((ji59) : Int).toNat then (some ad321) else ((some ad321) : Option Addr).map (·.add (((ji59) : Int).toNat * 1))) := ⟨_, rfl⟩
            obtain ⟨c62, hc62⟩ : ∃ c1, c1 = co48 - ((ji59) : Int).toNat := ⟨_, rfl⟩
            have hy62 : y351.length = x0_1.length - ((ji59) : Int).toNat := (by rw [Ny351.out, List.length_drop] <;> omega)
            rw [show (x0_1).drop ((ji59) : Int).toNat = y351 from Ny351.out.symm] at hr62
            replace hr62 : Kd.F (Kd.int .u8) _ _ A62 y351.length y351 := (by rw [hA62]; exact hr62)
            rw [← hy62, ← hA62, ← hc62] at hcut62
            have HO355 := Aside0.mk (show Kd.V (Kd.int .u8) 5 _ w.heap.size _ (.slice A62 y351.length c62) y351 from Kd.V_mk (by rw [hy62, hc62]; exact Nat.sub_le_sub_right hroom62 _) hr62)
            have HC355 := Aside0.mk (show y351.length ≤ c62 from by rw [hy62, hc62]; exact Nat.sub_le_sub_right hroom62 _)
            clear hr62 hC62 hroom62 hi062 hsz62 hc62
            have KY62 := Aside0.mk hy62
            have KA62 := Aside0.mk hA62
            clear hy62 hA62
            replace q62 := eq_true q62
            go_wp2
            go_roundg k2
            case measure => have := HK1.out; have := HK2.out; omega
            case rel => exact ⟨(y351), (x7_2), (x8_2), z10_5, H', ⟨by have := HK1.out; have := HK2.out; omega⟩, ⟨by (with_reducible repeat (first | apply Kd.V_alloc | apply Kd.V_drewN | apply Kd.V_drew)); exact Kd.V_mono HO355.out (fun _ hk => ⟨hk.1, hk.2.1⟩)⟩, ⟨by (with_reducible repeat (first | apply Kd.R_alloc | apply Kd.R_drewN | apply Kd.R_drew)); exact Kd.R_mono HO_8.out (fun _ hk => hk.1)⟩, ⟨z10_0⟩⟩
        ·have H1 : ((eN.f (⟨#[105, 110, 118, 97, 108, 105, 100, 32, 103, 108, 121, 112, 104, 32, 118, 97, 114, 105, 97, 116, 105, 111, 110, 32, 112, 111, 105, 110, 116, 115, 32, 110, 117, 109, 98, 101, 114, 115, 58, 32, 37, 115]⟩ : ByteArray)).bind fun t356 => (some (([] : List Int), ([] : List Int), t356))) = some (r1, r2, r3) := by rw [if_neg (show ¬ (some q346).isNone = true by simp)] at H; exact H
         clear H
         have H := H1
         clear H1
         try simp only [errW_none, errW_some]
         replace H := Option.bind_eq_some_iff.mp H
         obtain ⟨t356, A630, H⟩ := H
         replace H : (some (([] : List Int), ([] : List Int), t356)) = some (r1, r2, r3) := H
         have A63 := Aside0.mk A630
         clear A630
         simp only [Option.some.injEq, Prod.mk.injEq] at H
         obtain ⟨rfl, rfl, rfl⟩ := H
         obtain ⟨Ao64, co64, eo64⟩ := Kd.R_slice HO_8.out
         subst eo64
         obtain ⟨Ao65, co65, eo65⟩ := Kd.V_slice HO_0.out
         subst eo65
         have p321 : 0 ≤ (0 : Int) := (by omega)
         have q321 : 0 < (x0_1.length : Int) := of_decide_eq_true z10_3
         obtain ⟨ad321, e321, hx321_0⟩ := Kd.at_int (Kd.V_reads' HO_0.out).2.2 0 p321 q321
         cases e321
         have qi321 : (0 < x0_1.length) = True := eq_true (by omega)
         (try rw [show ((0 : Int)).toNat = 0 from rfl] at hx321_0)
         (try rw [Addr.add_zero'] at hx321_0)
         replace p321 := eq_true p321
         replace q321 := eq_true q321
         have q66 : (1 : Int) ≤ ((x0_1.length : Int) : Int) := of_decide_eq_true z10_3
         obtain ⟨i066, hi066, _, hsz66, _⟩ := info_parts info5
         have hroom66 : x0_1.length ≤ co65 := (Kd.V_reads' HO_0.out).2.1
         have hC66 : Kd.F (Kd.int .u8) _ _ (some ad321) x0_1.length x0_1 := (Kd.V_at (base := w.heap.size) HO_0.out).2.2
         have hcut66 := cut_from (P := Try.prog) 22 5 .i64 Try.underlying22 hi066 1 hsz66 (some ad321) x0_1.length co65 1 (by omega) q66
         have hr66 := Kd.F_cut (m := (1 : Int).toNat) (c := co65) hC66 (by omega) hroom66
         obtain ⟨A66, hA66⟩ : ∃ A1, A1 = (if co65 = (1 : Int).toNat then (some ad321) else ((some ad321) : Option Addr).map (·.add ((1 : Int).toNat * 1))) := ⟨_, rfl⟩
         obtain ⟨c66, hc66⟩ : ∃ c1, c1 = co65 - (1 : Int).toNat := ⟨_, rfl⟩
         have hy66 : y337.length = x0_1.length - (1 : Int).toNat := (by rw [Ny337.out, List.length_drop] <;> omega)
         rw [show (x0_1).drop (1 : Int).toNat = y337 from Ny337.out.symm] at hr66
         replace hr66 : Kd.F (Kd.int .u8) _ _ A66 y337.length y337 := (by rw [hA66]; exact hr66)
         rw [← hy66, ← hA66, ← hc66] at hcut66
         have HO341 := Aside0.mk (show Kd.V (Kd.int .u8) 5 _ w.heap.size _ (.slice A66 y337.length c66) y337 from Kd.V_mk (by rw [hy66, hc66]; exact Nat.sub_le_sub_right hroom66 _) hr66)
         have HC341 := Aside0.mk (show y337.length ≤ c66 from by rw [hy66, hc66]; exact Nat.sub_le_sub_right hroom66 _)
         clear hr66 hC66 hroom66 hi066 hsz66 hc66
         have KY66 := Aside0.mk hy66
         have KA66 := Aside0.mk hA66
         clear hy66 hA66
         replace q66 := eq_true q66
         go_wp2_with (first | ((with_reducible refine gate_callee (f := 92) rfl ?_); refine goesL_ (some 58) rfl rfl Try.func92 (by kernel_rfl) rfl #[.slice A66 y337.length c66, .int .i64 (((Go.bits .and .u8 (rd x0_1 0) 127) + 1) % 256)] rfl z10_2 ?_; (with_reducible refine (tPU.calls k1 _ _ y337 (((Go.bits .and .u8 (rd x0_1 0) 127) + 1) % 256) t342 (some q346) _ ?side1 ?side2 A46.out).mono ?_); (case side1 => repeat (first | exact (Kd.V_reads' HO341.out).2.2 | (with_reducible refine Kd.C_alloc ?_ _) | (with_reducible refine Kd.C_drewN ?_ _) | (with_reducible refine Kd.C_drew ?_))); (case side2 => exact (Kd.V_reads' HO341.out).2.1); rintro e w69 ⟨v344, ev67, rfl, ho0, he68, hb⟩; refine ⟨_, rfl, ?_⟩; have n0_ := Aside0.mk (Kd.V_elder' z10_4 (Kd.R_base ho0) hb); have n1_ := Aside0.mk (Kd.R_elder' z10_1 (Kd.R_base ho0) hb); have n2_ := Aside0.mk (Kd.V_elder' z10_8 (Kd.R_base ho0) hb); have n3_ := Aside0.mk (Kd.R_lower (Kd.R_new' (Kd.R_newM (M := fun k_ => (w.heap.size ≤ k_)) ho0 (below_size z10_0) (fun k_ h_ => h_)) (Kd.R_lt z10_1)) (below_size z10_0)); have n4_ := Aside0.mk (below_step z10_0 hb); clear HO_0; clear HO_8; clear HO341; clear HB; have HO_0 := n0_; have HO_8 := n1_; have HO341 := n2_; have HO345 := n3_; have HB := n4_; clear n0_ n1_ n2_ n3_ n4_ hb ho0; (first | (obtain rfl := EV_none he68) | (obtain ⟨te_, pe_, rfl⟩ := EV_some he68) | skip)) | ((with_reducible refine gate_callee (f := 56) rfl ?_); refine goesL_ (some 63) rfl rfl Try.func56 (by kernel_rfl) rfl #[.string (⟨#[105, 110, 118, 97, 108, 105, 100, 32, 103, 108, 121, 112, 104, 32, 118, 97, 114, 105, 97, 116, 105, 111, 110, 32, 112, 111, 105, 110, 116, 115, 32, 110, 117, 109, 98, 101, 114, 115, 58, 32, 37, 115]⟩ : ByteArray)] rfl z10_2 ?_; (with_reducible refine (eN.calls (⟨#[105, 110, 118, 97, 108, 105, 100, 32, 103, 108, 121, 112, 104, 32, 118, 97, 114, 105, 97, 116, 105, 111, 110, 32, 112, 111, 105, 110, 116, 115, 32, 110, 117, 109, 98, 101, 114, 115, 58, 32, 37, 115]⟩ : ByteArray) t356 _ A63.out).mono ?_); rintro e w72 ⟨ev70, rfl, he71, hb⟩; refine ⟨_, rfl, ?_⟩; have n0_ := Aside0.mk (Kd.V_below z10_4 hb); have n1_ := Aside0.mk (Kd.R_below z10_1 hb); have n2_ := Aside0.mk (Kd.V_below z10_8 hb); have n3_ := Aside0.mk (Kd.R_below (by (with_reducible repeat (first | apply Kd.R_alloc | apply Kd.R_drewN | apply Kd.R_drew)); exact HO345.out) hb); have n4_ := Aside0.mk (below_step z10_0 hb); clear HO_0; clear HO_8; clear HO341; clear HO345; clear HB; have HO_0 := n0_; have HO_8 := n1_; have HO341 := n2_; have HO345 := n3_; have HB := n4_; clear n0_ n1_ n2_ n3_ n4_ hb; (first | (obtain rfl := EV_none he71) | (obtain ⟨te_, pe_, rfl⟩ := EV_some he71) | skip)))
         go_ret3
         exact ⟨_, _, _, by first | rfl | (simp [errW_none, errW_some] <;> rfl) | (simp [*, errW_none, errW_some] <;> rfl), by first | exact Kd.R_nil _ _ _ _ _ | exact Kd.N_nil _ _ _ _ _ | exact Kd.V_nil _ _ _ _ _ | exact Kd.Q_nil _ _ _ _ _ | exact Kd.S_nil _ _ _ _ _, Kd.V_nil _ _ _ _ _, z10_7, by repeat (first | (with_reducible first | exact HB.out | apply below_alloc | apply pw_below_drewN | apply below_drew1) | exact HB.out)⟩
     ·rw [if_neg c14] at H
      have c14b0 : decide ((x8_1.length : Int) < (wrap64 (t311))) = false := decide_eq_false c14
      clear c14
      simp only [Option.some.injEq, Prod.mk.injEq] at H
      obtain ⟨rfl, rfl, rfl⟩ := H
      obtain ⟨Ao73, co73, eo73⟩ := Kd.R_slice HO_8.out
      subst eo73
      go_wp2
      go_ret3
      exact ⟨_, _, _, by first | rfl | (simp [errW_none, errW_some] <;> rfl) | (simp [*, errW_none, errW_some] <;> rfl), by (with_reducible repeat (first | apply Kd.R_alloc | apply Kd.R_drewN | apply Kd.R_drew)); exact HO_8.out, by (with_reducible repeat (first | apply Kd.V_alloc | apply Kd.V_drewN | apply Kd.V_drew)); exact HO_0.out, z10_7, by repeat (first | (with_reducible first | exact HB.out | apply below_alloc | apply pw_below_drewN | apply below_drew1) | exact HB.out)⟩
 ·have H1 : (some (([] : List Int), ([] : List Int), some q316)) = some (r1, r2, r3) := by rw [if_neg (show ¬ (some q316).isNone = true by simp)] at H; exact H
  clear H
  have H := H1
  clear H1
  try simp only [errW_none, errW_some]
  simp only [Option.some.injEq, Prod.mk.injEq] at H
  obtain ⟨rfl, rfl, rfl⟩ := H
  go_enter Try.func77, Try.ntmps77
  go_wp2_with (first | ((with_reducible refine gate_callee (f := 91) rfl ?_); refine goesL_ (some 22) rfl rfl Try.func91 (by kernel_rfl) rfl #[.slice A0 l0.length c0] rfl z10_2 ?_; (with_reducible refine (gPC.calls (fun k_ => (P0_ k_ ∨ w.heap.size ≤ k_)) _ _ l0 t311 t312 (some q316) _ ?side1 A2.out).mono ?_); (case side1 => exact HO0.out); rintro e w76 ⟨v313, ev74, rfl, ho0, he75, hb⟩; refine ⟨_, rfl, ?_⟩; have n0_ := Aside0.mk (Kd.V_below z10_6 hb); have n1_ := Aside0.mk (Kd.V_lower (Kd.V_mono (ok' := fun k_ => (P0_ k_ ∨ w.heap.size ≤ k_)) ho0 (fun k_ hk_ => Or.elim hk_ (fun hs_ => hs_) (fun hn_ => (.inr (Nat.le_trans (below_size z10_0) hn_))))) (below_size z10_0)); have n2_ := Aside0.mk (below_step z10_0 hb); clear HO0; clear HB; have HO0 := n0_; have HO314 := n1_; have HB := n2_; clear n0_ n1_ n2_ hb ho0; (first | (obtain rfl := EV_none he75) | (obtain ⟨te_, pe_, rfl⟩ := EV_some he75) | skip)))
  go_ret3
  exact ⟨_, _, _, by first | rfl | (simp [errW_none, errW_some] <;> rfl) | (simp [*, errW_none, errW_some] <;> rfl), by first | exact Kd.R_nil _ _ _ _ _ | exact Kd.N_nil _ _ _ _ _ | exact Kd.V_nil _ _ _ _ _ | exact Kd.Q_nil _ _ _ _ _ | exact Kd.S_nil _ _ _ _ _, Kd.V_nil _ _ _ _ _, z10_7, by repeat (first | (with_reducible first | exact HB.out | apply below_alloc | apply pw_below_drewN | apply below_drew1) | exact HB.out)⟩

end Go.Proofs.Ytchkmmbedgolbaa.PFnTuplesOf

