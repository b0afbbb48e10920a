-- Written by a program of this session (xprint) out of the translation; Lean checks it.
import Derived.Test.YtchkmmbedgolbaaPFnTuplesOfx0
import Derived.Test.YtchkmmbedgolbaaPFnTuplesOfx3
namespace Go.Proofs.Ytchkmmbedgolbaa.PFnTuplesOf
open Go.RowKit Go.Proofs.YtchkmmbedgolbaaW.PrintWords Go.Proofs.YtchkmmbedgolbaaW.PrintLast Go.Proofs.YtchkmmbedgolbaaW.PrintMore
attribute [local go_sem] max2_int min2_int max_two min_two max_three min_three max_four min_four   -- for this text's walks alone
set_option linter.unusedVariables false
set_option linter.unusedSimpArgs false
theorem z4_8 {p : Prop} (h : p := by have := HJ2.out; have := HK2.out; have := HK3.out; have := HJ30.out; have := HK5.out; omega) : p := h
theorem z4_7 {p : Prop} (h : p := by first | exact Kd.R_nil _ _ _ _ _ | exact Kd.N_nil _ _ _ _ _ | exact Kd.V_nil _ _ _ _ _ | exact Kd.Q_nil _ _ _ _ _ | exact Kd.S_nil _ _ _ _ _) : p := h
theorem z4_6 {p : Prop} (h : p := by first | rfl | (simp; done) | (simp only [← hji19] <;> (first | rfl | simp)) | (simp [*]; done)) : p := h
theorem z4_5 {p : Prop} (h : p := by first | (with_reducible assumption) | assumption) : p := h
theorem z4_4 {p : Prop} (h : p := by first | rfl | (simp; done) | (simp [*]; done)) : p := h
theorem z4_3 {p : Prop} (h : p := by (with_reducible repeat (first | apply Kd.R_alloc | apply Kd.R_drewN | apply Kd.R_drew)); exact HO_4.out) : p := h
theorem z4_2 {p : Prop} (h : p := by repeat (first | (with_reducible first | exact HB.out | apply below_alloc | apply pw_below_drewN | apply below_drew1 | refine below_set ?_ (IsS126.ge HI0.out)) | exact HB.out)) : p := h
theorem z4_1 {p : Prop} (h : p := by repeat (first | (with_reducible first | exact HI0.out | apply IsS126.alloc | apply IsS126.drewN | apply IsS126.drew | apply IsS126.set_1 | apply IsS126.set_2) | exact HI0.out)) : p := h
theorem z4_0 {p : Prop} (h : p := by repeat (first | (with_reducible first | exact HK.out | apply KeepBut.set_ | apply keep_drewN | apply keep_drew | apply keep_alloc) | exact HK.out)) : p := h

mutual
def wPP.j1 : Nat → List Int → List Int → List Int → Int → Bool → Option (List Int × Int × Bool)
 | 0, _, _, _, _, _ => none
 | k + 1, x1, x4, x1000, x1001, x1002 => wPP.l0 k x1 x4 0 0 x1000 x1001 x1002
def wPP.l0 : Nat → List Int → List Int → Int → Int → List Int → Int → Bool → Option (List Int × Int × Bool)
 | 0, _, _, _, _, _, _, _ => none
 | k + 1, x1, x4, x6, x7, x1000, x1001, x1002 => if x7 < (x1.length : Int) then ((wWy.f x1000 x1001 x1002 7).bind fun bt142 => ((wWy.f x1000 bt142.2.1 bt142.2.2 3).bind fun bt145 => (if 0 ≤ x7 then (if x7 ≤ (wrap64 (x7 + (mn (wrap64 ((x1.length : Int) - x7)) (wrap64 (1 + bt142.1))))) then (if (wrap64 (x7 + (mn (wrap64 ((x1.length : Int) - x7)) (wrap64 (1 + bt142.1))))) ≤ (x1.length : Int) then (wPP.l1 k x1 x4 x6 x7 (mn (wrap64 ((x1.length : Int) - x7)) (wrap64 (1 + bt142.1))) (bt145.1 == 2) x6 ((x1.take ((wrap64 (x7 + (mn (wrap64 ((x1.length : Int) - x7)) (wrap64 (1 + bt142.1))))) : Int).toNat).drop (x7 : Int).toNat) (((x1.take ((wrap64 (x7 + (mn (wrap64 ((x1.length : Int) - x7)) (wrap64 (1 + bt142.1))))) : Int).toNat).drop (x7 : Int).toNat).length : Int) 0 x1000 bt145.2.1 bt145.2.2) else (none)) else (none)) else (none)))) else (some (x4, x1001, x1002))
def wPP.l1 : Nat → List Int → List Int → Int → Int → Int → Bool → Int → List Int → Int → Int → List Int → Int → Bool → Option (List Int × Int × Bool)
 | 0, _, _, _, _, _, _, _, _, _, _, _, _, _ => none
 | k + 1, x1, x4, x6, x7, x8, x9, x10, x64, x65, x66, x1000, x1001, x1002 => if x66 < x65 then (if 0 ≤ x66 then (if x66 < (x64.length : Int) then (if x9 = true then (wPP.l1 k x1 x4 x6 x7 x8 true (rd x64 x66) x64 x65 (wrap64 (x66 + 1)) x1000 x1001 x1002) else (wPP.l1 k x1 x4 x6 x7 x8 (decide ((wrap64 ((rd x64 x66) - x10)) > 255)) (rd x64 x66) x64 x65 (wrap64 (x66 + 1)) x1000 x1001 x1002)) else (none)) else (none)) else (if x9 = true then (if x4.length < 140737488355328 then (wPP.j4 k x1 (x4 ++ [Go.bits .or .u8 ((wrap64 (x8 - 1)) % 256) 128]) x6 x7 x8 x9 x1000 x1001 x1002) else (none)) else (if x4.length < 140737488355328 then (wPP.j4 k x1 (x4 ++ [(wrap64 (x8 - 1)) % 256]) x6 x7 x8 x9 x1000 x1001 x1002) else (none)))
def wPP.j4 : Nat → List Int → List Int → Int → Int → Int → Bool → List Int → Int → Bool → Option (List Int × Int × Bool)
 | 0, _, _, _, _, _, _, _, _, _ => none
 | k + 1, x1, x4, x6, x7, x8, x9, x1000, x1001, x1002 => if 0 ≤ x7 then (if x7 ≤ (wrap64 (x7 + x8)) then (if (wrap64 (x7 + x8)) ≤ (x1.length : Int) then (wPP.l2 k x1 x4 x6 x7 x8 x9 ((x1.take ((wrap64 (x7 + x8)) : Int).toNat).drop (x7 : Int).toNat) (((x1.take ((wrap64 (x7 + x8)) : Int).toNat).drop (x7 : Int).toNat).length : Int) 0 x1000 x1001 x1002) else (none)) else (none)) else (none)
def wPP.l2 : Nat → List Int → List Int → Int → Int → Int → Bool → List Int → Int → Int → List Int → Int → Bool → Option (List Int × Int × Bool)
 | 0, _, _, _, _, _, _, _, _, _, _, _, _ => none
 | k + 1, x1, x4, x6, x7, x8, x9, x98, x99, x100, x1000, x1001, x1002 => if x100 < x99 then (if 0 ≤ x100 then (if x100 < (x98.length : Int) then (if x9 = true then (if x4.length < 140737488355328 then ((some (x4 ++ [((wrap64 ((rd x98 x100) - x6)) / 256) % 256] : List Int)).bind fun y158 => (if y158.length < 140737488355328 then (wPP.l2 k x1 (y158 ++ [(wrap64 ((rd x98 x100) - x6)) % 256]) (rd x98 x100) x7 x8 x9 x98 x99 (wrap64 (x100 + 1)) x1000 x1001 x1002) else (none))) else (none)) else (if x4.length < 140737488355328 then (wPP.l2 k x1 (x4 ++ [(wrap64 ((rd x98 x100) - x6)) % 256]) (rd x98 x100) x7 x8 x9 x98 x99 (wrap64 (x100 + 1)) x1000 x1001 x1002) else (none))) else (none)) else (none)) else (wPP.l0 k x1 x4 x6 (wrap64 (x7 + x8)) x1000 x1001 x1002)
def wPP.j0 : Nat → List Int → List Int → Int → Bool → List Int → Int → Bool → Option (List Int × Int × Bool)
 | 0, _, _, _, _, _, _, _ => none
 | k + 1, x1, x4, x5, x26, x1000, x1001, x1002 => if x26 = true then (if x4.length < 140737488355328 then (wPP.j1 k x1 (x4 ++ [(x5) % 256]) x1000 x1001 x1002) else (none)) else ((some (([Go.bits .or .u8 ((x5 / 256) % 256) 128, (x5) % 256] : List Int) : List Int)).bind fun y136 => (if x4.length + y136.length < 140737488355328 then (wPP.j1 k x1 (x4 ++ y136) x1000 x1001 x1002) else (none)))
end
def wPP.f (k : Nat) (s0_0 : List Int) (s0_1 : Int) (s0_2 : Bool) (l1 : List Int) : Option (List Int × Int × Bool) := if (l1.length : Int) < 128 then (if (l1.length : Int) = 0 then (wPP.j0 k l1 ([] : List Int) (l1.length : Int) true s0_0 s0_1 s0_2) else ((wWy.f s0_0 s0_1 s0_2 4).bind fun bt130 => (wPP.j0 k l1 ([] : List Int) (l1.length : Int) (decide (bt130.1 > 0)) s0_0 bt130.2.1 bt130.2.2))) else (wPP.j0 k l1 ([] : List Int) (l1.length : Int) false s0_0 s0_1 s0_2)
theorem wPP.mono_l : ∀ k, (∀ y0 y1 y2 y3 y4, LeO (wPP.j1 k y0 y1 y2 y3 y4) (wPP.j1 (k + 1) y0 y1 y2 y3 y4)) ∧ (∀ y0 y1 y2 y3 y4 y5 y6, LeO (wPP.l0 k y0 y1 y2 y3 y4 y5 y6) (wPP.l0 (k + 1) y0 y1 y2 y3 y4 y5 y6)) ∧ (∀ y0 y1 y2 y3 y4 y5 y6 y7 y8 y9 y10 y11 y12, LeO (wPP.l1 k y0 y1 y2 y3 y4 y5 y6 y7 y8 y9 y10 y11 y12) (wPP.l1 (k + 1) y0 y1 y2 y3 y4 y5 y6 y7 y8 y9 y10 y11 y12)) ∧ (∀ y0 y1 y2 y3 y4 y5 y6 y7 y8, LeO (wPP.j4 k y0 y1 y2 y3 y4 y5 y6 y7 y8) (wPP.j4 (k + 1) y0 y1 y2 y3 y4 y5 y6 y7 y8)) ∧ (∀ y0 y1 y2 y3 y4 y5 y6 y7 y8 y9 y10 y11, LeO (wPP.l2 k y0 y1 y2 y3 y4 y5 y6 y7 y8 y9 y10 y11) (wPP.l2 (k + 1) y0 y1 y2 y3 y4 y5 y6 y7 y8 y9 y10 y11)) ∧ (∀ y0 y1 y2 y3 y4 y5 y6, LeO (wPP.j0 k y0 y1 y2 y3 y4 y5 y6) (wPP.j0 (k + 1) y0 y1 y2 y3 y4 y5 y6))
 | 0 => ⟨fun _ _ _ _ _ r h => by simp [wPP.j1] at h, fun _ _ _ _ _ _ _ r h => by simp [wPP.l0] at h, fun _ _ _ _ _ _ _ _ _ _ _ _ _ r h => by simp [wPP.l1] at h, fun _ _ _ _ _ _ _ _ _ r h => by simp [wPP.j4] at h, fun _ _ _ _ _ _ _ _ _ _ _ _ r h => by simp [wPP.l2] at h, fun _ _ _ _ _ _ _ r h => by simp [wPP.j0] at h⟩
 | k + 1 => by
  obtain ⟨ih0, ih1, ih2, ih3, ih4, ih5⟩ := wPP.mono_l k
  refine ⟨?_, ?_, ?_, ?_, ?_, ?_⟩
  all_goals intros
  all_goals first | unfold wPP.j1 | unfold wPP.l0 | unfold wPP.l1 | unfold wPP.j4 | unfold wPP.l2 | unfold wPP.j0
  all_goals repeat' first
  | (with_reducible exact ih0 _ _ _ _ _)
  | (with_reducible exact ih1 _ _ _ _ _ _ _)
  | (with_reducible exact ih2 _ _ _ _ _ _ _ _ _ _ _ _ _)
  | (with_reducible exact ih3 _ _ _ _ _ _ _ _ _)
  | (with_reducible exact ih4 _ _ _ _ _ _ _ _ _ _ _ _)
  | (with_reducible exact ih5 _ _ _ _ _ _ _)
  | (with_reducible exact LeO.refl _)
  | (with_reducible exact LeO.none _)
  | (with_reducible refine LeO.ite ?_ ?_)
  | (with_reducible refine LeO.bind ?_ (fun _ => ?_))
theorem wPP.mono : ∀ a0 a1 a2 a3 k, LeO (wPP.f k a0 a1 a2 a3) (wPP.f (k + 1) a0 a1 a2 a3) := by
 intro a0 a1 a2 a3 k
 obtain ⟨ih0, ih1, ih2, ih3, ih4, ih5⟩ := wPP.mono_l k
 unfold wPP.f
 repeat' first
   | (with_reducible exact ih0 _ _ _ _ _)
   | (with_reducible exact ih1 _ _ _ _ _ _ _)
   | (with_reducible exact ih2 _ _ _ _ _ _ _ _ _ _ _ _ _)
   | (with_reducible exact ih3 _ _ _ _ _ _ _ _ _)
   | (with_reducible exact ih4 _ _ _ _ _ _ _ _ _ _ _ _)
   | (with_reducible exact ih5 _ _ _ _ _ _ _)
   | (with_reducible exact LeO.refl _)
   | (with_reducible exact LeO.none _)
   | (with_reducible refine LeO.ite ?_ ?_)
   | (with_reducible refine LeO.bind ?_ (fun _ => ?_))
set_option maxHeartbeats 8000000 in
set_option maxRecDepth 100000 in
theorem wPP.calls (k : Nat) (g : Nat) (s0_0 : List Int) (s0_1 : Int) (s0_2 : Bool) (A1 : Option Addr) (c1 : Nat) (l1 : List Int) (r1 : List Int) (r2 : Int) (r3 : Bool) (w0 w : World) (hI : IsS126 w0 w g s0_0 s0_1 s0_2) (hB : Below w0.heap.size w0 w) (hr1 : Kd.C (Kd.int .i64) w A1 l1.length l1) (hc1 : l1.length ≤ c1) (hf1 : ∀ ad, A1 = some ad → 0 < l1.length → ad.block ≠ g) (h : wPP.f k s0_0 s0_1 s0_2 l1 = some (r1, r2, r3)) :
  Calls Try.prog 45 #[.pointer (some ⟨g, 0, none⟩), .slice A1 l1.length c1] w fun e w' => ∃ v0_ : Value, e = .returned (v0_) ∧ Kd.R (Kd.int .u8) 5 w' w.heap.size (fun _ => True) v0_ r1 ∧ IsS126 w0 w' g s0_0 r2 r3 ∧ Below w0.heap.size w0 w' ∧ KeepBut w w' g none := by
 have HR1 := Aside0.mk hr1
 have HC1 := Aside0.mk hc1
 clear hr1 hc1
 have HI0 := Aside0.mk hI
 have HK := Aside0.mk (KeepBut.refl w g none)
 have HL := Aside0.mk hB.size
 clear hI
 have HW0 := Aside0.mk hB.size
 have HB := Aside0.mk hB
 clear hB
 have H : (if (l1.length : Int) < 128 then (if (l1.length : Int) = 0 then (wPP.j0 k l1 ([] : List Int) (l1.length : Int) true s0_0 s0_1 s0_2) else ((wWy.f s0_0 s0_1 s0_2 4).bind fun bt130 => (wPP.j0 k l1 ([] : List Int) (l1.length : Int) (decide (bt130.1 > 0)) s0_0 bt130.2.1 bt130.2.2))) else (wPP.j0 k l1 ([] : List Int) (l1.length : Int) false s0_0 s0_1 s0_2)) = some (r1, r2, r3) := h
 clear h
 have HC3 := Aside0.mk H
 clear H
 go_enter Try.func45, Try.ntmps45
 go_upto_block 0 with (fail)
 go_cut [4] (fun v4 wc => ∃ (kq : Nat) (x4_2 : List Int) (x1001_2 : Int) (x1002_2 : Bool), Aside0 (wPP.j1 kq l1 x4_2 s0_0 x1001_2 x1002_2 = some (r1, r2, r3)) ∧ Aside0 (kq ≤ k) ∧ Aside0 (Kd.R (Kd.int .u8) 5 wc w.heap.size (fun _ => True) v4 x4_2) ∧ Aside0 (IsS126 w0 wc g s0_0 x1001_2 x1002_2) ∧ Aside0 (KeepBut w wc g none) ∧ Aside0 (Below w0.heap.size w0 wc))
 case first =>
  have H := HC3.out
  clear HC3
  have HC4 := Aside0.mk H
  clear H
  go_upto_region 3 with (fail)
  go_cut [26] (fun v26 wc => ∃ (kq : Nat) (x26_3 : Bool) (x1001_3 : Int) (x1002_3 : Bool), v26 = .bool x26_3 ∧ Aside0 (wPP.j0 kq l1 ([] : List Int) (l1.length : Int) x26_3 s0_0 x1001_3 x1002_3 = some (r1, r2, r3)) ∧ Aside0 (kq ≤ k) ∧ Aside0 (Kd.R (Kd.int .u8) 5 wc w.heap.size (fun _ => True) (.slice none 0 0) ([] : List Int)) ∧ Aside0 (IsS126 w0 wc g s0_0 x1001_3 x1002_3) ∧ Aside0 (KeepBut w wc g none) ∧ Aside0 (Below w0.heap.size w0 wc))
  case first =>
   have H := HC4.out
   clear HC4
   by_cases c5 : (l1.length : Int) < 128
   ·rw [if_pos c5] at H
    have c5b0 : decide ((l1.length : Int) < 128) = true := decide_eq_true c5
    have c5b1 : decide (l1.length < 128) = true := decide_eq_true (by omega)
    clear c5
    (first | rw [c5b0] | (simp only [i64_w, i32_w]; rw [c5b0]) | skip)
    by_cases c6 : (l1.length : Int) = 0
    ·rw [if_pos c6] at H
     have c6b0 : ((l1.length : Int) == 0) = true := beq_iff_eq.mpr c6
     have c6b1 : ((l1.length : Int) != 0) = false := bne_eq_false_iff_eq.mpr c6
     clear c6
     have H' := Aside0.mk H
     clear H
     go_wp2
     go_meet
     case rel => exact ⟨_, (true), (s0_1), (s0_2), z4_4, H', ⟨by first | omega | exact Nat.le_refl _⟩, ⟨z4_7⟩, ⟨z4_1⟩, ⟨z4_0⟩, ⟨z4_2⟩⟩
    ·rw [if_neg c6] at H
     have c6b0 : ((l1.length : Int) == 0) = false := beq_eq_false_iff_ne.mpr c6
     have c6b1 : ((l1.length : Int) != 0) = true := bne_iff_ne.mpr c6
     have c6b2 : ¬ (l1 = []) := fun h_ => c6 (by rw [h_]; rfl)
     replace H := Option.bind_eq_some_iff.mp H
     obtain ⟨⟨t130, t131, t132⟩, A70, H⟩ := H
     replace H : (wPP.j0 k l1 ([] : List Int) (l1.length : Int) (decide (t130 > 0)) s0_0 t131 t132) = some (r1, r2, r3) := H
     have A7 := Aside0.mk A70
     clear A70
     have H' := Aside0.mk H
     clear H
     go_wp2_with (first | (go_at_call 41; (with_reducible refine (wWy.calls g s0_0 s0_1 s0_2 4 t130 t131 t132 w0 _ ?side1 ?side2 A7.out).mono ?_); (case side1 => repeat (first | (with_reducible first | exact HI0.out | apply IsS126.alloc | apply IsS126.drewN | apply IsS126.drew | apply IsS126.set_1 | apply IsS126.set_2) | exact HI0.out)); (case side2 => repeat (first | (with_reducible first | exact HB.out | apply below_alloc | apply pw_below_drewN | apply below_drew1 | refine below_set ?_ (IsS126.ge HI0.out)) | exact HB.out)); rintro e w8 ⟨rfl, hi, hb, hk⟩; have n0_ := Aside0.mk (KeepBut.trans z4_0 hk (.inl rfl)); have n1_ := Aside0.mk (hb); have n2_ := Aside0.mk (hi); clear HK; clear HB; clear HI0; have HK := n0_; have HB := n1_; have HI0 := n2_; clear n0_ n1_ n2_ hb hk; (clear hi)))
     go_meet
     case rel => exact ⟨_, (decide (t130 > 0)), (t131), (t132), z4_4, H', ⟨by first | omega | exact Nat.le_refl _⟩, ⟨z4_7⟩, ⟨z4_1⟩, ⟨z4_0⟩, ⟨z4_2⟩⟩
   ·rw [if_neg c5] at H
    have c5b0 : decide ((l1.length : Int) < 128) = false := decide_eq_false c5
    have c5b1 : decide (l1.length < 128) = false := decide_eq_false (by omega)
    clear c5
    (first | rw [c5b0] | (simp only [i64_w, i32_w]; rw [c5b0]) | skip)
    have H' := Aside0.mk H
    clear H
    go_wp2
    go_meet
    case rel => exact ⟨_, (false), (s0_1), (s0_2), z4_4, H', ⟨by first | omega | exact Nat.le_refl _⟩, ⟨z4_7⟩, ⟨z4_1⟩, ⟨z4_0⟩, ⟨z4_2⟩⟩
  case rest =>
   clear HC4
   obtain ⟨kq, x26_3, x1001_3, x1002_3, rfl, HA, HJ3, HO_4, HI0, HK, HB⟩ := hcut
   cases kq with
   | zero => exact absurd HA.out (by simp [wPP.j0])
   | succ kj3 =>
    have H := HA.out
    clear HA
    simp only [wPP.j0] at H
    by_cases c9 : x26_3 = true
    ·subst c9
     have H1 : (if ([] : List Int).length < 140737488355328 then (wPP.j1 kj3 l1 (([] : List Int) ++ [((l1.length : Int)) % 256]) s0_0 x1001_3 x1002_3) else (none)) = some (r1, r2, r3) := by rw [if_pos rfl] at H; exact H
     clear H
     have H := H1
     clear H1
     by_cases c10 : ([] : List Int).length < 140737488355328
     rotate_left
     ·rw [if_neg c10] at H
      exact absurd H (by simp)
     rw [if_pos c10] at H
     have LMc10 := Aside0.mk c10
     clear c10
     obtain ⟨y133, hy133⟩ : ∃ y_ : List Int, y_ = (([] : List Int) ++ [((l1.length : Int)) % 256]) := ⟨_, rfl⟩
     replace H : (wPP.j1 kj3 l1 y133 s0_0 x1001_3 x1002_3) = some (r1, r2, r3) := by first | (rw [hy133]; with_reducible exact H) | (have H2_ := (Option.bind_some _ _).symm.trans H; rw [hy133]; with_reducible exact H2_) | (have H2_ := (Option.bind_some _ _).symm.trans H; with_reducible exact H2_) | with_reducible exact H | (rw [hy133]; exact H) | exact H
     have Ny133 := Aside0.mk hy133
     clear hy133
     have H' := Aside0.mk H
     clear H
     go_wp2_with (first | ((with_reducible refine gate_builtin (b := .append) (xs := #[.tmp 38, .tmp 41]) rfl ?_); at_builtin; refine Kd.R_append (Kd.int .u8) w.heap.size rfl (.tmp 38) (.tmp 41) 22 5 (.int .u8 0) 1 rfl Try.underlying22 info5 rfl (by decide) (by omega) (.slice none 0 0) ([] : List Int) (((l1.length : Int)) % 256) [.int .u8 (((l1.length : Int)) % 256)] (fun _ => True) (fun _ => False) rfl rfl ?aP (fun _ hk => hk.elim) ?aF ?aO (Below.refl _ _) ?aS ?aL ?_; (case aP => exact rfl); (case aF => exact (fun _ _ => trivial)); (case aO => exact z4_3); (case aS => exact (keep_size (w := w) (g := g) (row := none) z4_0)); (case aL => have := LMc10.out; omega); intro v134 w11 ho hb hg hat; rw [← Ny133.out] at ho; have n0_ := Aside0.mk (IsS126.grown z4_1 hg (IsS126.own_ne HI0.out HO_4.out (by decide))); have n1_ := Aside0.mk (below_weaken z4_2 HL.out hb); have n2_ := Aside0.mk (KeepBut.trans z4_0 (KeepBut.of_grown hg g) (Kd.R_base2 HO_4.out)); have n3_ := Aside0.mk (ho); clear HI0; clear HB; clear HK; clear HO_4; have HI0 := n0_; have HB := n1_; have HK := n2_; have HO135 := n3_; clear n0_ n1_ n2_ n3_; clear ho hb hg hat))
     go_meet
     case rel => exact ⟨_, (y133), (x1001_3), (x1002_3), H', ⟨by have := HJ3.out; first | omega | exact Nat.le_refl _⟩, ⟨by (with_reducible repeat (first | apply Kd.R_alloc | apply Kd.R_drewN | apply Kd.R_drew)); exact HO135.out⟩, ⟨z4_1⟩, ⟨z4_0⟩, ⟨z4_2⟩⟩
    ·replace c9 := Bool.eq_false_iff.mpr c9
     subst c9
     have H1 : ((some (([Go.bits .or .u8 (((l1.length : Int) / 256) % 256) 128, ((l1.length : Int)) % 256] : List Int) : List Int)).bind fun y136 => (if ([] : List Int).length + y136.length < 140737488355328 then (wPP.j1 kj3 l1 (([] : List Int) ++ y136) s0_0 x1001_3 x1002_3) else (none))) = some (r1, r2, r3) := by rw [if_neg (show ¬ (false = true) by decide)] at H; exact H
     clear H
     have H := H1
     clear H1
     obtain ⟨y136, hy136⟩ : ∃ y_ : List Int, y_ = (([Go.bits .or .u8 (((l1.length : Int) / 256) % 256) 128, ((l1.length : Int)) % 256] : List Int)) := ⟨_, rfl⟩
     replace H : (if ([] : List Int).length + y136.length < 140737488355328 then (wPP.j1 kj3 l1 (([] : List Int) ++ y136) s0_0 x1001_3 x1002_3) else (none)) = some (r1, r2, r3) := by first | (rw [hy136]; with_reducible exact H) | (have H2_ := (Option.bind_some _ _).symm.trans H; rw [hy136]; with_reducible exact H2_) | (have H2_ := (Option.bind_some _ _).symm.trans H; with_reducible exact H2_) | with_reducible exact H | (rw [hy136]; exact H) | exact H
     have Ny136 := Aside0.mk hy136
     clear hy136
     by_cases c12 : ([] : List Int).length + y136.length < 140737488355328
     rotate_left
     ·rw [if_neg c12] at H
      exact absurd H (by simp)
     rw [if_pos c12] at H
     have LMc12 := Aside0.mk c12
     clear c12
     obtain ⟨y139, hy139⟩ : ∃ y_ : List Int, y_ = (([] : List Int) ++ y136) := ⟨_, rfl⟩
     replace H : (wPP.j1 kj3 l1 y139 s0_0 x1001_3 x1002_3) = some (r1, r2, r3) := by first | (rw [hy139]; with_reducible exact H) | (have H2_ := (Option.bind_some _ _).symm.trans H; rw [hy139]; with_reducible exact H2_) | (have H2_ := (Option.bind_some _ _).symm.trans H; with_reducible exact H2_) | with_reducible exact H | (rw [hy139]; exact H) | exact H
     have Ny139 := Aside0.mk hy139
     clear hy139
     have H' := Aside0.mk H
     clear H
     go_wp2_with (first | ((with_reducible refine gate_dst (N := 24) rfl ?_); refine Kd.R_lit (Kd.int .u8) _ 5 ?hg (N := 24) ?hd (xs := ([Go.bits .or .u8 (((l1.length : Int) / 256) % 256) 128, ((l1.length : Int)) % 256] : List Int)) (inner := [.int .u8 (Go.bits .or .u8 (((l1.length : Int) / 256) % 256) 128), .int .u8 (((l1.length : Int)) % 256)]) (ok := fun _ => True) (okp := fun _ => True) ?hr ?hp (fun _ hk => hk) trivial (Below.refl _ _) (Nat.le_refl _) (by simp) ?_; (case hd => rfl); (case hg => rfl); (case hr => first | (go_simp; done) | (go_simp; rfl)); (case hp => exact (Reps.one (show Kd.M (Kd.int .u8) _ _ _ (Go.bits .or .u8 (((l1.length : Int) / 256) % 256) 128) [.int .u8 (Go.bits .or .u8 (((l1.length : Int) / 256) % 256) 128)] from rfl) (Reps.one (show Kd.M (Kd.int .u8) _ _ _ (((l1.length : Int)) % 256) [.int .u8 (((l1.length : Int)) % 256)] from rfl) (Reps.none _ _)))); intro v137 w13 ho14 hb hg_ hnew_; clear hg_ hnew_; (first | rw [← Ny136.out] at ho14 | (simp only [Int.reduceToNat] at ho14; rw [← Ny136.out] at ho14)); have n0_ := Aside0.mk (Kd.R_elder' z4_3 (Kd.R_base ho14) hb); have n1_ := Aside0.mk (Kd.R_lower (Kd.R_new' ho14 (Kd.R_lt z4_3)) (keep_size (w := w) (g := g) (row := none) z4_0)); have n2_ := Aside0.mk (IsS126.below z4_1 hb); have n3_ := Aside0.mk (KeepBut.trans z4_0 (KeepBut.of_below hb g none) (.inl rfl)); have n4_ := Aside0.mk (below_step z4_2 hb); clear HO_4; clear HI0; clear HK; clear HB; have HO_4 := n0_; have HO138 := n1_; have HI0 := n2_; have HK := n3_; have HB := n4_; clear n0_ n1_ n2_ n3_ n4_; clear hb ho14; obtain ⟨Ao16, co16, eo16⟩ := Kd.R_slice HO138.out; subst eo16) | ((with_reducible refine gate_builtin (b := .append) (xs := #[.tmp 17, .tmp 24]) rfl ?_); at_builtin; refine Kd.R_append_rows (Kd.int .u8) w.heap.size rfl (.tmp 17) (.tmp 24) 22 5 (.int .u8 0) 1 rfl Try.underlying22 info5 rfl (by decide) (by omega) (.slice none 0 0) ([] : List Int) y136 _ _ _ (fun k_ => some k_ ≠ (.slice Ao16 y136.length co16 : Value).ownBlock) (fun _ => False) rfl rfl ?aO ?aR (fun _ _ h => h) (fun _ h => h.elim) ?aF (Below.refl _ _) ?aS ?aL ?_; (case aR => repeat (first | exact (Kd.R_reads' HO138.out).2.2 | (with_reducible refine Kd.C_alloc ?_ _) | (with_reducible refine Kd.C_drewN ?_ _) | (with_reducible refine Kd.C_drew ?_))); (case aF => exact (fun k_ hk => Kd.fresh' (Kd.R_lt (by (with_reducible repeat (first | apply Kd.R_alloc | apply Kd.R_drewN | apply Kd.R_drew)); exact HO138.out)) k_ hk)); (case aO => exact (by (with_reducible repeat (first | apply Kd.R_alloc | apply Kd.R_drewN | apply Kd.R_drew)); exact Kd.R_mono HO_4.out (fun _ hk => hk.2))); (case aS => exact (keep_size (w := w) (g := g) (row := none) z4_0)); (case aL => have := LMc12.out; omega); intro v140 w15 ho hb hg hat; rw [← Ny139.out] at ho; have n0_ := Aside0.mk (IsS126.grown z4_1 hg (IsS126.own_ne HI0.out HO_4.out (by decide))); have n1_ := Aside0.mk (Kd.R_after (ok := (fun _ => True)) (by (with_reducible repeat (first | apply Kd.R_alloc | apply Kd.R_drewN | apply Kd.R_drew)); exact HO138.out) hg hat); have n2_ := Aside0.mk (below_weaken z4_2 HL.out hb); have n3_ := Aside0.mk (KeepBut.trans z4_0 (KeepBut.of_grown hg g) (Kd.R_base2 HO_4.out)); have n4_ := Aside0.mk (ho); clear HI0; clear HO138; clear HB; clear HK; clear HO_4; have HI0 := n0_; have HO138 := n1_; have HB := n2_; have HK := n3_; have HO141 := n4_; clear n0_ n1_ n2_ n3_ n4_; clear ho hb hg hat))
     go_meet
     case rel => exact ⟨_, (y139), (x1001_3), (x1002_3), H', ⟨by have := HJ3.out; first | omega | exact Nat.le_refl _⟩, ⟨by (with_reducible repeat (first | apply Kd.R_alloc | apply Kd.R_drewN | apply Kd.R_drew)); exact Kd.R_mono HO141.out (fun _ hk => trivial)⟩, ⟨z4_1⟩, ⟨z4_0⟩, ⟨z4_2⟩⟩
 case rest =>
  clear HC3
  obtain ⟨kq, x4_2, x1001_2, x1002_2, HA, HJ2, HO_4, HI0, HK, HB⟩ := hcut
  cases kq with
  | zero => exact absurd HA.out (by simp [wPP.j1])
  | succ kj2 =>
   have H := HA.out
   clear HA
   simp only [wPP.j1] at H
   have H' := Aside0.mk H
   clear H
   go_wp2
   go_loopg [4, 6, 7] kj2 (fun kq v4 v6 v7 w' => ∃ (x4_2 : List Int) (x6_2 : Int) (x7_2 : Int) (x1001_2 : Int) (x1002_2 : Bool), v6 = .int .i64 x6_2 ∧ v7 = .int .i64 x7_2 ∧ Aside0 (wPP.l0 kq l1 x4_2 x6_2 x7_2 s0_0 x1001_2 x1002_2 = some (r1, r2, r3)) ∧ Aside0 (kq ≤ kj2) ∧ Aside0 (Kd.R (Kd.int .u8) 5 w' w.heap.size (fun _ => True) v4 x4_2) ∧ Aside0 (IsS126 w0 w' g s0_0 x1001_2 x1002_2) ∧ Aside0 (KeepBut w w' g none) ∧ Aside0 (Below w0.heap.size w0 w'))
   case atStart => exact ⟨(x4_2), (0), (0), (x1001_2), (x1002_2), z4_4, z4_4, H', ⟨Nat.le_refl _⟩, ⟨z4_3⟩, ⟨z4_1⟩, ⟨z4_0⟩, ⟨z4_2⟩⟩
   case round =>
    clear H'
    obtain ⟨x4_2, x6_2, x7_2, x1001_2, x1002_2, rfl, rfl, HA, HK2, HO_4, HI0, HK, HB⟩ := hrel
    cases gk with
    | zero => exact absurd HA.out (by simp [wPP.l0])
    | succ k2 =>
     have H := HA.out
     clear HA
     simp only [wPP.l0] at H
     by_cases c17 : x7_2 < (l1.length : Int)
     ·rw [if_pos c17] at H
      have c17b0 : decide (x7_2 < (l1.length : Int)) = true := decide_eq_true c17
      clear c17
      replace H := Option.bind_eq_some_iff.mp H
      obtain ⟨⟨t142, t143, t144⟩, A180, H⟩ := H
      replace H : ((wWy.f s0_0 t143 t144 3).bind fun bt145 => (if 0 ≤ x7_2 then (if x7_2 ≤ (wrap64 (x7_2 + (mn (wrap64 ((l1.length : Int) - x7_2)) (wrap64 (1 + t142))))) then (if (wrap64 (x7_2 + (mn (wrap64 ((l1.length : Int) - x7_2)) (wrap64 (1 + t142))))) ≤ (l1.length : Int) then (wPP.l1 k2 l1 x4_2 x6_2 x7_2 (mn (wrap64 ((l1.length : Int) - x7_2)) (wrap64 (1 + t142))) (bt145.1 == 2) x6_2 ((l1.take ((wrap64 (x7_2 + (mn (wrap64 ((l1.length : Int) - x7_2)) (wrap64 (1 + t142))))) : Int).toNat).drop (x7_2 : Int).toNat) (((l1.take ((wrap64 (x7_2 + (mn (wrap64 ((l1.length : Int) - x7_2)) (wrap64 (1 + t142))))) : Int).toNat).drop (x7_2 : Int).toNat).length : Int) 0 s0_0 bt145.2.1 bt145.2.2) else (none)) else (none)) else (none))) = some (r1, r2, r3) := H
      have A18 := Aside0.mk A180
      clear A180
      obtain ⟨ji19, hji19⟩ : ∃ j_ : Int, (mn (wrap64 ((l1.length : Int) - x7_2)) (wrap64 (1 + t142))) = j_ := ⟨_, rfl⟩
      replace H : ((wWy.f s0_0 t143 t144 3).bind fun bt145 => (if 0 ≤ x7_2 then (if x7_2 ≤ (wrap64 (x7_2 + (ji19))) then (if (wrap64 (x7_2 + (ji19))) ≤ (l1.length : Int) then (wPP.l1 k2 l1 x4_2 x6_2 x7_2 ji19 (bt145.1 == 2) x6_2 ((l1.take ((wrap64 (x7_2 + (ji19))) : Int).toNat).drop (x7_2 : Int).toNat) (((l1.take ((wrap64 (x7_2 + (ji19))) : Int).toNat).drop (x7_2 : Int).toNat).length : Int) 0 s0_0 bt145.2.1 bt145.2.2) else (none)) else (none)) else (none))) = some (r1, r2, r3) := by first | (rw [hji19] at H; exact H) | (simp only [hji19] at H ⊢; exact H)
      (try rw [hji19] at A18)
      have hji19_ : (if (wrap64 (1 + t142)) < (wrap64 ((l1.length : Int) - x7_2)) then (wrap64 (1 + t142)) else (wrap64 ((l1.length : Int) - x7_2))) = ji19 := hji19
      replace H := Option.bind_eq_some_iff.mp H
      obtain ⟨⟨t145, t146, t147⟩, A200, H⟩ := H
      replace H : (if 0 ≤ x7_2 then (if x7_2 ≤ (wrap64 (x7_2 + (ji19))) then (if (wrap64 (x7_2 + (ji19))) ≤ (l1.length : Int) then (wPP.l1 k2 l1 x4_2 x6_2 x7_2 ji19 (t145 == 2) x6_2 ((l1.take ((wrap64 (x7_2 + (ji19))) : Int).toNat).drop (x7_2 : Int).toNat) (((l1.take ((wrap64 (x7_2 + (ji19))) : Int).toNat).drop (x7_2 : Int).toNat).length : Int) 0 s0_0 t146 t147) else (none)) else (none)) else (none)) = some (r1, r2, r3) := H
      have A20 := Aside0.mk A200
      clear A200
      by_cases c21 : 0 ≤ x7_2
      rotate_left
      ·rw [if_neg c21] at H
       exact absurd H (by simp)
      rw [if_pos c21] at H
      have c21b0 := eq_true c21
      have c21b1 : decide (0 ≤ x7_2) = true := decide_eq_true c21
      clear c21
      by_cases c22 : x7_2 ≤ (wrap64 (x7_2 + (ji19)))
      rotate_left
      ·rw [if_neg c22] at H
       exact absurd H (by simp)
      rw [if_pos c22] at H
      have c22b0 := eq_true c22
      have c22b1 : decide (x7_2 ≤ (wrap64 (x7_2 + (ji19)))) = true := decide_eq_true c22
      by_cases c23 : (wrap64 (x7_2 + (ji19))) ≤ (l1.length : Int)
      rotate_left
      ·rw [if_neg c23] at H
       exact absurd H (by simp)
      rw [if_pos c23] at H
      have c23b0 := eq_true c23
      have c23b1 : decide ((wrap64 (x7_2 + (ji19))) ≤ (l1.length : Int)) = true := decide_eq_true c23
      have H' := Aside0.mk H
      clear H
      go_wp2_with (first | ((with_reducible refine gate_callee (f := 41) rfl ?_); refine goesL_ (some 52) rfl rfl Try.func41 (by kernel_rfl) rfl #[.pointer (some ⟨g, 0, none⟩), .int .i64 7] rfl (by (try simp only [List.map_toArray, List.map_cons, List.map_nil]); first | done | rfl | (simp only [List.length_drop, List.length_take]; rfl)) ?_; (with_reducible refine (wWy.calls g s0_0 x1001_2 x1002_2 7 t142 t143 t144 w0 _ ?side1 ?side2 A18.out).mono ?_); (case side1 => repeat (first | (with_reducible first | exact HI0.out | apply IsS126.alloc | apply IsS126.drewN | apply IsS126.drew | apply IsS126.set_1 | apply IsS126.set_2) | exact HI0.out)); (case side2 => repeat (first | (with_reducible first | exact HB.out | apply below_alloc | apply pw_below_drewN | apply below_drew1 | refine below_set ?_ (IsS126.ge HI0.out)) | exact HB.out)); rintro e w24 ⟨rfl, hi, hb, hk⟩; refine ⟨_, rfl, ?_⟩; have n0_ := Aside0.mk (Kd.R_mono (Kd.R_keep (IsS126.apart (show IsS126 w0 _ g s0_0 x1001_2 x1002_2 from by repeat (first | (with_reducible first | exact HI0.out | apply IsS126.alloc | apply IsS126.drewN | apply IsS126.drew | apply IsS126.set_1 | apply IsS126.set_2) | exact HI0.out)) z4_3 (by decide)) hk (fun _ h => h.2)) (fun _ h => h.1)); have n1_ := Aside0.mk (KeepBut.trans z4_0 hk (.inl rfl)); have n2_ := Aside0.mk (hb); have n3_ := Aside0.mk (hi); clear HO_4; clear HK; clear HB; clear HI0; have HO_4 := n0_; have HK := n1_; have HB := n2_; have HI0 := n3_; clear n0_ n1_ n2_ n3_ hb hk; (clear hi)) | (go_at_call 41; (with_reducible refine (wWy.calls g s0_0 t143 t144 3 t145 t146 t147 w0 _ ?side1 ?side2 A20.out).mono ?_); (case side1 => repeat (first | (with_reducible first | exact HI0.out | apply IsS126.alloc | apply IsS126.drewN | apply IsS126.drew | apply IsS126.set_1 | apply IsS126.set_2) | exact HI0.out)); (case side2 => repeat (first | (with_reducible first | exact HB.out | apply below_alloc | apply pw_below_drewN | apply below_drew1 | refine below_set ?_ (IsS126.ge HI0.out)) | exact HB.out)); rintro e w25 ⟨rfl, hi, hb, hk⟩; have n0_ := Aside0.mk (Kd.R_mono (Kd.R_keep (IsS126.apart (show IsS126 w0 _ g s0_0 t143 t144 from by repeat (first | (with_reducible first | exact HI0.out | apply IsS126.alloc | apply IsS126.drewN | apply IsS126.drew | apply IsS126.set_1 | apply IsS126.set_2) | exact HI0.out)) z4_3 (by decide)) hk (fun _ h => h.2)) (fun _ h => h.1)); have n1_ := Aside0.mk (KeepBut.trans z4_0 hk (.inl rfl)); have n2_ := Aside0.mk (hb); have n3_ := Aside0.mk (hi); clear HO_4; clear HK; clear HB; clear HI0; have HO_4 := n0_; have HK := n1_; have HB := n2_; have HI0 := n3_; clear n0_ n1_ n2_ n3_ hb hk hi; obtain ⟨i026, hi026, _, hsz26, _⟩ := info_parts info3; obtain ⟨A26, hcut26, hA26, hC26⟩ := print_mid_of (P := Try.prog) (Value.int .i64) 0 29 3 .i64 .i64 Try.underlying29 hi026 hsz26 A1 c1 l1 x7_2 (wrap64 (x7_2 + (ji19))) (of_decide_eq_true z4_5) (by first | omega | exact of_decide_eq_true z4_5) (of_decide_eq_true z4_5) HC1.out; have HR148 := Aside0.mk (Kd.C_of_reads (h1 := fun _ => rfl) (hA26 _ (Kd.reads_of_C HR1.out))); have HC148 := Aside0.mk hC26; have hf148 : ∀ ad : Addr, A26 = some ad → 0 < ((l1.take ((wrap64 (x7_2 + (ji19))) : Int).toNat).drop (x7_2 : Int).toNat).length → ad.block ≠ g := fun ad he h_ => (by cases he; exact Kd.foot_ne (fun W_ hk_ => Kd.C_of_reads (h1 := fun _ => rfl) (hA26 _ (Kd.reads_of_C (Kd.C_foot_ne (fun h => h) HR1.out hf1 W_ hk_)))) h_ (by decide)); clear hA26 hC26 hi026 hsz26; obtain ⟨cd26, hcd26⟩ : ∃ l_ : List Int, ((l1.take ((wrap64 (x7_2 + (ji19))) : Int).toNat).drop (x7_2 : Int).toNat) = l_ := ⟨_, rfl⟩; rw [hcd26] at hcut26 HR148 HC148 hf148; (try rw [hcd26] at H'); (try rw [hcd26] at H); clear hcd26))
      go_loopg [9, 10, 66] k2 (fun kq v9 v10 v66 w' => ∃ (x9_3 : Bool) (x10_3 : Int) (x66_3 : Int), v9 = .bool x9_3 ∧ v10 = .int .i64 x10_3 ∧ v66 = .int .i64 x66_3 ∧ Aside0 (wPP.l1 kq l1 x4_2 x6_2 x7_2 ji19 x9_3 x10_3 cd26 (cd26.length : Int) x66_3 s0_0 t146 t147 = some (r1, r2, r3)) ∧ Aside0 (kq ≤ k2) ∧ Aside0 (Kd.R (Kd.int .u8) 5 w' w.heap.size (fun _ => True) u4 x4_2) ∧ Aside0 (IsS126 w0 w' g s0_0 t146 t147) ∧ Aside0 (KeepBut w w' g none) ∧ Aside0 (Below w0.heap.size w0 w'))
      case atStart => exact ⟨((t145 == 2)), (x6_2), (0), z4_4, z4_4, z4_4, H', ⟨Nat.le_refl _⟩, ⟨z4_3⟩, ⟨z4_1⟩, ⟨z4_0⟩, ⟨z4_2⟩⟩
      case round =>
       clear H'
       clear c17b0 c21b0 c21b1 c22 c22b0 c22b1 c23 c23b0 c23b1
       obtain ⟨x9_3, x10_3, x66_3, rfl, rfl, rfl, HA, HK3, HO_4, HI0, HK, HB⟩ := hrel
       cases gk with
       | zero => exact absurd HA.out (by simp [wPP.l1])
       | succ k3 =>
        have H := HA.out
        clear HA
        simp only [wPP.l1] at H
        by_cases c27 : x66_3 < (cd26.length : Int)
        ·rw [if_pos c27] at H
         have c27b0 : decide (x66_3 < (cd26.length : Int)) = true := decide_eq_true c27
         clear c27
         by_cases c28 : 0 ≤ x66_3
         rotate_left
         ·rw [if_neg c28] at H
          exact absurd H (by simp)
         rw [if_pos c28] at H
         have c28b0 : decide (0 ≤ x66_3) = true := decide_eq_true c28
         clear c28
         by_cases c29 : x66_3 < (cd26.length : Int)
         rotate_left
         ·rw [if_neg c29] at H
          exact absurd H (by simp)
         rw [if_pos c29] at H
         have c29b0 : decide (x66_3 < (cd26.length : Int)) = true := decide_eq_true c29
         clear c29
         by_cases c30 : x9_3 = true
         ·subst c30
          have H1 : (wPP.l1 k3 l1 x4_2 x6_2 x7_2 ji19 true (rd cd26 x66_3) cd26 (cd26.length : Int) (wrap64 (x66_3 + 1)) s0_0 t146 t147) = some (r1, r2, r3) := by rw [if_pos rfl] at H; exact H
          clear H
          have H := H1
          clear H1
          have H' := Aside0.mk H
          clear H
          have p149 : 0 ≤ (x66_3 : Int) := of_decide_eq_true z4_5
          have q149 : x66_3 < (cd26.length : Int) := of_decide_eq_true z4_5
          obtain ⟨ad149, e149, hx149_0⟩ := Kd.at_int HR148.out x66_3 p149 q149
          cases e149
          replace hx149_0 := keep_cell HK.out hx149_0 (by first | (rw [add_block]; exact hf148 _ rfl (by omega)) | exact hf148 _ rfl (by omega) | exact hf148 ad149 rfl (by omega))
          replace p149 := eq_true p149
          replace q149 := eq_true q149
          go_wp2
          go_roundg k3
          case measure => have := HJ2.out; have := HK2.out; have := HK3.out; omega
          case rel => exact ⟨(true), (rd cd26 x66_3), (wrap64 (x66_3 + 1)), z4_4, z4_6, z4_4, H', ⟨by have := HJ2.out; have := HK2.out; have := HK3.out; omega⟩, ⟨z4_3⟩, ⟨z4_1⟩, ⟨z4_0⟩, ⟨z4_2⟩⟩
         ·replace c30 := Bool.eq_false_iff.mpr c30
          subst c30
          have H1 : (wPP.l1 k3 l1 x4_2 x6_2 x7_2 ji19 (decide ((wrap64 ((rd cd26 x66_3) - x10_3)) > 255)) (rd cd26 x66_3) cd26 (cd26.length : Int) (wrap64 (x66_3 + 1)) s0_0 t146 t147) = some (r1, r2, r3) := by rw [if_neg (show ¬ (false = true) by decide)] at H; exact H
          clear H
          have H := H1
          clear H1
          have H' := Aside0.mk H
          clear H
          have p149 : 0 ≤ (x66_3 : Int) := of_decide_eq_true z4_5
          have q149 : x66_3 < (cd26.length : Int) := of_decide_eq_true z4_5
          obtain ⟨ad149, e149, hx149_0⟩ := Kd.at_int HR148.out x66_3 p149 q149
          cases e149
          replace hx149_0 := keep_cell HK.out hx149_0 (by first | (rw [add_block]; exact hf148 _ rfl (by omega)) | exact hf148 _ rfl (by omega) | exact hf148 ad149 rfl (by omega))
          replace p149 := eq_true p149
          replace q149 := eq_true q149
          go_wp2
          go_roundg k3
          case measure => have := HJ2.out; have := HK2.out; have := HK3.out; omega
          case rel => exact ⟨(decide ((wrap64 ((rd cd26 x66_3) - x10_3)) > 255)), (rd cd26 x66_3), (wrap64 (x66_3 + 1)), z4_6, z4_6, z4_4, H', ⟨by have := HJ2.out; have := HK2.out; have := HK3.out; omega⟩, ⟨z4_3⟩, ⟨z4_1⟩, ⟨z4_0⟩, ⟨z4_2⟩⟩
        ·rw [if_neg c27] at H
         have c27b0 : decide (x66_3 < (cd26.length : Int)) = false := decide_eq_false c27
         clear c27
         have HC31 := Aside0.mk H
         clear H
         go_upto_if 79 with (fail)
         go_cut [4] (fun v4 wc => ∃ (kq : Nat) (x4_30 : List Int), Aside0 (wPP.j4 kq l1 x4_30 x6_2 x7_2 ji19 x9_3 s0_0 t146 t147 = some (r1, r2, r3)) ∧ Aside0 (kq ≤ k3) ∧ Aside0 (Kd.R (Kd.int .u8) 5 wc w.heap.size (fun _ => True) v4 x4_30) ∧ Aside0 (IsS126 w0 wc g s0_0 t146 t147) ∧ Aside0 (KeepBut w wc g none) ∧ Aside0 (Below w0.heap.size w0 wc))
         case first =>
          have H := HC31.out
          clear HC31
          by_cases c32 : x9_3 = true
          ·subst c32
           have H1 : (if x4_2.length < 140737488355328 then (wPP.j4 k3 l1 (x4_2 ++ [Go.bits .or .u8 ((wrap64 (ji19 - 1)) % 256) 128]) x6_2 x7_2 ji19 true s0_0 t146 t147) else (none)) = some (r1, r2, r3) := by rw [if_pos rfl] at H; exact H
           clear H
           have H := H1
           clear H1
           by_cases c33 : x4_2.length < 140737488355328
           rotate_left
           ·rw [if_neg c33] at H
            exact absurd H (by simp)
           rw [if_pos c33] at H
           have LMc33 := Aside0.mk c33
           clear c33
           obtain ⟨y150, hy150⟩ : ∃ y_ : List Int, y_ = (x4_2 ++ [Go.bits .or .u8 ((wrap64 (ji19 - 1)) % 256) 128]) := ⟨_, rfl⟩
           replace H : (wPP.j4 k3 l1 y150 x6_2 x7_2 ji19 true s0_0 t146 t147) = some (r1, r2, r3) := by first | (rw [hy150]; with_reducible exact H) | (have H2_ := (Option.bind_some _ _).symm.trans H; rw [hy150]; with_reducible exact H2_) | (have H2_ := (Option.bind_some _ _).symm.trans H; with_reducible exact H2_) | with_reducible exact H | (rw [hy150]; exact H) | exact H
           have Ny150 := Aside0.mk hy150
           clear hy150
           have H' := Aside0.mk H
           clear H
           go_wp2_with (first | ((with_reducible refine gate_builtin (b := .append) (xs := #[.tmp 80, .tmp 85]) rfl ?_); at_builtin; refine Kd.R_append (Kd.int .u8) w.heap.size rfl (.tmp 80) (.tmp 85) 22 5 (.int .u8 0) 1 rfl Try.underlying22 info5 rfl (by decide) (by omega) u4 x4_2 (Go.bits .or .u8 ((wrap64 (ji19 - 1)) % 256) 128) [.int .u8 (Go.bits .or .u8 ((wrap64 (ji19 - 1)) % 256) 128)] (fun _ => True) (fun _ => False) rfl rfl ?aP (fun _ hk => hk.elim) ?aF ?aO (Below.refl _ _) ?aS ?aL ?_; (case aP => exact rfl); (case aF => exact (fun _ _ => trivial)); (case aO => exact z4_3); (case aS => exact (keep_size (w := w) (g := g) (row := none) z4_0)); (case aL => have := LMc33.out; omega); intro v151 w34 ho hb hg hat; rw [← Ny150.out] at ho; have n0_ := Aside0.mk (IsS126.grown z4_1 hg (IsS126.own_ne HI0.out HO_4.out (by decide))); have n1_ := Aside0.mk (below_weaken z4_2 HL.out hb); have n2_ := Aside0.mk (KeepBut.trans z4_0 (KeepBut.of_grown hg g) (Kd.R_base2 HO_4.out)); have n3_ := Aside0.mk (ho); clear HI0; clear HB; clear HK; clear HO_4; have HI0 := n0_; have HB := n1_; have HK := n2_; have HO152 := n3_; clear n0_ n1_ n2_ n3_; clear ho hb hg hat))
           go_meet
           case rel => exact ⟨_, (y150), H', ⟨by have := HJ2.out; have := HK2.out; have := HK3.out; first | omega | exact Nat.le_refl _⟩, ⟨by (with_reducible repeat (first | apply Kd.R_alloc | apply Kd.R_drewN | apply Kd.R_drew)); exact HO152.out⟩, ⟨z4_1⟩, ⟨z4_0⟩, ⟨z4_2⟩⟩
          ·replace c32 := Bool.eq_false_iff.mpr c32
           subst c32
           have H1 : (if x4_2.length < 140737488355328 then (wPP.j4 k3 l1 (x4_2 ++ [(wrap64 (ji19 - 1)) % 256]) x6_2 x7_2 ji19 false s0_0 t146 t147) else (none)) = some (r1, r2, r3) := by rw [if_neg (show ¬ (false = true) by decide)] at H; exact H
           clear H
           have H := H1
           clear H1
           by_cases c35 : x4_2.length < 140737488355328
           rotate_left
           ·rw [if_neg c35] at H
            exact absurd H (by simp)
           rw [if_pos c35] at H
           have LMc35 := Aside0.mk c35
           clear c35
           obtain ⟨y153, hy153⟩ : ∃ y_ : List Int, y_ = (x4_2 ++ [(wrap64 (ji19 - 1)) % 256]) := ⟨_, rfl⟩
           replace H : (wPP.j4 k3 l1 y153 x6_2 x7_2 ji19 false s0_0 t146 t147) = some (r1, r2, r3) := by first | (rw [hy153]; with_reducible exact H) | (have H2_ := (Option.bind_some _ _).symm.trans H; rw [hy153]; with_reducible exact H2_) | (have H2_ := (Option.bind_some _ _).symm.trans H; with_reducible exact H2_) | with_reducible exact H | (rw [hy153]; exact H) | exact H
           have Ny153 := Aside0.mk hy153
           clear hy153
           have H' := Aside0.mk H
           clear H
           go_wp2_with (first | ((with_reducible refine gate_builtin (b := .append) (xs := #[.tmp 87, .tmp 91]) rfl ?_); at_builtin; refine Kd.R_append (Kd.int .u8) w.heap.size rfl (.tmp 87) (.tmp 91) 22 5 (.int .u8 0) 1 rfl Try.underlying22 info5 rfl (by decide) (by omega) u4 x4_2 ((wrap64 (ji19 - 1)) % 256) [.int .u8 ((wrap64 (ji19 - 1)) % 256)] (fun _ => True) (fun _ => False) rfl rfl ?aP (fun _ hk => hk.elim) ?aF ?aO (Below.refl _ _) ?aS ?aL ?_; (case aP => exact rfl); (case aF => exact (fun _ _ => trivial)); (case aO => exact z4_3); (case aS => exact (keep_size (w := w) (g := g) (row := none) z4_0)); (case aL => have := LMc35.out; omega); intro v154 w36 ho hb hg hat; rw [← Ny153.out] at ho; have n0_ := Aside0.mk (IsS126.grown z4_1 hg (IsS126.own_ne HI0.out HO_4.out (by decide))); have n1_ := Aside0.mk (below_weaken z4_2 HL.out hb); have n2_ := Aside0.mk (KeepBut.trans z4_0 (KeepBut.of_grown hg g) (Kd.R_base2 HO_4.out)); have n3_ := Aside0.mk (ho); clear HI0; clear HB; clear HK; clear HO_4; have HI0 := n0_; have HB := n1_; have HK := n2_; have HO155 := n3_; clear n0_ n1_ n2_ n3_; clear ho hb hg hat))
           go_meet
           case rel => exact ⟨_, (y153), H', ⟨by have := HJ2.out; have := HK2.out; have := HK3.out; first | omega | exact Nat.le_refl _⟩, ⟨by (with_reducible repeat (first | apply Kd.R_alloc | apply Kd.R_drewN | apply Kd.R_drew)); exact HO155.out⟩, ⟨z4_1⟩, ⟨z4_0⟩, ⟨z4_2⟩⟩
         case rest =>
          clear HC31
          clear c27b0
          obtain ⟨kq, x4_30, HA, HJ30, HO_4, HI0, HK, HB⟩ := hcut
          cases kq with
          | zero => exact absurd HA.out (by simp [wPP.j4])
          | succ kj30 =>
           have H := HA.out
           clear HA
           simp only [wPP.j4] at H
           by_cases c37 : 0 ≤ x7_2
           rotate_left
           ·rw [if_neg c37] at H
            exact absurd H (by simp)
           rw [if_pos c37] at H
           have c37b0 := eq_true c37
           have c37b1 : decide (0 ≤ x7_2) = true := decide_eq_true c37
           clear c37
           by_cases c38 : x7_2 ≤ (wrap64 (x7_2 + ji19))
           rotate_left
           ·rw [if_neg c38] at H
            exact absurd H (by simp)
           rw [if_pos c38] at H
           have c38b0 := eq_true c38
           have c38b1 : decide (x7_2 ≤ (wrap64 (x7_2 + ji19))) = true := decide_eq_true c38
           by_cases c39 : (wrap64 (x7_2 + ji19)) ≤ (l1.length : Int)
           rotate_left
           ·rw [if_neg c39] at H
            exact absurd H (by simp)
           rw [if_pos c39] at H
           have c39b0 := eq_true c39
           have c39b1 : decide ((wrap64 (x7_2 + ji19)) ≤ (l1.length : Int)) = true := decide_eq_true c39
           have H' := Aside0.mk H
           clear H
           obtain ⟨i040, hi040, _, hsz40, _⟩ := info_parts info3
           obtain ⟨A40, hcut40, hA40, hC40⟩ := print_mid_of (P := Try.prog) (Value.int .i64) 0 29 3 .i64 .i64 Try.underlying29 hi040 hsz40 A1 c1 l1 x7_2 (wrap64 (x7_2 + ji19)) (of_decide_eq_true z4_5) (by first | omega | exact of_decide_eq_true z4_5) (of_decide_eq_true z4_5) HC1.out
           have HR156 := Aside0.mk (Kd.C_of_reads (h1 := fun _ => rfl) (hA40 _ (Kd.reads_of_C HR1.out)))
           have HC156 := Aside0.mk hC40
           have hf156 : ∀ ad : Addr, A40 = some ad → 0 < ((l1.take ((wrap64 (x7_2 + ji19)) : Int).toNat).drop (x7_2 : Int).toNat).length → ad.block ≠ g := fun ad he h_ => by cases he; exact Kd.foot_ne (fun W_ hk_ => Kd.C_of_reads (h1 := fun _ => rfl) (hA40 _ (Kd.reads_of_C (Kd.C_foot_ne (fun h => h) HR1.out hf1 W_ hk_)))) h_ (by decide)
           clear hA40 hC40 hi040 hsz40
           clear hcut26
           obtain ⟨cd40, hcd40⟩ : ∃ l_ : List Int, ((l1.take ((wrap64 (x7_2 + ji19)) : Int).toNat).drop (x7_2 : Int).toNat) = l_ := ⟨_, rfl⟩
           rw [hcd40] at hcut40 HR156 HC156 hf156
           try rw [hcd40] at H'
           try rw [hcd40] at H
           clear hcd40
           go_wp2
           go_loopg [4, 6, 100] kj30 (fun kq v4 v6 v100 w' => ∃ (x4_5 : List Int) (x6_5 : Int) (x100_5 : Int), v6 = .int .i64 x6_5 ∧ v100 = .int .i64 x100_5 ∧ Aside0 (wPP.l2 kq l1 x4_5 x6_5 x7_2 ji19 x9_3 cd40 (cd40.length : Int) x100_5 s0_0 t146 t147 = some (r1, r2, r3)) ∧ Aside0 (kq ≤ kj30) ∧ Aside0 (Kd.R (Kd.int .u8) 5 w' w.heap.size (fun _ => True) v4 x4_5) ∧ Aside0 (IsS126 w0 w' g s0_0 t146 t147) ∧ Aside0 (KeepBut w w' g none) ∧ Aside0 (Below w0.heap.size w0 w'))
           case atStart => exact ⟨(x4_30), (x6_2), (0), z4_4, z4_4, H', ⟨Nat.le_refl _⟩, ⟨z4_3⟩, ⟨z4_1⟩, ⟨z4_0⟩, ⟨z4_2⟩⟩
           case round =>
            clear H'
            clear c37b0 c37b1 c38 c38b0 c38b1 c39 c39b0 c39b1
            obtain ⟨x4_5, x6_5, x100_5, rfl, rfl, HA, HK5, HO_4, HI0, HK, HB⟩ := hrel
            cases gk with
            | zero => exact absurd HA.out (by simp [wPP.l2])
            | succ k5 =>
             have H := HA.out
             clear HA
             simp only [wPP.l2] at H
             by_cases c41 : x100_5 < (cd40.length : Int)
             ·rw [if_pos c41] at H
              have c41b0 : decide (x100_5 < (cd40.length : Int)) = true := decide_eq_true c41
              clear c41
              by_cases c42 : 0 ≤ x100_5
              rotate_left
              ·rw [if_neg c42] at H
               exact absurd H (by simp)
              rw [if_pos c42] at H
              have c42b0 : decide (0 ≤ x100_5) = true := decide_eq_true c42
              clear c42
              by_cases c43 : x100_5 < (cd40.length : Int)
              rotate_left
              ·rw [if_neg c43] at H
               exact absurd H (by simp)
              rw [if_pos c43] at H
              have c43b0 : decide (x100_5 < (cd40.length : Int)) = true := decide_eq_true c43
              clear c43
              by_cases c44 : x9_3 = true
              ·subst c44
               have H1 : (if x4_5.length < 140737488355328 then ((some (x4_5 ++ [((wrap64 ((rd cd40 x100_5) - x6_5)) / 256) % 256] : List Int)).bind fun y158 => (if y158.length < 140737488355328 then (wPP.l2 k5 l1 (y158 ++ [(wrap64 ((rd cd40 x100_5) - x6_5)) % 256]) (rd cd40 x100_5) x7_2 ji19 true cd40 (cd40.length : Int) (wrap64 (x100_5 + 1)) s0_0 t146 t147) else (none))) else (none)) = some (r1, r2, r3) := by rw [if_pos rfl] at H; exact H
               clear H
               have H := H1
               clear H1
               by_cases c45 : x4_5.length < 140737488355328
               rotate_left
               ·rw [if_neg c45] at H
                exact absurd H (by simp)
               rw [if_pos c45] at H
               have LMc45 := Aside0.mk c45
               clear c45
               obtain ⟨y158, hy158⟩ : ∃ y_ : List Int, y_ = (x4_5 ++ [((wrap64 ((rd cd40 x100_5) - x6_5)) / 256) % 256]) := ⟨_, rfl⟩
               replace H : (if y158.length < 140737488355328 then (wPP.l2 k5 l1 (y158 ++ [(wrap64 ((rd cd40 x100_5) - x6_5)) % 256]) (rd cd40 x100_5) x7_2 ji19 true cd40 (cd40.length : Int) (wrap64 (x100_5 + 1)) s0_0 t146 t147) else (none)) = some (r1, r2, r3) := by first | (rw [hy158]; with_reducible exact H) | (have H2_ := (Option.bind_some _ _).symm.trans H; rw [hy158]; with_reducible exact H2_) | (have H2_ := (Option.bind_some _ _).symm.trans H; with_reducible exact H2_) | with_reducible exact H | (rw [hy158]; exact H) | exact H
               have Ny158 := Aside0.mk hy158
               clear hy158
               by_cases c46 : y158.length < 140737488355328
               rotate_left
               ·rw [if_neg c46] at H
                exact absurd H (by simp)
               rw [if_pos c46] at H
               have LMc46 := Aside0.mk c46
               clear c46
               obtain ⟨y161, hy161⟩ : ∃ y_ : List Int, y_ = (y158 ++ [(wrap64 ((rd cd40 x100_5) - x6_5)) % 256]) := ⟨_, rfl⟩
               replace H : (wPP.l2 k5 l1 y161 (rd cd40 x100_5) x7_2 ji19 true cd40 (cd40.length : Int) (wrap64 (x100_5 + 1)) s0_0 t146 t147) = some (r1, r2, r3) := by first | (rw [hy161]; with_reducible exact H) | (have H2_ := (Option.bind_some _ _).symm.trans H; rw [hy161]; with_reducible exact H2_) | (have H2_ := (Option.bind_some _ _).symm.trans H; with_reducible exact H2_) | with_reducible exact H | (rw [hy161]; exact H) | exact H
               have Ny161 := Aside0.mk hy161
               clear hy161
               have H' := Aside0.mk H
               clear H
               have p157 : 0 ≤ (x100_5 : Int) := of_decide_eq_true z4_5
               have q157 : x100_5 < (cd40.length : Int) := of_decide_eq_true z4_5
               obtain ⟨ad157, e157, hx157_0⟩ := Kd.at_int HR156.out x100_5 p157 q157
               cases e157
               replace hx157_0 := keep_cell HK.out hx157_0 (by first | (rw [add_block]; exact hf156 _ rfl (by omega)) | exact hf156 _ rfl (by omega) | exact hf156 ad157 rfl (by omega))
               replace p157 := eq_true p157
               replace q157 := eq_true q157
               go_wp2_with (first | ((with_reducible refine gate_builtin (b := .append) (xs := #[.tmp 105, .tmp 111]) rfl ?_); at_builtin; refine Kd.R_append (Kd.int .u8) w.heap.size rfl (.tmp 105) (.tmp 111) 22 5 (.int .u8 0) 1 rfl Try.underlying22 info5 rfl (by decide) (by omega) u4 x4_5 (((wrap64 ((rd cd40 x100_5) - x6_5)) / 256) % 256) [.int .u8 (((wrap64 ((rd cd40 x100_5) - x6_5)) / 256) % 256)] (fun _ => True) (fun _ => False) rfl rfl ?aP (fun _ hk => hk.elim) ?aF ?aO (Below.refl _ _) ?aS ?aL ?_; (case aP => exact rfl); (case aF => exact (fun _ _ => trivial)); (case aO => exact z4_3); (case aS => exact (keep_size (w := w) (g := g) (row := none) z4_0)); (case aL => have := LMc45.out; omega); intro v159 w47 ho hb hg hat; rw [← Ny158.out] at ho; have n0_ := Aside0.mk (IsS126.grown z4_1 hg (IsS126.own_ne HI0.out HO_4.out (by decide))); have n1_ := Aside0.mk (below_weaken z4_2 HL.out hb); have n2_ := Aside0.mk (KeepBut.trans z4_0 (KeepBut.of_grown hg g) (Kd.R_base2 HO_4.out)); have n3_ := Aside0.mk (ho); clear HI0; clear HB; clear HK; clear HO_4; have HI0 := n0_; have HB := n1_; have HK := n2_; have HO160 := n3_; clear n0_ n1_ n2_ n3_; clear ho hb hg hat) | ((with_reducible refine gate_builtin (b := .append) (xs := #[.tmp 113, .tmp 118]) rfl ?_); at_builtin; refine Kd.R_append (Kd.int .u8) w.heap.size rfl (.tmp 113) (.tmp 118) 22 5 (.int .u8 0) 1 rfl Try.underlying22 info5 rfl (by decide) (by omega) v159 y158 ((wrap64 ((rd cd40 x100_5) - x6_5)) % 256) [.int .u8 ((wrap64 ((rd cd40 x100_5) - x6_5)) % 256)] (fun _ => True) (fun _ => False) rfl rfl ?aP (fun _ hk => hk.elim) ?aF ?aO (Below.refl _ _) ?aS ?aL ?_; (case aP => exact rfl); (case aF => exact (fun _ _ => trivial)); (case aO => exact (by (with_reducible repeat (first | apply Kd.R_alloc | apply Kd.R_drewN | apply Kd.R_drew)); exact HO160.out)); (case aS => exact (keep_size (w := w) (g := g) (row := none) z4_0)); (case aL => have := LMc46.out; omega); intro v162 w48 ho hb hg hat; rw [← Ny161.out] at ho; have n0_ := Aside0.mk (IsS126.grown z4_1 hg (IsS126.own_ne HI0.out HO160.out (by decide))); have n1_ := Aside0.mk (below_weaken z4_2 HL.out hb); have n2_ := Aside0.mk (KeepBut.trans z4_0 (KeepBut.of_grown hg g) (Kd.R_base2 HO160.out)); have n3_ := Aside0.mk (ho); clear HI0; clear HB; clear HK; clear HO160; have HI0 := n0_; have HB := n1_; have HK := n2_; have HO163 := n3_; clear n0_ n1_ n2_ n3_; clear ho hb hg hat))
               go_roundg k5
               case measure => have := HJ2.out; have := HK2.out; have := HK3.out; have := HJ30.out; have := HK5.out; omega
               case rel => exact ⟨(y161), (rd cd40 x100_5), (wrap64 (x100_5 + 1)), z4_6, z4_4, H', ⟨z4_8⟩, ⟨by (with_reducible repeat (first | apply Kd.R_alloc | apply Kd.R_drewN | apply Kd.R_drew)); exact HO163.out⟩, ⟨z4_1⟩, ⟨z4_0⟩, ⟨z4_2⟩⟩
              ·replace c44 := Bool.eq_false_iff.mpr c44
               subst c44
               have H1 : (if x4_5.length < 140737488355328 then (wPP.l2 k5 l1 (x4_5 ++ [(wrap64 ((rd cd40 x100_5) - x6_5)) % 256]) (rd cd40 x100_5) x7_2 ji19 false cd40 (cd40.length : Int) (wrap64 (x100_5 + 1)) s0_0 t146 t147) else (none)) = some (r1, r2, r3) := by rw [if_neg (show ¬ (false = true) by decide)] at H; exact H
               clear H
               have H := H1
               clear H1
               by_cases c49 : x4_5.length < 140737488355328
               rotate_left
               ·rw [if_neg c49] at H
                exact absurd H (by simp)
               rw [if_pos c49] at H
               have LMc49 := Aside0.mk c49
               clear c49
               obtain ⟨y164, hy164⟩ : ∃ y_ : List Int, y_ = (x4_5 ++ [(wrap64 ((rd cd40 x100_5) - x6_5)) % 256]) := ⟨_, rfl⟩
               replace H : (wPP.l2 k5 l1 y164 (rd cd40 x100_5) x7_2 ji19 false cd40 (cd40.length : Int) (wrap64 (x100_5 + 1)) s0_0 t146 t147) = some (r1, r2, r3) := by first | (rw [hy164]; with_reducible exact H) | (have H2_ := (Option.bind_some _ _).symm.trans H; rw [hy164]; with_reducible exact H2_) | (have H2_ := (Option.bind_some _ _).symm.trans H; with_reducible exact H2_) | with_reducible exact H | (rw [hy164]; exact H) | exact H
               have Ny164 := Aside0.mk hy164
               clear hy164
               have H' := Aside0.mk H
               clear H
               have p157 : 0 ≤ (x100_5 : Int) := of_decide_eq_true z4_5
               have q157 : x100_5 < (cd40.length : Int) := of_decide_eq_true z4_5
               obtain ⟨ad157, e157, hx157_0⟩ := Kd.at_int HR156.out x100_5 p157 q157
               cases e157
               replace hx157_0 := keep_cell HK.out hx157_0 (by first | (rw [add_block]; exact hf156 _ rfl (by omega)) | exact hf156 _ rfl (by omega) | exact hf156 ad157 rfl (by omega))
               replace p157 := eq_true p157
               replace q157 := eq_true q157
               go_wp2_with (first | ((with_reducible refine gate_builtin (b := .append) (xs := #[.tmp 113, .tmp 118]) rfl ?_); at_builtin; refine Kd.R_append (Kd.int .u8) w.heap.size rfl (.tmp 113) (.tmp 118) 22 5 (.int .u8 0) 1 rfl Try.underlying22 info5 rfl (by decide) (by omega) u4 x4_5 ((wrap64 ((rd cd40 x100_5) - x6_5)) % 256) [.int .u8 ((wrap64 ((rd cd40 x100_5) - x6_5)) % 256)] (fun _ => True) (fun _ => False) rfl rfl ?aP (fun _ hk => hk.elim) ?aF ?aO (Below.refl _ _) ?aS ?aL ?_; (case aP => exact rfl); (case aF => exact (fun _ _ => trivial)); (case aO => exact z4_3); (case aS => exact (keep_size (w := w) (g := g) (row := none) z4_0)); (case aL => have := LMc49.out; omega); intro v165 w50 ho hb hg hat; rw [← Ny164.out] at ho; have n0_ := Aside0.mk (IsS126.grown z4_1 hg (IsS126.own_ne HI0.out HO_4.out (by decide))); have n1_ := Aside0.mk (below_weaken z4_2 HL.out hb); have n2_ := Aside0.mk (KeepBut.trans z4_0 (KeepBut.of_grown hg g) (Kd.R_base2 HO_4.out)); have n3_ := Aside0.mk (ho); clear HI0; clear HB; clear HK; clear HO_4; have HI0 := n0_; have HB := n1_; have HK := n2_; have HO166 := n3_; clear n0_ n1_ n2_ n3_; clear ho hb hg hat))
               go_roundg k5
               case measure => have := HJ2.out; have := HK2.out; have := HK3.out; have := HJ30.out; have := HK5.out; omega
               case rel => exact ⟨(y164), (rd cd40 x100_5), (wrap64 (x100_5 + 1)), z4_6, z4_4, H', ⟨z4_8⟩, ⟨by (with_reducible repeat (first | apply Kd.R_alloc | apply Kd.R_drewN | apply Kd.R_drew)); exact HO166.out⟩, ⟨z4_1⟩, ⟨z4_0⟩, ⟨z4_2⟩⟩
             ·rw [if_neg c41] at H
              have c41b0 : decide (x100_5 < (cd40.length : Int)) = false := decide_eq_false c41
              clear c41
              have H' := Aside0.mk H
              clear H
              go_wp2
              go_roundg k5
              case measure => have := HJ2.out; have := HK2.out; have := HK3.out; have := HJ30.out; have := HK5.out; omega
              case rel => exact ⟨(x4_5), (x6_5), (wrap64 (x7_2 + ji19)), (t146), (t147), z4_4, z4_6, H', ⟨z4_8⟩, ⟨z4_3⟩, ⟨z4_1⟩, ⟨z4_0⟩, ⟨z4_2⟩⟩
     ·rw [if_neg c17] at H
      have c17b0 : decide (x7_2 < (l1.length : Int)) = false := decide_eq_false c17
      clear c17
      simp only [Option.some.injEq, Prod.mk.injEq] at H
      obtain ⟨rfl, rfl, rfl⟩ := H
      go_wp2
      go_ret
      exact ⟨_, by first | rfl | (simp [errW_none, errW_some] <;> rfl) | (simp [*, errW_none, errW_some] <;> rfl), by (with_reducible repeat (first | apply Kd.R_alloc | apply Kd.R_drewN | apply Kd.R_drew)); exact HO_4.out, by repeat (first | (with_reducible first | exact HI0.out | apply IsS126.alloc | apply IsS126.drewN | apply IsS126.drew | apply IsS126.set_1 | apply IsS126.set_2) | exact HI0.out), by repeat (first | (with_reducible first | exact HB.out | apply below_alloc | apply pw_below_drewN | apply below_drew1 | refine below_set ?_ (IsS126.ge HI0.out)) | exact HB.out), by repeat (first | (with_reducible first | exact HK.out | apply KeepBut.set_ | apply keep_drewN | apply keep_drew | apply keep_alloc) | exact HK.out)⟩

end Go.Proofs.Ytchkmmbedgolbaa.PFnTuplesOf

