-- Written by a program of this session (xprint) out of the translation; Lean checks it.
import Derived.Test.YtchkmmbedgolbaaPFnTuplesOfx0
import Derived.Test.YtchkmmbedgolbaaPFnTuplesOfx3
namespace Go.Proofs.Ytchkmmbedgolbaa.PFnTuplesOf
open Go.RowKit Go.Proofs.YtchkmmbedgolbaaW.PrintWords Go.Proofs.YtchkmmbedgolbaaW.PrintLast Go.Proofs.YtchkmmbedgolbaaW.PrintMore
attribute [local go_sem] max2_int min2_int max_two min_two max_three min_three max_four min_four   -- for this text's walks alone
set_option linter.unusedVariables false
set_option linter.unusedSimpArgs false
theorem z6_10 {p : Prop} (h : p := by have := HK1.out; have := HJ3.out; first | omega | exact Nat.le_refl _) : p := h
theorem z6_9 {p : Prop} (h : p := by have := HK1.out; have := HJ3.out; have := HK3.out; first | omega | exact Nat.le_refl _) : p := h
theorem z6_8 {p : Prop} (h : p := by first | (rw [add_block]; exact hf1 _ rfl (by omega)) | exact hf1 _ rfl (by omega) | exact hf1 ad182 rfl (by omega)) : p := h
theorem z6_7 {p : Prop} (h : p := by first | (rw [add_block]; exact hf1 _ rfl (by omega)) | exact hf1 _ rfl (by omega) | exact hf1 ad177 rfl (by omega)) : p := h
theorem z6_6 {p : Prop} (h : p := by have := HK1.out; have := HJ3.out; have := HJ17.out; have := HK4.out; first | omega | exact Nat.le_refl _) : p := h
theorem z6_5 {p : Prop} (h : p := by first | rfl | (simp; done) | (simp [*]; done)) : p := h
theorem z6_4 {p : Prop} (h : p := by first | (with_reducible assumption) | assumption) : p := h
theorem z6_3 {p : Prop} (h : p := by (with_reducible repeat (first | apply Kd.R_alloc | apply Kd.R_drewN | apply Kd.R_drew)); exact HO_4.out) : p := h
theorem z6_2 {p : Prop} (h : p := by repeat (first | (with_reducible first | exact HB.out | apply below_alloc | apply pw_below_drewN | apply below_drew1 | refine below_set ?_ (IsS126.ge HI0.out)) | exact HB.out)) : p := h
theorem z6_1 {p : Prop} (h : p := by repeat (first | (with_reducible first | exact HI0.out | apply IsS126.alloc | apply IsS126.drewN | apply IsS126.drew | apply IsS126.set_1 | apply IsS126.set_2) | exact HI0.out)) : p := h
theorem z6_0 {p : Prop} (h : p := by repeat (first | (with_reducible first | exact HK.out | apply KeepBut.set_ | apply keep_drewN | apply keep_drew | apply keep_alloc) | exact HK.out)) : p := h

mutual
def wPD.l0 : Nat → List Int → List Int → Int → List Int → Int → Bool → Option (List Int × Int × Bool)
 | 0, _, _, _, _, _, _ => none
 | k + 1, x1, x4, x5, x1000, x1001, x1002 => if x5 < (x1.length : Int) then (if 0 ≤ x5 then (if (rd x1 x5) = 0 then ((wWy.f x1000 x1001 x1002 4).bind fun bt170 => (wPD.j1 k x1 x4 x5 1 (decide (bt170.1 > 0)) x1000 bt170.2.1 bt170.2.2)) else (wPD.j1 k x1 x4 x5 1 false x1000 x1001 x1002)) else (none)) else (some (x4, x1001, x1002))
def wPD.j1 : Nat → List Int → List Int → Int → Int → Bool → List Int → Int → Bool → Option (List Int × Int × Bool)
 | 0, _, _, _, _, _, _, _, _ => none
 | k + 1, x1, x4, x5, x6, x57, x1000, x1001, x1002 => if x57 = true then (wPD.l1 k x1 x4 x5 x6 x1000 x1001 x1002) else (if 0 ≤ x5 then (if x5 < (x1.length : Int) then (if (rd x1 x5) ≥ (-128) then (if (rd x1 x5) < 128 then ((wWy.f x1000 x1001 x1002 4).bind fun bt179 => (wPD.j4 k x1 x4 x5 x6 (decide (bt179.1 > 0)) x1000 bt179.2.1 bt179.2.2)) else (wPD.j4 k x1 x4 x5 x6 false x1000 x1001 x1002)) else (wPD.j4 k x1 x4 x5 x6 false x1000 x1001 x1002)) else (none)) else (none))
def wPD.l1 : Nat → List Int → List Int → Int → Int → List Int → Int → Bool → Option (List Int × Int × Bool)
 | 0, _, _, _, _, _, _, _ => none
 | k + 1, x1, x4, x5, x6, x1000, x1001, x1002 => if (wrap64 (x5 + x6)) < (x1.length : Int) then (if 0 ≤ (wrap64 (x5 + x6)) then (if (rd x1 (wrap64 (x5 + x6))) = 0 then (wPD.j3 k x1 x4 x5 x6 (decide (x6 < 64)) x1000 x1001 x1002) else (wPD.j3 k x1 x4 x5 x6 false x1000 x1001 x1002)) else (none)) else (wPD.j3 k x1 x4 x5 x6 false x1000 x1001 x1002)
def wPD.j3 : Nat → List Int → List Int → Int → Int → Bool → List Int → Int → Bool → Option (List Int × Int × Bool)
 | 0, _, _, _, _, _, _, _, _ => none
 | k + 1, x1, x4, x5, x6, x86, x1000, x1001, x1002 => if x86 = true then (wPD.l1 k x1 x4 x5 (wrap64 (x6 + 1)) x1000 x1001 x1002) else (if x4.length < 140737488355328 then (wPD.l0 k x1 (x4 ++ [Go.bits .or .u8 ((wrap64 (x6 - 1)) % 256) 128]) (wrap64 (x5 + x6)) x1000 x1001 x1002) else (none))
def wPD.j4 : Nat → List Int → List Int → Int → Int → Bool → List Int → Int → Bool → Option (List Int × Int × Bool)
 | 0, _, _, _, _, _, _, _, _ => none
 | k + 1, x1, x4, x5, x6, x96, x1000, x1001, x1002 => if x96 = true then (wPD.l2 k x1 x4 x5 x6 x1000 x1001 x1002) else (wPD.l4 k x1 x4 x5 x6 x1000 x1001 x1002)
def wPD.l2 : Nat → List Int → List Int → Int → Int → List Int → Int → Bool → Option (List Int × Int × Bool)
 | 0, _, _, _, _, _, _, _ => none
 | k + 1, x1, x4, x5, x6, x1000, x1001, x1002 => if (wrap64 (x5 + x6)) < (x1.length : Int) then (if 0 ≤ (wrap64 (x5 + x6)) then (if (rd x1 (wrap64 (x5 + x6))) ≥ (-128) then (if (rd x1 (wrap64 (x5 + x6))) < 128 then ((wWy.f x1000 x1001 x1002 9).bind fun bt184 => (wPD.j6 k x1 x4 x5 x6 (decide (x6 < (wrap64 (1 + bt184.1)))) x1000 bt184.2.1 bt184.2.2)) else (wPD.j6 k x1 x4 x5 x6 false x1000 x1001 x1002)) else (wPD.j6 k x1 x4 x5 x6 false x1000 x1001 x1002)) else (none)) else (wPD.j6 k x1 x4 x5 x6 false x1000 x1001 x1002)
def wPD.j6 : Nat → List Int → List Int → Int → Int → Bool → List Int → Int → Bool → Option (List Int × Int × Bool)
 | 0, _, _, _, _, _, _, _, _ => none
 | k + 1, x1, x4, x5, x6, x144, x1000, x1001, x1002 => if x144 = true then (wPD.l2 k x1 x4 x5 (wrap64 (x6 + 1)) x1000 x1001 x1002) else (if x4.length < 140737488355328 then (if 0 ≤ x5 then (if x5 ≤ (wrap64 (x5 + x6)) then (if (wrap64 (x5 + x6)) ≤ (x1.length : Int) then (wPD.l3 k x1 (x4 ++ [(wrap64 (x6 - 1)) % 256]) x5 x6 ((x1.take ((wrap64 (x5 + x6)) : Int).toNat).drop (x5 : Int).toNat) (((x1.take ((wrap64 (x5 + x6)) : Int).toNat).drop (x5 : Int).toNat).length : Int) 0 x1000 x1001 x1002) else (none)) else (none)) else (none)) else (none))
def wPD.l3 : Nat → List Int → List Int → Int → Int → List Int → Int → Int → List Int → Int → Bool → Option (List Int × Int × Bool)
 | 0, _, _, _, _, _, _, _, _, _, _ => none
 | k + 1, x1, x4, x5, x6, x158, x159, x160, x1000, x1001, x1002 => if x160 < x159 then (if 0 ≤ x160 then (if x160 < (x158.length : Int) then (if x4.length < 140737488355328 then (wPD.l3 k x1 (x4 ++ [(rd x158 x160) % 256]) x5 x6 x158 x159 (wrap64 (x160 + 1)) x1000 x1001 x1002) else (none)) else (none)) else (none)) else (wPD.l0 k x1 x4 (wrap64 (x5 + x6)) x1000 x1001 x1002)
def wPD.l4 : Nat → List Int → List Int → Int → Int → List Int → Int → Bool → Option (List Int × Int × Bool)
 | 0, _, _, _, _, _, _, _ => none
 | k + 1, x1, x4, x5, x6, x1000, x1001, x1002 => if (wrap64 (x5 + x6)) < (x1.length : Int) then ((wWy.f x1000 x1001 x1002 5).bind fun bt195 => (wPD.j9 k x1 x4 x5 x6 (decide (x6 < (wrap64 (1 + bt195.1)))) x1000 bt195.2.1 bt195.2.2)) else (wPD.j9 k x1 x4 x5 x6 false x1000 x1001 x1002)
def wPD.j9 : Nat → List Int → List Int → Int → Int → Bool → List Int → Int → Bool → Option (List Int × Int × Bool)
 | 0, _, _, _, _, _, _, _, _ => none
 | k + 1, x1, x4, x5, x6, x27, x1000, x1001, x1002 => if x27 = true then (wPD.l4 k x1 x4 x5 (wrap64 (x6 + 1)) x1000 x1001 x1002) else (if x4.length < 140737488355328 then (if 0 ≤ x5 then (if x5 ≤ (wrap64 (x5 + x6)) then (if (wrap64 (x5 + x6)) ≤ (x1.length : Int) then (wPD.l5 k x1 (x4 ++ [Go.bits .or .u8 ((wrap64 (x6 - 1)) % 256) 64]) x5 x6 ((x1.take ((wrap64 (x5 + x6)) : Int).toNat).drop (x5 : Int).toNat) (((x1.take ((wrap64 (x5 + x6)) : Int).toNat).drop (x5 : Int).toNat).length : Int) 0 x1000 x1001 x1002) else (none)) else (none)) else (none)) else (none))
def wPD.l5 : Nat → List Int → List Int → Int → Int → List Int → Int → Int → List Int → Int → Bool → Option (List Int × Int × Bool)
 | 0, _, _, _, _, _, _, _, _, _, _ => none
 | k + 1, x1, x4, x5, x6, x42, x43, x44, x1000, x1001, x1002 => if x44 < x43 then (if 0 ≤ x44 then (if x44 < (x42.length : Int) then ((some (([((rd x42 x44) / 256) % 256, (rd x42 x44) % 256] : List Int) : List Int)).bind fun y203 => (if x4.length + y203.length < 140737488355328 then (wPD.l5 k x1 (x4 ++ y203) x5 x6 x42 x43 (wrap64 (x44 + 1)) x1000 x1001 x1002) else (none))) else (none)) else (none)) else (wPD.l0 k x1 x4 (wrap64 (x5 + x6)) x1000 x1001 x1002)
end
def wPD.f (k : Nat) (s0_0 : List Int) (s0_1 : Int) (s0_2 : Bool) (l1 : List Int) : Option (List Int × Int × Bool) := wPD.l0 k l1 ([] : List Int) 0 s0_0 s0_1 s0_2
theorem wPD.mono_l : ∀ k, (∀ y0 y1 y2 y3 y4 y5, LeO (wPD.l0 k y0 y1 y2 y3 y4 y5) (wPD.l0 (k + 1) y0 y1 y2 y3 y4 y5)) ∧ (∀ y0 y1 y2 y3 y4 y5 y6 y7, LeO (wPD.j1 k y0 y1 y2 y3 y4 y5 y6 y7) (wPD.j1 (k + 1) y0 y1 y2 y3 y4 y5 y6 y7)) ∧ (∀ y0 y1 y2 y3 y4 y5 y6, LeO (wPD.l1 k y0 y1 y2 y3 y4 y5 y6) (wPD.l1 (k + 1) y0 y1 y2 y3 y4 y5 y6)) ∧ (∀ y0 y1 y2 y3 y4 y5 y6 y7, LeO (wPD.j3 k y0 y1 y2 y3 y4 y5 y6 y7) (wPD.j3 (k + 1) y0 y1 y2 y3 y4 y5 y6 y7)) ∧ (∀ y0 y1 y2 y3 y4 y5 y6 y7, LeO (wPD.j4 k y0 y1 y2 y3 y4 y5 y6 y7) (wPD.j4 (k + 1) y0 y1 y2 y3 y4 y5 y6 y7)) ∧ (∀ y0 y1 y2 y3 y4 y5 y6, LeO (wPD.l2 k y0 y1 y2 y3 y4 y5 y6) (wPD.l2 (k + 1) y0 y1 y2 y3 y4 y5 y6)) ∧ (∀ y0 y1 y2 y3 y4 y5 y6 y7, LeO (wPD.j6 k y0 y1 y2 y3 y4 y5 y6 y7) (wPD.j6 (k + 1) y0 y1 y2 y3 y4 y5 y6 y7)) ∧ (∀ y0 y1 y2 y3 y4 y5 y6 y7 y8 y9, LeO (wPD.l3 k y0 y1 y2 y3 y4 y5 y6 y7 y8 y9) (wPD.l3 (k + 1) y0 y1 y2 y3 y4 y5 y6 y7 y8 y9)) ∧ (∀ y0 y1 y2 y3 y4 y5 y6, LeO (wPD.l4 k y0 y1 y2 y3 y4 y5 y6) (wPD.l4 (k + 1) y0 y1 y2 y3 y4 y5 y6)) ∧ (∀ y0 y1 y2 y3 y4 y5 y6 y7, LeO (wPD.j9 k y0 y1 y2 y3 y4 y5 y6 y7) (wPD.j9 (k + 1) y0 y1 y2 y3 y4 y5 y6 y7)) ∧ (∀ y0 y1 y2 y3 y4 y5 y6 y7 y8 y9, LeO (wPD.l5 k y0 y1 y2 y3 y4 y5 y6 y7 y8 y9) (wPD.l5 (k + 1) y0 y1 y2 y3 y4 y5 y6 y7 y8 y9))
 | 0 => ⟨fun _ _ _ _ _ _ r h => by simp [wPD.l0] at h, fun _ _ _ _ _ _ _ _ r h => by simp [wPD.j1] at h, fun _ _ _ _ _ _ _ r h => by simp [wPD.l1] at h, fun _ _ _ _ _ _ _ _ r h => by simp [wPD.j3] at h, fun _ _ _ _ _ _ _ _ r h => by simp [wPD.j4] at h, fun _ _ _ _ _ _ _ r h => by simp [wPD.l2] at h, fun _ _ _ _ _ _ _ _ r h => by simp [wPD.j6] at h, fun _ _ _ _ _ _ _ _ _ _ r h => by simp [wPD.l3] at h, fun _ _ _ _ _ _ _ r h => by simp [wPD.l4] at h, fun _ _ _ _ _ _ _ _ r h => by simp [wPD.j9] at h, fun _ _ _ _ _ _ _ _ _ _ r h => by simp [wPD.l5] at h⟩
 | k + 1 => by
  obtain ⟨ih0, ih1, ih2, ih3, ih4, ih5, ih6, ih7, ih8, ih9, ih10⟩ := wPD.mono_l k
  refine ⟨?_, ?_, ?_, ?_, ?_, ?_, ?_, ?_, ?_, ?_, ?_⟩
  all_goals intros
  all_goals first | unfold wPD.l0 | unfold wPD.j1 | unfold wPD.l1 | unfold wPD.j3 | unfold wPD.j4 | unfold wPD.l2 | unfold wPD.j6 | unfold wPD.l3 | unfold wPD.l4 | unfold wPD.j9 | unfold wPD.l5
  all_goals repeat' first
  | (with_reducible exact ih0 _ _ _ _ _ _)
  | (with_reducible exact ih1 _ _ _ _ _ _ _ _)
  | (with_reducible exact ih2 _ _ _ _ _ _ _)
  | (with_reducible exact ih3 _ _ _ _ _ _ _ _)
  | (with_reducible exact ih4 _ _ _ _ _ _ _ _)
  | (with_reducible exact ih5 _ _ _ _ _ _ _)
  | (with_reducible exact ih6 _ _ _ _ _ _ _ _)
  | (with_reducible exact ih7 _ _ _ _ _ _ _ _ _ _)
  | (with_reducible exact ih8 _ _ _ _ _ _ _)
  | (with_reducible exact ih9 _ _ _ _ _ _ _ _)
  | (with_reducible exact ih10 _ _ _ _ _ _ _ _ _ _)
  | (with_reducible exact LeO.refl _)
  | (with_reducible exact LeO.none _)
  | (with_reducible refine LeO.ite ?_ ?_)
  | (with_reducible refine LeO.bind ?_ (fun _ => ?_))
theorem wPD.mono : ∀ a0 a1 a2 a3 k, LeO (wPD.f k a0 a1 a2 a3) (wPD.f (k + 1) a0 a1 a2 a3) := by
 intro a0 a1 a2 a3 k
 obtain ⟨ih0, ih1, ih2, ih3, ih4, ih5, ih6, ih7, ih8, ih9, ih10⟩ := wPD.mono_l k
 unfold wPD.f
 repeat' first
   | (with_reducible exact ih0 _ _ _ _ _ _)
   | (with_reducible exact ih1 _ _ _ _ _ _ _ _)
   | (with_reducible exact ih2 _ _ _ _ _ _ _)
   | (with_reducible exact ih3 _ _ _ _ _ _ _ _)
   | (with_reducible exact ih4 _ _ _ _ _ _ _ _)
   | (with_reducible exact ih5 _ _ _ _ _ _ _)
   | (with_reducible exact ih6 _ _ _ _ _ _ _ _)
   | (with_reducible exact ih7 _ _ _ _ _ _ _ _ _ _)
   | (with_reducible exact ih8 _ _ _ _ _ _ _)
   | (with_reducible exact ih9 _ _ _ _ _ _ _ _)
   | (with_reducible exact ih10 _ _ _ _ _ _ _ _ _ _)
   | (with_reducible exact LeO.refl _)
   | (with_reducible exact LeO.none _)
   | (with_reducible refine LeO.ite ?_ ?_)
   | (with_reducible refine LeO.bind ?_ (fun _ => ?_))
set_option maxHeartbeats 8000000 in
set_option maxRecDepth 100000 in
theorem wPD.calls (k : Nat) (g : Nat) (s0_0 : List Int) (s0_1 : Int) (s0_2 : Bool) (A1 : Option Addr) (c1 : Nat) (l1 : List Int) (r1 : List Int) (r2 : Int) (r3 : Bool) (w0 w : World) (hI : IsS126 w0 w g s0_0 s0_1 s0_2) (hB : Below w0.heap.size w0 w) (hr1 : Kd.C (Kd.int .i64) w A1 l1.length l1) (hc1 : l1.length ≤ c1) (hf1 : ∀ ad, A1 = some ad → 0 < l1.length → ad.block ≠ g) (h : wPD.f k s0_0 s0_1 s0_2 l1 = some (r1, r2, r3)) :
  Calls Try.prog 47 #[.pointer (some ⟨g, 0, none⟩), .slice A1 l1.length c1] w fun e w' => ∃ v0_ : Value, e = .returned (v0_) ∧ Kd.R (Kd.int .u8) 5 w' w.heap.size (fun _ => True) v0_ r1 ∧ IsS126 w0 w' g s0_0 r2 r3 ∧ Below w0.heap.size w0 w' ∧ KeepBut w w' g none := by
 have HR1 := Aside0.mk hr1
 have HC1 := Aside0.mk hc1
 clear hr1 hc1
 have HI0 := Aside0.mk hI
 have HK := Aside0.mk (KeepBut.refl w g none)
 have HL := Aside0.mk hB.size
 clear hI
 have HW0 := Aside0.mk hB.size
 have HB := Aside0.mk hB
 clear hB
 have H : (wPD.l0 k l1 ([] : List Int) 0 s0_0 s0_1 s0_2) = some (r1, r2, r3) := h
 clear h
 have H' := Aside0.mk H
 clear H
 go_enter Try.func47, Try.ntmps47
 go_wp2
 go_loopg [4, 5] k (fun kq v4 v5 w' => ∃ (x4_1 : List Int) (x5_1 : Int) (x1001_1 : Int) (x1002_1 : Bool), v5 = .int .i64 x5_1 ∧ Aside0 (wPD.l0 kq l1 x4_1 x5_1 s0_0 x1001_1 x1002_1 = some (r1, r2, r3)) ∧ Aside0 (kq ≤ k) ∧ Aside0 (Kd.R (Kd.int .u8) 5 w' w.heap.size (fun _ => True) v4 x4_1) ∧ Aside0 (IsS126 w0 w' g s0_0 x1001_1 x1002_1) ∧ Aside0 (KeepBut w w' g none) ∧ Aside0 (Below w0.heap.size w0 w'))
 case atStart => exact ⟨(([] : List Int)), (0), (s0_1), (s0_2), z6_5, H', ⟨Nat.le_refl _⟩, ⟨by first | exact Kd.R_nil _ _ _ _ _ | exact Kd.N_nil _ _ _ _ _ | exact Kd.V_nil _ _ _ _ _ | exact Kd.Q_nil _ _ _ _ _ | exact Kd.S_nil _ _ _ _ _⟩, ⟨z6_1⟩, ⟨z6_0⟩, ⟨z6_2⟩⟩
 case round =>
  clear H'
  obtain ⟨x4_1, x5_1, x1001_1, x1002_1, rfl, HA, HK1, HO_4, HI0, HK, HB⟩ := hrel
  cases gk with
  | zero => exact absurd HA.out (by simp [wPD.l0])
  | succ k1 =>
   have H := HA.out
   clear HA
   simp only [wPD.l0] at H
   by_cases c3 : x5_1 < (l1.length : Int)
   ·rw [if_pos c3] at H
    have c3b0 : decide (x5_1 < (l1.length : Int)) = true := decide_eq_true c3
    clear c3
    have HC4 := Aside0.mk H
    clear H
    go_upto_region 12 with (fail)
    go_cut [57] (fun v57 wc => ∃ (kq : Nat) (x57_3 : Bool) (x1001_3 : Int) (x1002_3 : Bool), v57 = .bool x57_3 ∧ Aside0 (wPD.j1 kq l1 x4_1 x5_1 1 x57_3 s0_0 x1001_3 x1002_3 = some (r1, r2, r3)) ∧ Aside0 (kq ≤ k1) ∧ Aside0 (Kd.R (Kd.int .u8) 5 wc w.heap.size (fun _ => True) u4 x4_1) ∧ Aside0 (IsS126 w0 wc g s0_0 x1001_3 x1002_3) ∧ Aside0 (KeepBut w wc g none) ∧ Aside0 (Below w0.heap.size w0 wc))
    case first =>
     have H := HC4.out
     clear HC4
     by_cases c5 : 0 ≤ x5_1
     rotate_left
     ·rw [if_neg c5] at H
      exact absurd H (by simp)
     rw [if_pos c5] at H
     have c5b0 : decide (0 ≤ x5_1) = true := decide_eq_true c5
     clear c5
     (first | rw [c5b0] | (simp only [i64_w, i32_w]; rw [c5b0]) | skip)
     by_cases c6 : (rd l1 x5_1) = 0
     ·rw [if_pos c6] at H
      have c6b0 : ((rd l1 x5_1) == 0) = true := beq_iff_eq.mpr c6
      have c6b1 : ((rd l1 x5_1) != 0) = false := bne_eq_false_iff_eq.mpr c6
      clear c6
      replace H := Option.bind_eq_some_iff.mp H
      obtain ⟨⟨t170, t171, t172⟩, A70, H⟩ := H
      replace H : (wPD.j1 k1 l1 x4_1 x5_1 1 (decide (t170 > 0)) s0_0 t171 t172) = some (r1, r2, r3) := H
      have A7 := Aside0.mk A70
      clear A70
      have H' := Aside0.mk H
      clear H
      have p169 : 0 ≤ (x5_1 : Int) := of_decide_eq_true z6_4
      have q169 : x5_1 < (l1.length : Int) := of_decide_eq_true z6_4
      obtain ⟨ad169, e169, hx169_0⟩ := Kd.at_int HR1.out x5_1 p169 q169
      cases e169
      replace hx169_0 := keep_cell HK.out hx169_0 (by first | (rw [add_block]; exact hf1 _ rfl (by omega)) | exact hf1 _ rfl (by omega) | exact hf1 ad169 rfl (by omega))
      replace p169 := eq_true p169
      replace q169 := eq_true q169
      go_wp2_with (first | (go_at_call 41; (with_reducible refine (wWy.calls g s0_0 x1001_1 x1002_1 4 t170 t171 t172 w0 _ ?side1 ?side2 A7.out).mono ?_); (case side1 => repeat (first | (with_reducible first | exact HI0.out | apply IsS126.alloc | apply IsS126.drewN | apply IsS126.drew | apply IsS126.set_1 | apply IsS126.set_2) | exact HI0.out)); (case side2 => repeat (first | (with_reducible first | exact HB.out | apply below_alloc | apply pw_below_drewN | apply below_drew1 | refine below_set ?_ (IsS126.ge HI0.out)) | exact HB.out)); rintro e w8 ⟨rfl, hi, hb, hk⟩; have n0_ := Aside0.mk (Kd.R_mono (Kd.R_keep (IsS126.apart (show IsS126 w0 _ g s0_0 x1001_1 x1002_1 from by repeat (first | (with_reducible first | exact HI0.out | apply IsS126.alloc | apply IsS126.drewN | apply IsS126.drew | apply IsS126.set_1 | apply IsS126.set_2) | exact HI0.out)) z6_3 (by decide)) hk (fun _ h => h.2)) (fun _ h => h.1)); have n1_ := Aside0.mk (KeepBut.trans z6_0 hk (.inl rfl)); have n2_ := Aside0.mk (hb); have n3_ := Aside0.mk (hi); clear HO_4; clear HK; clear HB; clear HI0; have HO_4 := n0_; have HK := n1_; have HB := n2_; have HI0 := n3_; clear n0_ n1_ n2_ n3_ hb hk; (clear hi)))
      go_meet
      case rel => exact ⟨_, (decide (t170 > 0)), (t171), (t172), z6_5, H', ⟨by have := HK1.out; first | omega | exact Nat.le_refl _⟩, ⟨z6_3⟩, ⟨z6_1⟩, ⟨z6_0⟩, ⟨z6_2⟩⟩
     ·rw [if_neg c6] at H
      have c6b0 : ((rd l1 x5_1) == 0) = false := beq_eq_false_iff_ne.mpr c6
      have c6b1 : ((rd l1 x5_1) != 0) = true := bne_iff_ne.mpr c6
      have H' := Aside0.mk H
      clear H
      have p169 : 0 ≤ (x5_1 : Int) := of_decide_eq_true z6_4
      have q169 : x5_1 < (l1.length : Int) := of_decide_eq_true z6_4
      obtain ⟨ad169, e169, hx169_0⟩ := Kd.at_int HR1.out x5_1 p169 q169
      cases e169
      replace hx169_0 := keep_cell HK.out hx169_0 (by first | (rw [add_block]; exact hf1 _ rfl (by omega)) | exact hf1 _ rfl (by omega) | exact hf1 ad169 rfl (by omega))
      replace p169 := eq_true p169
      replace q169 := eq_true q169
      go_wp2
      go_meet
      case rel => exact ⟨_, (false), (x1001_1), (x1002_1), z6_5, H', ⟨by have := HK1.out; first | omega | exact Nat.le_refl _⟩, ⟨z6_3⟩, ⟨z6_1⟩, ⟨z6_0⟩, ⟨z6_2⟩⟩
    case rest =>
     clear HC4
     clear c3b0
     obtain ⟨kq, x57_3, x1001_3, x1002_3, rfl, HA, HJ3, HO_4, HI0, HK, HB⟩ := hcut
     cases kq with
     | zero => exact absurd HA.out (by simp [wPD.j1])
     | succ kj3 =>
      have H := HA.out
      clear HA
      simp only [wPD.j1] at H
      by_cases c9 : x57_3 = true
      ·subst c9
       have H1 : (wPD.l1 kj3 l1 x4_1 x5_1 1 s0_0 x1001_3 x1002_3) = some (r1, r2, r3) := by rw [if_pos rfl] at H; exact H
       clear H
       have H := H1
       clear H1
       have H' := Aside0.mk H
       clear H
       go_wp2
       go_loopg [6] kj3 (fun kq v6 w' => ∃ (x6_3 : Int), v6 = .int .i64 x6_3 ∧ Aside0 (wPD.l1 kq l1 x4_1 x5_1 x6_3 s0_0 x1001_3 x1002_3 = some (r1, r2, r3)) ∧ Aside0 (kq ≤ kj3) ∧ Aside0 (Kd.R (Kd.int .u8) 5 w' w.heap.size (fun _ => True) u4 x4_1) ∧ Aside0 (IsS126 w0 w' g s0_0 x1001_3 x1002_3) ∧ Aside0 (KeepBut w w' g none) ∧ Aside0 (Below w0.heap.size w0 w'))
       case atStart => exact ⟨(1), z6_5, H', ⟨Nat.le_refl _⟩, ⟨z6_3⟩, ⟨z6_1⟩, ⟨z6_0⟩, ⟨z6_2⟩⟩
       case round =>
        clear H'
        obtain ⟨x6_3, rfl, HA, HK3, HO_4, HI0, HK, HB⟩ := hrel
        cases gk with
        | zero => exact absurd HA.out (by simp [wPD.l1])
        | succ k3 =>
         have H := HA.out
         clear HA
         simp only [wPD.l1] at H
         have HC10 := Aside0.mk H
         clear H
         go_upto_region 13 with (fail)
         go_cut [86] (fun v86 wc => ∃ (kq : Nat) (x86_9 : Bool), v86 = .bool x86_9 ∧ Aside0 (wPD.j3 kq l1 x4_1 x5_1 x6_3 x86_9 s0_0 x1001_3 x1002_3 = some (r1, r2, r3)) ∧ Aside0 (kq ≤ k3) ∧ Aside0 (Kd.R (Kd.int .u8) 5 wc w.heap.size (fun _ => True) u4 x4_1) ∧ Aside0 (IsS126 w0 wc g s0_0 x1001_3 x1002_3) ∧ Aside0 (KeepBut w wc g none) ∧ Aside0 (Below w0.heap.size w0 wc))
         case first =>
          have H := HC10.out
          clear HC10
          by_cases c11 : (wrap64 (x5_1 + x6_3)) < (l1.length : Int)
          ·rw [if_pos c11] at H
           have c11b0 : decide ((wrap64 (x5_1 + x6_3)) < (l1.length : Int)) = true := decide_eq_true c11
           clear c11
           (first | rw [c11b0] | (simp only [i64_w, i32_w]; rw [c11b0]) | skip)
           obtain ⟨ji12, hji12⟩ : ∃ j_ : Int, (wrap64 (x5_1 + x6_3)) = j_ := ⟨_, rfl⟩
           replace H : (if 0 ≤ (ji12) then (if (rd l1 (ji12)) = 0 then (wPD.j3 k3 l1 x4_1 x5_1 x6_3 (decide (x6_3 < 64)) s0_0 x1001_3 x1002_3) else (wPD.j3 k3 l1 x4_1 x5_1 x6_3 false s0_0 x1001_3 x1002_3)) else (none)) = some (r1, r2, r3) := by first | (rw [hji12] at H; exact H) | (simp only [hji12] at H ⊢; exact H)
           (try rw [hji12] at c11b0)
           have hji12w : (IntKind.i64.wrap (x5_1 + x6_3)) = ji12 := (i64_w _).trans hji12
           by_cases c13 : 0 ≤ (ji12)
           rotate_left
           ·rw [if_neg c13] at H
            exact absurd H (by simp)
           rw [if_pos c13] at H
           have c13b0 : decide (0 ≤ (ji12)) = true := decide_eq_true c13
           clear c13
           by_cases c14 : (rd l1 (ji12)) = 0
           ·rw [if_pos c14] at H
            have c14b0 : ((rd l1 (ji12)) == 0) = true := beq_iff_eq.mpr c14
            have c14b1 : ((rd l1 (ji12)) != 0) = false := bne_eq_false_iff_eq.mpr c14
            clear c14
            have H' := Aside0.mk H
            clear H
            have p173 : 0 ≤ ((ji12) : Int) := of_decide_eq_true z6_4
            have q173 : (ji12) < (l1.length : Int) := of_decide_eq_true z6_4
            obtain ⟨ad173, e173, hx173_0⟩ := Kd.at_int HR1.out (ji12) p173 q173
            cases e173
            replace hx173_0 := keep_cell HK.out hx173_0 (by first | (rw [add_block]; exact hf1 _ rfl (by omega)) | exact hf1 _ rfl (by omega) | exact hf1 ad173 rfl (by omega))
            replace p173 := eq_true p173
            replace q173 := eq_true q173
            go_wp2
            go_meet
            case rel => exact ⟨_, (decide (x6_3 < 64)), z6_5, H', ⟨z6_9⟩, ⟨z6_3⟩, ⟨z6_1⟩, ⟨z6_0⟩, ⟨z6_2⟩⟩
           ·rw [if_neg c14] at H
            have c14b0 : ((rd l1 (ji12)) == 0) = false := beq_eq_false_iff_ne.mpr c14
            have c14b1 : ((rd l1 (ji12)) != 0) = true := bne_iff_ne.mpr c14
            have H' := Aside0.mk H
            clear H
            have p173 : 0 ≤ ((ji12) : Int) := of_decide_eq_true z6_4
            have q173 : (ji12) < (l1.length : Int) := of_decide_eq_true z6_4
            obtain ⟨ad173, e173, hx173_0⟩ := Kd.at_int HR1.out (ji12) p173 q173
            cases e173
            replace hx173_0 := keep_cell HK.out hx173_0 (by first | (rw [add_block]; exact hf1 _ rfl (by omega)) | exact hf1 _ rfl (by omega) | exact hf1 ad173 rfl (by omega))
            replace p173 := eq_true p173
            replace q173 := eq_true q173
            go_wp2
            go_meet
            case rel => exact ⟨_, (false), z6_5, H', ⟨z6_9⟩, ⟨z6_3⟩, ⟨z6_1⟩, ⟨z6_0⟩, ⟨z6_2⟩⟩
          ·rw [if_neg c11] at H
           have c11b0 : decide ((wrap64 (x5_1 + x6_3)) < (l1.length : Int)) = false := decide_eq_false c11
           clear c11
           (first | rw [c11b0] | (simp only [i64_w, i32_w]; rw [c11b0]) | skip)
           have H' := Aside0.mk H
           clear H
           go_wp2
           go_meet
           case rel => exact ⟨_, (false), z6_5, H', ⟨z6_9⟩, ⟨z6_3⟩, ⟨z6_1⟩, ⟨z6_0⟩, ⟨z6_2⟩⟩
         case rest =>
          clear HC10
          obtain ⟨kq, x86_9, rfl, HA, HJ9, HO_4, HI0, HK, HB⟩ := hcut
          cases kq with
          | zero => exact absurd HA.out (by simp [wPD.j3])
          | succ kj9 =>
           have H := HA.out
           clear HA
           simp only [wPD.j3] at H
           by_cases c15 : x86_9 = true
           ·subst c15
            have H1 : (wPD.l1 kj9 l1 x4_1 x5_1 (wrap64 (x6_3 + 1)) s0_0 x1001_3 x1002_3) = some (r1, r2, r3) := by rw [if_pos rfl] at H; exact H
            clear H
            have H := H1
            clear H1
            have H' := Aside0.mk H
            clear H
            go_wp2
            go_roundg kj9
            case measure => have := HK1.out; have := HJ3.out; have := HK3.out; have := HJ9.out; omega
            case rel => exact ⟨(wrap64 (x6_3 + 1)), z6_5, H', ⟨by have := HK1.out; have := HJ3.out; have := HK3.out; have := HJ9.out; omega⟩, ⟨z6_3⟩, ⟨z6_1⟩, ⟨z6_0⟩, ⟨z6_2⟩⟩
           ·replace c15 := Bool.eq_false_iff.mpr c15
            subst c15
            have H1 : (if x4_1.length < 140737488355328 then (wPD.l0 kj9 l1 (x4_1 ++ [Go.bits .or .u8 ((wrap64 (x6_3 - 1)) % 256) 128]) (wrap64 (x5_1 + x6_3)) s0_0 x1001_3 x1002_3) else (none)) = some (r1, r2, r3) := by rw [if_neg (show ¬ (false = true) by decide)] at H; exact H
            clear H
            have H := H1
            clear H1
            by_cases c16 : x4_1.length < 140737488355328
            rotate_left
            ·rw [if_neg c16] at H
             exact absurd H (by simp)
            rw [if_pos c16] at H
            have LMc16 := Aside0.mk c16
            clear c16
            obtain ⟨y174, hy174⟩ : ∃ y_ : List Int, y_ = (x4_1 ++ [Go.bits .or .u8 ((wrap64 (x6_3 - 1)) % 256) 128]) := ⟨_, rfl⟩
            replace H : (wPD.l0 kj9 l1 y174 (wrap64 (x5_1 + x6_3)) s0_0 x1001_3 x1002_3) = some (r1, r2, r3) := by first | (rw [hy174]; with_reducible exact H) | (have H2_ := (Option.bind_some _ _).symm.trans H; rw [hy174]; with_reducible exact H2_) | (have H2_ := (Option.bind_some _ _).symm.trans H; with_reducible exact H2_) | with_reducible exact H | (rw [hy174]; exact H) | exact H
            have Ny174 := Aside0.mk hy174
            clear hy174
            have H' := Aside0.mk H
            clear H
            go_wp2_with (first | ((with_reducible refine gate_builtin (b := .append) (xs := #[.tmp 89, .tmp 94]) rfl ?_); at_builtin; refine Kd.R_append (Kd.int .u8) w.heap.size rfl (.tmp 89) (.tmp 94) 22 5 (.int .u8 0) 1 rfl Try.underlying22 info5 rfl (by decide) (by omega) u4 x4_1 (Go.bits .or .u8 ((wrap64 (x6_3 - 1)) % 256) 128) [.int .u8 (Go.bits .or .u8 ((wrap64 (x6_3 - 1)) % 256) 128)] (fun _ => True) (fun _ => False) rfl rfl ?aP (fun _ hk => hk.elim) ?aF ?aO (Below.refl _ _) ?aS ?aL ?_; (case aP => exact rfl); (case aF => exact (fun _ _ => trivial)); (case aO => exact z6_3); (case aS => exact (keep_size (w := w) (g := g) (row := none) z6_0)); (case aL => have := LMc16.out; omega); intro v175 w17 ho hb hg hat; rw [← Ny174.out] at ho; have n0_ := Aside0.mk (IsS126.grown z6_1 hg (IsS126.own_ne HI0.out HO_4.out (by decide))); have n1_ := Aside0.mk (below_weaken z6_2 HL.out hb); have n2_ := Aside0.mk (KeepBut.trans z6_0 (KeepBut.of_grown hg g) (Kd.R_base2 HO_4.out)); have n3_ := Aside0.mk (ho); clear HI0; clear HB; clear HK; clear HO_4; have HI0 := n0_; have HB := n1_; have HK := n2_; have HO176 := n3_; clear n0_ n1_ n2_ n3_; clear ho hb hg hat))
            go_roundg kj9
            case measure => have := HK1.out; have := HJ3.out; have := HK3.out; have := HJ9.out; omega
            case rel => exact ⟨(y174), (wrap64 (x5_1 + x6_3)), (x1001_3), (x1002_3), z6_5, H', ⟨by have := HK1.out; have := HJ3.out; have := HK3.out; have := HJ9.out; omega⟩, ⟨by (with_reducible repeat (first | apply Kd.R_alloc | apply Kd.R_drewN | apply Kd.R_drew)); exact HO176.out⟩, ⟨z6_1⟩, ⟨z6_0⟩, ⟨z6_2⟩⟩
      ·replace c9 := Bool.eq_false_iff.mpr c9
       subst c9
       have H1 : (if 0 ≤ x5_1 then (if x5_1 < (l1.length : Int) then (if (rd l1 x5_1) ≥ (-128) then (if (rd l1 x5_1) < 128 then ((wWy.f s0_0 x1001_3 x1002_3 4).bind fun bt179 => (wPD.j4 kj3 l1 x4_1 x5_1 1 (decide (bt179.1 > 0)) s0_0 bt179.2.1 bt179.2.2)) else (wPD.j4 kj3 l1 x4_1 x5_1 1 false s0_0 x1001_3 x1002_3)) else (wPD.j4 kj3 l1 x4_1 x5_1 1 false s0_0 x1001_3 x1002_3)) else (none)) else (none)) = some (r1, r2, r3) := by rw [if_neg (show ¬ (false = true) by decide)] at H; exact H
       clear H
       have H := H1
       clear H1
       have HC18 := Aside0.mk H
       clear H
       go_upto_region 16 with (fail)
       go_cut [96] (fun v96 wc => ∃ (kq : Nat) (x96_17 : Bool) (x1001_17 : Int) (x1002_17 : Bool), v96 = .bool x96_17 ∧ Aside0 (wPD.j4 kq l1 x4_1 x5_1 1 x96_17 s0_0 x1001_17 x1002_17 = some (r1, r2, r3)) ∧ Aside0 (kq ≤ kj3) ∧ Aside0 (Kd.R (Kd.int .u8) 5 wc w.heap.size (fun _ => True) u4 x4_1) ∧ Aside0 (IsS126 w0 wc g s0_0 x1001_17 x1002_17) ∧ Aside0 (KeepBut w wc g none) ∧ Aside0 (Below w0.heap.size w0 wc))
       case first =>
        have H := HC18.out
        clear HC18
        by_cases c19 : 0 ≤ x5_1
        rotate_left
        ·rw [if_neg c19] at H
         exact absurd H (by simp)
        rw [if_pos c19] at H
        have c19b0 : decide (0 ≤ x5_1) = true := decide_eq_true c19
        clear c19
        (first | rw [c19b0] | (simp only [i64_w, i32_w]; rw [c19b0]) | skip)
        by_cases c20 : x5_1 < (l1.length : Int)
        rotate_left
        ·rw [if_neg c20] at H
         exact absurd H (by simp)
        rw [if_pos c20] at H
        have c20b0 : decide (x5_1 < (l1.length : Int)) = true := decide_eq_true c20
        clear c20
        by_cases c21 : (rd l1 x5_1) ≥ (-128)
        ·rw [if_pos c21] at H
         have c21b0 : decide ((-128) ≤ (rd l1 x5_1)) = true := decide_eq_true c21
         clear c21
         by_cases c22 : (rd l1 x5_1) < 128
         ·rw [if_pos c22] at H
          have c22b0 : decide ((rd l1 x5_1) < 128) = true := decide_eq_true c22
          clear c22
          replace H := Option.bind_eq_some_iff.mp H
          obtain ⟨⟨t179, t180, t181⟩, A230, H⟩ := H
          replace H : (wPD.j4 kj3 l1 x4_1 x5_1 1 (decide (t179 > 0)) s0_0 t180 t181) = some (r1, r2, r3) := H
          have A23 := Aside0.mk A230
          clear A230
          have H' := Aside0.mk H
          clear H
          have p177 : 0 ≤ (x5_1 : Int) := of_decide_eq_true z6_4
          have q177 : x5_1 < (l1.length : Int) := of_decide_eq_true z6_4
          obtain ⟨ad177, e177, hx177_0⟩ := Kd.at_int HR1.out x5_1 p177 q177
          cases e177
          replace hx177_0 := keep_cell HK.out hx177_0 z6_7
          replace p177 := eq_true p177
          replace q177 := eq_true q177
          have p178 : 0 ≤ (x5_1 : Int) := of_decide_eq_true z6_4
          have q178 : x5_1 < (l1.length : Int) := of_decide_eq_true z6_4
          obtain ⟨ad178, e178, hx178_0⟩ := Kd.at_int HR1.out x5_1 p178 q178
          obtain rfl : ad177 = ad178 := (by injection e178)
          replace hx178_0 := keep_cell HK.out hx178_0 z6_7
          replace p178 := eq_true p178
          replace q178 := eq_true q178
          go_wp2_with (first | (go_at_call 41; (with_reducible refine (wWy.calls g s0_0 x1001_3 x1002_3 4 t179 t180 t181 w0 _ ?side1 ?side2 A23.out).mono ?_); (case side1 => repeat (first | (with_reducible first | exact HI0.out | apply IsS126.alloc | apply IsS126.drewN | apply IsS126.drew | apply IsS126.set_1 | apply IsS126.set_2) | exact HI0.out)); (case side2 => repeat (first | (with_reducible first | exact HB.out | apply below_alloc | apply pw_below_drewN | apply below_drew1 | refine below_set ?_ (IsS126.ge HI0.out)) | exact HB.out)); rintro e w24 ⟨rfl, hi, hb, hk⟩; have n0_ := Aside0.mk (Kd.R_mono (Kd.R_keep (IsS126.apart (show IsS126 w0 _ g s0_0 x1001_3 x1002_3 from by repeat (first | (with_reducible first | exact HI0.out | apply IsS126.alloc | apply IsS126.drewN | apply IsS126.drew | apply IsS126.set_1 | apply IsS126.set_2) | exact HI0.out)) z6_3 (by decide)) hk (fun _ h => h.2)) (fun _ h => h.1)); have n1_ := Aside0.mk (KeepBut.trans z6_0 hk (.inl rfl)); have n2_ := Aside0.mk (hb); have n3_ := Aside0.mk (hi); clear HO_4; clear HK; clear HB; clear HI0; have HO_4 := n0_; have HK := n1_; have HB := n2_; have HI0 := n3_; clear n0_ n1_ n2_ n3_ hb hk; (clear hi)))
          go_meet
          case rel => exact ⟨_, (decide (t179 > 0)), (t180), (t181), z6_5, H', ⟨z6_10⟩, ⟨z6_3⟩, ⟨z6_1⟩, ⟨z6_0⟩, ⟨z6_2⟩⟩
         ·rw [if_neg c22] at H
          have c22b0 : decide ((rd l1 x5_1) < 128) = false := decide_eq_false c22
          clear c22
          have H' := Aside0.mk H
          clear H
          have p177 : 0 ≤ (x5_1 : Int) := of_decide_eq_true z6_4
          have q177 : x5_1 < (l1.length : Int) := of_decide_eq_true z6_4
          obtain ⟨ad177, e177, hx177_0⟩ := Kd.at_int HR1.out x5_1 p177 q177
          cases e177
          replace hx177_0 := keep_cell HK.out hx177_0 z6_7
          replace p177 := eq_true p177
          replace q177 := eq_true q177
          have p178 : 0 ≤ (x5_1 : Int) := of_decide_eq_true z6_4
          have q178 : x5_1 < (l1.length : Int) := of_decide_eq_true z6_4
          obtain ⟨ad178, e178, hx178_0⟩ := Kd.at_int HR1.out x5_1 p178 q178
          obtain rfl : ad177 = ad178 := (by injection e178)
          replace hx178_0 := keep_cell HK.out hx178_0 z6_7
          replace p178 := eq_true p178
          replace q178 := eq_true q178
          go_wp2
          go_meet
          case rel => exact ⟨_, (false), (x1001_3), (x1002_3), z6_5, H', ⟨z6_10⟩, ⟨z6_3⟩, ⟨z6_1⟩, ⟨z6_0⟩, ⟨z6_2⟩⟩
        ·rw [if_neg c21] at H
         have c21b0 : decide ((-128) ≤ (rd l1 x5_1)) = false := decide_eq_false c21
         clear c21
         have H' := Aside0.mk H
         clear H
         have p177 : 0 ≤ (x5_1 : Int) := of_decide_eq_true z6_4
         have q177 : x5_1 < (l1.length : Int) := of_decide_eq_true z6_4
         obtain ⟨ad177, e177, hx177_0⟩ := Kd.at_int HR1.out x5_1 p177 q177
         cases e177
         replace hx177_0 := keep_cell HK.out hx177_0 z6_7
         replace p177 := eq_true p177
         replace q177 := eq_true q177
         go_wp2
         go_meet
         case rel => exact ⟨_, (false), (x1001_3), (x1002_3), z6_5, H', ⟨z6_10⟩, ⟨z6_3⟩, ⟨z6_1⟩, ⟨z6_0⟩, ⟨z6_2⟩⟩
       case rest =>
        clear HC18
        obtain ⟨kq, x96_17, x1001_17, x1002_17, rfl, HA, HJ17, HO_4, HI0, HK, HB⟩ := hcut
        cases kq with
        | zero => exact absurd HA.out (by simp [wPD.j4])
        | succ kj17 =>
         have H := HA.out
         clear HA
         simp only [wPD.j4] at H
         by_cases c25 : x96_17 = true
         ·subst c25
          have H1 : (wPD.l2 kj17 l1 x4_1 x5_1 1 s0_0 x1001_17 x1002_17) = some (r1, r2, r3) := by rw [if_pos rfl] at H; exact H
          clear H
          have H := H1
          clear H1
          have H' := Aside0.mk H
          clear H
          go_wp2
          go_loopg [6] kj17 (fun kq v6 w' => ∃ (x6_4 : Int) (x1001_4 : Int) (x1002_4 : Bool), v6 = .int .i64 x6_4 ∧ Aside0 (wPD.l2 kq l1 x4_1 x5_1 x6_4 s0_0 x1001_4 x1002_4 = some (r1, r2, r3)) ∧ Aside0 (kq ≤ kj17) ∧ Aside0 (Kd.R (Kd.int .u8) 5 w' w.heap.size (fun _ => True) u4 x4_1) ∧ Aside0 (IsS126 w0 w' g s0_0 x1001_4 x1002_4) ∧ Aside0 (KeepBut w w' g none) ∧ Aside0 (Below w0.heap.size w0 w'))
          case atStart => exact ⟨(1), (x1001_17), (x1002_17), z6_5, H', ⟨Nat.le_refl _⟩, ⟨z6_3⟩, ⟨z6_1⟩, ⟨z6_0⟩, ⟨z6_2⟩⟩
          case round =>
           clear H'
           obtain ⟨x6_4, x1001_4, x1002_4, rfl, HA, HK4, HO_4, HI0, HK, HB⟩ := hrel
           cases gk with
           | zero => exact absurd HA.out (by simp [wPD.l2])
           | succ k4 =>
            have H := HA.out
            clear HA
            simp only [wPD.l2] at H
            have HC26 := Aside0.mk H
            clear H
            go_upto_region 17 with (fail)
            go_cut [144] (fun v144 wc => ∃ (kq : Nat) (x144_25 : Bool) (x1001_25 : Int) (x1002_25 : Bool), v144 = .bool x144_25 ∧ Aside0 (wPD.j6 kq l1 x4_1 x5_1 x6_4 x144_25 s0_0 x1001_25 x1002_25 = some (r1, r2, r3)) ∧ Aside0 (kq ≤ k4) ∧ Aside0 (Kd.R (Kd.int .u8) 5 wc w.heap.size (fun _ => True) u4 x4_1) ∧ Aside0 (IsS126 w0 wc g s0_0 x1001_25 x1002_25) ∧ Aside0 (KeepBut w wc g none) ∧ Aside0 (Below w0.heap.size w0 wc))
            case first =>
             have H := HC26.out
             clear HC26
             by_cases c27 : (wrap64 (x5_1 + x6_4)) < (l1.length : Int)
             ·rw [if_pos c27] at H
              have c27b0 : decide ((wrap64 (x5_1 + x6_4)) < (l1.length : Int)) = true := decide_eq_true c27
              clear c27
              (first | rw [c27b0] | (simp only [i64_w, i32_w]; rw [c27b0]) | skip)
              obtain ⟨ji28, hji28⟩ : ∃ j_ : Int, (wrap64 (x5_1 + x6_4)) = j_ := ⟨_, rfl⟩
              replace H : (if 0 ≤ (ji28) then (if (rd l1 (ji28)) ≥ (-128) then (if (rd l1 (ji28)) < 128 then ((wWy.f s0_0 x1001_4 x1002_4 9).bind fun bt184 => (wPD.j6 k4 l1 x4_1 x5_1 x6_4 (decide (x6_4 < (wrap64 (1 + bt184.1)))) s0_0 bt184.2.1 bt184.2.2)) else (wPD.j6 k4 l1 x4_1 x5_1 x6_4 false s0_0 x1001_4 x1002_4)) else (wPD.j6 k4 l1 x4_1 x5_1 x6_4 false s0_0 x1001_4 x1002_4)) else (none)) = some (r1, r2, r3) := by first | (rw [hji28] at H; exact H) | (simp only [hji28] at H ⊢; exact H)
              (try rw [hji28] at c27b0)
              have hji28w : (IntKind.i64.wrap (x5_1 + x6_4)) = ji28 := (i64_w _).trans hji28
              by_cases c29 : 0 ≤ (ji28)
              rotate_left
              ·rw [if_neg c29] at H
               exact absurd H (by simp)
              rw [if_pos c29] at H
              have c29b0 : decide (0 ≤ (ji28)) = true := decide_eq_true c29
              clear c29
              by_cases c30 : (rd l1 (ji28)) ≥ (-128)
              ·rw [if_pos c30] at H
               have c30b0 : decide ((-128) ≤ (rd l1 (ji28))) = true := decide_eq_true c30
               clear c30
               by_cases c31 : (rd l1 (ji28)) < 128
               ·rw [if_pos c31] at H
                have c31b0 : decide ((rd l1 (ji28)) < 128) = true := decide_eq_true c31
                clear c31
                replace H := Option.bind_eq_some_iff.mp H
                obtain ⟨⟨t184, t185, t186⟩, A320, H⟩ := H
                replace H : (wPD.j6 k4 l1 x4_1 x5_1 x6_4 (decide (x6_4 < (wrap64 (1 + t184)))) s0_0 t185 t186) = some (r1, r2, r3) := H
                have A32 := Aside0.mk A320
                clear A320
                have H' := Aside0.mk H
                clear H
                have p182 : 0 ≤ ((ji28) : Int) := of_decide_eq_true z6_4
                have q182 : (ji28) < (l1.length : Int) := of_decide_eq_true z6_4
                obtain ⟨ad182, e182, hx182_0⟩ := Kd.at_int HR1.out (ji28) p182 q182
                cases e182
                replace hx182_0 := keep_cell HK.out hx182_0 z6_8
                replace p182 := eq_true p182
                replace q182 := eq_true q182
                have p183 : 0 ≤ ((ji28) : Int) := of_decide_eq_true z6_4
                have q183 : (ji28) < (l1.length : Int) := of_decide_eq_true z6_4
                obtain ⟨ad183, e183, hx183_0⟩ := Kd.at_int HR1.out (ji28) p183 q183
                obtain rfl : ad182 = ad183 := (by injection e183)
                replace hx183_0 := keep_cell HK.out hx183_0 z6_8
                replace p183 := eq_true p183
                replace q183 := eq_true q183
                go_wp2_with (first | (go_at_call 41; (with_reducible refine (wWy.calls g s0_0 x1001_4 x1002_4 9 t184 t185 t186 w0 _ ?side1 ?side2 A32.out).mono ?_); (case side1 => repeat (first | (with_reducible first | exact HI0.out | apply IsS126.alloc | apply IsS126.drewN | apply IsS126.drew | apply IsS126.set_1 | apply IsS126.set_2) | exact HI0.out)); (case side2 => repeat (first | (with_reducible first | exact HB.out | apply below_alloc | apply pw_below_drewN | apply below_drew1 | refine below_set ?_ (IsS126.ge HI0.out)) | exact HB.out)); rintro e w33 ⟨rfl, hi, hb, hk⟩; have n0_ := Aside0.mk (Kd.R_mono (Kd.R_keep (IsS126.apart (show IsS126 w0 _ g s0_0 x1001_4 x1002_4 from by repeat (first | (with_reducible first | exact HI0.out | apply IsS126.alloc | apply IsS126.drewN | apply IsS126.drew | apply IsS126.set_1 | apply IsS126.set_2) | exact HI0.out)) z6_3 (by decide)) hk (fun _ h => h.2)) (fun _ h => h.1)); have n1_ := Aside0.mk (KeepBut.trans z6_0 hk (.inl rfl)); have n2_ := Aside0.mk (hb); have n3_ := Aside0.mk (hi); clear HO_4; clear HK; clear HB; clear HI0; have HO_4 := n0_; have HK := n1_; have HB := n2_; have HI0 := n3_; clear n0_ n1_ n2_ n3_ hb hk; (clear hi)))
                go_meet
                case rel => exact ⟨_, (decide (x6_4 < (wrap64 (1 + t184)))), (t185), (t186), z6_5, H', ⟨z6_6⟩, ⟨z6_3⟩, ⟨z6_1⟩, ⟨z6_0⟩, ⟨z6_2⟩⟩
               ·rw [if_neg c31] at H
                have c31b0 : decide ((rd l1 (ji28)) < 128) = false := decide_eq_false c31
                clear c31
                have H' := Aside0.mk H
                clear H
                have p182 : 0 ≤ ((ji28) : Int) := of_decide_eq_true z6_4
                have q182 : (ji28) < (l1.length : Int) := of_decide_eq_true z6_4
                obtain ⟨ad182, e182, hx182_0⟩ := Kd.at_int HR1.out (ji28) p182 q182
                cases e182
                replace hx182_0 := keep_cell HK.out hx182_0 z6_8
                replace p182 := eq_true p182
                replace q182 := eq_true q182
                have p183 : 0 ≤ ((ji28) : Int) := of_decide_eq_true z6_4
                have q183 : (ji28) < (l1.length : Int) := of_decide_eq_true z6_4
                obtain ⟨ad183, e183, hx183_0⟩ := Kd.at_int HR1.out (ji28) p183 q183
                obtain rfl : ad182 = ad183 := (by injection e183)
                replace hx183_0 := keep_cell HK.out hx183_0 z6_8
                replace p183 := eq_true p183
                replace q183 := eq_true q183
                go_wp2
                go_meet
                case rel => exact ⟨_, (false), (x1001_4), (x1002_4), z6_5, H', ⟨z6_6⟩, ⟨z6_3⟩, ⟨z6_1⟩, ⟨z6_0⟩, ⟨z6_2⟩⟩
              ·rw [if_neg c30] at H
               have c30b0 : decide ((-128) ≤ (rd l1 (ji28))) = false := decide_eq_false c30
               clear c30
               have H' := Aside0.mk H
               clear H
               have p182 : 0 ≤ ((ji28) : Int) := of_decide_eq_true z6_4
               have q182 : (ji28) < (l1.length : Int) := of_decide_eq_true z6_4
               obtain ⟨ad182, e182, hx182_0⟩ := Kd.at_int HR1.out (ji28) p182 q182
               cases e182
               replace hx182_0 := keep_cell HK.out hx182_0 z6_8
               replace p182 := eq_true p182
               replace q182 := eq_true q182
               go_wp2
               go_meet
               case rel => exact ⟨_, (false), (x1001_4), (x1002_4), z6_5, H', ⟨z6_6⟩, ⟨z6_3⟩, ⟨z6_1⟩, ⟨z6_0⟩, ⟨z6_2⟩⟩
             ·rw [if_neg c27] at H
              have c27b0 : decide ((wrap64 (x5_1 + x6_4)) < (l1.length : Int)) = false := decide_eq_false c27
              clear c27
              (first | rw [c27b0] | (simp only [i64_w, i32_w]; rw [c27b0]) | skip)
              have H' := Aside0.mk H
              clear H
              go_wp2
              go_meet
              case rel => exact ⟨_, (false), (x1001_4), (x1002_4), z6_5, H', ⟨z6_6⟩, ⟨z6_3⟩, ⟨z6_1⟩, ⟨z6_0⟩, ⟨z6_2⟩⟩
            case rest =>
             clear HC26
             obtain ⟨kq, x144_25, x1001_25, x1002_25, rfl, HA, HJ25, HO_4, HI0, HK, HB⟩ := hcut
             cases kq with
             | zero => exact absurd HA.out (by simp [wPD.j6])
             | succ kj25 =>
              have H := HA.out
              clear HA
              simp only [wPD.j6] at H
              by_cases c34 : x144_25 = true
              ·subst c34
               have H1 : (wPD.l2 kj25 l1 x4_1 x5_1 (wrap64 (x6_4 + 1)) s0_0 x1001_25 x1002_25) = some (r1, r2, r3) := by rw [if_pos rfl] at H; exact H
               clear H
               have H := H1
               clear H1
               have H' := Aside0.mk H
               clear H
               go_wp2
               go_roundg kj25
               case measure => have := HK1.out; have := HJ3.out; have := HJ17.out; have := HK4.out; have := HJ25.out; omega
               case rel => exact ⟨(wrap64 (x6_4 + 1)), (x1001_25), (x1002_25), z6_5, H', ⟨by have := HK1.out; have := HJ3.out; have := HJ17.out; have := HK4.out; have := HJ25.out; omega⟩, ⟨z6_3⟩, ⟨z6_1⟩, ⟨z6_0⟩, ⟨z6_2⟩⟩
              ·replace c34 := Bool.eq_false_iff.mpr c34
               subst c34
               have H1 : (if x4_1.length < 140737488355328 then (if 0 ≤ x5_1 then (if x5_1 ≤ (wrap64 (x5_1 + x6_4)) then (if (wrap64 (x5_1 + x6_4)) ≤ (l1.length : Int) then (wPD.l3 kj25 l1 (x4_1 ++ [(wrap64 (x6_4 - 1)) % 256]) x5_1 x6_4 ((l1.take ((wrap64 (x5_1 + x6_4)) : Int).toNat).drop (x5_1 : Int).toNat) (((l1.take ((wrap64 (x5_1 + x6_4)) : Int).toNat).drop (x5_1 : Int).toNat).length : Int) 0 s0_0 x1001_25 x1002_25) else (none)) else (none)) else (none)) else (none)) = some (r1, r2, r3) := by rw [if_neg (show ¬ (false = true) by decide)] at H; exact H
               clear H
               have H := H1
               clear H1
               by_cases c35 : x4_1.length < 140737488355328
               rotate_left
               ·rw [if_neg c35] at H
                exact absurd H (by simp)
               rw [if_pos c35] at H
               have LMc35 := Aside0.mk c35
               clear c35
               obtain ⟨y187, hy187⟩ : ∃ y_ : List Int, y_ = (x4_1 ++ [(wrap64 (x6_4 - 1)) % 256]) := ⟨_, rfl⟩
               replace H : (if 0 ≤ x5_1 then (if x5_1 ≤ (wrap64 (x5_1 + x6_4)) then (if (wrap64 (x5_1 + x6_4)) ≤ (l1.length : Int) then (wPD.l3 kj25 l1 y187 x5_1 x6_4 ((l1.take ((wrap64 (x5_1 + x6_4)) : Int).toNat).drop (x5_1 : Int).toNat) (((l1.take ((wrap64 (x5_1 + x6_4)) : Int).toNat).drop (x5_1 : Int).toNat).length : Int) 0 s0_0 x1001_25 x1002_25) else (none)) else (none)) else (none)) = some (r1, r2, r3) := by first | (rw [hy187]; with_reducible exact H) | (have H2_ := (Option.bind_some _ _).symm.trans H; rw [hy187]; with_reducible exact H2_) | (have H2_ := (Option.bind_some _ _).symm.trans H; with_reducible exact H2_) | with_reducible exact H | (rw [hy187]; exact H) | exact H
               have Ny187 := Aside0.mk hy187
               clear hy187
               by_cases c36 : 0 ≤ x5_1
               rotate_left
               ·rw [if_neg c36] at H
                exact absurd H (by simp)
               rw [if_pos c36] at H
               have c36b0 := eq_true c36
               have c36b1 : decide (0 ≤ x5_1) = true := decide_eq_true c36
               clear c36
               by_cases c37 : x5_1 ≤ (wrap64 (x5_1 + x6_4))
               rotate_left
               ·rw [if_neg c37] at H
                exact absurd H (by simp)
               rw [if_pos c37] at H
               have c37b0 := eq_true c37
               have c37b1 : decide (x5_1 ≤ (wrap64 (x5_1 + x6_4))) = true := decide_eq_true c37
               by_cases c38 : (wrap64 (x5_1 + x6_4)) ≤ (l1.length : Int)
               rotate_left
               ·rw [if_neg c38] at H
                exact absurd H (by simp)
               rw [if_pos c38] at H
               have c38b0 := eq_true c38
               have c38b1 : decide ((wrap64 (x5_1 + x6_4)) ≤ (l1.length : Int)) = true := decide_eq_true c38
               have H' := Aside0.mk H
               clear H
               go_wp2_with (first | ((with_reducible refine gate_builtin (b := .append) (xs := #[.tmp 147, .tmp 151]) rfl ?_); at_builtin; refine Kd.R_append (Kd.int .u8) w.heap.size rfl (.tmp 147) (.tmp 151) 22 5 (.int .u8 0) 1 rfl Try.underlying22 info5 rfl (by decide) (by omega) u4 x4_1 ((wrap64 (x6_4 - 1)) % 256) [.int .u8 ((wrap64 (x6_4 - 1)) % 256)] (fun _ => True) (fun _ => False) rfl rfl ?aP (fun _ hk => hk.elim) ?aF ?aO (Below.refl _ _) ?aS ?aL ?_; (case aP => exact rfl); (case aF => exact (fun _ _ => trivial)); (case aO => exact z6_3); (case aS => exact (keep_size (w := w) (g := g) (row := none) z6_0)); (case aL => have := LMc35.out; omega); intro v188 w39 ho hb hg hat; rw [← Ny187.out] at ho; have n0_ := Aside0.mk (IsS126.grown z6_1 hg (IsS126.own_ne HI0.out HO_4.out (by decide))); have n1_ := Aside0.mk (below_weaken z6_2 HL.out hb); have n2_ := Aside0.mk (KeepBut.trans z6_0 (KeepBut.of_grown hg g) (Kd.R_base2 HO_4.out)); have n3_ := Aside0.mk (ho); clear HI0; clear HB; clear HK; clear HO_4; have HI0 := n0_; have HB := n1_; have HK := n2_; have HO189 := n3_; clear n0_ n1_ n2_ n3_; clear ho hb hg hat; obtain ⟨i040, hi040, _, hsz40, _⟩ := info_parts info3; obtain ⟨A40, hcut40, hA40, hC40⟩ := print_mid_of (P := Try.prog) (Value.int .i64) 0 29 3 .i64 .i64 Try.underlying29 hi040 hsz40 A1 c1 l1 x5_1 (wrap64 (x5_1 + x6_4)) (of_decide_eq_true z6_4) (by first | omega | exact of_decide_eq_true z6_4) (of_decide_eq_true z6_4) HC1.out; have HR190 := Aside0.mk (Kd.C_of_reads (h1 := fun _ => rfl) (hA40 _ (Kd.reads_of_C HR1.out))); have HC190 := Aside0.mk hC40; have hf190 : ∀ ad : Addr, A40 = some ad → 0 < ((l1.take ((wrap64 (x5_1 + x6_4)) : Int).toNat).drop (x5_1 : Int).toNat).length → ad.block ≠ g := fun ad he h_ => (by cases he; exact Kd.foot_ne (fun W_ hk_ => Kd.C_of_reads (h1 := fun _ => rfl) (hA40 _ (Kd.reads_of_C (Kd.C_foot_ne (fun h => h) HR1.out hf1 W_ hk_)))) h_ (by decide)); clear hA40 hC40 hi040 hsz40; obtain ⟨cd40, hcd40⟩ : ∃ l_ : List Int, ((l1.take ((wrap64 (x5_1 + x6_4)) : Int).toNat).drop (x5_1 : Int).toNat) = l_ := ⟨_, rfl⟩; rw [hcd40] at hcut40 HR190 HC190 hf190; (try rw [hcd40] at H'); (try rw [hcd40] at H); clear hcd40))
               go_loopg [4, 160] kj25 (fun kq v4 v160 w' => ∃ (x4_6 : List Int) (x160_6 : Int), v160 = .int .i64 x160_6 ∧ Aside0 (wPD.l3 kq l1 x4_6 x5_1 x6_4 cd40 (cd40.length : Int) x160_6 s0_0 x1001_25 x1002_25 = some (r1, r2, r3)) ∧ Aside0 (kq ≤ kj25) ∧ Aside0 (Kd.R (Kd.int .u8) 5 w' w.heap.size (fun _ => True) v4 x4_6) ∧ Aside0 (IsS126 w0 w' g s0_0 x1001_25 x1002_25) ∧ Aside0 (KeepBut w w' g none) ∧ Aside0 (Below w0.heap.size w0 w'))
               case atStart => exact ⟨(y187), (0), z6_5, H', ⟨Nat.le_refl _⟩, ⟨by (with_reducible repeat (first | apply Kd.R_alloc | apply Kd.R_drewN | apply Kd.R_drew)); exact HO189.out⟩, ⟨z6_1⟩, ⟨z6_0⟩, ⟨z6_2⟩⟩
               case round =>
                clear H'
                clear c36b0 c36b1 c37 c37b0 c37b1 c38 c38b0 c38b1
                obtain ⟨x4_6, x160_6, rfl, HA, HK6, HO_4, HI0, HK, HB⟩ := hrel
                cases gk with
                | zero => exact absurd HA.out (by simp [wPD.l3])
                | succ k6 =>
                 have H := HA.out
                 clear HA
                 simp only [wPD.l3] at H
                 by_cases c41 : x160_6 < (cd40.length : Int)
                 ·rw [if_pos c41] at H
                  have c41b0 : decide (x160_6 < (cd40.length : Int)) = true := decide_eq_true c41
                  clear c41
                  by_cases c42 : 0 ≤ x160_6
                  rotate_left
                  ·rw [if_neg c42] at H
                   exact absurd H (by simp)
                  rw [if_pos c42] at H
                  have c42b0 : decide (0 ≤ x160_6) = true := decide_eq_true c42
                  clear c42
                  by_cases c43 : x160_6 < (cd40.length : Int)
                  rotate_left
                  ·rw [if_neg c43] at H
                   exact absurd H (by simp)
                  rw [if_pos c43] at H
                  have c43b0 : decide (x160_6 < (cd40.length : Int)) = true := decide_eq_true c43
                  clear c43
                  by_cases c44 : x4_6.length < 140737488355328
                  rotate_left
                  ·rw [if_neg c44] at H
                   exact absurd H (by simp)
                  rw [if_pos c44] at H
                  have LMc44 := Aside0.mk c44
                  clear c44
                  obtain ⟨y192, hy192⟩ : ∃ y_ : List Int, y_ = (x4_6 ++ [(rd cd40 x160_6) % 256]) := ⟨_, rfl⟩
                  replace H : (wPD.l3 k6 l1 y192 x5_1 x6_4 cd40 (cd40.length : Int) (wrap64 (x160_6 + 1)) s0_0 x1001_25 x1002_25) = some (r1, r2, r3) := by first | (rw [hy192]; with_reducible exact H) | (have H2_ := (Option.bind_some _ _).symm.trans H; rw [hy192]; with_reducible exact H2_) | (have H2_ := (Option.bind_some _ _).symm.trans H; with_reducible exact H2_) | with_reducible exact H | (rw [hy192]; exact H) | exact H
                  have Ny192 := Aside0.mk hy192
                  clear hy192
                  have H' := Aside0.mk H
                  clear H
                  have p191 : 0 ≤ (x160_6 : Int) := of_decide_eq_true z6_4
                  have q191 : x160_6 < (cd40.length : Int) := of_decide_eq_true z6_4
                  obtain ⟨ad191, e191, hx191_0⟩ := Kd.at_int HR190.out x160_6 p191 q191
                  cases e191
                  replace hx191_0 := keep_cell HK.out hx191_0 (by first | (rw [add_block]; exact hf190 _ rfl (by omega)) | exact hf190 _ rfl (by omega) | exact hf190 ad191 rfl (by omega))
                  replace p191 := eq_true p191
                  replace q191 := eq_true q191
                  go_wp2_with (first | ((with_reducible refine gate_builtin (b := .append) (xs := #[.tmp 164, .tmp 167]) rfl ?_); at_builtin; refine Kd.R_append (Kd.int .u8) w.heap.size rfl (.tmp 164) (.tmp 167) 22 5 (.int .u8 0) 1 rfl Try.underlying22 info5 rfl (by decide) (by omega) u4 x4_6 ((rd cd40 x160_6) % 256) [.int .u8 ((rd cd40 x160_6) % 256)] (fun _ => True) (fun _ => False) rfl rfl ?aP (fun _ hk => hk.elim) ?aF ?aO (Below.refl _ _) ?aS ?aL ?_; (case aP => exact rfl); (case aF => exact (fun _ _ => trivial)); (case aO => exact z6_3); (case aS => exact (keep_size (w := w) (g := g) (row := none) z6_0)); (case aL => have := LMc44.out; omega); intro v193 w45 ho hb hg hat; rw [← Ny192.out] at ho; have n0_ := Aside0.mk (IsS126.grown z6_1 hg (IsS126.own_ne HI0.out HO_4.out (by decide))); have n1_ := Aside0.mk (below_weaken z6_2 HL.out hb); have n2_ := Aside0.mk (KeepBut.trans z6_0 (KeepBut.of_grown hg g) (Kd.R_base2 HO_4.out)); have n3_ := Aside0.mk (ho); clear HI0; clear HB; clear HK; clear HO_4; have HI0 := n0_; have HB := n1_; have HK := n2_; have HO194 := n3_; clear n0_ n1_ n2_ n3_; clear ho hb hg hat))
                  go_roundg k6
                  case measure => have := HK1.out; have := HJ3.out; have := HJ17.out; have := HK4.out; have := HJ25.out; have := HK6.out; omega
                  case rel => exact ⟨(y192), (wrap64 (x160_6 + 1)), z6_5, H', ⟨by have := HK1.out; have := HJ3.out; have := HJ17.out; have := HK4.out; have := HJ25.out; have := HK6.out; omega⟩, ⟨by (with_reducible repeat (first | apply Kd.R_alloc | apply Kd.R_drewN | apply Kd.R_drew)); exact HO194.out⟩, ⟨z6_1⟩, ⟨z6_0⟩, ⟨z6_2⟩⟩
                 ·rw [if_neg c41] at H
                  have c41b0 : decide (x160_6 < (cd40.length : Int)) = false := decide_eq_false c41
                  clear c41
                  have H' := Aside0.mk H
                  clear H
                  go_wp2
                  go_roundg k6
                  case measure => have := HK1.out; have := HJ3.out; have := HJ17.out; have := HK4.out; have := HJ25.out; have := HK6.out; omega
                  case rel => exact ⟨(x4_6), (wrap64 (x5_1 + x6_4)), (x1001_25), (x1002_25), z6_5, H', ⟨by have := HK1.out; have := HJ3.out; have := HJ17.out; have := HK4.out; have := HJ25.out; have := HK6.out; omega⟩, ⟨z6_3⟩, ⟨z6_1⟩, ⟨z6_0⟩, ⟨z6_2⟩⟩
         ·replace c25 := Bool.eq_false_iff.mpr c25
          subst c25
          have H1 : (wPD.l4 kj17 l1 x4_1 x5_1 1 s0_0 x1001_17 x1002_17) = some (r1, r2, r3) := by rw [if_neg (show ¬ (false = true) by decide)] at H; exact H
          clear H
          have H := H1
          clear H1
          have H' := Aside0.mk H
          clear H
          go_wp2
          go_loopg [6] kj17 (fun kq v6 w' => ∃ (x6_4 : Int) (x1001_4 : Int) (x1002_4 : Bool), v6 = .int .i64 x6_4 ∧ Aside0 (wPD.l4 kq l1 x4_1 x5_1 x6_4 s0_0 x1001_4 x1002_4 = some (r1, r2, r3)) ∧ Aside0 (kq ≤ kj17) ∧ Aside0 (Kd.R (Kd.int .u8) 5 w' w.heap.size (fun _ => True) u4 x4_1) ∧ Aside0 (IsS126 w0 w' g s0_0 x1001_4 x1002_4) ∧ Aside0 (KeepBut w w' g none) ∧ Aside0 (Below w0.heap.size w0 w'))
          case atStart => exact ⟨(1), (x1001_17), (x1002_17), z6_5, H', ⟨Nat.le_refl _⟩, ⟨z6_3⟩, ⟨z6_1⟩, ⟨z6_0⟩, ⟨z6_2⟩⟩
          case round =>
           clear H'
           obtain ⟨x6_4, x1001_4, x1002_4, rfl, HA, HK4, HO_4, HI0, HK, HB⟩ := hrel
           cases gk with
           | zero => exact absurd HA.out (by simp [wPD.l4])
           | succ k4 =>
            have H := HA.out
            clear HA
            simp only [wPD.l4] at H
            have HC46 := Aside0.mk H
            clear H
            go_upto_region 4 with (fail)
            go_cut [27] (fun v27 wc => ∃ (kq : Nat) (x27_45 : Bool) (x1001_45 : Int) (x1002_45 : Bool), v27 = .bool x27_45 ∧ Aside0 (wPD.j9 kq l1 x4_1 x5_1 x6_4 x27_45 s0_0 x1001_45 x1002_45 = some (r1, r2, r3)) ∧ Aside0 (kq ≤ k4) ∧ Aside0 (Kd.R (Kd.int .u8) 5 wc w.heap.size (fun _ => True) u4 x4_1) ∧ Aside0 (IsS126 w0 wc g s0_0 x1001_45 x1002_45) ∧ Aside0 (KeepBut w wc g none) ∧ Aside0 (Below w0.heap.size w0 wc))
            case first =>
             have H := HC46.out
             clear HC46
             by_cases c47 : (wrap64 (x5_1 + x6_4)) < (l1.length : Int)
             ·rw [if_pos c47] at H
              have c47b0 : decide ((wrap64 (x5_1 + x6_4)) < (l1.length : Int)) = true := decide_eq_true c47
              clear c47
              (first | rw [c47b0] | (simp only [i64_w, i32_w]; rw [c47b0]) | skip)
              replace H := Option.bind_eq_some_iff.mp H
              obtain ⟨⟨t195, t196, t197⟩, A480, H⟩ := H
              replace H : (wPD.j9 k4 l1 x4_1 x5_1 x6_4 (decide (x6_4 < (wrap64 (1 + t195)))) s0_0 t196 t197) = some (r1, r2, r3) := H
              have A48 := Aside0.mk A480
              clear A480
              have H' := Aside0.mk H
              clear H
              go_wp2_with (first | (go_at_call 41; (with_reducible refine (wWy.calls g s0_0 x1001_4 x1002_4 5 t195 t196 t197 w0 _ ?side1 ?side2 A48.out).mono ?_); (case side1 => repeat (first | (with_reducible first | exact HI0.out | apply IsS126.alloc | apply IsS126.drewN | apply IsS126.drew | apply IsS126.set_1 | apply IsS126.set_2) | exact HI0.out)); (case side2 => repeat (first | (with_reducible first | exact HB.out | apply below_alloc | apply pw_below_drewN | apply below_drew1 | refine below_set ?_ (IsS126.ge HI0.out)) | exact HB.out)); rintro e w49 ⟨rfl, hi, hb, hk⟩; have n0_ := Aside0.mk (Kd.R_mono (Kd.R_keep (IsS126.apart (show IsS126 w0 _ g s0_0 x1001_4 x1002_4 from by repeat (first | (with_reducible first | exact HI0.out | apply IsS126.alloc | apply IsS126.drewN | apply IsS126.drew | apply IsS126.set_1 | apply IsS126.set_2) | exact HI0.out)) z6_3 (by decide)) hk (fun _ h => h.2)) (fun _ h => h.1)); have n1_ := Aside0.mk (KeepBut.trans z6_0 hk (.inl rfl)); have n2_ := Aside0.mk (hb); have n3_ := Aside0.mk (hi); clear HO_4; clear HK; clear HB; clear HI0; have HO_4 := n0_; have HK := n1_; have HB := n2_; have HI0 := n3_; clear n0_ n1_ n2_ n3_ hb hk; (clear hi)))
              go_meet
              case rel => exact ⟨_, (decide (x6_4 < (wrap64 (1 + t195)))), (t196), (t197), z6_5, H', ⟨z6_6⟩, ⟨z6_3⟩, ⟨z6_1⟩, ⟨z6_0⟩, ⟨z6_2⟩⟩
             ·rw [if_neg c47] at H
              have c47b0 : decide ((wrap64 (x5_1 + x6_4)) < (l1.length : Int)) = false := decide_eq_false c47
              clear c47
              (first | rw [c47b0] | (simp only [i64_w, i32_w]; rw [c47b0]) | skip)
              have H' := Aside0.mk H
              clear H
              go_wp2
              go_meet
              case rel => exact ⟨_, (false), (x1001_4), (x1002_4), z6_5, H', ⟨z6_6⟩, ⟨z6_3⟩, ⟨z6_1⟩, ⟨z6_0⟩, ⟨z6_2⟩⟩
            case rest =>
             clear HC46
             obtain ⟨kq, x27_45, x1001_45, x1002_45, rfl, HA, HJ45, HO_4, HI0, HK, HB⟩ := hcut
             cases kq with
             | zero => exact absurd HA.out (by simp [wPD.j9])
             | succ kj45 =>
              have H := HA.out
              clear HA
              simp only [wPD.j9] at H
              by_cases c50 : x27_45 = true
              ·subst c50
               have H1 : (wPD.l4 kj45 l1 x4_1 x5_1 (wrap64 (x6_4 + 1)) s0_0 x1001_45 x1002_45) = some (r1, r2, r3) := by rw [if_pos rfl] at H; exact H
               clear H
               have H := H1
               clear H1
               have H' := Aside0.mk H
               clear H
               go_wp2
               go_roundg kj45
               case measure => have := HK1.out; have := HJ3.out; have := HJ17.out; have := HK4.out; have := HJ45.out; omega
               case rel => exact ⟨(wrap64 (x6_4 + 1)), (x1001_45), (x1002_45), z6_5, H', ⟨by have := HK1.out; have := HJ3.out; have := HJ17.out; have := HK4.out; have := HJ45.out; omega⟩, ⟨z6_3⟩, ⟨z6_1⟩, ⟨z6_0⟩, ⟨z6_2⟩⟩
              ·replace c50 := Bool.eq_false_iff.mpr c50
               subst c50
               have H1 : (if x4_1.length < 140737488355328 then (if 0 ≤ x5_1 then (if x5_1 ≤ (wrap64 (x5_1 + x6_4)) then (if (wrap64 (x5_1 + x6_4)) ≤ (l1.length : Int) then (wPD.l5 kj45 l1 (x4_1 ++ [Go.bits .or .u8 ((wrap64 (x6_4 - 1)) % 256) 64]) x5_1 x6_4 ((l1.take ((wrap64 (x5_1 + x6_4)) : Int).toNat).drop (x5_1 : Int).toNat) (((l1.take ((wrap64 (x5_1 + x6_4)) : Int).toNat).drop (x5_1 : Int).toNat).length : Int) 0 s0_0 x1001_45 x1002_45) else (none)) else (none)) else (none)) else (none)) = some (r1, r2, r3) := by rw [if_neg (show ¬ (false = true) by decide)] at H; exact H
               clear H
               have H := H1
               clear H1
               by_cases c51 : x4_1.length < 140737488355328
               rotate_left
               ·rw [if_neg c51] at H
                exact absurd H (by simp)
               rw [if_pos c51] at H
               have LMc51 := Aside0.mk c51
               clear c51
               obtain ⟨y198, hy198⟩ : ∃ y_ : List Int, y_ = (x4_1 ++ [Go.bits .or .u8 ((wrap64 (x6_4 - 1)) % 256) 64]) := ⟨_, rfl⟩
               replace H : (if 0 ≤ x5_1 then (if x5_1 ≤ (wrap64 (x5_1 + x6_4)) then (if (wrap64 (x5_1 + x6_4)) ≤ (l1.length : Int) then (wPD.l5 kj45 l1 y198 x5_1 x6_4 ((l1.take ((wrap64 (x5_1 + x6_4)) : Int).toNat).drop (x5_1 : Int).toNat) (((l1.take ((wrap64 (x5_1 + x6_4)) : Int).toNat).drop (x5_1 : Int).toNat).length : Int) 0 s0_0 x1001_45 x1002_45) else (none)) else (none)) else (none)) = some (r1, r2, r3) := by first | (rw [hy198]; with_reducible exact H) | (have H2_ := (Option.bind_some _ _).symm.trans H; rw [hy198]; with_reducible exact H2_) | (have H2_ := (Option.bind_some _ _).symm.trans H; with_reducible exact H2_) | with_reducible exact H | (rw [hy198]; exact H) | exact H
               have Ny198 := Aside0.mk hy198
               clear hy198
               by_cases c52 : 0 ≤ x5_1
               rotate_left
               ·rw [if_neg c52] at H
                exact absurd H (by simp)
               rw [if_pos c52] at H
               have c52b0 := eq_true c52
               have c52b1 : decide (0 ≤ x5_1) = true := decide_eq_true c52
               clear c52
               by_cases c53 : x5_1 ≤ (wrap64 (x5_1 + x6_4))
               rotate_left
               ·rw [if_neg c53] at H
                exact absurd H (by simp)
               rw [if_pos c53] at H
               have c53b0 := eq_true c53
               have c53b1 : decide (x5_1 ≤ (wrap64 (x5_1 + x6_4))) = true := decide_eq_true c53
               by_cases c54 : (wrap64 (x5_1 + x6_4)) ≤ (l1.length : Int)
               rotate_left
               ·rw [if_neg c54] at H
                exact absurd H (by simp)
               rw [if_pos c54] at H
               have c54b0 := eq_true c54
               have c54b1 : decide ((wrap64 (x5_1 + x6_4)) ≤ (l1.length : Int)) = true := decide_eq_true c54
               have H' := Aside0.mk H
               clear H
               go_wp2_with (first | ((with_reducible refine gate_builtin (b := .append) (xs := #[.tmp 30, .tmp 35]) rfl ?_); at_builtin; refine Kd.R_append (Kd.int .u8) w.heap.size rfl (.tmp 30) (.tmp 35) 22 5 (.int .u8 0) 1 rfl Try.underlying22 info5 rfl (by decide) (by omega) u4 x4_1 (Go.bits .or .u8 ((wrap64 (x6_4 - 1)) % 256) 64) [.int .u8 (Go.bits .or .u8 ((wrap64 (x6_4 - 1)) % 256) 64)] (fun _ => True) (fun _ => False) rfl rfl ?aP (fun _ hk => hk.elim) ?aF ?aO (Below.refl _ _) ?aS ?aL ?_; (case aP => exact rfl); (case aF => exact (fun _ _ => trivial)); (case aO => exact z6_3); (case aS => exact (keep_size (w := w) (g := g) (row := none) z6_0)); (case aL => have := LMc51.out; omega); intro v199 w55 ho hb hg hat; rw [← Ny198.out] at ho; have n0_ := Aside0.mk (IsS126.grown z6_1 hg (IsS126.own_ne HI0.out HO_4.out (by decide))); have n1_ := Aside0.mk (below_weaken z6_2 HL.out hb); have n2_ := Aside0.mk (KeepBut.trans z6_0 (KeepBut.of_grown hg g) (Kd.R_base2 HO_4.out)); have n3_ := Aside0.mk (ho); clear HI0; clear HB; clear HK; clear HO_4; have HI0 := n0_; have HB := n1_; have HK := n2_; have HO200 := n3_; clear n0_ n1_ n2_ n3_; clear ho hb hg hat; obtain ⟨i056, hi056, _, hsz56, _⟩ := info_parts info3; obtain ⟨A56, hcut56, hA56, hC56⟩ := print_mid_of (P := Try.prog) (Value.int .i64) 0 29 3 .i64 .i64 Try.underlying29 hi056 hsz56 A1 c1 l1 x5_1 (wrap64 (x5_1 + x6_4)) (of_decide_eq_true z6_4) (by first | omega | exact of_decide_eq_true z6_4) (of_decide_eq_true z6_4) HC1.out; have HR201 := Aside0.mk (Kd.C_of_reads (h1 := fun _ => rfl) (hA56 _ (Kd.reads_of_C HR1.out))); have HC201 := Aside0.mk hC56; have hf201 : ∀ ad : Addr, A56 = some ad → 0 < ((l1.take ((wrap64 (x5_1 + x6_4)) : Int).toNat).drop (x5_1 : Int).toNat).length → ad.block ≠ g := fun ad he h_ => (by cases he; exact Kd.foot_ne (fun W_ hk_ => Kd.C_of_reads (h1 := fun _ => rfl) (hA56 _ (Kd.reads_of_C (Kd.C_foot_ne (fun h => h) HR1.out hf1 W_ hk_)))) h_ (by decide)); clear hA56 hC56 hi056 hsz56; obtain ⟨cd56, hcd56⟩ : ∃ l_ : List Int, ((l1.take ((wrap64 (x5_1 + x6_4)) : Int).toNat).drop (x5_1 : Int).toNat) = l_ := ⟨_, rfl⟩; rw [hcd56] at hcut56 HR201 HC201 hf201; (try rw [hcd56] at H'); (try rw [hcd56] at H); clear hcd56))
               go_loopg [4, 44] kj45 (fun kq v4 v44 w' => ∃ (x4_6 : List Int) (x44_6 : Int), v44 = .int .i64 x44_6 ∧ Aside0 (wPD.l5 kq l1 x4_6 x5_1 x6_4 cd56 (cd56.length : Int) x44_6 s0_0 x1001_45 x1002_45 = some (r1, r2, r3)) ∧ Aside0 (kq ≤ kj45) ∧ Aside0 (Kd.R (Kd.int .u8) 5 w' w.heap.size (fun _ => True) v4 x4_6) ∧ Aside0 (IsS126 w0 w' g s0_0 x1001_45 x1002_45) ∧ Aside0 (KeepBut w w' g none) ∧ Aside0 (Below w0.heap.size w0 w'))
               case atStart => exact ⟨(y198), (0), z6_5, H', ⟨Nat.le_refl _⟩, ⟨by (with_reducible repeat (first | apply Kd.R_alloc | apply Kd.R_drewN | apply Kd.R_drew)); exact HO200.out⟩, ⟨z6_1⟩, ⟨z6_0⟩, ⟨z6_2⟩⟩
               case round =>
                clear H'
                clear c52b0 c52b1 c53 c53b0 c53b1 c54 c54b0 c54b1
                obtain ⟨x4_6, x44_6, rfl, HA, HK6, HO_4, HI0, HK, HB⟩ := hrel
                cases gk with
                | zero => exact absurd HA.out (by simp [wPD.l5])
                | succ k6 =>
                 have H := HA.out
                 clear HA
                 simp only [wPD.l5] at H
                 by_cases c57 : x44_6 < (cd56.length : Int)
                 ·rw [if_pos c57] at H
                  have c57b0 : decide (x44_6 < (cd56.length : Int)) = true := decide_eq_true c57
                  clear c57
                  by_cases c58 : 0 ≤ x44_6
                  rotate_left
                  ·rw [if_neg c58] at H
                   exact absurd H (by simp)
                  rw [if_pos c58] at H
                  have c58b0 : decide (0 ≤ x44_6) = true := decide_eq_true c58
                  clear c58
                  by_cases c59 : x44_6 < (cd56.length : Int)
                  rotate_left
                  ·rw [if_neg c59] at H
                   exact absurd H (by simp)
                  rw [if_pos c59] at H
                  have c59b0 : decide (x44_6 < (cd56.length : Int)) = true := decide_eq_true c59
                  clear c59
                  obtain ⟨y203, hy203⟩ : ∃ y_ : List Int, y_ = (([((rd cd56 x44_6) / 256) % 256, (rd cd56 x44_6) % 256] : List Int)) := ⟨_, rfl⟩
                  replace H : (if x4_6.length + y203.length < 140737488355328 then (wPD.l5 k6 l1 (x4_6 ++ y203) x5_1 x6_4 cd56 (cd56.length : Int) (wrap64 (x44_6 + 1)) s0_0 x1001_45 x1002_45) else (none)) = some (r1, r2, r3) := by first | (rw [hy203]; with_reducible exact H) | (have H2_ := (Option.bind_some _ _).symm.trans H; rw [hy203]; with_reducible exact H2_) | (have H2_ := (Option.bind_some _ _).symm.trans H; with_reducible exact H2_) | with_reducible exact H | (rw [hy203]; exact H) | exact H
                  have Ny203 := Aside0.mk hy203
                  clear hy203
                  by_cases c60 : x4_6.length + y203.length < 140737488355328
                  rotate_left
                  ·rw [if_neg c60] at H
                   exact absurd H (by simp)
                  rw [if_pos c60] at H
                  have LMc60 := Aside0.mk c60
                  clear c60
                  obtain ⟨y206, hy206⟩ : ∃ y_ : List Int, y_ = (x4_6 ++ y203) := ⟨_, rfl⟩
                  replace H : (wPD.l5 k6 l1 y206 x5_1 x6_4 cd56 (cd56.length : Int) (wrap64 (x44_6 + 1)) s0_0 x1001_45 x1002_45) = some (r1, r2, r3) := by first | (rw [hy206]; with_reducible exact H) | (have H2_ := (Option.bind_some _ _).symm.trans H; rw [hy206]; with_reducible exact H2_) | (have H2_ := (Option.bind_some _ _).symm.trans H; with_reducible exact H2_) | with_reducible exact H | (rw [hy206]; exact H) | exact H
                  have Ny206 := Aside0.mk hy206
                  clear hy206
                  have H' := Aside0.mk H
                  clear H
                  have p202 : 0 ≤ (x44_6 : Int) := of_decide_eq_true z6_4
                  have q202 : x44_6 < (cd56.length : Int) := of_decide_eq_true z6_4
                  obtain ⟨ad202, e202, hx202_0⟩ := Kd.at_int HR201.out x44_6 p202 q202
                  cases e202
                  replace hx202_0 := keep_cell HK.out hx202_0 (by first | (rw [add_block]; exact hf201 _ rfl (by omega)) | exact hf201 _ rfl (by omega) | exact hf201 ad202 rfl (by omega))
                  replace p202 := eq_true p202
                  replace q202 := eq_true q202
                  go_wp2_with (first | ((with_reducible refine gate_dst (N := 54) rfl ?_); refine Kd.R_lit (Kd.int .u8) _ 5 ?hg (N := 54) ?hd (xs := ([((rd cd56 x44_6) / 256) % 256, (rd cd56 x44_6) % 256] : List Int)) (inner := [.int .u8 (((rd cd56 x44_6) / 256) % 256), .int .u8 ((rd cd56 x44_6) % 256)]) (ok := fun _ => True) (okp := fun _ => True) ?hr ?hp (fun _ hk => hk) trivial (Below.refl _ _) (Nat.le_refl _) (by simp) ?_; (case hd => rfl); (case hg => rfl); (case hr => first | (go_simp; done) | (go_simp; rfl)); (case hp => exact (Reps.one (show Kd.M (Kd.int .u8) _ _ _ (((rd cd56 x44_6) / 256) % 256) [.int .u8 (((rd cd56 x44_6) / 256) % 256)] from rfl) (Reps.one (show Kd.M (Kd.int .u8) _ _ _ ((rd cd56 x44_6) % 256) [.int .u8 ((rd cd56 x44_6) % 256)] from rfl) (Reps.none _ _)))); intro v204 w61 ho62 hb hg_ hnew_; clear hg_ hnew_; (first | rw [← Ny203.out] at ho62 | (simp only [Int.reduceToNat] at ho62; rw [← Ny203.out] at ho62)); have n0_ := Aside0.mk (Kd.R_elder' z6_3 (Kd.R_base ho62) hb); have n1_ := Aside0.mk (Kd.R_lower (Kd.R_new' ho62 (Kd.R_lt z6_3)) (keep_size (w := w) (g := g) (row := none) z6_0)); have n2_ := Aside0.mk (IsS126.below z6_1 hb); have n3_ := Aside0.mk (KeepBut.trans z6_0 (KeepBut.of_below hb g none) (.inl rfl)); have n4_ := Aside0.mk (below_step z6_2 hb); clear HO_4; clear HI0; clear HK; clear HB; have HO_4 := n0_; have HO205 := n1_; have HI0 := n2_; have HK := n3_; have HB := n4_; clear n0_ n1_ n2_ n3_ n4_; clear hb ho62; obtain ⟨Ao64, co64, eo64⟩ := Kd.R_slice HO205.out; subst eo64) | ((with_reducible refine gate_builtin (b := .append) (xs := #[.tmp 48, .tmp 54]) rfl ?_); at_builtin; refine Kd.R_append_rows (Kd.int .u8) w.heap.size rfl (.tmp 48) (.tmp 54) 22 5 (.int .u8 0) 1 rfl Try.underlying22 info5 rfl (by decide) (by omega) u4 x4_6 y203 _ _ _ (fun k_ => some k_ ≠ (.slice Ao64 y203.length co64 : Value).ownBlock) (fun _ => False) rfl rfl ?aO ?aR (fun _ _ h => h) (fun _ h => h.elim) ?aF (Below.refl _ _) ?aS ?aL ?_; (case aR => repeat (first | exact (Kd.R_reads' HO205.out).2.2 | (with_reducible refine Kd.C_alloc ?_ _) | (with_reducible refine Kd.C_drewN ?_ _) | (with_reducible refine Kd.C_drew ?_))); (case aF => exact (fun k_ hk => Kd.fresh' (Kd.R_lt (by (with_reducible repeat (first | apply Kd.R_alloc | apply Kd.R_drewN | apply Kd.R_drew)); exact HO205.out)) k_ hk)); (case aO => exact (by (with_reducible repeat (first | apply Kd.R_alloc | apply Kd.R_drewN | apply Kd.R_drew)); exact Kd.R_mono HO_4.out (fun _ hk => hk.2))); (case aS => exact (keep_size (w := w) (g := g) (row := none) z6_0)); (case aL => have := LMc60.out; omega); intro v207 w63 ho hb hg hat; rw [← Ny206.out] at ho; have n0_ := Aside0.mk (IsS126.grown z6_1 hg (IsS126.own_ne HI0.out HO_4.out (by decide))); have n1_ := Aside0.mk (Kd.R_after (ok := (fun _ => True)) (by (with_reducible repeat (first | apply Kd.R_alloc | apply Kd.R_drewN | apply Kd.R_drew)); exact HO205.out) hg hat); have n2_ := Aside0.mk (below_weaken z6_2 HL.out hb); have n3_ := Aside0.mk (KeepBut.trans z6_0 (KeepBut.of_grown hg g) (Kd.R_base2 HO_4.out)); have n4_ := Aside0.mk (ho); clear HI0; clear HO205; clear HB; clear HK; clear HO_4; have HI0 := n0_; have HO205 := n1_; have HB := n2_; have HK := n3_; have HO208 := n4_; clear n0_ n1_ n2_ n3_ n4_; clear ho hb hg hat))
                  go_roundg k6
                  case measure => have := HK1.out; have := HJ3.out; have := HJ17.out; have := HK4.out; have := HJ45.out; have := HK6.out; omega
                  case rel => exact ⟨(y206), (wrap64 (x44_6 + 1)), z6_5, H', ⟨by have := HK1.out; have := HJ3.out; have := HJ17.out; have := HK4.out; have := HJ45.out; have := HK6.out; omega⟩, ⟨by (with_reducible repeat (first | apply Kd.R_alloc | apply Kd.R_drewN | apply Kd.R_drew)); exact Kd.R_mono HO208.out (fun _ hk => trivial)⟩, ⟨z6_1⟩, ⟨z6_0⟩, ⟨z6_2⟩⟩
                 ·rw [if_neg c57] at H
                  have c57b0 : decide (x44_6 < (cd56.length : Int)) = false := decide_eq_false c57
                  clear c57
                  have H' := Aside0.mk H
                  clear H
                  go_wp2
                  go_roundg k6
                  case measure => have := HK1.out; have := HJ3.out; have := HJ17.out; have := HK4.out; have := HJ45.out; have := HK6.out; omega
                  case rel => exact ⟨(x4_6), (wrap64 (x5_1 + x6_4)), (x1001_45), (x1002_45), z6_5, H', ⟨by have := HK1.out; have := HJ3.out; have := HJ17.out; have := HK4.out; have := HJ45.out; have := HK6.out; omega⟩, ⟨z6_3⟩, ⟨z6_1⟩, ⟨z6_0⟩, ⟨z6_2⟩⟩
   ·rw [if_neg c3] at H
    have c3b0 : decide (x5_1 < (l1.length : Int)) = false := decide_eq_false c3
    clear c3
    simp only [Option.some.injEq, Prod.mk.injEq] at H
    obtain ⟨rfl, rfl, rfl⟩ := H
    go_wp2
    go_ret
    exact ⟨_, by first | rfl | (simp [errW_none, errW_some] <;> rfl) | (simp [*, errW_none, errW_some] <;> rfl), by (with_reducible repeat (first | apply Kd.R_alloc | apply Kd.R_drewN | apply Kd.R_drew)); exact HO_4.out, by repeat (first | (with_reducible first | exact HI0.out | apply IsS126.alloc | apply IsS126.drewN | apply IsS126.drew | apply IsS126.set_1 | apply IsS126.set_2) | exact HI0.out), by repeat (first | (with_reducible first | exact HB.out | apply below_alloc | apply pw_below_drewN | apply below_drew1 | refine below_set ?_ (IsS126.ge HI0.out)) | exact HB.out), by repeat (first | (with_reducible first | exact HK.out | apply KeepBut.set_ | apply keep_drewN | apply keep_drew | apply keep_alloc) | exact HK.out)⟩

end Go.Proofs.Ytchkmmbedgolbaa.PFnTuplesOf

