-- Written by a program of this session (xprint) out of the translation; Lean checks it.
import Derived.Test.YtchkmmbedgolbaaPFnTuplesOfx0
namespace Go.Proofs.Ytchkmmbedgolbaa.PFnTuplesOf
open Go.RowKit Go.Proofs.YtchkmmbedgolbaaW.PrintWords Go.Proofs.YtchkmmbedgolbaaW.PrintLast Go.Proofs.YtchkmmbedgolbaaW.PrintMore
attribute [local go_sem] max2_int min2_int max_two min_two max_three min_three max_four min_four   -- for this text's walks alone
set_option linter.unusedVariables false
set_option linter.unusedSimpArgs false
theorem z14_4 {p : Prop} (h : p := by (with_reducible repeat (first | apply Kd.R_alloc | apply Kd.R_drewN | apply Kd.R_drew)); exact HO_2.out) : p := h
theorem z14_3 {p : Prop} (h : p := by first | rfl | (simp; done) | (simp [*]; done)) : p := h
theorem z14_2 {p : Prop} (h : p := by first | (with_reducible assumption) | assumption) : p := h
theorem z14_1 {p : Prop} (h : p := by first | exact Kd.R_nil _ _ _ _ _ | exact Kd.N_nil _ _ _ _ _ | exact Kd.V_nil _ _ _ _ _ | exact Kd.Q_nil _ _ _ _ _ | exact Kd.S_nil _ _ _ _ _) : p := h
theorem z14_0 {p : Prop} (h : p := by repeat (first | (with_reducible first | exact HB.out | apply below_alloc | apply pw_below_drewN | apply below_drew1) | exact HB.out)) : p := h

def tCo.l0 : Nat → List Int → List Int → Int → Int → Option (List Int)
 | 0, _, _, _, _ => none
 | k + 1, x2, x5, x6, x7 => if x7 < x6 then (if 0 ≤ x7 then (if x7 < (x5.length : Int) then (if x2.length < 17592186044416 then (tCo.l0 k (x2 ++ [wrap64 (rd x5 x7)]) x5 x6 (wrap64 (x7 + 1))) else (none)) else (none)) else (none)) else (some x2)
def tCo.f (k : Nat) (l0 : List Int) : Option (List Int) := tCo.l0 k ([] : List Int) l0 (l0.length : Int) 0
theorem tCo.mono_l : ∀ k, (∀ y0 y1 y2 y3, LeO (tCo.l0 k y0 y1 y2 y3) (tCo.l0 (k + 1) y0 y1 y2 y3))
 | 0 => fun _ _ _ _ r h => by simp [tCo.l0] at h
 | k + 1 => by
  have ih0 := tCo.mono_l k
  ·intro y0 y1 y2 y3
   unfold tCo.l0
   repeat' first
   | (with_reducible exact ih0 _ _ _ _)
   | (with_reducible exact LeO.refl _)
   | (with_reducible exact LeO.none _)
   | (with_reducible refine LeO.ite ?_ ?_)
   | (with_reducible refine LeO.bind ?_ (fun _ => ?_))
theorem tCo.mono : ∀ a0 k, LeO (tCo.f k a0) (tCo.f (k + 1) a0) := by
 intro a0 k
 have ih0 := tCo.mono_l k
 unfold tCo.f
 repeat' first
   | (with_reducible exact ih0 _ _ _ _)
   | (with_reducible exact LeO.refl _)
   | (with_reducible exact LeO.none _)
   | (with_reducible refine LeO.ite ?_ ?_)
   | (with_reducible refine LeO.bind ?_ (fun _ => ?_))
set_option maxHeartbeats 8000000 in
set_option maxRecDepth 100000 in
theorem tCo.calls (k : Nat) (A0 : Option Addr) (c0 : Nat) (l0 : List Int) (r : List Int) (w : World) (hr0 : Kd.C (Kd.int .i16) w A0 l0.length l0) (hc0 : l0.length ≤ c0) (h : tCo.f k l0 = some r) :
  Calls Try.prog 49 #[.slice A0 l0.length c0] w fun e w' => ∃ v0_ : Value, e = .returned (v0_) ∧ Kd.R (Kd.int .i64) 3 w' w.heap.size (fun _ => True) v0_ r ∧ Below w.heap.size w w' := by
 have HR0 := Aside0.mk hr0
 have HC0 := Aside0.mk hc0
 clear hr0 hc0
 have HB := Aside0.mk (Below.refl w.heap.size w)
 have H : (tCo.l0 k ([] : List Int) l0 (l0.length : Int) 0) = some r := h
 clear h
 have H' := Aside0.mk H
 clear H
 go_enter Try.func49, Try.ntmps49
 go_wp2
 go_loopg [2, 7] k (fun kq v2 v7 w' => ∃ (x2_1 : List Int) (x7_1 : Int), v7 = .int .i64 x7_1 ∧ Aside0 (tCo.l0 kq x2_1 l0 (l0.length : Int) x7_1 = some r) ∧ Aside0 (kq ≤ k) ∧ Aside0 (Kd.R (Kd.int .i64) 3 w' w.heap.size (fun _ => True) v2 x2_1) ∧ Aside0 (Below w.heap.size w w'))
 case atStart => exact ⟨(([] : List Int)), (0), z14_3, H', ⟨Nat.le_refl _⟩, ⟨z14_1⟩, ⟨z14_0⟩⟩
 case round =>
  clear H'
  obtain ⟨x2_1, x7_1, rfl, HA, HK1, HO_2, HB⟩ := hrel
  cases gk with
  | zero => exact absurd HA.out (by simp [tCo.l0])
  | succ k1 =>
   have H := HA.out
   clear HA
   simp only [tCo.l0] at H
   by_cases c2 : x7_1 < (l0.length : Int)
   ·rw [if_pos c2] at H
    have c2b0 : decide (x7_1 < (l0.length : Int)) = true := decide_eq_true c2
    clear c2
    by_cases c3 : 0 ≤ x7_1
    rotate_left
    ·rw [if_neg c3] at H
     exact absurd H (by simp)
    rw [if_pos c3] at H
    have c3b0 : decide (0 ≤ x7_1) = true := decide_eq_true c3
    clear c3
    by_cases c4 : x7_1 < (l0.length : Int)
    rotate_left
    ·rw [if_neg c4] at H
     exact absurd H (by simp)
    rw [if_pos c4] at H
    have c4b0 : decide (x7_1 < (l0.length : Int)) = true := decide_eq_true c4
    clear c4
    by_cases c5 : x2_1.length < 17592186044416
    rotate_left
    ·rw [if_neg c5] at H
     exact absurd H (by simp)
    rw [if_pos c5] at H
    have LMc5 := Aside0.mk c5
    clear c5
    obtain ⟨y399, hy399⟩ : ∃ y_ : List Int, y_ = (x2_1 ++ [wrap64 (rd l0 x7_1)]) := ⟨_, rfl⟩
    replace H : (tCo.l0 k1 y399 l0 (l0.length : Int) (wrap64 (x7_1 + 1))) = some r := by first | (rw [hy399]; with_reducible exact H) | (have H2_ := (Option.bind_some _ _).symm.trans H; rw [hy399]; with_reducible exact H2_) | (have H2_ := (Option.bind_some _ _).symm.trans H; with_reducible exact H2_) | with_reducible exact H | (rw [hy399]; exact H) | exact H
    have Ny399 := Aside0.mk hy399
    clear hy399
    have H' := Aside0.mk H
    clear H
    have p398 : 0 ≤ (x7_1 : Int) := of_decide_eq_true z14_2
    have q398 : x7_1 < (l0.length : Int) := of_decide_eq_true z14_2
    obtain ⟨ad398, e398, hx398_0⟩ := Kd.at_int HR0.out x7_1 p398 q398
    cases e398
    replace hx398_0 := (HB.out.cell (World.block_lt_of_cell? w _ hx398_0)).trans hx398_0
    replace p398 := eq_true p398
    replace q398 := eq_true q398
    go_wp2_with (first | ((with_reducible refine gate_builtin (b := .append) (xs := #[.tmp 11, .tmp 14]) rfl ?_); at_builtin; refine Kd.R_append (Kd.int .i64) (w0 := w) w.heap.size rfl (.tmp 11) (.tmp 14) 29 3 (.int .i64 0) 8 rfl Try.underlying29 info3 rfl (by decide) (by omega) u2 x2_1 (wrap64 (rd l0 x7_1)) [.int .i64 (wrap64 (rd l0 x7_1))] (fun _ => True) (fun _ => False) rfl rfl ?aP (fun _ hk => hk.elim) ?aF ?aO ?aB ?aS ?aL ?_; (case aP => exact rfl); (case aB => exact z14_0); (case aF => exact (fun _ _ => trivial)); (case aO => exact z14_4); (case aS => exact (below_size z14_0)); (case aL => have := LMc5.out; omega); intro v400 w6 ho hb hg hat; rw [← Ny399.out] at ho; have n0_ := Aside0.mk (hb); have n1_ := Aside0.mk (ho); clear HB; clear HO_2; have HB := n0_; have HO401 := n1_; clear n0_ n1_; clear ho hb hg hat))
    go_roundg k1
    case measure => have := HK1.out; omega
    case rel => exact ⟨(y399), (wrap64 (x7_1 + 1)), z14_3, H', ⟨by have := HK1.out; omega⟩, ⟨by (with_reducible repeat (first | apply Kd.R_alloc | apply Kd.R_drewN | apply Kd.R_drew)); exact HO401.out⟩, ⟨z14_0⟩⟩
   ·rw [if_neg c2] at H
    have c2b0 : decide (x7_1 < (l0.length : Int)) = false := decide_eq_false c2
    clear c2
    obtain rfl := Option.some.inj H
    go_wp2
    go_ret
    exact ⟨_, by first | rfl | (simp [errW_none, errW_some] <;> rfl) | (simp [*, errW_none, errW_some] <;> rfl), by (with_reducible repeat (first | apply Kd.R_alloc | apply Kd.R_drewN | apply Kd.R_drew)); exact HO_2.out, by repeat (first | (with_reducible first | exact HB.out | apply below_alloc | apply pw_below_drewN | apply below_drew1) | exact HB.out)⟩

def nU.l0 : Nat → List Int → List Int → Int → Int → Option (List Int)
 | 0, _, _, _, _ => none
 | k + 1, x2, x5, x6, x7 => if x7 < x6 then (if 0 ≤ x7 then (if x7 < (x5.length : Int) then (if x2.length < 17592186044416 then (nU.l0 k (x2 ++ [wrap64 (rd x5 x7)]) x5 x6 (wrap64 (x7 + 1))) else (none)) else (none)) else (none)) else (some x2)
def nU.f (k : Nat) (l0 : List Int) : Option (List Int) := nU.l0 k ([] : List Int) l0 (l0.length : Int) 0
theorem nU.mono_l : ∀ k, (∀ y0 y1 y2 y3, LeO (nU.l0 k y0 y1 y2 y3) (nU.l0 (k + 1) y0 y1 y2 y3))
 | 0 => fun _ _ _ _ r h => by simp [nU.l0] at h
 | k + 1 => by
  have ih0 := nU.mono_l k
  ·intro y0 y1 y2 y3
   unfold nU.l0
   repeat' first
   | (with_reducible exact ih0 _ _ _ _)
   | (with_reducible exact LeO.refl _)
   | (with_reducible exact LeO.none _)
   | (with_reducible refine LeO.ite ?_ ?_)
   | (with_reducible refine LeO.bind ?_ (fun _ => ?_))
theorem nU.mono : ∀ a0 k, LeO (nU.f k a0) (nU.f (k + 1) a0) := by
 intro a0 k
 have ih0 := nU.mono_l k
 unfold nU.f
 repeat' first
   | (with_reducible exact ih0 _ _ _ _)
   | (with_reducible exact LeO.refl _)
   | (with_reducible exact LeO.none _)
   | (with_reducible refine LeO.ite ?_ ?_)
   | (with_reducible refine LeO.bind ?_ (fun _ => ?_))
set_option maxHeartbeats 8000000 in
set_option maxRecDepth 100000 in
theorem nU.calls (k : Nat) (A0 : Option Addr) (c0 : Nat) (l0 : List Int) (r : List Int) (w : World) (hr0 : Kd.C (Kd.int .u16) w A0 l0.length l0) (hc0 : l0.length ≤ c0) (h : nU.f k l0 = some r) :
  Calls Try.prog 50 #[.slice A0 l0.length c0] w fun e w' => ∃ v0_ : Value, e = .returned (v0_) ∧ Kd.R (Kd.int .i64) 3 w' w.heap.size (fun _ => True) v0_ r ∧ Below w.heap.size w w' := by
 have HR0 := Aside0.mk hr0
 have HC0 := Aside0.mk hc0
 clear hr0 hc0
 have HB := Aside0.mk (Below.refl w.heap.size w)
 have H : (nU.l0 k ([] : List Int) l0 (l0.length : Int) 0) = some r := h
 clear h
 have H' := Aside0.mk H
 clear H
 go_enter Try.func50, Try.ntmps50
 go_wp2
 go_loopg [2, 7] k (fun kq v2 v7 w' => ∃ (x2_1 : List Int) (x7_1 : Int), v7 = .int .i64 x7_1 ∧ Aside0 (nU.l0 kq x2_1 l0 (l0.length : Int) x7_1 = some r) ∧ Aside0 (kq ≤ k) ∧ Aside0 (Kd.R (Kd.int .i64) 3 w' w.heap.size (fun _ => True) v2 x2_1) ∧ Aside0 (Below w.heap.size w w'))
 case atStart => exact ⟨(([] : List Int)), (0), z14_3, H', ⟨Nat.le_refl _⟩, ⟨z14_1⟩, ⟨z14_0⟩⟩
 case round =>
  clear H'
  obtain ⟨x2_1, x7_1, rfl, HA, HK1, HO_2, HB⟩ := hrel
  cases gk with
  | zero => exact absurd HA.out (by simp [nU.l0])
  | succ k1 =>
   have H := HA.out
   clear HA
   simp only [nU.l0] at H
   by_cases c2 : x7_1 < (l0.length : Int)
   ·rw [if_pos c2] at H
    have c2b0 : decide (x7_1 < (l0.length : Int)) = true := decide_eq_true c2
    clear c2
    by_cases c3 : 0 ≤ x7_1
    rotate_left
    ·rw [if_neg c3] at H
     exact absurd H (by simp)
    rw [if_pos c3] at H
    have c3b0 : decide (0 ≤ x7_1) = true := decide_eq_true c3
    clear c3
    by_cases c4 : x7_1 < (l0.length : Int)
    rotate_left
    ·rw [if_neg c4] at H
     exact absurd H (by simp)
    rw [if_pos c4] at H
    have c4b0 : decide (x7_1 < (l0.length : Int)) = true := decide_eq_true c4
    clear c4
    by_cases c5 : x2_1.length < 17592186044416
    rotate_left
    ·rw [if_neg c5] at H
     exact absurd H (by simp)
    rw [if_pos c5] at H
    have LMc5 := Aside0.mk c5
    clear c5
    obtain ⟨y403, hy403⟩ : ∃ y_ : List Int, y_ = (x2_1 ++ [wrap64 (rd l0 x7_1)]) := ⟨_, rfl⟩
    replace H : (nU.l0 k1 y403 l0 (l0.length : Int) (wrap64 (x7_1 + 1))) = some r := by first | (rw [hy403]; with_reducible exact H) | (have H2_ := (Option.bind_some _ _).symm.trans H; rw [hy403]; with_reducible exact H2_) | (have H2_ := (Option.bind_some _ _).symm.trans H; with_reducible exact H2_) | with_reducible exact H | (rw [hy403]; exact H) | exact H
    have Ny403 := Aside0.mk hy403
    clear hy403
    have H' := Aside0.mk H
    clear H
    have p402 : 0 ≤ (x7_1 : Int) := of_decide_eq_true z14_2
    have q402 : x7_1 < (l0.length : Int) := of_decide_eq_true z14_2
    obtain ⟨ad402, e402, hx402_0⟩ := Kd.at_int HR0.out x7_1 p402 q402
    cases e402
    replace hx402_0 := (HB.out.cell (World.block_lt_of_cell? w _ hx402_0)).trans hx402_0
    replace p402 := eq_true p402
    replace q402 := eq_true q402
    go_wp2_with (first | ((with_reducible refine gate_builtin (b := .append) (xs := #[.tmp 11, .tmp 14]) rfl ?_); at_builtin; refine Kd.R_append (Kd.int .i64) (w0 := w) w.heap.size rfl (.tmp 11) (.tmp 14) 29 3 (.int .i64 0) 8 rfl Try.underlying29 info3 rfl (by decide) (by omega) u2 x2_1 (wrap64 (rd l0 x7_1)) [.int .i64 (wrap64 (rd l0 x7_1))] (fun _ => True) (fun _ => False) rfl rfl ?aP (fun _ hk => hk.elim) ?aF ?aO ?aB ?aS ?aL ?_; (case aP => exact rfl); (case aB => exact z14_0); (case aF => exact (fun _ _ => trivial)); (case aO => exact z14_4); (case aS => exact (below_size z14_0)); (case aL => have := LMc5.out; omega); intro v404 w6 ho hb hg hat; rw [← Ny403.out] at ho; have n0_ := Aside0.mk (hb); have n1_ := Aside0.mk (ho); clear HB; clear HO_2; have HB := n0_; have HO405 := n1_; clear n0_ n1_; clear ho hb hg hat))
    go_roundg k1
    case measure => have := HK1.out; omega
    case rel => exact ⟨(y403), (wrap64 (x7_1 + 1)), z14_3, H', ⟨by have := HK1.out; omega⟩, ⟨by (with_reducible repeat (first | apply Kd.R_alloc | apply Kd.R_drewN | apply Kd.R_drew)); exact HO405.out⟩, ⟨z14_0⟩⟩
   ·rw [if_neg c2] at H
    have c2b0 : decide (x7_1 < (l0.length : Int)) = false := decide_eq_false c2
    clear c2
    obtain rfl := Option.some.inj H
    go_wp2
    go_ret
    exact ⟨_, by first | rfl | (simp [errW_none, errW_some] <;> rfl) | (simp [*, errW_none, errW_some] <;> rfl), by (with_reducible repeat (first | apply Kd.R_alloc | apply Kd.R_drewN | apply Kd.R_drew)); exact HO_2.out, by repeat (first | (with_reducible first | exact HB.out | apply below_alloc | apply pw_below_drewN | apply below_drew1) | exact HB.out)⟩

def nI.l0 : Nat → List Int → List Int → Int → Int → Option (List Int)
 | 0, _, _, _, _ => none
 | k + 1, x2, x5, x6, x7 => if x7 < x6 then (if 0 ≤ x7 then (if x7 < (x5.length : Int) then (if x2.length < 17592186044416 then (nI.l0 k (x2 ++ [wrap64 (rd x5 x7)]) x5 x6 (wrap64 (x7 + 1))) else (none)) else (none)) else (none)) else (some x2)
def nI.f (k : Nat) (l0 : List Int) : Option (List Int) := nI.l0 k ([] : List Int) l0 (l0.length : Int) 0
theorem nI.mono_l : ∀ k, (∀ y0 y1 y2 y3, LeO (nI.l0 k y0 y1 y2 y3) (nI.l0 (k + 1) y0 y1 y2 y3))
 | 0 => fun _ _ _ _ r h => by simp [nI.l0] at h
 | k + 1 => by
  have ih0 := nI.mono_l k
  ·intro y0 y1 y2 y3
   unfold nI.l0
   repeat' first
   | (with_reducible exact ih0 _ _ _ _)
   | (with_reducible exact LeO.refl _)
   | (with_reducible exact LeO.none _)
   | (with_reducible refine LeO.ite ?_ ?_)
   | (with_reducible refine LeO.bind ?_ (fun _ => ?_))
theorem nI.mono : ∀ a0 k, LeO (nI.f k a0) (nI.f (k + 1) a0) := by
 intro a0 k
 have ih0 := nI.mono_l k
 unfold nI.f
 repeat' first
   | (with_reducible exact ih0 _ _ _ _)
   | (with_reducible exact LeO.refl _)
   | (with_reducible exact LeO.none _)
   | (with_reducible refine LeO.ite ?_ ?_)
   | (with_reducible refine LeO.bind ?_ (fun _ => ?_))
set_option maxHeartbeats 8000000 in
set_option maxRecDepth 100000 in
theorem nI.calls (k : Nat) (A0 : Option Addr) (c0 : Nat) (l0 : List Int) (r : List Int) (w : World) (hr0 : Kd.C (Kd.int .i16) w A0 l0.length l0) (hc0 : l0.length ≤ c0) (h : nI.f k l0 = some r) :
  Calls Try.prog 51 #[.slice A0 l0.length c0] w fun e w' => ∃ v0_ : Value, e = .returned (v0_) ∧ Kd.R (Kd.int .i64) 3 w' w.heap.size (fun _ => True) v0_ r ∧ Below w.heap.size w w' := by
 have HR0 := Aside0.mk hr0
 have HC0 := Aside0.mk hc0
 clear hr0 hc0
 have HB := Aside0.mk (Below.refl w.heap.size w)
 have H : (nI.l0 k ([] : List Int) l0 (l0.length : Int) 0) = some r := h
 clear h
 have H' := Aside0.mk H
 clear H
 go_enter Try.func51, Try.ntmps51
 go_wp2
 go_loopg [2, 7] k (fun kq v2 v7 w' => ∃ (x2_1 : List Int) (x7_1 : Int), v7 = .int .i64 x7_1 ∧ Aside0 (nI.l0 kq x2_1 l0 (l0.length : Int) x7_1 = some r) ∧ Aside0 (kq ≤ k) ∧ Aside0 (Kd.R (Kd.int .i64) 3 w' w.heap.size (fun _ => True) v2 x2_1) ∧ Aside0 (Below w.heap.size w w'))
 case atStart => exact ⟨(([] : List Int)), (0), z14_3, H', ⟨Nat.le_refl _⟩, ⟨z14_1⟩, ⟨z14_0⟩⟩
 case round =>
  clear H'
  obtain ⟨x2_1, x7_1, rfl, HA, HK1, HO_2, HB⟩ := hrel
  cases gk with
  | zero => exact absurd HA.out (by simp [nI.l0])
  | succ k1 =>
   have H := HA.out
   clear HA
   simp only [nI.l0] at H
   by_cases c2 : x7_1 < (l0.length : Int)
   ·rw [if_pos c2] at H
    have c2b0 : decide (x7_1 < (l0.length : Int)) = true := decide_eq_true c2
    clear c2
    by_cases c3 : 0 ≤ x7_1
    rotate_left
    ·rw [if_neg c3] at H
     exact absurd H (by simp)
    rw [if_pos c3] at H
    have c3b0 : decide (0 ≤ x7_1) = true := decide_eq_true c3
    clear c3
    by_cases c4 : x7_1 < (l0.length : Int)
    rotate_left
    ·rw [if_neg c4] at H
     exact absurd H (by simp)
    rw [if_pos c4] at H
    have c4b0 : decide (x7_1 < (l0.length : Int)) = true := decide_eq_true c4
    clear c4
    by_cases c5 : x2_1.length < 17592186044416
    rotate_left
    ·rw [if_neg c5] at H
     exact absurd H (by simp)
    rw [if_pos c5] at H
    have LMc5 := Aside0.mk c5
    clear c5
    obtain ⟨y407, hy407⟩ : ∃ y_ : List Int, y_ = (x2_1 ++ [wrap64 (rd l0 x7_1)]) := ⟨_, rfl⟩
    replace H : (nI.l0 k1 y407 l0 (l0.length : Int) (wrap64 (x7_1 + 1))) = some r := by first | (rw [hy407]; with_reducible exact H) | (have H2_ := (Option.bind_some _ _).symm.trans H; rw [hy407]; with_reducible exact H2_) | (have H2_ := (Option.bind_some _ _).symm.trans H; with_reducible exact H2_) | with_reducible exact H | (rw [hy407]; exact H) | exact H
    have Ny407 := Aside0.mk hy407
    clear hy407
    have H' := Aside0.mk H
    clear H
    have p406 : 0 ≤ (x7_1 : Int) := of_decide_eq_true z14_2
    have q406 : x7_1 < (l0.length : Int) := of_decide_eq_true z14_2
    obtain ⟨ad406, e406, hx406_0⟩ := Kd.at_int HR0.out x7_1 p406 q406
    cases e406
    replace hx406_0 := (HB.out.cell (World.block_lt_of_cell? w _ hx406_0)).trans hx406_0
    replace p406 := eq_true p406
    replace q406 := eq_true q406
    go_wp2_with (first | ((with_reducible refine gate_builtin (b := .append) (xs := #[.tmp 11, .tmp 14]) rfl ?_); at_builtin; refine Kd.R_append (Kd.int .i64) (w0 := w) w.heap.size rfl (.tmp 11) (.tmp 14) 29 3 (.int .i64 0) 8 rfl Try.underlying29 info3 rfl (by decide) (by omega) u2 x2_1 (wrap64 (rd l0 x7_1)) [.int .i64 (wrap64 (rd l0 x7_1))] (fun _ => True) (fun _ => False) rfl rfl ?aP (fun _ hk => hk.elim) ?aF ?aO ?aB ?aS ?aL ?_; (case aP => exact rfl); (case aB => exact z14_0); (case aF => exact (fun _ _ => trivial)); (case aO => exact z14_4); (case aS => exact (below_size z14_0)); (case aL => have := LMc5.out; omega); intro v408 w6 ho hb hg hat; rw [← Ny407.out] at ho; have n0_ := Aside0.mk (hb); have n1_ := Aside0.mk (ho); clear HB; clear HO_2; have HB := n0_; have HO409 := n1_; clear n0_ n1_; clear ho hb hg hat))
    go_roundg k1
    case measure => have := HK1.out; omega
    case rel => exact ⟨(y407), (wrap64 (x7_1 + 1)), z14_3, H', ⟨by have := HK1.out; omega⟩, ⟨by (with_reducible repeat (first | apply Kd.R_alloc | apply Kd.R_drewN | apply Kd.R_drew)); exact HO409.out⟩, ⟨z14_0⟩⟩
   ·rw [if_neg c2] at H
    have c2b0 : decide (x7_1 < (l0.length : Int)) = false := decide_eq_false c2
    clear c2
    obtain rfl := Option.some.inj H
    go_wp2
    go_ret
    exact ⟨_, by first | rfl | (simp [errW_none, errW_some] <;> rfl) | (simp [*, errW_none, errW_some] <;> rfl), by (with_reducible repeat (first | apply Kd.R_alloc | apply Kd.R_drewN | apply Kd.R_drew)); exact HO_2.out, by repeat (first | (with_reducible first | exact HB.out | apply below_alloc | apply pw_below_drewN | apply below_drew1) | exact HB.out)⟩

end Go.Proofs.Ytchkmmbedgolbaa.PFnTuplesOf

