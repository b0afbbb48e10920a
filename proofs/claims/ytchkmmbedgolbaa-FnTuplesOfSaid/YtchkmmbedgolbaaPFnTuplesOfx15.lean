-- Written by a program of this session (xprint) out of the translation; Lean checks it.
import Derived.Test.YtchkmmbedgolbaaPFnTuplesOfx0
import Derived.Test.YtchkmmbedgolbaaPFnTuplesOfx13
import Derived.Test.YtchkmmbedgolbaaPFnTuplesOfx14
namespace Go.Proofs.Ytchkmmbedgolbaa.PFnTuplesOf
open Go.RowKit Go.Proofs.YtchkmmbedgolbaaW.PrintWords Go.Proofs.YtchkmmbedgolbaaW.PrintLast Go.Proofs.YtchkmmbedgolbaaW.PrintMore
attribute [local go_sem] max2_int min2_int max_two min_two max_three min_three max_four min_four   -- for this text's walks alone
set_option linter.unusedVariables false
set_option linter.unusedSimpArgs false
theorem prx15 {P : Program} {ops : Array Oper} {Q : Exit → Act → World → Prop} {md : Region.Mode} {S : World → Prop} {ds : List Nat} (i N : Nat) {oi : Oper} {v : Value} {fuel : Nat} {l : Array Bool} {a : Act} {w : World} (l' : Array Bool) {a' : Act} (h : wpAnyLast P md ops Q S ds fuel l' a' w) (hi : ops[i]? = some oi := by rfl) (hN : oi.dst = some N := by rfl) (hc : anyB md ops l l' i = true := by first | exact any_of HT_.out (by kernel_rfl) | kernel_rfl) (hQ : ∀ c a w, Q (.panic c) (a.put oi.dst v) w → Q (.panic c) a w := by exact fun _ _ _ h => h) (hy : Yields P ops oi v a := by refine Or.inl ⟨by rfl, ?_⟩; intro w'; go_simp; with_reducible rfl) (ha : a.put (some N) v = a' := by first | (simp only [Act.put, L1_, L2_, L3_, i64_w, i32_w]; rfl) | ((try go_ints); (try simp (disch := omega) only [n3_]); simp only [Act.put, L1_, L2_, L3_, i64_w, i32_w]; rfl)) : wpAnyLast P md ops Q S ds (fuel + 1) l a w := pure_ l' hi hN hc hQ hy ha h
theorem cz6x15 {w : World} {g : Nat} {t : TypeId} {v0 v1 v2 v3 v4 v5 : Value} (h : w.heap[g]? = some (.cells #[v0, v1, v2, v3, v4, v5] t (0, 0))) : w.cell? ⟨g, 0, none⟩ = some v0 ∧ w.cell? ⟨g, 1, none⟩ = some v1 ∧ w.cell? ⟨g, 2, none⟩ = some v2 ∧ w.cell? ⟨g, 3, none⟩ = some v3 ∧ w.cell? ⟨g, 4, none⟩ = some v4 ∧ w.cell? ⟨g, 5, none⟩ = some v5 := ⟨(blk_cell h 0).trans rfl, (blk_cell h 1).trans rfl, (blk_cell h 2).trans rfl, (blk_cell h 3).trans rfl, (blk_cell h 4).trans rfl, (blk_cell h 5).trans rfl⟩
theorem fz6x15 {w : World} {g : Nat} {t : TypeId} {cs : Array Value} (h : w.heap[g]? = some (.cells cs t (0, 0))) : w.frozen? ⟨g, 0, none⟩ = false ∧ w.frozen? ⟨g, 1, none⟩ = false ∧ w.frozen? ⟨g, 2, none⟩ = false ∧ w.frozen? ⟨g, 3, none⟩ = false ∧ w.frozen? ⟨g, 4, none⟩ = false ∧ w.frozen? ⟨g, 5, none⟩ = false := ⟨blk_frozen h 0, blk_frozen h 1, blk_frozen h 2, blk_frozen h 3, blk_frozen h 4, blk_frozen h 5⟩
theorem z15_24 {p : Prop} (h : p := by repeat (first | (with_reducible exact HR415_5.out) | (with_reducible refine Kd.C_alloc ?_ _) | (with_reducible refine Kd.C_drewN ?_ _) | (with_reducible refine Kd.C_drew ?_) | exact HR415_5.out)) : p := h
theorem z15_23 {p : Prop} (h : p := by repeat (first | (with_reducible exact HR415_4.out) | (with_reducible refine Kd.C_alloc ?_ _) | (with_reducible refine Kd.C_drewN ?_ _) | (with_reducible refine Kd.C_drew ?_) | exact HR415_4.out)) : p := h
theorem z15_22 {p : Prop} (h : p := by repeat (first | (with_reducible exact HR415_3.out) | (with_reducible refine Kd.C_alloc ?_ _) | (with_reducible refine Kd.C_drewN ?_ _) | (with_reducible refine Kd.C_drew ?_) | exact HR415_3.out)) : p := h
theorem z15_21 {p : Prop} (h : p := by repeat (first | (with_reducible exact HR415_2.out) | (with_reducible refine Kd.C_alloc ?_ _) | (with_reducible refine Kd.C_drewN ?_ _) | (with_reducible refine Kd.C_drew ?_) | exact HR415_2.out)) : p := h
theorem z15_20 {p : Prop} (h : p := by repeat (first | (with_reducible exact HR415_1.out) | (with_reducible refine Kd.C_alloc ?_ _) | (with_reducible refine Kd.C_drewN ?_ _) | (with_reducible refine Kd.C_drew ?_) | exact HR415_1.out)) : p := h
theorem z15_19 {p : Prop} (h : p := by repeat (first | (with_reducible exact HR415_0.out) | (with_reducible refine Kd.C_alloc ?_ _) | (with_reducible refine Kd.C_drewN ?_ _) | (with_reducible refine Kd.C_drew ?_) | exact HR415_0.out)) : p := h
theorem z15_18 {p : Prop} (h : p := by first | rfl | (simp; done) | (simp [*]; done)) : p := h
theorem z15_17 {p : Prop} (h : p := by first | (with_reducible assumption) | assumption) : p := h
theorem z15_16 {p : Prop} (h : p := by kernel_rfl) : p := h
theorem z15_15 {p : Prop} (h : p := by (with_reducible repeat (first | apply Kd.R_alloc | apply Kd.R_drewN | apply Kd.R_drew)); exact HO428.out) : p := h
theorem z15_14 {p : Prop} (h : p := by first | exact Kd.S_nil _ _ _ _ _ | exact Kd.N_nil _ _ _ _ _ | exact Kd.V_nil _ _ _ _ _ | exact Kd.Q_nil _ _ _ _ _ | exact Kd.R_nil _ _ _ _ _) : p := h
theorem z15_13 {p : Prop} (h : p := by (with_reducible repeat (first | apply b1_ | apply b2_ | apply b3_)); exact BK416.out) : p := h
theorem z15_12 {p : Prop} (h : p := by (with_reducible repeat (first | apply Kd.R_alloc | apply Kd.R_drewN | apply Kd.R_drew)); exact HO425.out) : p := h
theorem z15_11 {p : Prop} (h : p := by (with_reducible repeat (first | apply Kd.R_alloc | apply Kd.R_drewN | apply Kd.R_drew)); exact HO422.out) : p := h
theorem z15_10 {p : Prop} (h : p := by (with_reducible repeat (first | apply Kd.V_alloc | apply Kd.V_drewN | apply Kd.V_drew)); exact HO_36.out) : p := h
theorem z15_9 {p : Prop} (h : p := by (with_reducible repeat (first | apply Kd.V_alloc | apply Kd.V_drewN | apply Kd.V_drew)); exact HL415_5.out) : p := h
theorem z15_8 {p : Prop} (h : p := by (with_reducible repeat (first | apply Kd.V_alloc | apply Kd.V_drewN | apply Kd.V_drew)); exact HL415_4.out) : p := h
theorem z15_7 {p : Prop} (h : p := by (with_reducible repeat (first | apply Kd.V_alloc | apply Kd.V_drewN | apply Kd.V_drew)); exact HL415_3.out) : p := h
theorem z15_6 {p : Prop} (h : p := by (with_reducible repeat (first | apply Kd.V_alloc | apply Kd.V_drewN | apply Kd.V_drew)); exact HL415_2.out) : p := h
theorem z15_5 {p : Prop} (h : p := by (with_reducible repeat (first | apply Kd.V_alloc | apply Kd.V_drewN | apply Kd.V_drew)); exact HL415_1.out) : p := h
theorem z15_4 {p : Prop} (h : p := by (with_reducible repeat (first | apply Kd.V_alloc | apply Kd.V_drewN | apply Kd.V_drew)); exact HL415_0.out) : p := h
theorem z15_3 {p : Prop} (h : p := by (with_reducible repeat (first | apply Kd.R_alloc | apply Kd.R_drewN | apply Kd.R_drew)); exact HO419.out) : p := h
theorem z15_2 {p : Prop} (h : p := by (try simp only [List.map_toArray, List.map_cons, List.map_nil]); first | done | rfl | (simp only [List.length_drop, List.length_take]; rfl)) : p := h
theorem z15_1 {p : Prop} (h : p := by (with_reducible repeat (first | apply Kd.S_alloc | apply Kd.S_drewN | apply Kd.S_drew)); exact HO_6.out) : p := h
theorem z15_0 {p : Prop} (h : p := by repeat (first | (with_reducible first | exact HB.out | apply below_alloc | apply pw_below_drewN | apply below_drew1 | refine below_set ?_ GE416.out) | exact HB.out)) : p := h

mutual
def iTO.j0 : Nat → List Int → Int → Int → List (S62) → Bool → Option ((List (S62)) × Bool × Bool)
 | 0, _, _, _, _, _ => none
 | k + 1, x0, x1, x2, x6, x26 => if x26 = true then (some (([] : List (S62)), false, false)) else ((zT.f k x0 x1 x2).bind fun bt410 => (if bt410.2.isNone = true then (iTO.l0 k x6 bt410.1 (bt410.1.length : Int) 0) else (some (([] : List (S62)), false, false))))
def iTO.l0 : Nat → List (S62) → List (S143) → Int → Int → Option ((List (S62)) × Bool × Bool)
 | 0, _, _, _, _ => none
 | k + 1, x6, x36, x37, x38 => if x38 < x37 then (if 0 ≤ x38 then (if x38 < (x36.length : Int) then (if (((rd_T143 x36 x38).f0).length : Int) = 0 then (some (([] : List (S62)), true, false)) else ((tCo.f k ((rd_T143 x36 x38).f0)).bind fun t417 => ((tCo.f k ((rd_T143 x36 x38).f1)).bind fun t420 => ((tCo.f k ((rd_T143 x36 x38).f2)).bind fun t423 => ((nU.f k ((rd_T143 x36 x38).f3)).bind fun t426 => ((nI.f k ((rd_T143 x36 x38).f4)).bind fun t429 => ((nI.f k ((rd_T143 x36 x38).f5)).bind fun t432 => (if x6.length < 925904528653 then (iTO.l0 k (x6 ++ [(⟨t417, decide ((((rd_T143 x36 x38).f1).length : Int) > 0), t420, t423, t426, t429, t432⟩ : S62)]) x36 x37 (wrap64 (x38 + 1))) else (none))))))))) else (none)) else (none)) else (some (x6, true, true))
end
def iTO.f (k : Nat) (l0 : List Int) (a1 : Int) (a2 : Int) : Option ((List (S62)) × Bool × Bool) := if a1 < 1 then (iTO.j0 k l0 a1 a2 ([] : List (S62)) true) else (if a1 > 60 then (iTO.j0 k l0 a1 a2 ([] : List (S62)) true) else (if a2 < 4 then (iTO.j0 k l0 a1 a2 ([] : List (S62)) true) else (iTO.j0 k l0 a1 a2 ([] : List (S62)) (decide (a2 > 4000)))))
theorem iTO.mono_l : ∀ k, (∀ y0 y1 y2 y3 y4, LeO (iTO.j0 k y0 y1 y2 y3 y4) (iTO.j0 (k + 1) y0 y1 y2 y3 y4)) ∧ (∀ y0 y1 y2 y3, LeO (iTO.l0 k y0 y1 y2 y3) (iTO.l0 (k + 1) y0 y1 y2 y3))
 | 0 => ⟨fun _ _ _ _ _ r h => by simp [iTO.j0] at h, fun _ _ _ _ r h => by simp [iTO.l0] at h⟩
 | k + 1 => by
  obtain ⟨ih0, ih1⟩ := iTO.mono_l k
  refine ⟨?_, ?_⟩
  all_goals intros
  all_goals first | unfold iTO.j0 | unfold iTO.l0
  all_goals repeat' first
  | (with_reducible exact ih0 _ _ _ _ _)
  | (with_reducible exact ih1 _ _ _ _)
  | (with_reducible exact zT.mono _ _ _ _)
  | (with_reducible exact nI.mono _ _)
  | (with_reducible exact nU.mono _ _)
  | (with_reducible exact tCo.mono _ _)
  | (with_reducible exact LeO.refl _)
  | (with_reducible exact LeO.none _)
  | (with_reducible refine LeO.ite ?_ ?_)
  | (with_reducible refine LeO.bind ?_ (fun _ => ?_))
theorem iTO.mono : ∀ a0 a1 a2 k, LeO (iTO.f k a0 a1 a2) (iTO.f (k + 1) a0 a1 a2) := by
 intro a0 a1 a2 k
 obtain ⟨ih0, ih1⟩ := iTO.mono_l k
 unfold iTO.f
 repeat' first
   | (with_reducible exact ih0 _ _ _ _ _)
   | (with_reducible exact ih1 _ _ _ _)
   | (with_reducible exact zT.mono _ _ _ _)
   | (with_reducible exact nI.mono _ _)
   | (with_reducible exact nU.mono _ _)
   | (with_reducible exact tCo.mono _ _)
   | (with_reducible exact LeO.refl _)
   | (with_reducible exact LeO.none _)
   | (with_reducible refine LeO.ite ?_ ?_)
   | (with_reducible refine LeO.bind ?_ (fun _ => ?_))
def iTO.T11 : Bool × List (List Nat × List Nat) := (true, [([], []), ([], []), ([1], [1]), ([2], [2]), ([], []), ([4], [4]), ([5], [5]), ([6], [6]), ([], []), ([8], [8]), ([9, 3], [9]), ([], []), ([11], [11]), ([12, 10], [12]), ([], []), ([14], [14]), ([15, 13], [15]), ([], []), ([17], [17]), ([18, 16], [18]), ([], []), ([20], [20]), ([21, 19], [21]), ([3, 7, 10, 13, 16, 19, 22], [3, 7, 10, 13, 16, 19, 22]), ([23], [23]), ([0, 24, 22], [0, 24]), ([25, 25, 0, 1, 2, 3, 4, 5, 6, 7, 8, 9, 10, 11, 12, 13, 14, 15, 16, 17, 18, 19, 20, 21, 22, 23, 24, 25], [0, 25])])
def iTO.B11 : List Nat := [0, 0, 2, 6, 0, 16, 48, 112, 0, 256, 782, 0, 2048, 7950, 0, 16384, 65294, 0, 131072, 524046, 0, 1048576, 4194062, 8388606, 16777214, 33554431, 67108863]
theorem iTO.tab11 : rtab .any (opsOf Try.f27 11) = iTO.T11 := by kernel_rfl
theorem iTO.bits11 : waitsOk iTO.T11.2 iTO.B11 = true := by kernel_rfl
set_option maxHeartbeats 8000000 in
set_option maxRecDepth 100000 in
theorem iTO.calls (k : Nat) (A0 : Option Addr) (c0 : Nat) (l0 : List Int) (a1 : Int) (a2 : Int) (r1 : List (S62)) (r2 : Bool) (r3 : Bool) (w : World) (hr0 : Kd.C (Kd.int .u8) w A0 l0.length l0) (hc0 : l0.length ≤ c0) (h : iTO.f k l0 a1 a2 = some (r1, r2, r3)) :
  Calls Try.prog 27 #[.slice A0 l0.length c0, .int .i64 a1, .int .i64 a2] w fun e w' => ∃ v0_ : Value, e = .returned (.tuple #[v0_, .bool r2, .bool r3]) ∧ Kd.S k62 62 w' w.heap.size (fun _ => True) v0_ r1 ∧ Below w.heap.size w w' := by
 have hu143 := Try.underlying143
 have hu62 := Try.underlying62
 have hu115 := Try.underlying115
 have HR0 := Aside0.mk hr0
 have HC0 := Aside0.mk hc0
 clear hr0 hc0
 have HB := Aside0.mk (Below.refl w.heap.size w)
 have H : (if a1 < 1 then (iTO.j0 k l0 a1 a2 ([] : List (S62)) true) else (if a1 > 60 then (iTO.j0 k l0 a1 a2 ([] : List (S62)) true) else (if a2 < 4 then (iTO.j0 k l0 a1 a2 ([] : List (S62)) true) else (iTO.j0 k l0 a1 a2 ([] : List (S62)) (decide (a2 > 4000)))))) = some (r1, r2, r3) := h
 clear h
 have HC4 := Aside0.mk H
 clear H
 go_enter Try.func27, Try.ntmps27
 go_upto_region 1 with (fail)
 go_cut [26] (fun v26 wc => ∃ (kq : Nat) (x26_3 : Bool), v26 = .bool x26_3 ∧ Aside0 (iTO.j0 kq l0 a1 a2 ([] : List (S62)) x26_3 = some (r1, r2, r3)) ∧ Aside0 (kq ≤ k) ∧ Aside0 (Kd.S k62 62 wc w.heap.size (fun _ => True) (.slice none 0 0) ([] : List (S62))) ∧ Aside0 (Below w.heap.size w wc))
 case first =>
  have H := HC4.out
  clear HC4
  by_cases c5 : a1 < 1
  ·rw [if_pos c5] at H
   have c5b0 : decide (a1 < 1) = true := decide_eq_true c5
   clear c5
   (first | rw [c5b0] | (simp only [i64_w, i32_w]; rw [c5b0]) | skip)
   have H' := Aside0.mk H
   clear H
   go_wp2
   go_meet
   case rel => exact ⟨_, (true), z15_18, H', ⟨by first | omega | exact Nat.le_refl _⟩, ⟨z15_14⟩, ⟨z15_0⟩⟩
  ·rw [if_neg c5] at H
   have c5b0 : decide (a1 < 1) = false := decide_eq_false c5
   clear c5
   (first | rw [c5b0] | (simp only [i64_w, i32_w]; rw [c5b0]) | skip)
   by_cases c6 : a1 > 60
   ·rw [if_pos c6] at H
    have c6b0 : decide (60 < a1) = true := decide_eq_true c6
    clear c6
    have H' := Aside0.mk H
    clear H
    go_wp2
    go_meet
    case rel => exact ⟨_, (true), z15_18, H', ⟨by first | omega | exact Nat.le_refl _⟩, ⟨z15_14⟩, ⟨z15_0⟩⟩
   ·rw [if_neg c6] at H
    have c6b0 : decide (60 < a1) = false := decide_eq_false c6
    clear c6
    by_cases c7 : a2 < 4
    ·rw [if_pos c7] at H
     have c7b0 : decide (a2 < 4) = true := decide_eq_true c7
     clear c7
     have H' := Aside0.mk H
     clear H
     go_wp2
     go_meet
     case rel => exact ⟨_, (true), z15_18, H', ⟨by first | omega | exact Nat.le_refl _⟩, ⟨z15_14⟩, ⟨z15_0⟩⟩
    ·rw [if_neg c7] at H
     have c7b0 : decide (a2 < 4) = false := decide_eq_false c7
     clear c7
     have H' := Aside0.mk H
     clear H
     go_wp2
     go_meet
     case rel => exact ⟨_, (decide (a2 > 4000)), z15_18, H', ⟨by first | omega | exact Nat.le_refl _⟩, ⟨z15_14⟩, ⟨z15_0⟩⟩
 case rest =>
  clear HC4
  obtain ⟨kq, x26_3, rfl, HA, HJ3, HO_6, HB⟩ := hcut
  cases kq with
  | zero => exact absurd HA.out (by simp [iTO.j0])
  | succ kj3 =>
   have H := HA.out
   clear HA
   simp only [iTO.j0] at H
   by_cases c8 : x26_3 = true
   ·subst c8
    have H1 : (some (([] : List (S62)), false, false)) = some (r1, r2, r3) := by rw [if_pos rfl] at H; exact H
    clear H
    have H := H1
    clear H1
    simp only [Option.some.injEq, Prod.mk.injEq] at H
    obtain ⟨rfl, rfl, rfl⟩ := H
    go_wp2
    go_ret3
    exact ⟨_, by first | rfl | (simp [errW_none, errW_some] <;> rfl) | (simp [*, errW_none, errW_some] <;> rfl), by first | exact Kd.S_nil _ _ _ _ _ | exact Kd.N_nil _ _ _ _ _ | exact Kd.V_nil _ _ _ _ _ | exact Kd.Q_nil _ _ _ _ _ | exact Kd.R_nil _ _ _ _ _, by repeat (first | (with_reducible first | exact HB.out | apply below_alloc | apply pw_below_drewN | apply below_drew1 | refine below_set ?_ GE416.out) | exact HB.out)⟩
   ·replace c8 := Bool.eq_false_iff.mpr c8
    subst c8
    have H1 : ((zT.f kj3 l0 a1 a2).bind fun bt410 => (if bt410.2.isNone = true then (iTO.l0 kj3 ([] : List (S62)) bt410.1 (bt410.1.length : Int) 0) else (some (([] : List (S62)), false, false)))) = some (r1, r2, r3) := by rw [if_neg (show ¬ (false = true) by decide)] at H; exact H
    clear H
    have H := H1
    clear H1
    replace H := Option.bind_eq_some_iff.mp H
    obtain ⟨⟨t410, t411⟩, A90, H⟩ := H
    replace H : (if t411.isNone = true then (iTO.l0 kj3 ([] : List (S62)) t410 (t410.length : Int) 0) else (some (([] : List (S62)), false, false))) = some (r1, r2, r3) := H
    have A9 := Aside0.mk A90
    clear A90
    rcases t411 with _ | q414
    ·have H1 : (iTO.l0 kj3 ([] : List (S62)) t410 (t410.length : Int) 0) = some (r1, r2, r3) := by rw [if_pos (show (none : Option Int).isNone = true by rfl)] at H; exact H
     clear H
     have H := H1
     clear H1
     try simp only [errW_none, errW_some]
     have H' := Aside0.mk H
     clear H
     go_wp2_with (first | ((with_reducible refine gate_callee (f := 48) rfl ?_); refine goesL_ (some 31) rfl rfl Try.func48 z15_16 rfl #[.slice A0 l0.length c0, .int .i64 a1, .int .i64 a2] rfl z15_2 ?_; (with_reducible refine (zT.calls kj3 _ _ l0 a1 a2 t410 none _ ?side1 ?side2 A9.out).mono ?_); (case side1 => repeat (first | exact (Kd.C_below HR0.out HB.out) | (with_reducible refine Kd.C_alloc ?_ _) | (with_reducible refine Kd.C_drewN ?_ _) | (with_reducible refine Kd.C_drew ?_))); (case side2 => exact HC0.out); rintro e w12 ⟨v412, ev10, rfl, ho0, he11, hb⟩; refine ⟨_, rfl, ?_⟩; have n0_ := Aside0.mk (Kd.S_below z15_1 hb); have n1_ := Aside0.mk (Kd.V_lower (Kd.V_mono (ok' := fun k_ => some k_ ≠ (.slice none 0 0 : Value).ownBlock) ho0 (fun k_ hk_ => (Kd.fresh' (Kd.S_lt z15_1) k_ hk_))) (below_size z15_0)); have n2_ := Aside0.mk (below_step z15_0 hb); clear HO_6; clear HB; have HO_6 := n0_; have HO413 := n1_; have HB := n2_; clear n0_ n1_ n2_ hb ho0; (first | (obtain rfl := EV_none he11) | (obtain ⟨te_, pe_, rfl⟩ := EV_some he11) | skip); obtain ⟨Ao13, co13, eo13⟩ := Kd.V_slice HO413.out; subst eo13))
     go_loopg [6, 38] kj3 (fun kq v6 v38 w' => ∃ (x6_2 : List (S62)) (x38_2 : Int), v38 = .int .i64 x38_2 ∧ Aside0 (iTO.l0 kq x6_2 t410 (t410.length : Int) x38_2 = some (r1, r2, r3)) ∧ Aside0 (kq ≤ kj3) ∧ Aside0 (Kd.S k62 62 w' w.heap.size (fun _ => True) v6 x6_2) ∧ Aside0 (Kd.V k143 143 w' w.heap.size (fun k_ => some k_ ≠ (v6 : Value).ownBlock) (.slice Ao13 t410.length co13) t410) ∧ Aside0 (Below w.heap.size w w'))
     case atStart => exact ⟨(([] : List (S62))), (0), z15_18, H', ⟨Nat.le_refl _⟩, ⟨z15_1⟩, ⟨by (with_reducible repeat (first | apply Kd.V_alloc | apply Kd.V_drewN | apply Kd.V_drew)); exact HO413.out⟩, ⟨z15_0⟩⟩
     case round =>
      clear H'
      obtain ⟨x6_2, x38_2, rfl, HA, HK2, HO_6, HO_36, HB⟩ := hrel
      cases gk with
      | zero => exact absurd HA.out (by simp [iTO.l0])
      | succ k2 =>
       have H := HA.out
       clear HA
       simp only [iTO.l0] at H
       by_cases c14 : x38_2 < (t410.length : Int)
       ·rw [if_pos c14] at H
        have c14b0 : decide (x38_2 < (t410.length : Int)) = true := decide_eq_true c14
        clear c14
        by_cases c15 : 0 ≤ x38_2
        rotate_left
        ·rw [if_neg c15] at H
         exact absurd H (by simp)
        rw [if_pos c15] at H
        have c15b0 : decide (0 ≤ x38_2) = true := decide_eq_true c15
        clear c15
        by_cases c16 : x38_2 < (t410.length : Int)
        rotate_left
        ·rw [if_neg c16] at H
         exact absurd H (by simp)
        rw [if_pos c16] at H
        have c16b0 : decide (x38_2 < (t410.length : Int)) = true := decide_eq_true c16
        clear c16
        by_cases c17 : (((rd_T143 t410 x38_2).f0).length : Int) = 0
        ·rw [if_pos c17] at H
         have c17b0 : ((((rd_T143 t410 x38_2).f0).length : Int) == 0) = true := beq_iff_eq.mpr c17
         have c17b1 : ((((rd_T143 t410 x38_2).f0).length : Int) != 0) = false := bne_eq_false_iff_eq.mpr c17
         clear c17
         simp only [Option.some.injEq, Prod.mk.injEq] at H
         obtain ⟨rfl, rfl, rfl⟩ := H
         have p415 : 0 ≤ (x38_2 : Int) := of_decide_eq_true z15_17
         have q415 : x38_2 < (t410.length : Int) := of_decide_eq_true z15_17
         obtain ⟨ad415, A415_0, c415_0, A415_1, c415_1, A415_2, c415_2, A415_3, c415_3, A415_4, c415_4, A415_5, c415_5, e415, hx415_0, hx415_1, hx415_2, hx415_3, hx415_4, hx415_5, hl415_0, hi415_0, hl415_1, hi415_1, hl415_2, hi415_2, hl415_3, hi415_3, hl415_4, hi415_4, hl415_5, hi415_5⟩ := at_T143 (Kd.V_reads' HO_36.out).2.2 x38_2 p415 q415
         cases e415
         obtain ⟨ce415, hce415, hMe415, hcc415⟩ := Kd.V_get HO_36.out z143 x38_2 p415 (by first | exact q415 | exact of_decide_eq_true z15_17 | (have e_ := (Kd.V_reads' HO_36.out).1; omega))
         obtain ⟨ua415_0, uc415_0, ua415_1, uc415_1, ua415_2, uc415_2, ua415_3, uc415_3, ua415_4, uc415_4, ua415_5, uc415_5, rfl, ul415_0, ge415_0, ul415_1, ge415_1, ul415_2, ge415_2, ul415_3, ge415_3, ul415_4, ge415_4, ul415_5, ge415_5⟩ := k143_openF hMe415
         have hv415_0 := hcc415 0 _ rfl
         rw [Nat.add_zero] at hv415_0
         replace hv415_0 := Option.some.inj (hv415_0.symm.trans hx415_0)
         injection hv415_0 with hva_ hvn_ hvc_
         rw [hva_] at ge415_0
         rw [hvc_] at ul415_0
         have HL415_0 := Aside0.mk (show Kd.V (Kd.int .i16) 145 _ w.heap.size _ _ ((rd_T143 t410 x38_2).f0) from Kd.V_mk ul415_0 ge415_0)
         clear hva_ hvn_ hvc_ ge415_0 ul415_0
         have hv415_1 := hcc415 1 _ rfl
         rw [add_field _ _ 1 (by omega)] at hv415_1
         replace hv415_1 := Option.some.inj (hv415_1.symm.trans hx415_1)
         injection hv415_1 with hva_ hvn_ hvc_
         rw [hva_] at ge415_1
         rw [hvc_] at ul415_1
         have HL415_1 := Aside0.mk (show Kd.V (Kd.int .i16) 145 _ w.heap.size _ _ ((rd_T143 t410 x38_2).f1) from Kd.V_mk ul415_1 ge415_1)
         clear hva_ hvn_ hvc_ ge415_1 ul415_1
         have hv415_2 := hcc415 2 _ rfl
         rw [add_field _ _ 2 (by omega)] at hv415_2
         replace hv415_2 := Option.some.inj (hv415_2.symm.trans hx415_2)
         injection hv415_2 with hva_ hvn_ hvc_
         rw [hva_] at ge415_2
         rw [hvc_] at ul415_2
         have HL415_2 := Aside0.mk (show Kd.V (Kd.int .i16) 145 _ w.heap.size _ _ ((rd_T143 t410 x38_2).f2) from Kd.V_mk ul415_2 ge415_2)
         clear hva_ hvn_ hvc_ ge415_2 ul415_2
         have hv415_3 := hcc415 3 _ rfl
         rw [add_field _ _ 3 (by omega)] at hv415_3
         replace hv415_3 := Option.some.inj (hv415_3.symm.trans hx415_3)
         injection hv415_3 with hva_ hvn_ hvc_
         rw [hva_] at ge415_3
         rw [hvc_] at ul415_3
         have HL415_3 := Aside0.mk (show Kd.V (Kd.int .u16) 35 _ w.heap.size _ _ ((rd_T143 t410 x38_2).f3) from Kd.V_mk ul415_3 ge415_3)
         clear hva_ hvn_ hvc_ ge415_3 ul415_3
         have hv415_4 := hcc415 4 _ rfl
         rw [add_field _ _ 4 (by omega)] at hv415_4
         replace hv415_4 := Option.some.inj (hv415_4.symm.trans hx415_4)
         injection hv415_4 with hva_ hvn_ hvc_
         rw [hva_] at ge415_4
         rw [hvc_] at ul415_4
         have HL415_4 := Aside0.mk (show Kd.V (Kd.int .i16) 30 _ w.heap.size _ _ ((rd_T143 t410 x38_2).f4) from Kd.V_mk ul415_4 ge415_4)
         clear hva_ hvn_ hvc_ ge415_4 ul415_4
         have hv415_5 := hcc415 5 _ rfl
         rw [add_field _ _ 5 (by omega)] at hv415_5
         replace hv415_5 := Option.some.inj (hv415_5.symm.trans hx415_5)
         injection hv415_5 with hva_ hvn_ hvc_
         rw [hva_] at ge415_5
         rw [hvc_] at ul415_5
         have HL415_5 := Aside0.mk (show Kd.V (Kd.int .i16) 30 _ w.heap.size _ _ ((rd_T143 t410 x38_2).f5) from Kd.V_mk ul415_5 ge415_5)
         clear hva_ hvn_ hvc_ ge415_5 ul415_5
         clear hcc415 hce415
         have HR415_0 := Aside0.mk hi415_0
         have HC415_0 := Aside0.mk hl415_0
         clear hi415_0 hl415_0
         have HR415_1 := Aside0.mk hi415_1
         have HC415_1 := Aside0.mk hl415_1
         clear hi415_1 hl415_1
         have HR415_2 := Aside0.mk hi415_2
         have HC415_2 := Aside0.mk hl415_2
         clear hi415_2 hl415_2
         have HR415_3 := Aside0.mk hi415_3
         have HC415_3 := Aside0.mk hl415_3
         clear hi415_3 hl415_3
         have HR415_4 := Aside0.mk hi415_4
         have HC415_4 := Aside0.mk hl415_4
         clear hi415_4 hl415_4
         have HR415_5 := Aside0.mk hi415_5
         have HC415_5 := Aside0.mk hl415_5
         clear hi415_5 hl415_5
         replace p415 := eq_true p415
         replace q415 := eq_true q415
         go_wp2_with (first | ((with_reducible refine gate_dst (N := 12) rfl ?_); refine box_event ?hg (N := 12) ?hd (cs := #[.slice none 0 0, .slice none 0 0, .slice none 0 0, .slice none 0 0, .slice none 0 0, .slice none 0 0]) (t := 143) ?hr ?_; (case hd => rfl); (case hg => rfl); (case hr => first | (go_simp; done) | (go_simp; rfl)); intro gb416 hg w18 hbox hb; have n0_ := Aside0.mk (Kd.S_below z15_1 hb); have n1_ := Aside0.mk (Kd.V_below (Kd.V_elderB z15_10 gb416 (Nat.le_of_eq hg.symm)) hb); have n2_ := Aside0.mk (Kd.V_below (Kd.V_elderB z15_4 gb416 (Nat.le_of_eq hg.symm)) hb); have n3_ := Aside0.mk (Kd.V_below (Kd.V_elderB z15_5 gb416 (Nat.le_of_eq hg.symm)) hb); have n4_ := Aside0.mk (Kd.V_below (Kd.V_elderB z15_6 gb416 (Nat.le_of_eq hg.symm)) hb); have n5_ := Aside0.mk (Kd.V_below (Kd.V_elderB z15_7 gb416 (Nat.le_of_eq hg.symm)) hb); have n6_ := Aside0.mk (Kd.V_below (Kd.V_elderB z15_8 gb416 (Nat.le_of_eq hg.symm)) hb); have n7_ := Aside0.mk (Kd.V_below (Kd.V_elderB z15_9 gb416 (Nat.le_of_eq hg.symm)) hb); have n8_ := Aside0.mk (Kd.C_below z15_19 hb); have n9_ := Aside0.mk (Kd.C_below z15_20 hb); have n10_ := Aside0.mk (Kd.C_below z15_21 hb); have n11_ := Aside0.mk (Kd.C_below z15_22 hb); have n12_ := Aside0.mk (Kd.C_below z15_23 hb); have n13_ := Aside0.mk (Kd.C_below z15_24 hb); have n14_ := Aside0.mk (below_step z15_0 hb); have n15_ := Aside0.mk (hbox); have n16_ := Aside0.mk ((by rw [hg]; exact (below_size z15_0) : w.heap.size ≤ gb416)); have n17_ := Aside0.mk ((by rw [hg]; exact (below_size z15_0) : w.heap.size ≤ gb416)); clear HO_6; clear HO_36; clear HL415_0; clear HL415_1; clear HL415_2; clear HL415_3; clear HL415_4; clear HL415_5; clear HR415_0; clear HR415_1; clear HR415_2; clear HR415_3; clear HR415_4; clear HR415_5; clear HB; have HO_6 := n0_; have HO_36 := n1_; have HL415_0 := n2_; have HL415_1 := n3_; have HL415_2 := n4_; have HL415_3 := n5_; have HL415_4 := n6_; have HL415_5 := n7_; have HR415_0 := n8_; have HR415_1 := n9_; have HR415_2 := n10_; have HR415_3 := n11_; have HR415_4 := n12_; have HR415_5 := n13_; have HB := n14_; have BK416 := n15_; have GW416 := n16_; have GE416 := n17_; clear n0_ n1_ n2_ n3_ n4_ n5_ n6_ n7_ n8_ n9_ n10_ n11_ n12_ n13_ n14_ n15_ n16_ n17_; clear hb hbox hg; obtain ⟨hcz19_0, hcz19_1, hcz19_2, hcz19_3, hcz19_4, hcz19_5⟩ := cz6x15 BK416.out; obtain ⟨hfz19_0, hfz19_1, hfz19_2, hfz19_3, hfz19_4, hfz19_5⟩ := fz6x15 BK416.out))
         go_ret3
         exact ⟨_, by first | rfl | (simp [errW_none, errW_some] <;> rfl) | (simp [*, errW_none, errW_some] <;> rfl), by first | exact Kd.S_nil _ _ _ _ _ | exact Kd.N_nil _ _ _ _ _ | exact Kd.V_nil _ _ _ _ _ | exact Kd.Q_nil _ _ _ _ _ | exact Kd.R_nil _ _ _ _ _, by repeat (first | (with_reducible first | exact HB.out | apply below_alloc | apply pw_below_drewN | apply below_drew1 | refine below_set ?_ GE416.out) | exact HB.out)⟩
        ·rw [if_neg c17] at H
         have c17b0 : ((((rd_T143 t410 x38_2).f0).length : Int) == 0) = false := beq_eq_false_iff_ne.mpr c17
         have c17b1 : ((((rd_T143 t410 x38_2).f0).length : Int) != 0) = true := bne_iff_ne.mpr c17
         have c17b2 : ¬ (((rd_T143 t410 x38_2).f0) = []) := fun h_ => c17 (by rw [h_]; rfl)
         replace H := Option.bind_eq_some_iff.mp H
         obtain ⟨t417, A200, H⟩ := H
         replace H : ((tCo.f k2 ((rd_T143 t410 x38_2).f1)).bind fun t420 => ((tCo.f k2 ((rd_T143 t410 x38_2).f2)).bind fun t423 => ((nU.f k2 ((rd_T143 t410 x38_2).f3)).bind fun t426 => ((nI.f k2 ((rd_T143 t410 x38_2).f4)).bind fun t429 => ((nI.f k2 ((rd_T143 t410 x38_2).f5)).bind fun t432 => (if x6_2.length < 925904528653 then (iTO.l0 k2 (x6_2 ++ [(⟨t417, decide ((((rd_T143 t410 x38_2).f1).length : Int) > 0), t420, t423, t426, t429, t432⟩ : S62)]) t410 (t410.length : Int) (wrap64 (x38_2 + 1))) else (none))))))) = some (r1, r2, r3) := H
         have A20 := Aside0.mk A200
         clear A200
         replace H := Option.bind_eq_some_iff.mp H
         obtain ⟨t420, A210, H⟩ := H
         replace H : ((tCo.f k2 ((rd_T143 t410 x38_2).f2)).bind fun t423 => ((nU.f k2 ((rd_T143 t410 x38_2).f3)).bind fun t426 => ((nI.f k2 ((rd_T143 t410 x38_2).f4)).bind fun t429 => ((nI.f k2 ((rd_T143 t410 x38_2).f5)).bind fun t432 => (if x6_2.length < 925904528653 then (iTO.l0 k2 (x6_2 ++ [(⟨t417, decide ((((rd_T143 t410 x38_2).f1).length : Int) > 0), t420, t423, t426, t429, t432⟩ : S62)]) t410 (t410.length : Int) (wrap64 (x38_2 + 1))) else (none)))))) = some (r1, r2, r3) := H
         have A21 := Aside0.mk A210
         clear A210
         replace H := Option.bind_eq_some_iff.mp H
         obtain ⟨t423, A220, H⟩ := H
         replace H : ((nU.f k2 ((rd_T143 t410 x38_2).f3)).bind fun t426 => ((nI.f k2 ((rd_T143 t410 x38_2).f4)).bind fun t429 => ((nI.f k2 ((rd_T143 t410 x38_2).f5)).bind fun t432 => (if x6_2.length < 925904528653 then (iTO.l0 k2 (x6_2 ++ [(⟨t417, decide ((((rd_T143 t410 x38_2).f1).length : Int) > 0), t420, t423, t426, t429, t432⟩ : S62)]) t410 (t410.length : Int) (wrap64 (x38_2 + 1))) else (none))))) = some (r1, r2, r3) := H
         have A22 := Aside0.mk A220
         clear A220
         replace H := Option.bind_eq_some_iff.mp H
         obtain ⟨t426, A230, H⟩ := H
         replace H : ((nI.f k2 ((rd_T143 t410 x38_2).f4)).bind fun t429 => ((nI.f k2 ((rd_T143 t410 x38_2).f5)).bind fun t432 => (if x6_2.length < 925904528653 then (iTO.l0 k2 (x6_2 ++ [(⟨t417, decide ((((rd_T143 t410 x38_2).f1).length : Int) > 0), t420, t423, t426, t429, t432⟩ : S62)]) t410 (t410.length : Int) (wrap64 (x38_2 + 1))) else (none)))) = some (r1, r2, r3) := H
         have A23 := Aside0.mk A230
         clear A230
         replace H := Option.bind_eq_some_iff.mp H
         obtain ⟨t429, A240, H⟩ := H
         replace H : ((nI.f k2 ((rd_T143 t410 x38_2).f5)).bind fun t432 => (if x6_2.length < 925904528653 then (iTO.l0 k2 (x6_2 ++ [(⟨t417, decide ((((rd_T143 t410 x38_2).f1).length : Int) > 0), t420, t423, t426, t429, t432⟩ : S62)]) t410 (t410.length : Int) (wrap64 (x38_2 + 1))) else (none))) = some (r1, r2, r3) := H
         have A24 := Aside0.mk A240
         clear A240
         replace H := Option.bind_eq_some_iff.mp H
         obtain ⟨t432, A250, H⟩ := H
         replace H : (if x6_2.length < 925904528653 then (iTO.l0 k2 (x6_2 ++ [(⟨t417, decide ((((rd_T143 t410 x38_2).f1).length : Int) > 0), t420, t423, t426, t429, t432⟩ : S62)]) t410 (t410.length : Int) (wrap64 (x38_2 + 1))) else (none)) = some (r1, r2, r3) := H
         have A25 := Aside0.mk A250
         clear A250
         by_cases c26 : x6_2.length < 925904528653
         rotate_left
         ·rw [if_neg c26] at H
          exact absurd H (by simp)
         rw [if_pos c26] at H
         have LMc26 := Aside0.mk c26
         clear c26
         obtain ⟨y435, hy435⟩ : ∃ y_ : List (S62), y_ = (x6_2 ++ [(⟨t417, decide ((((rd_T143 t410 x38_2).f1).length : Int) > 0), t420, t423, t426, t429, t432⟩ : S62)]) := ⟨_, rfl⟩
         replace H : (iTO.l0 k2 y435 t410 (t410.length : Int) (wrap64 (x38_2 + 1))) = some (r1, r2, r3) := by first | (rw [hy435]; with_reducible exact H) | (have H2_ := (Option.bind_some _ _).symm.trans H; rw [hy435]; with_reducible exact H2_) | (have H2_ := (Option.bind_some _ _).symm.trans H; with_reducible exact H2_) | with_reducible exact H | (rw [hy435]; exact H) | exact H
         have Ny435 := Aside0.mk hy435
         clear hy435
         have H' := Aside0.mk H
         clear H
         have p415 : 0 ≤ (x38_2 : Int) := of_decide_eq_true z15_17
         have q415 : x38_2 < (t410.length : Int) := of_decide_eq_true z15_17
         obtain ⟨ad415, A415_0, c415_0, A415_1, c415_1, A415_2, c415_2, A415_3, c415_3, A415_4, c415_4, A415_5, c415_5, e415, hx415_0, hx415_1, hx415_2, hx415_3, hx415_4, hx415_5, hl415_0, hi415_0, hl415_1, hi415_1, hl415_2, hi415_2, hl415_3, hi415_3, hl415_4, hi415_4, hl415_5, hi415_5⟩ := at_T143 (Kd.V_reads' HO_36.out).2.2 x38_2 p415 q415
         cases e415
         obtain ⟨ce415, hce415, hMe415, hcc415⟩ := Kd.V_get HO_36.out z143 x38_2 p415 (by first | exact q415 | exact of_decide_eq_true z15_17 | (have e_ := (Kd.V_reads' HO_36.out).1; omega))
         obtain ⟨ua415_0, uc415_0, ua415_1, uc415_1, ua415_2, uc415_2, ua415_3, uc415_3, ua415_4, uc415_4, ua415_5, uc415_5, rfl, ul415_0, ge415_0, ul415_1, ge415_1, ul415_2, ge415_2, ul415_3, ge415_3, ul415_4, ge415_4, ul415_5, ge415_5⟩ := k143_openF hMe415
         have hv415_0 := hcc415 0 _ rfl
         rw [Nat.add_zero] at hv415_0
         replace hv415_0 := Option.some.inj (hv415_0.symm.trans hx415_0)
         injection hv415_0 with hva_ hvn_ hvc_
         rw [hva_] at ge415_0
         rw [hvc_] at ul415_0
         have HL415_0 := Aside0.mk (show Kd.V (Kd.int .i16) 145 _ w.heap.size _ _ ((rd_T143 t410 x38_2).f0) from Kd.V_mk ul415_0 ge415_0)
         clear hva_ hvn_ hvc_ ge415_0 ul415_0
         have hv415_1 := hcc415 1 _ rfl
         rw [add_field _ _ 1 (by omega)] at hv415_1
         replace hv415_1 := Option.some.inj (hv415_1.symm.trans hx415_1)
         injection hv415_1 with hva_ hvn_ hvc_
         rw [hva_] at ge415_1
         rw [hvc_] at ul415_1
         have HL415_1 := Aside0.mk (show Kd.V (Kd.int .i16) 145 _ w.heap.size _ _ ((rd_T143 t410 x38_2).f1) from Kd.V_mk ul415_1 ge415_1)
         clear hva_ hvn_ hvc_ ge415_1 ul415_1
         have hv415_2 := hcc415 2 _ rfl
         rw [add_field _ _ 2 (by omega)] at hv415_2
         replace hv415_2 := Option.some.inj (hv415_2.symm.trans hx415_2)
         injection hv415_2 with hva_ hvn_ hvc_
         rw [hva_] at ge415_2
         rw [hvc_] at ul415_2
         have HL415_2 := Aside0.mk (show Kd.V (Kd.int .i16) 145 _ w.heap.size _ _ ((rd_T143 t410 x38_2).f2) from Kd.V_mk ul415_2 ge415_2)
         clear hva_ hvn_ hvc_ ge415_2 ul415_2
         have hv415_3 := hcc415 3 _ rfl
         rw [add_field _ _ 3 (by omega)] at hv415_3
         replace hv415_3 := Option.some.inj (hv415_3.symm.trans hx415_3)
         injection hv415_3 with hva_ hvn_ hvc_
         rw [hva_] at ge415_3
         rw [hvc_] at ul415_3
         have HL415_3 := Aside0.mk (show Kd.V (Kd.int .u16) 35 _ w.heap.size _ _ ((rd_T143 t410 x38_2).f3) from Kd.V_mk ul415_3 ge415_3)
         clear hva_ hvn_ hvc_ ge415_3 ul415_3
         have hv415_4 := hcc415 4 _ rfl
         rw [add_field _ _ 4 (by omega)] at hv415_4
         replace hv415_4 := Option.some.inj (hv415_4.symm.trans hx415_4)
         injection hv415_4 with hva_ hvn_ hvc_
         rw [hva_] at ge415_4
         rw [hvc_] at ul415_4
         have HL415_4 := Aside0.mk (show Kd.V (Kd.int .i16) 30 _ w.heap.size _ _ ((rd_T143 t410 x38_2).f4) from Kd.V_mk ul415_4 ge415_4)
         clear hva_ hvn_ hvc_ ge415_4 ul415_4
         have hv415_5 := hcc415 5 _ rfl
         rw [add_field _ _ 5 (by omega)] at hv415_5
         replace hv415_5 := Option.some.inj (hv415_5.symm.trans hx415_5)
         injection hv415_5 with hva_ hvn_ hvc_
         rw [hva_] at ge415_5
         rw [hvc_] at ul415_5
         have HL415_5 := Aside0.mk (show Kd.V (Kd.int .i16) 30 _ w.heap.size _ _ ((rd_T143 t410 x38_2).f5) from Kd.V_mk ul415_5 ge415_5)
         clear hva_ hvn_ hvc_ ge415_5 ul415_5
         clear hcc415 hce415
         have HR415_0 := Aside0.mk hi415_0
         have HC415_0 := Aside0.mk hl415_0
         clear hi415_0 hl415_0
         have HR415_1 := Aside0.mk hi415_1
         have HC415_1 := Aside0.mk hl415_1
         clear hi415_1 hl415_1
         have HR415_2 := Aside0.mk hi415_2
         have HC415_2 := Aside0.mk hl415_2
         clear hi415_2 hl415_2
         have HR415_3 := Aside0.mk hi415_3
         have HC415_3 := Aside0.mk hl415_3
         clear hi415_3 hl415_3
         have HR415_4 := Aside0.mk hi415_4
         have HC415_4 := Aside0.mk hl415_4
         clear hi415_4 hl415_4
         have HR415_5 := Aside0.mk hi415_5
         have HC415_5 := Aside0.mk hl415_5
         clear hi415_5 hl415_5
         replace p415 := eq_true p415
         replace q415 := eq_true q415
         try go_wp2_with (first | ((with_reducible refine gate_dst (N := 12) rfl ?_); refine box_event ?hg (N := 12) ?hd (cs := #[.slice none 0 0, .slice none 0 0, .slice none 0 0, .slice none 0 0, .slice none 0 0, .slice none 0 0]) (t := 143) ?hr ?_; (case hd => rfl); (case hg => rfl); (case hr => first | (go_simp; done) | (go_simp; rfl)); intro gb416 hg w27 hbox hb; have n0_ := Aside0.mk (Kd.S_below z15_1 hb); have n1_ := Aside0.mk (Kd.V_below (Kd.V_elderB z15_10 gb416 (Nat.le_of_eq hg.symm)) hb); have n2_ := Aside0.mk (Kd.V_below (Kd.V_elderB z15_4 gb416 (Nat.le_of_eq hg.symm)) hb); have n3_ := Aside0.mk (Kd.V_below (Kd.V_elderB z15_5 gb416 (Nat.le_of_eq hg.symm)) hb); have n4_ := Aside0.mk (Kd.V_below (Kd.V_elderB z15_6 gb416 (Nat.le_of_eq hg.symm)) hb); have n5_ := Aside0.mk (Kd.V_below (Kd.V_elderB z15_7 gb416 (Nat.le_of_eq hg.symm)) hb); have n6_ := Aside0.mk (Kd.V_below (Kd.V_elderB z15_8 gb416 (Nat.le_of_eq hg.symm)) hb); have n7_ := Aside0.mk (Kd.V_below (Kd.V_elderB z15_9 gb416 (Nat.le_of_eq hg.symm)) hb); have n8_ := Aside0.mk (Kd.C_below z15_19 hb); have n9_ := Aside0.mk (Kd.C_below z15_20 hb); have n10_ := Aside0.mk (Kd.C_below z15_21 hb); have n11_ := Aside0.mk (Kd.C_below z15_22 hb); have n12_ := Aside0.mk (Kd.C_below z15_23 hb); have n13_ := Aside0.mk (Kd.C_below z15_24 hb); have n14_ := Aside0.mk (below_step z15_0 hb); have n15_ := Aside0.mk (hbox); have n16_ := Aside0.mk ((by rw [hg]; exact (below_size z15_0) : w.heap.size ≤ gb416)); have n17_ := Aside0.mk ((by rw [hg]; exact (below_size z15_0) : w.heap.size ≤ gb416)); clear HO_6; clear HO_36; clear HL415_0; clear HL415_1; clear HL415_2; clear HL415_3; clear HL415_4; clear HL415_5; clear HR415_0; clear HR415_1; clear HR415_2; clear HR415_3; clear HR415_4; clear HR415_5; clear HB; have HO_6 := n0_; have HO_36 := n1_; have HL415_0 := n2_; have HL415_1 := n3_; have HL415_2 := n4_; have HL415_3 := n5_; have HL415_4 := n6_; have HL415_5 := n7_; have HR415_0 := n8_; have HR415_1 := n9_; have HR415_2 := n10_; have HR415_3 := n11_; have HR415_4 := n12_; have HR415_5 := n13_; have HB := n14_; have BK416 := n15_; have GW416 := n16_; have GE416 := n17_; clear n0_ n1_ n2_ n3_ n4_ n5_ n6_ n7_ n8_ n9_ n10_ n11_ n12_ n13_ n14_ n15_ n16_ n17_; clear hb hbox hg; obtain ⟨hcz28_0, hcz28_1, hcz28_2, hcz28_3, hcz28_4, hcz28_5⟩ := cz6x15 BK416.out; obtain ⟨hfz28_0, hfz28_1, hfz28_2, hfz28_3, hfz28_4, hfz28_5⟩ := fz6x15 BK416.out))
         have n0_ : Aside0 (Kd.S k62 62 ((((((w27.setCell ⟨gb416, 0, none⟩ (.slice A415_0 ((rd_T143 t410 x38_2).f0).length c415_0)).setCell ⟨gb416, 1, none⟩ (.slice A415_1 ((rd_T143 t410 x38_2).f1).length c415_1)).setCell ⟨gb416, 2, none⟩ (.slice A415_2 ((rd_T143 t410 x38_2).f2).length c415_2)).setCell ⟨gb416, 3, none⟩ (.slice A415_3 ((rd_T143 t410 x38_2).f3).length c415_3)).setCell ⟨gb416, 4, none⟩ (.slice A415_4 ((rd_T143 t410 x38_2).f4).length c415_4)).setCell ⟨gb416, 5, none⟩ (.slice A415_5 ((rd_T143 t410 x38_2).f5).length c415_5)) w.heap.size (fun _ => True) u6 x6_2) := ⟨by (with_reducible repeat (first | apply Kd.S_alloc | apply Kd.S_drewN | apply Kd.S_drew)); exact Kd.S_mono (Kd.S_far (p := ⟨gb416, 5, none⟩) (Kd.S_far (p := ⟨gb416, 4, none⟩) (Kd.S_far (p := ⟨gb416, 3, none⟩) (Kd.S_far (p := ⟨gb416, 2, none⟩) (Kd.S_far (p := ⟨gb416, 1, none⟩) (Kd.S_far (p := ⟨gb416, 0, none⟩) (Kd.S_types HO_6.out BK416.out (by decide)) (fun _ hk => hk.2) (.slice A415_0 ((rd_T143 t410 x38_2).f0).length c415_0)) (fun _ hk => hk.2) (.slice A415_1 ((rd_T143 t410 x38_2).f1).length c415_1)) (fun _ hk => hk.2) (.slice A415_2 ((rd_T143 t410 x38_2).f2).length c415_2)) (fun _ hk => hk.2) (.slice A415_3 ((rd_T143 t410 x38_2).f3).length c415_3)) (fun _ hk => hk.2) (.slice A415_4 ((rd_T143 t410 x38_2).f4).length c415_4)) (fun _ hk => hk.2) (.slice A415_5 ((rd_T143 t410 x38_2).f5).length c415_5)) (fun _ hk => trivial)⟩
         have n1_ : Aside0 (Kd.V k143 143 ((((((w27.setCell ⟨gb416, 0, none⟩ (.slice A415_0 ((rd_T143 t410 x38_2).f0).length c415_0)).setCell ⟨gb416, 1, none⟩ (.slice A415_1 ((rd_T143 t410 x38_2).f1).length c415_1)).setCell ⟨gb416, 2, none⟩ (.slice A415_2 ((rd_T143 t410 x38_2).f2).length c415_2)).setCell ⟨gb416, 3, none⟩ (.slice A415_3 ((rd_T143 t410 x38_2).f3).length c415_3)).setCell ⟨gb416, 4, none⟩ (.slice A415_4 ((rd_T143 t410 x38_2).f4).length c415_4)).setCell ⟨gb416, 5, none⟩ (.slice A415_5 ((rd_T143 t410 x38_2).f5).length c415_5)) w.heap.size (fun k_ => some k_ ≠ (u6 : Value).ownBlock ∧ k_ ≠ gb416) (.slice (some ad415) t410.length co13) t410) := ⟨by (with_reducible repeat (first | apply Kd.V_alloc | apply Kd.V_drewN | apply Kd.V_drew)); exact Kd.V_mono (Kd.V_far (p := ⟨gb416, 5, none⟩) (Kd.V_far (p := ⟨gb416, 4, none⟩) (Kd.V_far (p := ⟨gb416, 3, none⟩) (Kd.V_far (p := ⟨gb416, 2, none⟩) (Kd.V_far (p := ⟨gb416, 1, none⟩) (Kd.V_far (p := ⟨gb416, 0, none⟩) (Kd.V_mono HO_36.out (fun k_ hk => (⟨hk, hk.2⟩ : _ ∧ k_ ≠ gb416))) (fun _ hk => hk.2) (.slice A415_0 ((rd_T143 t410 x38_2).f0).length c415_0)) (fun _ hk => hk.2) (.slice A415_1 ((rd_T143 t410 x38_2).f1).length c415_1)) (fun _ hk => hk.2) (.slice A415_2 ((rd_T143 t410 x38_2).f2).length c415_2)) (fun _ hk => hk.2) (.slice A415_3 ((rd_T143 t410 x38_2).f3).length c415_3)) (fun _ hk => hk.2) (.slice A415_4 ((rd_T143 t410 x38_2).f4).length c415_4)) (fun _ hk => hk.2) (.slice A415_5 ((rd_T143 t410 x38_2).f5).length c415_5)) (fun _ hk => ⟨hk.1.1, hk.1.2⟩)⟩
         have n2_ : Aside0 (Kd.V (Kd.int .i16) 145 ((((((w27.setCell ⟨gb416, 0, none⟩ (.slice A415_0 ((rd_T143 t410 x38_2).f0).length c415_0)).setCell ⟨gb416, 1, none⟩ (.slice A415_1 ((rd_T143 t410 x38_2).f1).length c415_1)).setCell ⟨gb416, 2, none⟩ (.slice A415_2 ((rd_T143 t410 x38_2).f2).length c415_2)).setCell ⟨gb416, 3, none⟩ (.slice A415_3 ((rd_T143 t410 x38_2).f3).length c415_3)).setCell ⟨gb416, 4, none⟩ (.slice A415_4 ((rd_T143 t410 x38_2).f4).length c415_4)).setCell ⟨gb416, 5, none⟩ (.slice A415_5 ((rd_T143 t410 x38_2).f5).length c415_5)) w.heap.size (fun k_ => some k_ ≠ (u6 : Value).ownBlock ∧ k_ ≠ gb416) (.slice A415_0 ((rd_T143 t410 x38_2).f0).length c415_0) ((rd_T143 t410 x38_2).f0)) := ⟨by (with_reducible repeat (first | apply Kd.V_alloc | apply Kd.V_drewN | apply Kd.V_drew)); exact Kd.V_mono (Kd.V_far (p := ⟨gb416, 5, none⟩) (Kd.V_far (p := ⟨gb416, 4, none⟩) (Kd.V_far (p := ⟨gb416, 3, none⟩) (Kd.V_far (p := ⟨gb416, 2, none⟩) (Kd.V_far (p := ⟨gb416, 1, none⟩) (Kd.V_far (p := ⟨gb416, 0, none⟩) (Kd.V_mono HL415_0.out (fun k_ hk => (⟨hk, hk.2⟩ : _ ∧ k_ ≠ gb416))) (fun _ hk => hk.2) (.slice A415_0 ((rd_T143 t410 x38_2).f0).length c415_0)) (fun _ hk => hk.2) (.slice A415_1 ((rd_T143 t410 x38_2).f1).length c415_1)) (fun _ hk => hk.2) (.slice A415_2 ((rd_T143 t410 x38_2).f2).length c415_2)) (fun _ hk => hk.2) (.slice A415_3 ((rd_T143 t410 x38_2).f3).length c415_3)) (fun _ hk => hk.2) (.slice A415_4 ((rd_T143 t410 x38_2).f4).length c415_4)) (fun _ hk => hk.2) (.slice A415_5 ((rd_T143 t410 x38_2).f5).length c415_5)) (fun _ hk => ⟨hk.1.1, hk.1.2⟩)⟩
         have n3_ : Aside0 (Kd.V (Kd.int .i16) 145 ((((((w27.setCell ⟨gb416, 0, none⟩ (.slice A415_0 ((rd_T143 t410 x38_2).f0).length c415_0)).setCell ⟨gb416, 1, none⟩ (.slice A415_1 ((rd_T143 t410 x38_2).f1).length c415_1)).setCell ⟨gb416, 2, none⟩ (.slice A415_2 ((rd_T143 t410 x38_2).f2).length c415_2)).setCell ⟨gb416, 3, none⟩ (.slice A415_3 ((rd_T143 t410 x38_2).f3).length c415_3)).setCell ⟨gb416, 4, none⟩ (.slice A415_4 ((rd_T143 t410 x38_2).f4).length c415_4)).setCell ⟨gb416, 5, none⟩ (.slice A415_5 ((rd_T143 t410 x38_2).f5).length c415_5)) w.heap.size (fun k_ => some k_ ≠ (u6 : Value).ownBlock ∧ k_ ≠ gb416) (.slice A415_1 ((rd_T143 t410 x38_2).f1).length c415_1) ((rd_T143 t410 x38_2).f1)) := ⟨by (with_reducible repeat (first | apply Kd.V_alloc | apply Kd.V_drewN | apply Kd.V_drew)); exact Kd.V_mono (Kd.V_far (p := ⟨gb416, 5, none⟩) (Kd.V_far (p := ⟨gb416, 4, none⟩) (Kd.V_far (p := ⟨gb416, 3, none⟩) (Kd.V_far (p := ⟨gb416, 2, none⟩) (Kd.V_far (p := ⟨gb416, 1, none⟩) (Kd.V_far (p := ⟨gb416, 0, none⟩) (Kd.V_mono HL415_1.out (fun k_ hk => (⟨hk, hk.2⟩ : _ ∧ k_ ≠ gb416))) (fun _ hk => hk.2) (.slice A415_0 ((rd_T143 t410 x38_2).f0).length c415_0)) (fun _ hk => hk.2) (.slice A415_1 ((rd_T143 t410 x38_2).f1).length c415_1)) (fun _ hk => hk.2) (.slice A415_2 ((rd_T143 t410 x38_2).f2).length c415_2)) (fun _ hk => hk.2) (.slice A415_3 ((rd_T143 t410 x38_2).f3).length c415_3)) (fun _ hk => hk.2) (.slice A415_4 ((rd_T143 t410 x38_2).f4).length c415_4)) (fun _ hk => hk.2) (.slice A415_5 ((rd_T143 t410 x38_2).f5).length c415_5)) (fun _ hk => ⟨hk.1.1, hk.1.2⟩)⟩
         have n4_ : Aside0 (Kd.V (Kd.int .i16) 145 ((((((w27.setCell ⟨gb416, 0, none⟩ (.slice A415_0 ((rd_T143 t410 x38_2).f0).length c415_0)).setCell ⟨gb416, 1, none⟩ (.slice A415_1 ((rd_T143 t410 x38_2).f1).length c415_1)).setCell ⟨gb416, 2, none⟩ (.slice A415_2 ((rd_T143 t410 x38_2).f2).length c415_2)).setCell ⟨gb416, 3, none⟩ (.slice A415_3 ((rd_T143 t410 x38_2).f3).length c415_3)).setCell ⟨gb416, 4, none⟩ (.slice A415_4 ((rd_T143 t410 x38_2).f4).length c415_4)).setCell ⟨gb416, 5, none⟩ (.slice A415_5 ((rd_T143 t410 x38_2).f5).length c415_5)) w.heap.size (fun k_ => some k_ ≠ (u6 : Value).ownBlock ∧ k_ ≠ gb416) (.slice A415_2 ((rd_T143 t410 x38_2).f2).length c415_2) ((rd_T143 t410 x38_2).f2)) := ⟨by (with_reducible repeat (first | apply Kd.V_alloc | apply Kd.V_drewN | apply Kd.V_drew)); exact Kd.V_mono (Kd.V_far (p := ⟨gb416, 5, none⟩) (Kd.V_far (p := ⟨gb416, 4, none⟩) (Kd.V_far (p := ⟨gb416, 3, none⟩) (Kd.V_far (p := ⟨gb416, 2, none⟩) (Kd.V_far (p := ⟨gb416, 1, none⟩) (Kd.V_far (p := ⟨gb416, 0, none⟩) (Kd.V_mono HL415_2.out (fun k_ hk => (⟨hk, hk.2⟩ : _ ∧ k_ ≠ gb416))) (fun _ hk => hk.2) (.slice A415_0 ((rd_T143 t410 x38_2).f0).length c415_0)) (fun _ hk => hk.2) (.slice A415_1 ((rd_T143 t410 x38_2).f1).length c415_1)) (fun _ hk => hk.2) (.slice A415_2 ((rd_T143 t410 x38_2).f2).length c415_2)) (fun _ hk => hk.2) (.slice A415_3 ((rd_T143 t410 x38_2).f3).length c415_3)) (fun _ hk => hk.2) (.slice A415_4 ((rd_T143 t410 x38_2).f4).length c415_4)) (fun _ hk => hk.2) (.slice A415_5 ((rd_T143 t410 x38_2).f5).length c415_5)) (fun _ hk => ⟨hk.1.1, hk.1.2⟩)⟩
         have n5_ : Aside0 (Kd.V (Kd.int .u16) 35 ((((((w27.setCell ⟨gb416, 0, none⟩ (.slice A415_0 ((rd_T143 t410 x38_2).f0).length c415_0)).setCell ⟨gb416, 1, none⟩ (.slice A415_1 ((rd_T143 t410 x38_2).f1).length c415_1)).setCell ⟨gb416, 2, none⟩ (.slice A415_2 ((rd_T143 t410 x38_2).f2).length c415_2)).setCell ⟨gb416, 3, none⟩ (.slice A415_3 ((rd_T143 t410 x38_2).f3).length c415_3)).setCell ⟨gb416, 4, none⟩ (.slice A415_4 ((rd_T143 t410 x38_2).f4).length c415_4)).setCell ⟨gb416, 5, none⟩ (.slice A415_5 ((rd_T143 t410 x38_2).f5).length c415_5)) w.heap.size (fun k_ => some k_ ≠ (u6 : Value).ownBlock ∧ k_ ≠ gb416) (.slice A415_3 ((rd_T143 t410 x38_2).f3).length c415_3) ((rd_T143 t410 x38_2).f3)) := ⟨by (with_reducible repeat (first | apply Kd.V_alloc | apply Kd.V_drewN | apply Kd.V_drew)); exact Kd.V_mono (Kd.V_far (p := ⟨gb416, 5, none⟩) (Kd.V_far (p := ⟨gb416, 4, none⟩) (Kd.V_far (p := ⟨gb416, 3, none⟩) (Kd.V_far (p := ⟨gb416, 2, none⟩) (Kd.V_far (p := ⟨gb416, 1, none⟩) (Kd.V_far (p := ⟨gb416, 0, none⟩) (Kd.V_mono HL415_3.out (fun k_ hk => (⟨hk, hk.2⟩ : _ ∧ k_ ≠ gb416))) (fun _ hk => hk.2) (.slice A415_0 ((rd_T143 t410 x38_2).f0).length c415_0)) (fun _ hk => hk.2) (.slice A415_1 ((rd_T143 t410 x38_2).f1).length c415_1)) (fun _ hk => hk.2) (.slice A415_2 ((rd_T143 t410 x38_2).f2).length c415_2)) (fun _ hk => hk.2) (.slice A415_3 ((rd_T143 t410 x38_2).f3).length c415_3)) (fun _ hk => hk.2) (.slice A415_4 ((rd_T143 t410 x38_2).f4).length c415_4)) (fun _ hk => hk.2) (.slice A415_5 ((rd_T143 t410 x38_2).f5).length c415_5)) (fun _ hk => ⟨hk.1.1, hk.1.2⟩)⟩
         have n6_ : Aside0 (Kd.V (Kd.int .i16) 30 ((((((w27.setCell ⟨gb416, 0, none⟩ (.slice A415_0 ((rd_T143 t410 x38_2).f0).length c415_0)).setCell ⟨gb416, 1, none⟩ (.slice A415_1 ((rd_T143 t410 x38_2).f1).length c415_1)).setCell ⟨gb416, 2, none⟩ (.slice A415_2 ((rd_T143 t410 x38_2).f2).length c415_2)).setCell ⟨gb416, 3, none⟩ (.slice A415_3 ((rd_T143 t410 x38_2).f3).length c415_3)).setCell ⟨gb416, 4, none⟩ (.slice A415_4 ((rd_T143 t410 x38_2).f4).length c415_4)).setCell ⟨gb416, 5, none⟩ (.slice A415_5 ((rd_T143 t410 x38_2).f5).length c415_5)) w.heap.size (fun k_ => some k_ ≠ (u6 : Value).ownBlock ∧ k_ ≠ gb416) (.slice A415_4 ((rd_T143 t410 x38_2).f4).length c415_4) ((rd_T143 t410 x38_2).f4)) := ⟨by (with_reducible repeat (first | apply Kd.V_alloc | apply Kd.V_drewN | apply Kd.V_drew)); exact Kd.V_mono (Kd.V_far (p := ⟨gb416, 5, none⟩) (Kd.V_far (p := ⟨gb416, 4, none⟩) (Kd.V_far (p := ⟨gb416, 3, none⟩) (Kd.V_far (p := ⟨gb416, 2, none⟩) (Kd.V_far (p := ⟨gb416, 1, none⟩) (Kd.V_far (p := ⟨gb416, 0, none⟩) (Kd.V_mono HL415_4.out (fun k_ hk => (⟨hk, hk.2⟩ : _ ∧ k_ ≠ gb416))) (fun _ hk => hk.2) (.slice A415_0 ((rd_T143 t410 x38_2).f0).length c415_0)) (fun _ hk => hk.2) (.slice A415_1 ((rd_T143 t410 x38_2).f1).length c415_1)) (fun _ hk => hk.2) (.slice A415_2 ((rd_T143 t410 x38_2).f2).length c415_2)) (fun _ hk => hk.2) (.slice A415_3 ((rd_T143 t410 x38_2).f3).length c415_3)) (fun _ hk => hk.2) (.slice A415_4 ((rd_T143 t410 x38_2).f4).length c415_4)) (fun _ hk => hk.2) (.slice A415_5 ((rd_T143 t410 x38_2).f5).length c415_5)) (fun _ hk => ⟨hk.1.1, hk.1.2⟩)⟩
         have n7_ : Aside0 (Kd.V (Kd.int .i16) 30 ((((((w27.setCell ⟨gb416, 0, none⟩ (.slice A415_0 ((rd_T143 t410 x38_2).f0).length c415_0)).setCell ⟨gb416, 1, none⟩ (.slice A415_1 ((rd_T143 t410 x38_2).f1).length c415_1)).setCell ⟨gb416, 2, none⟩ (.slice A415_2 ((rd_T143 t410 x38_2).f2).length c415_2)).setCell ⟨gb416, 3, none⟩ (.slice A415_3 ((rd_T143 t410 x38_2).f3).length c415_3)).setCell ⟨gb416, 4, none⟩ (.slice A415_4 ((rd_T143 t410 x38_2).f4).length c415_4)).setCell ⟨gb416, 5, none⟩ (.slice A415_5 ((rd_T143 t410 x38_2).f5).length c415_5)) w.heap.size (fun k_ => some k_ ≠ (u6 : Value).ownBlock ∧ k_ ≠ gb416) (.slice A415_5 ((rd_T143 t410 x38_2).f5).length c415_5) ((rd_T143 t410 x38_2).f5)) := ⟨by (with_reducible repeat (first | apply Kd.V_alloc | apply Kd.V_drewN | apply Kd.V_drew)); exact Kd.V_mono (Kd.V_far (p := ⟨gb416, 5, none⟩) (Kd.V_far (p := ⟨gb416, 4, none⟩) (Kd.V_far (p := ⟨gb416, 3, none⟩) (Kd.V_far (p := ⟨gb416, 2, none⟩) (Kd.V_far (p := ⟨gb416, 1, none⟩) (Kd.V_far (p := ⟨gb416, 0, none⟩) (Kd.V_mono HL415_5.out (fun k_ hk => (⟨hk, hk.2⟩ : _ ∧ k_ ≠ gb416))) (fun _ hk => hk.2) (.slice A415_0 ((rd_T143 t410 x38_2).f0).length c415_0)) (fun _ hk => hk.2) (.slice A415_1 ((rd_T143 t410 x38_2).f1).length c415_1)) (fun _ hk => hk.2) (.slice A415_2 ((rd_T143 t410 x38_2).f2).length c415_2)) (fun _ hk => hk.2) (.slice A415_3 ((rd_T143 t410 x38_2).f3).length c415_3)) (fun _ hk => hk.2) (.slice A415_4 ((rd_T143 t410 x38_2).f4).length c415_4)) (fun _ hk => hk.2) (.slice A415_5 ((rd_T143 t410 x38_2).f5).length c415_5)) (fun _ hk => ⟨hk.1.1, hk.1.2⟩)⟩
         have n8_ : Aside0 (((((((w27.setCell ⟨gb416, 0, none⟩ (.slice A415_0 ((rd_T143 t410 x38_2).f0).length c415_0)).setCell ⟨gb416, 1, none⟩ (.slice A415_1 ((rd_T143 t410 x38_2).f1).length c415_1)).setCell ⟨gb416, 2, none⟩ (.slice A415_2 ((rd_T143 t410 x38_2).f2).length c415_2)).setCell ⟨gb416, 3, none⟩ (.slice A415_3 ((rd_T143 t410 x38_2).f3).length c415_3)).setCell ⟨gb416, 4, none⟩ (.slice A415_4 ((rd_T143 t410 x38_2).f4).length c415_4)).setCell ⟨gb416, 5, none⟩ (.slice A415_5 ((rd_T143 t410 x38_2).f5).length c415_5)).heap[gb416]? = some (.cells #[.slice A415_0 ((rd_T143 t410 x38_2).f0).length c415_0, .slice A415_1 ((rd_T143 t410 x38_2).f1).length c415_1, .slice A415_2 ((rd_T143 t410 x38_2).f2).length c415_2, .slice A415_3 ((rd_T143 t410 x38_2).f3).length c415_3, .slice A415_4 ((rd_T143 t410 x38_2).f4).length c415_4, .slice A415_5 ((rd_T143 t410 x38_2).f5).length c415_5] 143 (0, 0))) := ⟨by (with_reducible repeat (first | apply b1_ | apply b2_ | apply b3_)); refine blk_put (cs := #[.slice A415_0 ((rd_T143 t410 x38_2).f0).length c415_0, .slice A415_1 ((rd_T143 t410 x38_2).f1).length c415_1, .slice A415_2 ((rd_T143 t410 x38_2).f2).length c415_2, .slice A415_3 ((rd_T143 t410 x38_2).f3).length c415_3, .slice A415_4 ((rd_T143 t410 x38_2).f4).length c415_4, .slice none 0 0]) ?_ 5 _ rfl; (with_reducible repeat (first | apply b1_ | apply b2_ | apply b3_)); refine blk_put (cs := #[.slice A415_0 ((rd_T143 t410 x38_2).f0).length c415_0, .slice A415_1 ((rd_T143 t410 x38_2).f1).length c415_1, .slice A415_2 ((rd_T143 t410 x38_2).f2).length c415_2, .slice A415_3 ((rd_T143 t410 x38_2).f3).length c415_3, .slice none 0 0, .slice none 0 0]) ?_ 4 _ rfl; (with_reducible repeat (first | apply b1_ | apply b2_ | apply b3_)); refine blk_put (cs := #[.slice A415_0 ((rd_T143 t410 x38_2).f0).length c415_0, .slice A415_1 ((rd_T143 t410 x38_2).f1).length c415_1, .slice A415_2 ((rd_T143 t410 x38_2).f2).length c415_2, .slice none 0 0, .slice none 0 0, .slice none 0 0]) ?_ 3 _ rfl; (with_reducible repeat (first | apply b1_ | apply b2_ | apply b3_)); refine blk_put (cs := #[.slice A415_0 ((rd_T143 t410 x38_2).f0).length c415_0, .slice A415_1 ((rd_T143 t410 x38_2).f1).length c415_1, .slice none 0 0, .slice none 0 0, .slice none 0 0, .slice none 0 0]) ?_ 2 _ rfl; (with_reducible repeat (first | apply b1_ | apply b2_ | apply b3_)); refine blk_put (cs := #[.slice A415_0 ((rd_T143 t410 x38_2).f0).length c415_0, .slice none 0 0, .slice none 0 0, .slice none 0 0, .slice none 0 0, .slice none 0 0]) ?_ 1 _ rfl; (with_reducible repeat (first | apply b1_ | apply b2_ | apply b3_)); refine blk_put (cs := #[.slice none 0 0, .slice none 0 0, .slice none 0 0, .slice none 0 0, .slice none 0 0, .slice none 0 0]) ?_ 0 _ rfl; (with_reducible repeat (first | apply b1_ | apply b2_ | apply b3_)); exact BK416.out⟩
         have n9_ : Aside0 (Below w.heap.size w ((((((w27.setCell ⟨gb416, 0, none⟩ (.slice A415_0 ((rd_T143 t410 x38_2).f0).length c415_0)).setCell ⟨gb416, 1, none⟩ (.slice A415_1 ((rd_T143 t410 x38_2).f1).length c415_1)).setCell ⟨gb416, 2, none⟩ (.slice A415_2 ((rd_T143 t410 x38_2).f2).length c415_2)).setCell ⟨gb416, 3, none⟩ (.slice A415_3 ((rd_T143 t410 x38_2).f3).length c415_3)).setCell ⟨gb416, 4, none⟩ (.slice A415_4 ((rd_T143 t410 x38_2).f4).length c415_4)).setCell ⟨gb416, 5, none⟩ (.slice A415_5 ((rd_T143 t410 x38_2).f5).length c415_5))) := ⟨z15_0⟩
         clear HO_6
         clear HO_36
         clear HL415_0
         clear HL415_1
         clear HL415_2
         clear HL415_3
         clear HL415_4
         clear HL415_5
         clear BK416
         clear HB
         generalize ((((((w27.setCell ⟨gb416, 0, none⟩ (.slice A415_0 ((rd_T143 t410 x38_2).f0).length c415_0)).setCell ⟨gb416, 1, none⟩ (.slice A415_1 ((rd_T143 t410 x38_2).f1).length c415_1)).setCell ⟨gb416, 2, none⟩ (.slice A415_2 ((rd_T143 t410 x38_2).f2).length c415_2)).setCell ⟨gb416, 3, none⟩ (.slice A415_3 ((rd_T143 t410 x38_2).f3).length c415_3)).setCell ⟨gb416, 4, none⟩ (.slice A415_4 ((rd_T143 t410 x38_2).f4).length c415_4)).setCell ⟨gb416, 5, none⟩ (.slice A415_5 ((rd_T143 t410 x38_2).f5).length c415_5)) = w29 at n0_ n1_ n2_ n3_ n4_ n5_ n6_ n7_ n8_ n9_ ⊢
         have HO_6 := n0_
         have HO_36 := n1_
         have HL415_0 := n2_
         have HL415_1 := n3_
         have HL415_2 := n4_
         have HL415_3 := n5_
         have HL415_4 := n6_
         have HL415_5 := n7_
         have BK416 := n8_
         have HB := n9_
         clear n0_ n1_ n2_ n3_ n4_ n5_ n6_ n7_ n8_ n9_
         have n0_ := Aside0.mk (Kd.S_drew HO_6.out)
         have n1_ := Aside0.mk (Kd.V_drew HO_36.out)
         have n2_ := Aside0.mk (Kd.V_drew HL415_0.out)
         have n3_ := Aside0.mk (Kd.V_drew HL415_1.out)
         have n4_ := Aside0.mk (Kd.V_drew HL415_2.out)
         have n5_ := Aside0.mk (Kd.V_drew HL415_3.out)
         have n6_ := Aside0.mk (Kd.V_drew HL415_4.out)
         have n7_ := Aside0.mk (Kd.V_drew HL415_5.out)
         have n8_ := Aside0.mk (blk_drew BK416.out)
         have n9_ := Aside0.mk (below_drew1 HB.out)
         clear HO_6
         clear HO_36
         clear HL415_0
         clear HL415_1
         clear HL415_2
         clear HL415_3
         clear HL415_4
         clear HL415_5
         clear BK416
         clear HB
         have HO_6 := n0_
         have HO_36 := n1_
         have HL415_0 := n2_
         have HL415_1 := n3_
         have HL415_2 := n4_
         have HL415_3 := n5_
         have HL415_4 := n6_
         have HL415_5 := n7_
         have BK416 := n8_
         have HB := n9_
         clear n0_ n1_ n2_ n3_ n4_ n5_ n6_ n7_ n8_ n9_
         refine start_ (n := 27) (S := fun w' => w'.cell? ⟨gb416, 0, none⟩ = some (.slice A415_0 ((rd_T143 t410 x38_2).f0).length c415_0) ∧ w'.cell? ⟨gb416, 1, none⟩ = some (.slice A415_1 ((rd_T143 t410 x38_2).f1).length c415_1) ∧ w'.cell? ⟨gb416, 2, none⟩ = some (.slice A415_2 ((rd_T143 t410 x38_2).f2).length c415_2) ∧ w'.cell? ⟨gb416, 3, none⟩ = some (.slice A415_3 ((rd_T143 t410 x38_2).f3).length c415_3) ∧ w'.cell? ⟨gb416, 4, none⟩ = some (.slice A415_4 ((rd_T143 t410 x38_2).f4).length c415_4) ∧ w'.cell? ⟨gb416, 5, none⟩ = some (.slice A415_5 ((rd_T143 t410 x38_2).f5).length c415_5)) (ds := []) #[ff,ff,ff,ff,ff,ff,ff,ff,ff,ff,ff,ff,ff,ff,ff,ff,ff,ff,ff,ff,ff,ff,ff,ff,ff,ff,ff] z15_16 rfl rfl ⟨(blk_cell BK416.out 0).trans rfl, (blk_cell BK416.out 1).trans rfl, (blk_cell BK416.out 2).trans rfl, (blk_cell BK416.out 3).trans rfl, (blk_cell BK416.out 4).trans rfl, (blk_cell BK416.out 5).trans rfl⟩ (fun hHeld => ?_); refine with_tabW iTO.tab11 iTO.bits11 (fun HT_ HW_ => ?_)
         generalize w29.drew = w30 at HO_6 HO_36 HL415_0 HL415_1 HL415_2 HL415_3 HL415_4 HL415_5 BK416 HB hHeld ⊢
         refine prx15 0 46 #[tt,ff,ff,ff,ff,ff,ff,ff,ff,ff,ff,ff,ff,ff,ff,ff,ff,ff,ff,ff,ff,ff,ff,ff,ff,ff,ff] ?_
         refine prx15 1 47 #[tt,tt,ff,ff,ff,ff,ff,ff,ff,ff,ff,ff,ff,ff,ff,ff,ff,ff,ff,ff,ff,ff,ff,ff,ff,ff,ff] ?_
         refine prx15 4 50 #[tt,tt,ff,ff,tt,ff,ff,ff,ff,ff,ff,ff,ff,ff,ff,ff,ff,ff,ff,ff,ff,ff,ff,ff,ff,ff,ff] ?_
         refine prx15 8 54 #[tt,tt,ff,ff,tt,ff,ff,ff,tt,ff,ff,ff,ff,ff,ff,ff,ff,ff,ff,ff,ff,ff,ff,ff,ff,ff,ff] ?_
         refine prx15 11 57 #[tt,tt,ff,ff,tt,ff,ff,ff,tt,ff,ff,tt,ff,ff,ff,ff,ff,ff,ff,ff,ff,ff,ff,ff,ff,ff,ff] ?_
         refine prx15 14 60 #[tt,tt,ff,ff,tt,ff,ff,ff,tt,ff,ff,tt,ff,ff,tt,ff,ff,ff,ff,ff,ff,ff,ff,ff,ff,ff,ff] ?_
         refine prx15 17 63 #[tt,tt,ff,ff,tt,ff,ff,ff,tt,ff,ff,tt,ff,ff,tt,ff,ff,tt,ff,ff,ff,ff,ff,ff,ff,ff,ff] ?_
         refine prx15 20 66 #[tt,tt,ff,ff,tt,ff,ff,ff,tt,ff,ff,tt,ff,ff,tt,ff,ff,tt,ff,ff,tt,ff,ff,ff,ff,ff,ff] ?_
         refine take_ (i := 2) (N := some 48) (v := ?_) (a' := ?_) #[tt,tt,tt,ff,tt,ff,ff,ff,tt,ff,ff,tt,ff,ff,tt,ff,ff,tt,ff,ff,tt,ff,ff,ff,ff,ff,ff] rfl rfl (take_ofW HT_.out HW_.out z15_16) (fun _ _ _ h => h) (Or.inl ⟨by rfl, ?_⟩) hHeld ?_ ?_
         rotate_left
         ·rintro w' ⟨s0, s1, s2, s3, s4, s5⟩
          go_simp
          with_reducible rfl
         rotate_left
         ·simp only [Act.put, L1_, L2_, L3_, i64_w, i32_w]
          rfl
         refine take_ (i := 5) (N := some 51) (v := ?_) (a' := ?_) #[tt,tt,tt,ff,tt,tt,ff,ff,tt,ff,ff,tt,ff,ff,tt,ff,ff,tt,ff,ff,tt,ff,ff,ff,ff,ff,ff] rfl rfl (take_ofW HT_.out HW_.out z15_16) (fun _ _ _ h => h) (Or.inl ⟨by rfl, ?_⟩) hHeld ?_ ?_
         rotate_left
         ·rintro w' ⟨s0, s1, s2, s3, s4, s5⟩
          go_simp
          with_reducible rfl
         rotate_left
         ·simp only [Act.put, L1_, L2_, L3_, i64_w, i32_w]
          rfl
         refine prx15 6 52 #[tt,tt,tt,ff,tt,tt,tt,ff,tt,ff,ff,tt,ff,ff,tt,ff,ff,tt,ff,ff,tt,ff,ff,ff,ff,ff,ff] ?_
         refine prx15 7 53 #[tt,tt,tt,ff,tt,tt,tt,tt,tt,ff,ff,tt,ff,ff,tt,ff,ff,tt,ff,ff,tt,ff,ff,ff,ff,ff,ff] ?_
         refine take_ (i := 9) (N := some 55) (v := ?_) (a' := ?_) #[tt,tt,tt,ff,tt,tt,tt,tt,tt,tt,ff,tt,ff,ff,tt,ff,ff,tt,ff,ff,tt,ff,ff,ff,ff,ff,ff] rfl rfl (take_ofW HT_.out HW_.out z15_16) (fun _ _ _ h => h) (Or.inl ⟨by rfl, ?_⟩) hHeld ?_ ?_
         rotate_left
         ·rintro w' ⟨s0, s1, s2, s3, s4, s5⟩
          go_simp
          with_reducible rfl
         rotate_left
         ·simp only [Act.put, L1_, L2_, L3_, i64_w, i32_w]
          rfl
         refine take_ (i := 12) (N := some 58) (v := ?_) (a' := ?_) #[tt,tt,tt,ff,tt,tt,tt,tt,tt,tt,ff,tt,tt,ff,tt,ff,ff,tt,ff,ff,tt,ff,ff,ff,ff,ff,ff] rfl rfl (take_ofW HT_.out HW_.out z15_16) (fun _ _ _ h => h) (Or.inl ⟨by rfl, ?_⟩) hHeld ?_ ?_
         rotate_left
         ·rintro w' ⟨s0, s1, s2, s3, s4, s5⟩
          go_simp
          with_reducible rfl
         rotate_left
         ·simp only [Act.put, L1_, L2_, L3_, i64_w, i32_w]
          rfl
         refine take_ (i := 15) (N := some 61) (v := ?_) (a' := ?_) #[tt,tt,tt,ff,tt,tt,tt,tt,tt,tt,ff,tt,tt,ff,tt,tt,ff,tt,ff,ff,tt,ff,ff,ff,ff,ff,ff] rfl rfl (take_ofW HT_.out HW_.out z15_16) (fun _ _ _ h => h) (Or.inl ⟨by rfl, ?_⟩) hHeld ?_ ?_
         rotate_left
         ·rintro w' ⟨s0, s1, s2, s3, s4, s5⟩
          go_simp
          with_reducible rfl
         rotate_left
         ·simp only [Act.put, L1_, L2_, L3_, i64_w, i32_w]
          rfl
         refine take_ (i := 18) (N := some 64) (v := ?_) (a' := ?_) #[tt,tt,tt,ff,tt,tt,tt,tt,tt,tt,ff,tt,tt,ff,tt,tt,ff,tt,tt,ff,tt,ff,ff,ff,ff,ff,ff] rfl rfl (take_ofW HT_.out HW_.out z15_16) (fun _ _ _ h => h) (Or.inl ⟨by rfl, ?_⟩) hHeld ?_ ?_
         rotate_left
         ·rintro w' ⟨s0, s1, s2, s3, s4, s5⟩
          go_simp
          with_reducible rfl
         rotate_left
         ·simp only [Act.put, L1_, L2_, L3_, i64_w, i32_w]
          rfl
         refine take_ (i := 21) (N := some 67) (v := ?_) (a' := ?_) #[tt,tt,tt,ff,tt,tt,tt,tt,tt,tt,ff,tt,tt,ff,tt,tt,ff,tt,tt,ff,tt,tt,ff,ff,ff,ff,ff] rfl rfl (take_ofW HT_.out HW_.out z15_16) (fun _ _ _ h => h) (Or.inl ⟨by rfl, ?_⟩) hHeld ?_ ?_
         rotate_left
         ·rintro w' ⟨s0, s1, s2, s3, s4, s5⟩
          go_simp
          with_reducible rfl
         rotate_left
         ·simp only [Act.put, L1_, L2_, L3_, i64_w, i32_w]
          rfl
         refine one_ (i := 3) (N := some 49) #[tt,tt,tt,tt,tt,tt,tt,tt,tt,tt,ff,tt,tt,ff,tt,tt,ff,tt,tt,ff,tt,tt,ff,ff,ff,ff,ff] rfl rfl (one_of HT_.out z15_16) (by decide) (fun K hK => ?_)
         refine goes_ Try.func49 z15_16 rfl #[.slice A415_0 ((rd_T143 t410 x38_2).f0).length c415_0] (by rfl) rfl rfl z15_2 ?_
         with_reducible refine (tCo.calls k2 _ _ ((rd_T143 t410 x38_2).f0) t417 _ ?side1 ?side2 A20.out).mono ?_
         (case side1 => repeat (first | exact ((Kd.V_reads' z15_4).2.2) | (with_reducible refine Kd.C_alloc ?_ _) | (with_reducible refine Kd.C_drewN ?_ _) | (with_reducible refine Kd.C_drew ?_)))
         (case side2 => exact HC415_0.out)
         rintro e w31 ⟨v418, rfl, ho0, hb⟩
         refine ⟨_, rfl, ?_⟩
         have n0_ := Aside0.mk (Kd.S_elder' z15_1 (Kd.R_base ho0) hb)
         have n1_ := Aside0.mk (Kd.V_elder' z15_10 (Kd.R_base ho0) hb)
         have n2_ := Aside0.mk (Kd.V_elder' z15_4 (Kd.R_base ho0) hb)
         have n3_ := Aside0.mk (Kd.V_elder' z15_5 (Kd.R_base ho0) hb)
         have n4_ := Aside0.mk (Kd.V_elder' z15_6 (Kd.R_base ho0) hb)
         have n5_ := Aside0.mk (Kd.V_elder' z15_7 (Kd.R_base ho0) hb)
         have n6_ := Aside0.mk (Kd.V_elder' z15_8 (Kd.R_base ho0) hb)
         have n7_ := Aside0.mk (Kd.V_elder' z15_9 (Kd.R_base ho0) hb)
         have n8_ := Aside0.mk (Kd.R_lower ho0 (below_size z15_0))
         have n9_ := Aside0.mk (blk_below (g := gb416) (o := .cells #[.slice A415_0 ((rd_T143 t410 x38_2).f0).length c415_0, .slice A415_1 ((rd_T143 t410 x38_2).f1).length c415_1, .slice A415_2 ((rd_T143 t410 x38_2).f2).length c415_2, .slice A415_3 ((rd_T143 t410 x38_2).f3).length c415_3, .slice A415_4 ((rd_T143 t410 x38_2).f4).length c415_4, .slice A415_5 ((rd_T143 t410 x38_2).f5).length c415_5] 143 (0, 0)) z15_13 hb)
         have n10_ := Aside0.mk (below_step z15_0 hb)
         clear HO_6
         clear HO_36
         clear HL415_0
         clear HL415_1
         clear HL415_2
         clear HL415_3
         clear HL415_4
         clear HL415_5
         clear BK416
         clear HB
         have HO_6 := n0_
         have HO_36 := n1_
         have HL415_0 := n2_
         have HL415_1 := n3_
         have HL415_2 := n4_
         have HL415_3 := n5_
         have HL415_4 := n6_
         have HL415_5 := n7_
         have HO419 := n8_
         have BK416 := n9_
         have HB := n10_
         clear n0_ n1_ n2_ n3_ n4_ n5_ n6_ n7_ n8_ n9_ n10_
         clear hb
         clear ho0
         refine hK.out _ _ ⟨(blk_cell BK416.out 0).trans rfl, (blk_cell BK416.out 1).trans rfl, (blk_cell BK416.out 2).trans rfl, (blk_cell BK416.out 3).trans rfl, (blk_cell BK416.out 4).trans rfl, (blk_cell BK416.out 5).trans rfl⟩ (fun hHeld => ?_)
         clear hK K
         refine norm_ (a' := ?_) ?_ ?_
         rotate_left
         ·show Act.put _ (some 49) _ = _
          simp only [Act.put, L1_, L2_, L3_, i64_w, i32_w]
          rfl
         refine one_ (i := 10) (N := some 56) #[tt,tt,tt,tt,tt,tt,tt,tt,tt,tt,tt,tt,tt,ff,tt,tt,ff,tt,tt,ff,tt,tt,ff,ff,ff,ff,ff] rfl rfl (one_of HT_.out z15_16) (by decide) (fun K hK => ?_)
         refine goes_ Try.func49 z15_16 rfl #[.slice A415_1 ((rd_T143 t410 x38_2).f1).length c415_1] (by rfl) rfl rfl z15_2 ?_
         with_reducible refine (tCo.calls k2 _ _ ((rd_T143 t410 x38_2).f1) t420 _ ?side1 ?side2 A21.out).mono ?_
         (case side1 => repeat (first | exact ((Kd.V_reads' z15_5).2.2) | (with_reducible refine Kd.C_alloc ?_ _) | (with_reducible refine Kd.C_drewN ?_ _) | (with_reducible refine Kd.C_drew ?_)))
         (case side2 => exact HC415_1.out)
         rintro e w32 ⟨v421, rfl, ho0, hb⟩
         refine ⟨_, rfl, ?_⟩
         have n0_ := Aside0.mk (Kd.S_elder' z15_1 (Kd.R_base ho0) hb)
         have n1_ := Aside0.mk (Kd.V_elder' z15_10 (Kd.R_base ho0) hb)
         have n2_ := Aside0.mk (Kd.V_elder' z15_4 (Kd.R_base ho0) hb)
         have n3_ := Aside0.mk (Kd.V_elder' z15_5 (Kd.R_base ho0) hb)
         have n4_ := Aside0.mk (Kd.V_elder' z15_6 (Kd.R_base ho0) hb)
         have n5_ := Aside0.mk (Kd.V_elder' z15_7 (Kd.R_base ho0) hb)
         have n6_ := Aside0.mk (Kd.V_elder' z15_8 (Kd.R_base ho0) hb)
         have n7_ := Aside0.mk (Kd.V_elder' z15_9 (Kd.R_base ho0) hb)
         have n8_ := Aside0.mk (Kd.R_elder' z15_3 (Kd.R_base ho0) hb)
         have n9_ := Aside0.mk (Kd.R_lower (Kd.R_new' ho0 (Kd.R_lt z15_3)) (below_size z15_0))
         have n10_ := Aside0.mk (blk_below (g := gb416) (o := .cells #[.slice A415_0 ((rd_T143 t410 x38_2).f0).length c415_0, .slice A415_1 ((rd_T143 t410 x38_2).f1).length c415_1, .slice A415_2 ((rd_T143 t410 x38_2).f2).length c415_2, .slice A415_3 ((rd_T143 t410 x38_2).f3).length c415_3, .slice A415_4 ((rd_T143 t410 x38_2).f4).length c415_4, .slice A415_5 ((rd_T143 t410 x38_2).f5).length c415_5] 143 (0, 0)) z15_13 hb)
         have n11_ := Aside0.mk (below_step z15_0 hb)
         clear HO_6
         clear HO_36
         clear HL415_0
         clear HL415_1
         clear HL415_2
         clear HL415_3
         clear HL415_4
         clear HL415_5
         clear HO419
         clear BK416
         clear HB
         have HO_6 := n0_
         have HO_36 := n1_
         have HL415_0 := n2_
         have HL415_1 := n3_
         have HL415_2 := n4_
         have HL415_3 := n5_
         have HL415_4 := n6_
         have HL415_5 := n7_
         have HO419 := n8_
         have HO422 := n9_
         have BK416 := n10_
         have HB := n11_
         clear n0_ n1_ n2_ n3_ n4_ n5_ n6_ n7_ n8_ n9_ n10_ n11_
         clear hb
         clear ho0
         refine hK.out _ _ ⟨(blk_cell BK416.out 0).trans rfl, (blk_cell BK416.out 1).trans rfl, (blk_cell BK416.out 2).trans rfl, (blk_cell BK416.out 3).trans rfl, (blk_cell BK416.out 4).trans rfl, (blk_cell BK416.out 5).trans rfl⟩ (fun hHeld => ?_)
         clear hK K
         refine norm_ (a' := ?_) ?_ ?_
         rotate_left
         ·show Act.put _ (some 56) _ = _
          simp only [Act.put, L1_, L2_, L3_, i64_w, i32_w]
          rfl
         refine one_ (i := 13) (N := some 59) #[tt,tt,tt,tt,tt,tt,tt,tt,tt,tt,tt,tt,tt,tt,tt,tt,ff,tt,tt,ff,tt,tt,ff,ff,ff,ff,ff] rfl rfl (one_of HT_.out z15_16) (by decide) (fun K hK => ?_)
         refine goes_ Try.func49 z15_16 rfl #[.slice A415_2 ((rd_T143 t410 x38_2).f2).length c415_2] (by rfl) rfl rfl z15_2 ?_
         with_reducible refine (tCo.calls k2 _ _ ((rd_T143 t410 x38_2).f2) t423 _ ?side1 ?side2 A22.out).mono ?_
         (case side1 => repeat (first | exact ((Kd.V_reads' z15_6).2.2) | (with_reducible refine Kd.C_alloc ?_ _) | (with_reducible refine Kd.C_drewN ?_ _) | (with_reducible refine Kd.C_drew ?_)))
         (case side2 => exact HC415_2.out)
         rintro e w33 ⟨v424, rfl, ho0, hb⟩
         refine ⟨_, rfl, ?_⟩
         have n0_ := Aside0.mk (Kd.S_elder' z15_1 (Kd.R_base ho0) hb)
         have n1_ := Aside0.mk (Kd.V_elder' z15_10 (Kd.R_base ho0) hb)
         have n2_ := Aside0.mk (Kd.V_elder' z15_4 (Kd.R_base ho0) hb)
         have n3_ := Aside0.mk (Kd.V_elder' z15_5 (Kd.R_base ho0) hb)
         have n4_ := Aside0.mk (Kd.V_elder' z15_6 (Kd.R_base ho0) hb)
         have n5_ := Aside0.mk (Kd.V_elder' z15_7 (Kd.R_base ho0) hb)
         have n6_ := Aside0.mk (Kd.V_elder' z15_8 (Kd.R_base ho0) hb)
         have n7_ := Aside0.mk (Kd.V_elder' z15_9 (Kd.R_base ho0) hb)
         have n8_ := Aside0.mk (Kd.R_elder' z15_3 (Kd.R_base ho0) hb)
         have n9_ := Aside0.mk (Kd.R_elder' z15_11 (Kd.R_base ho0) hb)
         have n10_ := Aside0.mk (Kd.R_lower (Kd.R_new' (Kd.R_new' ho0 (Kd.R_lt z15_3)) (Kd.R_lt z15_11)) (below_size z15_0))
         have n11_ := Aside0.mk (blk_below (g := gb416) (o := .cells #[.slice A415_0 ((rd_T143 t410 x38_2).f0).length c415_0, .slice A415_1 ((rd_T143 t410 x38_2).f1).length c415_1, .slice A415_2 ((rd_T143 t410 x38_2).f2).length c415_2, .slice A415_3 ((rd_T143 t410 x38_2).f3).length c415_3, .slice A415_4 ((rd_T143 t410 x38_2).f4).length c415_4, .slice A415_5 ((rd_T143 t410 x38_2).f5).length c415_5] 143 (0, 0)) z15_13 hb)
         have n12_ := Aside0.mk (below_step z15_0 hb)
         clear HO_6
         clear HO_36
         clear HL415_0
         clear HL415_1
         clear HL415_2
         clear HL415_3
         clear HL415_4
         clear HL415_5
         clear HO419
         clear HO422
         clear BK416
         clear HB
         have HO_6 := n0_
         have HO_36 := n1_
         have HL415_0 := n2_
         have HL415_1 := n3_
         have HL415_2 := n4_
         have HL415_3 := n5_
         have HL415_4 := n6_
         have HL415_5 := n7_
         have HO419 := n8_
         have HO422 := n9_
         have HO425 := n10_
         have BK416 := n11_
         have HB := n12_
         clear n0_ n1_ n2_ n3_ n4_ n5_ n6_ n7_ n8_ n9_ n10_ n11_ n12_
         clear hb
         clear ho0
         refine hK.out _ _ ⟨(blk_cell BK416.out 0).trans rfl, (blk_cell BK416.out 1).trans rfl, (blk_cell BK416.out 2).trans rfl, (blk_cell BK416.out 3).trans rfl, (blk_cell BK416.out 4).trans rfl, (blk_cell BK416.out 5).trans rfl⟩ (fun hHeld => ?_)
         clear hK K
         refine norm_ (a' := ?_) ?_ ?_
         rotate_left
         ·show Act.put _ (some 59) _ = _
          simp only [Act.put, L1_, L2_, L3_, i64_w, i32_w]
          rfl
         refine one_ (i := 16) (N := some 62) #[tt,tt,tt,tt,tt,tt,tt,tt,tt,tt,tt,tt,tt,tt,tt,tt,tt,tt,tt,ff,tt,tt,ff,ff,ff,ff,ff] rfl rfl (one_of HT_.out z15_16) (by decide) (fun K hK => ?_)
         refine goes_ Try.func50 z15_16 rfl #[.slice A415_3 ((rd_T143 t410 x38_2).f3).length c415_3] (by rfl) rfl rfl z15_2 ?_
         with_reducible refine (nU.calls k2 _ _ ((rd_T143 t410 x38_2).f3) t426 _ ?side1 ?side2 A23.out).mono ?_
         (case side1 => repeat (first | exact ((Kd.V_reads' z15_7).2.2) | (with_reducible refine Kd.C_alloc ?_ _) | (with_reducible refine Kd.C_drewN ?_ _) | (with_reducible refine Kd.C_drew ?_)))
         (case side2 => exact HC415_3.out)
         rintro e w34 ⟨v427, rfl, ho0, hb⟩
         refine ⟨_, rfl, ?_⟩
         have n0_ := Aside0.mk (Kd.S_elder' z15_1 (Kd.R_base ho0) hb)
         have n1_ := Aside0.mk (Kd.V_elder' z15_10 (Kd.R_base ho0) hb)
         have n2_ := Aside0.mk (Kd.V_elder' z15_4 (Kd.R_base ho0) hb)
         have n3_ := Aside0.mk (Kd.V_elder' z15_5 (Kd.R_base ho0) hb)
         have n4_ := Aside0.mk (Kd.V_elder' z15_6 (Kd.R_base ho0) hb)
         have n5_ := Aside0.mk (Kd.V_elder' z15_7 (Kd.R_base ho0) hb)
         have n6_ := Aside0.mk (Kd.V_elder' z15_8 (Kd.R_base ho0) hb)
         have n7_ := Aside0.mk (Kd.V_elder' z15_9 (Kd.R_base ho0) hb)
         have n8_ := Aside0.mk (Kd.R_elder' z15_3 (Kd.R_base ho0) hb)
         have n9_ := Aside0.mk (Kd.R_elder' z15_11 (Kd.R_base ho0) hb)
         have n10_ := Aside0.mk (Kd.R_elder' z15_12 (Kd.R_base ho0) hb)
         have n11_ := Aside0.mk (Kd.R_lower (Kd.R_new' (Kd.R_new' (Kd.R_new' ho0 (Kd.R_lt z15_3)) (Kd.R_lt z15_11)) (Kd.R_lt z15_12)) (below_size z15_0))
         have n12_ := Aside0.mk (blk_below (g := gb416) (o := .cells #[.slice A415_0 ((rd_T143 t410 x38_2).f0).length c415_0, .slice A415_1 ((rd_T143 t410 x38_2).f1).length c415_1, .slice A415_2 ((rd_T143 t410 x38_2).f2).length c415_2, .slice A415_3 ((rd_T143 t410 x38_2).f3).length c415_3, .slice A415_4 ((rd_T143 t410 x38_2).f4).length c415_4, .slice A415_5 ((rd_T143 t410 x38_2).f5).length c415_5] 143 (0, 0)) z15_13 hb)
         have n13_ := Aside0.mk (below_step z15_0 hb)
         clear HO_6
         clear HO_36
         clear HL415_0
         clear HL415_1
         clear HL415_2
         clear HL415_3
         clear HL415_4
         clear HL415_5
         clear HO419
         clear HO422
         clear HO425
         clear BK416
         clear HB
         have HO_6 := n0_
         have HO_36 := n1_
         have HL415_0 := n2_
         have HL415_1 := n3_
         have HL415_2 := n4_
         have HL415_3 := n5_
         have HL415_4 := n6_
         have HL415_5 := n7_
         have HO419 := n8_
         have HO422 := n9_
         have HO425 := n10_
         have HO428 := n11_
         have BK416 := n12_
         have HB := n13_
         clear n0_ n1_ n2_ n3_ n4_ n5_ n6_ n7_ n8_ n9_ n10_ n11_ n12_ n13_
         clear hb
         clear ho0
         refine hK.out _ _ ⟨(blk_cell BK416.out 0).trans rfl, (blk_cell BK416.out 1).trans rfl, (blk_cell BK416.out 2).trans rfl, (blk_cell BK416.out 3).trans rfl, (blk_cell BK416.out 4).trans rfl, (blk_cell BK416.out 5).trans rfl⟩ (fun hHeld => ?_)
         clear hK K
         refine norm_ (a' := ?_) ?_ ?_
         rotate_left
         ·show Act.put _ (some 62) _ = _
          simp only [Act.put, L1_, L2_, L3_, i64_w, i32_w]
          rfl
         refine one_ (i := 19) (N := some 65) #[tt,tt,tt,tt,tt,tt,tt,tt,tt,tt,tt,tt,tt,tt,tt,tt,tt,tt,tt,tt,tt,tt,ff,ff,ff,ff,ff] rfl rfl (one_of HT_.out z15_16) (by decide) (fun K hK => ?_)
         refine goes_ Try.func51 z15_16 rfl #[.slice A415_4 ((rd_T143 t410 x38_2).f4).length c415_4] (by rfl) rfl rfl z15_2 ?_
         with_reducible refine (nI.calls k2 _ _ ((rd_T143 t410 x38_2).f4) t429 _ ?side1 ?side2 A24.out).mono ?_
         (case side1 => repeat (first | exact ((Kd.V_reads' z15_8).2.2) | (with_reducible refine Kd.C_alloc ?_ _) | (with_reducible refine Kd.C_drewN ?_ _) | (with_reducible refine Kd.C_drew ?_)))
         (case side2 => exact HC415_4.out)
         rintro e w35 ⟨v430, rfl, ho0, hb⟩
         refine ⟨_, rfl, ?_⟩
         have n0_ := Aside0.mk (Kd.S_elder' z15_1 (Kd.R_base ho0) hb)
         have n1_ := Aside0.mk (Kd.V_elder' z15_10 (Kd.R_base ho0) hb)
         have n2_ := Aside0.mk (Kd.V_elder' z15_4 (Kd.R_base ho0) hb)
         have n3_ := Aside0.mk (Kd.V_elder' z15_5 (Kd.R_base ho0) hb)
         have n4_ := Aside0.mk (Kd.V_elder' z15_6 (Kd.R_base ho0) hb)
         have n5_ := Aside0.mk (Kd.V_elder' z15_7 (Kd.R_base ho0) hb)
         have n6_ := Aside0.mk (Kd.V_elder' z15_8 (Kd.R_base ho0) hb)
         have n7_ := Aside0.mk (Kd.V_elder' z15_9 (Kd.R_base ho0) hb)
         have n8_ := Aside0.mk (Kd.R_elder' z15_3 (Kd.R_base ho0) hb)
         have n9_ := Aside0.mk (Kd.R_elder' z15_11 (Kd.R_base ho0) hb)
         have n10_ := Aside0.mk (Kd.R_elder' z15_12 (Kd.R_base ho0) hb)
         have n11_ := Aside0.mk (Kd.R_elder' z15_15 (Kd.R_base ho0) hb)
         have n12_ := Aside0.mk (Kd.R_lower (Kd.R_new' (Kd.R_new' (Kd.R_new' (Kd.R_new' ho0 (Kd.R_lt z15_3)) (Kd.R_lt z15_11)) (Kd.R_lt z15_12)) (Kd.R_lt z15_15)) (below_size z15_0))
         have n13_ := Aside0.mk (blk_below (g := gb416) (o := .cells #[.slice A415_0 ((rd_T143 t410 x38_2).f0).length c415_0, .slice A415_1 ((rd_T143 t410 x38_2).f1).length c415_1, .slice A415_2 ((rd_T143 t410 x38_2).f2).length c415_2, .slice A415_3 ((rd_T143 t410 x38_2).f3).length c415_3, .slice A415_4 ((rd_T143 t410 x38_2).f4).length c415_4, .slice A415_5 ((rd_T143 t410 x38_2).f5).length c415_5] 143 (0, 0)) z15_13 hb)
         have n14_ := Aside0.mk (below_step z15_0 hb)
         clear HO_6
         clear HO_36
         clear HL415_0
         clear HL415_1
         clear HL415_2
         clear HL415_3
         clear HL415_4
         clear HL415_5
         clear HO419
         clear HO422
         clear HO425
         clear HO428
         clear BK416
         clear HB
         have HO_6 := n0_
         have HO_36 := n1_
         have HL415_0 := n2_
         have HL415_1 := n3_
         have HL415_2 := n4_
         have HL415_3 := n5_
         have HL415_4 := n6_
         have HL415_5 := n7_
         have HO419 := n8_
         have HO422 := n9_
         have HO425 := n10_
         have HO428 := n11_
         have HO431 := n12_
         have BK416 := n13_
         have HB := n14_
         clear n0_ n1_ n2_ n3_ n4_ n5_ n6_ n7_ n8_ n9_ n10_ n11_ n12_ n13_ n14_
         clear hb
         clear ho0
         refine hK.out _ _ ⟨(blk_cell BK416.out 0).trans rfl, (blk_cell BK416.out 1).trans rfl, (blk_cell BK416.out 2).trans rfl, (blk_cell BK416.out 3).trans rfl, (blk_cell BK416.out 4).trans rfl, (blk_cell BK416.out 5).trans rfl⟩ (fun hHeld => ?_)
         clear hK K
         refine norm_ (a' := ?_) ?_ ?_
         rotate_left
         ·show Act.put _ (some 65) _ = _
          simp only [Act.put, L1_, L2_, L3_, i64_w, i32_w]
          rfl
         refine one_ (i := 22) (N := some 68) #[tt,tt,tt,tt,tt,tt,tt,tt,tt,tt,tt,tt,tt,tt,tt,tt,tt,tt,tt,tt,tt,tt,tt,ff,ff,ff,ff] rfl rfl (one_of HT_.out z15_16) (by decide) (fun K hK => ?_)
         refine goes_ Try.func51 z15_16 rfl #[.slice A415_5 ((rd_T143 t410 x38_2).f5).length c415_5] (by rfl) rfl rfl z15_2 ?_
         with_reducible refine (nI.calls k2 _ _ ((rd_T143 t410 x38_2).f5) t432 _ ?side1 ?side2 A25.out).mono ?_
         (case side1 => repeat (first | exact ((Kd.V_reads' z15_9).2.2) | (with_reducible refine Kd.C_alloc ?_ _) | (with_reducible refine Kd.C_drewN ?_ _) | (with_reducible refine Kd.C_drew ?_)))
         (case side2 => exact HC415_5.out)
         rintro e w36 ⟨v433, rfl, ho0, hb⟩
         refine ⟨_, rfl, ?_⟩
         have n0_ := Aside0.mk (Kd.S_elder' z15_1 (Kd.R_base ho0) hb)
         have n1_ := Aside0.mk (Kd.V_elder' z15_10 (Kd.R_base ho0) hb)
         have n2_ := Aside0.mk (Kd.V_elder' z15_4 (Kd.R_base ho0) hb)
         have n3_ := Aside0.mk (Kd.V_elder' z15_5 (Kd.R_base ho0) hb)
         have n4_ := Aside0.mk (Kd.V_elder' z15_6 (Kd.R_base ho0) hb)
         have n5_ := Aside0.mk (Kd.V_elder' z15_7 (Kd.R_base ho0) hb)
         have n6_ := Aside0.mk (Kd.V_elder' z15_8 (Kd.R_base ho0) hb)
         have n7_ := Aside0.mk (Kd.V_elder' z15_9 (Kd.R_base ho0) hb)
         have n8_ := Aside0.mk (Kd.R_elder' z15_3 (Kd.R_base ho0) hb)
         have n9_ := Aside0.mk (Kd.R_elder' z15_11 (Kd.R_base ho0) hb)
         have n10_ := Aside0.mk (Kd.R_elder' z15_12 (Kd.R_base ho0) hb)
         have n11_ := Aside0.mk (Kd.R_elder' z15_15 (Kd.R_base ho0) hb)
         have n12_ := Aside0.mk (Kd.R_elder' (by (with_reducible repeat (first | apply Kd.R_alloc | apply Kd.R_drewN | apply Kd.R_drew)); exact HO431.out) (Kd.R_base ho0) hb)
         have n13_ := Aside0.mk (Kd.R_lower (Kd.R_new' (Kd.R_new' (Kd.R_new' (Kd.R_new' (Kd.R_new' ho0 (Kd.R_lt z15_3)) (Kd.R_lt z15_11)) (Kd.R_lt z15_12)) (Kd.R_lt z15_15)) (Kd.R_lt (by (with_reducible repeat (first | apply Kd.R_alloc | apply Kd.R_drewN | apply Kd.R_drew)); exact HO431.out))) (below_size z15_0))
         have n14_ := Aside0.mk (blk_below (g := gb416) (o := .cells #[.slice A415_0 ((rd_T143 t410 x38_2).f0).length c415_0, .slice A415_1 ((rd_T143 t410 x38_2).f1).length c415_1, .slice A415_2 ((rd_T143 t410 x38_2).f2).length c415_2, .slice A415_3 ((rd_T143 t410 x38_2).f3).length c415_3, .slice A415_4 ((rd_T143 t410 x38_2).f4).length c415_4, .slice A415_5 ((rd_T143 t410 x38_2).f5).length c415_5] 143 (0, 0)) z15_13 hb)
         have n15_ := Aside0.mk (below_step z15_0 hb)
         clear HO_6
         clear HO_36
         clear HL415_0
         clear HL415_1
         clear HL415_2
         clear HL415_3
         clear HL415_4
         clear HL415_5
         clear HO419
         clear HO422
         clear HO425
         clear HO428
         clear HO431
         clear BK416
         clear HB
         have HO_6 := n0_
         have HO_36 := n1_
         have HL415_0 := n2_
         have HL415_1 := n3_
         have HL415_2 := n4_
         have HL415_3 := n5_
         have HL415_4 := n6_
         have HL415_5 := n7_
         have HO419 := n8_
         have HO422 := n9_
         have HO425 := n10_
         have HO428 := n11_
         have HO431 := n12_
         have HO434 := n13_
         have BK416 := n14_
         have HB := n15_
         clear n0_ n1_ n2_ n3_ n4_ n5_ n6_ n7_ n8_ n9_ n10_ n11_ n12_ n13_ n14_ n15_
         clear hb
         clear ho0
         obtain ⟨Ao37, co37, eo37⟩ := Kd.R_slice HO434.out
         (first | subst eo37 | (injection eo37 with f1_ f2_ f3_; have f4_ := f1_.symm; have f5_ := f3_.symm; clear f1_ f2_ f3_; subst f4_; subst f5_))
         obtain ⟨Ao38, co38, eo38⟩ := Kd.R_slice HO431.out
         (first | subst eo38 | (injection eo38 with f1_ f2_ f3_; have f4_ := f1_.symm; have f5_ := f3_.symm; clear f1_ f2_ f3_; subst f4_; subst f5_))
         obtain ⟨Ao39, co39, eo39⟩ := Kd.R_slice HO428.out
         (first | subst eo39 | (injection eo39 with f1_ f2_ f3_; have f4_ := f1_.symm; have f5_ := f3_.symm; clear f1_ f2_ f3_; subst f4_; subst f5_))
         obtain ⟨Ao40, co40, eo40⟩ := Kd.R_slice HO425.out
         (first | subst eo40 | (injection eo40 with f1_ f2_ f3_; have f4_ := f1_.symm; have f5_ := f3_.symm; clear f1_ f2_ f3_; subst f4_; subst f5_))
         obtain ⟨Ao41, co41, eo41⟩ := Kd.R_slice HO422.out
         (first | subst eo41 | (injection eo41 with f1_ f2_ f3_; have f4_ := f1_.symm; have f5_ := f3_.symm; clear f1_ f2_ f3_; subst f4_; subst f5_))
         obtain ⟨Ao42, co42, eo42⟩ := Kd.R_slice HO419.out
         (first | subst eo42 | (injection eo42 with f1_ f2_ f3_; have f4_ := f1_.symm; have f5_ := f3_.symm; clear f1_ f2_ f3_; subst f4_; subst f5_))
         refine hK.out _ _ ⟨(blk_cell BK416.out 0).trans rfl, (blk_cell BK416.out 1).trans rfl, (blk_cell BK416.out 2).trans rfl, (blk_cell BK416.out 3).trans rfl, (blk_cell BK416.out 4).trans rfl, (blk_cell BK416.out 5).trans rfl⟩ (fun hHeld => ?_)
         clear hK K
         refine norm_ (a' := ?_) ?_ ?_
         rotate_left
         ·show Act.put _ (some 68) _ = _
          simp only [Act.put, L1_, L2_, L3_, i64_w, i32_w]
          rfl
         refine prx15 23 69 #[tt,tt,tt,tt,tt,tt,tt,tt,tt,tt,tt,tt,tt,tt,tt,tt,tt,tt,tt,tt,tt,tt,tt,tt,ff,ff,ff] ?_
         refine one_ (i := 24) (N := some 70) #[tt,tt,tt,tt,tt,tt,tt,tt,tt,tt,tt,tt,tt,tt,tt,tt,tt,tt,tt,tt,tt,tt,tt,tt,tt,ff,ff] rfl rfl (one_of HT_.out z15_16) (by decide) (fun K hK => ?_)
         refine value_ (w1 := ?_) (v := ?_) (by rfl) rfl ?_ ?_
         rotate_left 2
         ·go_simp
          constructor
          ·rfl
          ·rfl
         refine hK.out _ _ ⟨(blk_cell (blk_alloc BK416.out _) 0).trans rfl, (blk_cell (blk_alloc BK416.out _) 1).trans rfl, (blk_cell (blk_alloc BK416.out _) 2).trans rfl, (blk_cell (blk_alloc BK416.out _) 3).trans rfl, (blk_cell (blk_alloc BK416.out _) 4).trans rfl, (blk_cell (blk_alloc BK416.out _) 5).trans rfl⟩ (fun hHeld => ?_)
         clear hK K
         refine norm_ (a' := ?_) ?_ ?_
         rotate_left
         ·show Act.put _ (some 70) _ = _
          simp only [Act.put, L1_, L2_, L3_, i64_w, i32_w]
          rfl
         refine one_ (i := 25) (N := some 71) #[tt,tt,tt,tt,tt,tt,tt,tt,tt,tt,tt,tt,tt,tt,tt,tt,tt,tt,tt,tt,tt,tt,tt,tt,tt,tt,ff] rfl rfl (one_of HT_.out z15_16) (by decide) (fun K hK => ?_)
         rw [show decide (0 < (rd_T143 t410 x38_2).f1.length) = decide (((rd_T143 t410 x38_2).f1.length : Int) > 0) from decide_eq_decide.mpr (by omega)]
         refine Kd.S_append_step k62 (w0 := w) w.heap.size (by rfl) (.tmp 46) (.tmp 70) 59 62 (.agg #[(.slice none 0 0), (.bool false), (.slice none 0 0), (.slice none 0 0), (.slice none 0 0), (.slice none 0 0), (.slice none 0 0)]) 152 rfl Try.underlying59 info62 rfl (by decide) (by omega) u6 x6_2 (⟨t417, decide ((((rd_T143 t410 x38_2).f1).length : Int) > 0), t420, t423, t426, t429, t432⟩ : S62) [.slice Ao42 t417.length co42, .bool (decide ((((rd_T143 t410 x38_2).f1).length : Int) > 0)), .slice Ao41 t420.length co41, .slice Ao40 t423.length co40, .slice Ao39 t426.length co39, .slice Ao38 t429.length co38, .slice Ao37 t432.length co37] (fun _ => True) (fun k_ => some k_ = (.slice Ao42 t417.length co42 : Value).ownBlock ∨ some k_ = (.slice Ao41 t420.length co41 : Value).ownBlock ∨ some k_ = (.slice Ao40 t423.length co40 : Value).ownBlock ∨ some k_ = (.slice Ao39 t426.length co39 : Value).ownBlock ∨ some k_ = (.slice Ao38 t429.length co38 : Value).ownBlock ∨ some k_ = (.slice Ao37 t432.length co37 : Value).ownBlock) rfl rfl ?aP (fun k_ hk_ => hk_.elim (fun h_ => ((Kd.R_mono (ok' := fun k_ => ((fun _ => True)) k_ ∧ some k_ ≠ (u6 : Value).ownBlock) (Kd.R_apart' (HO419.out) (Kd.S_typed HO_6.out) (by decide)) (fun k_ hk => ⟨trivial, hk.2⟩))).1 k_ h_.symm) (fun h_ => h_.elim (fun h_ => ((Kd.R_mono (ok' := fun k_ => ((fun _ => True)) k_ ∧ some k_ ≠ (u6 : Value).ownBlock) (Kd.R_apart' (HO422.out) (Kd.S_typed HO_6.out) (by decide)) (fun k_ hk => ⟨trivial, hk.2⟩))).1 k_ h_.symm) (fun h_ => h_.elim (fun h_ => ((Kd.R_mono (ok' := fun k_ => ((fun _ => True)) k_ ∧ some k_ ≠ (u6 : Value).ownBlock) (Kd.R_apart' (HO425.out) (Kd.S_typed HO_6.out) (by decide)) (fun k_ hk => ⟨trivial, hk.2⟩))).1 k_ h_.symm) (fun h_ => h_.elim (fun h_ => ((Kd.R_mono (ok' := fun k_ => ((fun _ => True)) k_ ∧ some k_ ≠ (u6 : Value).ownBlock) (Kd.R_apart' (HO428.out) (Kd.S_typed HO_6.out) (by decide)) (fun k_ hk => ⟨trivial, hk.2⟩))).1 k_ h_.symm) (fun h_ => h_.elim (fun h_ => ((Kd.R_mono (ok' := fun k_ => ((fun _ => True)) k_ ∧ some k_ ≠ (u6 : Value).ownBlock) (Kd.R_apart' (HO431.out) (Kd.S_typed HO_6.out) (by decide)) (fun k_ hk => ⟨trivial, hk.2⟩))).1 k_ h_.symm) (fun h_ => ((Kd.R_mono (ok' := fun k_ => ((fun _ => True)) k_ ∧ some k_ ≠ (u6 : Value).ownBlock) (Kd.R_apart' (HO434.out) (Kd.S_typed HO_6.out) (by decide)) (fun k_ hk => ⟨trivial, hk.2⟩))).1 k_ h_.symm)))))) ?aF ?aO ?aB ?aS ?aL ?_
         (case aP => exact k62_mkM _ _ _ (⟨t417, decide ((((rd_T143 t410 x38_2).f1).length : Int) > 0), t420, t423, t426, t429, t432⟩ : S62) (Kd.R_mono (Kd.R_tight rfl (Kd.R_mono (ok' := fun k_ => ((fun _ => True)) k_ ∧ some k_ ≠ (u6 : Value).ownBlock) (Kd.R_apart' (HO419.out) (Kd.S_typed HO_6.out) (by decide)) (fun k_ hk => ⟨trivial, hk.2⟩))) (fun _ h_ => Or.inl h_)) (Kd.R_mono (Kd.R_tight rfl (Kd.R_mono (ok' := fun k_ => ((fun _ => True)) k_ ∧ some k_ ≠ (u6 : Value).ownBlock) (Kd.R_apart' (HO422.out) (Kd.S_typed HO_6.out) (by decide)) (fun k_ hk => ⟨trivial, hk.2⟩))) (fun _ h_ => Or.inr (Or.inl h_))) (Kd.R_mono (Kd.R_tight rfl (Kd.R_mono (ok' := fun k_ => ((fun _ => True)) k_ ∧ some k_ ≠ (u6 : Value).ownBlock) (Kd.R_apart' (HO425.out) (Kd.S_typed HO_6.out) (by decide)) (fun k_ hk => ⟨trivial, hk.2⟩))) (fun _ h_ => Or.inr (Or.inr (Or.inl h_)))) (Kd.R_mono (Kd.R_tight rfl (Kd.R_mono (ok' := fun k_ => ((fun _ => True)) k_ ∧ some k_ ≠ (u6 : Value).ownBlock) (Kd.R_apart' (HO428.out) (Kd.S_typed HO_6.out) (by decide)) (fun k_ hk => ⟨trivial, hk.2⟩))) (fun _ h_ => Or.inr (Or.inr (Or.inr (Or.inl h_))))) (Kd.R_mono (Kd.R_tight rfl (Kd.R_mono (ok' := fun k_ => ((fun _ => True)) k_ ∧ some k_ ≠ (u6 : Value).ownBlock) (Kd.R_apart' (HO431.out) (Kd.S_typed HO_6.out) (by decide)) (fun k_ hk => ⟨trivial, hk.2⟩))) (fun _ h_ => Or.inr (Or.inr (Or.inr (Or.inr (Or.inl h_)))))) (Kd.R_mono (Kd.R_tight rfl (Kd.R_mono (ok' := fun k_ => ((fun _ => True)) k_ ∧ some k_ ≠ (u6 : Value).ownBlock) (Kd.R_apart' (HO434.out) (Kd.S_typed HO_6.out) (by decide)) (fun k_ hk => ⟨trivial, hk.2⟩))) (fun _ h_ => Or.inr (Or.inr (Or.inr (Or.inr (Or.inr (h_))))))))
         (case aB => exact z15_0)
         (case aF => exact (fun _ _ => trivial))
         (case aO => exact (by (with_reducible repeat (first | apply Kd.S_alloc | apply Kd.S_drewN | apply Kd.S_drew)); exact Kd.S_mono HO_6.out (fun k_ hk => ⟨trivial, fun e_ => e_.elim (fun h_ => hk.1.1.1.1.1.2 h_) (fun h_ => h_.elim (fun h_ => hk.1.1.1.1.2 h_) (fun h_ => h_.elim (fun h_ => hk.1.1.1.2 h_) (fun h_ => h_.elim (fun h_ => hk.1.1.2 h_) (fun h_ => h_.elim (fun h_ => hk.1.2 h_) (fun h_ => hk.2 h_)))))⟩)))
         (case aS => exact (below_size z15_0))
         (case aL => have := LMc26.out; omega)
         intro v436 w43 ho hb hg hat
         rw [← Ny435.out] at ho
         have n0_ := Aside0.mk (Kd.V_afterv (ok := (fun k_ => some k_ ≠ (.slice Ao42 t417.length co42 : Value).ownBlock ∧ some k_ ≠ (.slice Ao41 t420.length co41 : Value).ownBlock ∧ some k_ ≠ (.slice Ao40 t423.length co40 : Value).ownBlock ∧ some k_ ≠ (.slice Ao39 t426.length co39 : Value).ownBlock ∧ some k_ ≠ (.slice Ao38 t429.length co38 : Value).ownBlock ∧ some k_ ≠ (.slice Ao37 t432.length co37 : Value).ownBlock ∧ k_ ≠ gb416)) (by (with_reducible repeat (first | apply Kd.V_alloc | apply Kd.V_drewN | apply Kd.V_drew)); exact Kd.V_mono HO_36.out (fun _ hk => ⟨⟨hk.1.1.1.1.1.2, ⟨hk.1.1.1.1.2, ⟨hk.1.1.1.2, ⟨hk.1.1.2, ⟨hk.1.2, ⟨hk.2, hk.1.1.1.1.1.1.2⟩⟩⟩⟩⟩⟩, hk.1.1.1.1.1.1.1⟩)) hg hat)
         have n1_ := Aside0.mk (Kd.V_afterv (ok := (fun k_ => some k_ ≠ (.slice Ao42 t417.length co42 : Value).ownBlock ∧ some k_ ≠ (.slice Ao41 t420.length co41 : Value).ownBlock ∧ some k_ ≠ (.slice Ao40 t423.length co40 : Value).ownBlock ∧ some k_ ≠ (.slice Ao39 t426.length co39 : Value).ownBlock ∧ some k_ ≠ (.slice Ao38 t429.length co38 : Value).ownBlock ∧ some k_ ≠ (.slice Ao37 t432.length co37 : Value).ownBlock ∧ k_ ≠ gb416)) (by (with_reducible repeat (first | apply Kd.V_alloc | apply Kd.V_drewN | apply Kd.V_drew)); exact Kd.V_mono HL415_0.out (fun _ hk => ⟨⟨hk.1.1.1.1.1.2, ⟨hk.1.1.1.1.2, ⟨hk.1.1.1.2, ⟨hk.1.1.2, ⟨hk.1.2, ⟨hk.2, hk.1.1.1.1.1.1.2⟩⟩⟩⟩⟩⟩, hk.1.1.1.1.1.1.1⟩)) hg hat)
         have n2_ := Aside0.mk (Kd.V_afterv (ok := (fun k_ => some k_ ≠ (.slice Ao42 t417.length co42 : Value).ownBlock ∧ some k_ ≠ (.slice Ao41 t420.length co41 : Value).ownBlock ∧ some k_ ≠ (.slice Ao40 t423.length co40 : Value).ownBlock ∧ some k_ ≠ (.slice Ao39 t426.length co39 : Value).ownBlock ∧ some k_ ≠ (.slice Ao38 t429.length co38 : Value).ownBlock ∧ some k_ ≠ (.slice Ao37 t432.length co37 : Value).ownBlock ∧ k_ ≠ gb416)) (by (with_reducible repeat (first | apply Kd.V_alloc | apply Kd.V_drewN | apply Kd.V_drew)); exact Kd.V_mono HL415_1.out (fun _ hk => ⟨⟨hk.1.1.1.1.1.2, ⟨hk.1.1.1.1.2, ⟨hk.1.1.1.2, ⟨hk.1.1.2, ⟨hk.1.2, ⟨hk.2, hk.1.1.1.1.1.1.2⟩⟩⟩⟩⟩⟩, hk.1.1.1.1.1.1.1⟩)) hg hat)
         have n3_ := Aside0.mk (Kd.V_afterv (ok := (fun k_ => some k_ ≠ (.slice Ao42 t417.length co42 : Value).ownBlock ∧ some k_ ≠ (.slice Ao41 t420.length co41 : Value).ownBlock ∧ some k_ ≠ (.slice Ao40 t423.length co40 : Value).ownBlock ∧ some k_ ≠ (.slice Ao39 t426.length co39 : Value).ownBlock ∧ some k_ ≠ (.slice Ao38 t429.length co38 : Value).ownBlock ∧ some k_ ≠ (.slice Ao37 t432.length co37 : Value).ownBlock ∧ k_ ≠ gb416)) (by (with_reducible repeat (first | apply Kd.V_alloc | apply Kd.V_drewN | apply Kd.V_drew)); exact Kd.V_mono HL415_2.out (fun _ hk => ⟨⟨hk.1.1.1.1.1.2, ⟨hk.1.1.1.1.2, ⟨hk.1.1.1.2, ⟨hk.1.1.2, ⟨hk.1.2, ⟨hk.2, hk.1.1.1.1.1.1.2⟩⟩⟩⟩⟩⟩, hk.1.1.1.1.1.1.1⟩)) hg hat)
         have n4_ := Aside0.mk (Kd.V_afterv (ok := (fun k_ => some k_ ≠ (.slice Ao42 t417.length co42 : Value).ownBlock ∧ some k_ ≠ (.slice Ao41 t420.length co41 : Value).ownBlock ∧ some k_ ≠ (.slice Ao40 t423.length co40 : Value).ownBlock ∧ some k_ ≠ (.slice Ao39 t426.length co39 : Value).ownBlock ∧ some k_ ≠ (.slice Ao38 t429.length co38 : Value).ownBlock ∧ some k_ ≠ (.slice Ao37 t432.length co37 : Value).ownBlock ∧ k_ ≠ gb416)) (by (with_reducible repeat (first | apply Kd.V_alloc | apply Kd.V_drewN | apply Kd.V_drew)); exact Kd.V_mono HL415_3.out (fun _ hk => ⟨⟨hk.1.1.1.1.1.2, ⟨hk.1.1.1.1.2, ⟨hk.1.1.1.2, ⟨hk.1.1.2, ⟨hk.1.2, ⟨hk.2, hk.1.1.1.1.1.1.2⟩⟩⟩⟩⟩⟩, hk.1.1.1.1.1.1.1⟩)) hg hat)
         have n5_ := Aside0.mk (Kd.V_afterv (ok := (fun k_ => some k_ ≠ (.slice Ao42 t417.length co42 : Value).ownBlock ∧ some k_ ≠ (.slice Ao41 t420.length co41 : Value).ownBlock ∧ some k_ ≠ (.slice Ao40 t423.length co40 : Value).ownBlock ∧ some k_ ≠ (.slice Ao39 t426.length co39 : Value).ownBlock ∧ some k_ ≠ (.slice Ao38 t429.length co38 : Value).ownBlock ∧ some k_ ≠ (.slice Ao37 t432.length co37 : Value).ownBlock ∧ k_ ≠ gb416)) (by (with_reducible repeat (first | apply Kd.V_alloc | apply Kd.V_drewN | apply Kd.V_drew)); exact Kd.V_mono HL415_4.out (fun _ hk => ⟨⟨hk.1.1.1.1.1.2, ⟨hk.1.1.1.1.2, ⟨hk.1.1.1.2, ⟨hk.1.1.2, ⟨hk.1.2, ⟨hk.2, hk.1.1.1.1.1.1.2⟩⟩⟩⟩⟩⟩, hk.1.1.1.1.1.1.1⟩)) hg hat)
         have n6_ := Aside0.mk (Kd.V_afterv (ok := (fun k_ => some k_ ≠ (.slice Ao42 t417.length co42 : Value).ownBlock ∧ some k_ ≠ (.slice Ao41 t420.length co41 : Value).ownBlock ∧ some k_ ≠ (.slice Ao40 t423.length co40 : Value).ownBlock ∧ some k_ ≠ (.slice Ao39 t426.length co39 : Value).ownBlock ∧ some k_ ≠ (.slice Ao38 t429.length co38 : Value).ownBlock ∧ some k_ ≠ (.slice Ao37 t432.length co37 : Value).ownBlock ∧ k_ ≠ gb416)) (by (with_reducible repeat (first | apply Kd.V_alloc | apply Kd.V_drewN | apply Kd.V_drew)); exact Kd.V_mono HL415_5.out (fun _ hk => ⟨⟨hk.1.1.1.1.1.2, ⟨hk.1.1.1.1.2, ⟨hk.1.1.1.2, ⟨hk.1.1.2, ⟨hk.1.2, ⟨hk.2, hk.1.1.1.1.1.1.2⟩⟩⟩⟩⟩⟩, hk.1.1.1.1.1.1.1⟩)) hg hat)
         have n7_ := Aside0.mk (blk_grown (g := gb416) (o := .cells #[.slice A415_0 ((rd_T143 t410 x38_2).f0).length c415_0, .slice A415_1 ((rd_T143 t410 x38_2).f1).length c415_1, .slice A415_2 ((rd_T143 t410 x38_2).f2).length c415_2, .slice A415_3 ((rd_T143 t410 x38_2).f3).length c415_3, .slice A415_4 ((rd_T143 t410 x38_2).f4).length c415_4, .slice A415_5 ((rd_T143 t410 x38_2).f5).length c415_5] 143 (0, 0)) z15_13 hg (Kd.S_ne HO_6.out BK416.out (by decide)))
         have n8_ := Aside0.mk (hb)
         have n9_ := Aside0.mk (ho)
         clear HO_36
         clear HL415_0
         clear HL415_1
         clear HL415_2
         clear HL415_3
         clear HL415_4
         clear HL415_5
         clear BK416
         clear HB
         clear HO_6
         clear HO419
         clear HO422
         clear HO425
         clear HO428
         clear HO431
         clear HO434
         have HO_36 := n0_
         have HL415_0 := n1_
         have HL415_1 := n2_
         have HL415_2 := n3_
         have HL415_3 := n4_
         have HL415_4 := n5_
         have HL415_5 := n6_
         have BK416 := n7_
         have HB := n8_
         have HO437 := n9_
         clear n0_ n1_ n2_ n3_ n4_ n5_ n6_ n7_ n8_ n9_
         clear ho hb hg hat
         refine hK.out _ _ ⟨(blk_cell BK416.out 0).trans rfl, (blk_cell BK416.out 1).trans rfl, (blk_cell BK416.out 2).trans rfl, (blk_cell BK416.out 3).trans rfl, (blk_cell BK416.out 4).trans rfl, (blk_cell BK416.out 5).trans rfl⟩ (fun hHeld => ?_)
         clear hK K
         refine norm_ (a' := ?_) ?_ ?_
         rotate_left
         ·show Act.put _ (some 71) _ = _
          simp only [Act.put, L1_, L2_, L3_, i64_w, i32_w]
          rfl
         refine prx15 26 6 #[tt,tt,tt,tt,tt,tt,tt,tt,tt,tt,tt,tt,tt,tt,tt,tt,tt,tt,tt,tt,tt,tt,tt,tt,tt,tt,tt] ?_
         refine done_ (done_of HT_.out z15_16) ?_
         try go_wp2
         go_roundg k2
         case measure => have := HJ3.out; have := HK2.out; omega
         case rel => exact ⟨(y435), (wrap64 (x38_2 + 1)), z15_18, H', ⟨by have := HJ3.out; have := HK2.out; omega⟩, ⟨by (with_reducible repeat (first | apply Kd.S_alloc | apply Kd.S_drewN | apply Kd.S_drew)); exact HO437.out⟩, ⟨by (with_reducible repeat (first | apply Kd.V_alloc | apply Kd.V_drewN | apply Kd.V_drew)); exact Kd.V_mono HO_36.out (fun _ hk => hk.2)⟩, ⟨z15_0⟩⟩
       ·rw [if_neg c14] at H
        have c14b0 : decide (x38_2 < (t410.length : Int)) = false := decide_eq_false c14
        clear c14
        simp only [Option.some.injEq, Prod.mk.injEq] at H
        obtain ⟨rfl, rfl, rfl⟩ := H
        go_wp2
        go_ret3
        exact ⟨_, by first | rfl | (simp [errW_none, errW_some] <;> rfl) | (simp [*, errW_none, errW_some] <;> rfl), by (with_reducible repeat (first | apply Kd.S_alloc | apply Kd.S_drewN | apply Kd.S_drew)); exact HO_6.out, by repeat (first | (with_reducible first | exact HB.out | apply below_alloc | apply pw_below_drewN | apply below_drew1 | refine below_set ?_ GE416.out) | exact HB.out)⟩
    ·have H1 : (some (([] : List (S62)), false, false)) = some (r1, r2, r3) := by rw [if_neg (show ¬ (some q414).isNone = true by simp)] at H; exact H
     clear H
     have H := H1
     clear H1
     try simp only [errW_none, errW_some]
     simp only [Option.some.injEq, Prod.mk.injEq] at H
     obtain ⟨rfl, rfl, rfl⟩ := H
     go_wp2_with (first | ((with_reducible refine gate_callee (f := 48) rfl ?_); refine goesL_ (some 31) rfl rfl Try.func48 z15_16 rfl #[.slice A0 l0.length c0, .int .i64 a1, .int .i64 a2] rfl z15_2 ?_; (with_reducible refine (zT.calls kj3 _ _ l0 a1 a2 t410 (some q414) _ ?side1 ?side2 A9.out).mono ?_); (case side1 => repeat (first | exact (Kd.C_below HR0.out HB.out) | (with_reducible refine Kd.C_alloc ?_ _) | (with_reducible refine Kd.C_drewN ?_ _) | (with_reducible refine Kd.C_drew ?_))); (case side2 => exact HC0.out); rintro e w46 ⟨v412, ev44, rfl, ho0, he45, hb⟩; refine ⟨_, rfl, ?_⟩; have n0_ := Aside0.mk (Kd.S_below z15_1 hb); have n1_ := Aside0.mk (Kd.V_lower (Kd.V_mono (ok' := fun k_ => some k_ ≠ (.slice none 0 0 : Value).ownBlock) ho0 (fun k_ hk_ => (Kd.fresh' (Kd.S_lt z15_1) k_ hk_))) (below_size z15_0)); have n2_ := Aside0.mk (below_step z15_0 hb); clear HO_6; clear HB; have HO_6 := n0_; have HO413 := n1_; have HB := n2_; clear n0_ n1_ n2_ hb ho0; (first | (obtain rfl := EV_none he45) | (obtain ⟨te_, pe_, rfl⟩ := EV_some he45) | skip)))
     go_ret3
     exact ⟨_, by first | rfl | (simp [errW_none, errW_some] <;> rfl) | (simp [*, errW_none, errW_some] <;> rfl), by first | exact Kd.S_nil _ _ _ _ _ | exact Kd.N_nil _ _ _ _ _ | exact Kd.V_nil _ _ _ _ _ | exact Kd.Q_nil _ _ _ _ _ | exact Kd.R_nil _ _ _ _ _, by repeat (first | (with_reducible first | exact HB.out | apply below_alloc | apply pw_below_drewN | apply below_drew1 | refine below_set ?_ GE416.out) | exact HB.out)⟩

end Go.Proofs.Ytchkmmbedgolbaa.PFnTuplesOf

