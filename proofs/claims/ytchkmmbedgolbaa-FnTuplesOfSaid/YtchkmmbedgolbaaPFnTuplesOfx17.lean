-- Written by a program of this session (xprint) out of the translation; Lean checks it.
import Derived.Test.YtchkmmbedgolbaaPFnTuplesOfx0
import Derived.Test.YtchkmmbedgolbaaPFnTuplesOfx1
import Derived.Test.YtchkmmbedgolbaaPFnTuplesOfx3
import Derived.Test.YtchkmmbedgolbaaPFnTuplesOfx7
import Derived.Test.YtchkmmbedgolbaaPFnTuplesOfx8
import Derived.Test.YtchkmmbedgolbaaPFnTuplesOfx15
import Derived.Test.YtchkmmbedgolbaaPFnTuplesOfx16
namespace Go.Proofs.Ytchkmmbedgolbaa.PFnTuplesOf
open Go.RowKit Go.Proofs.YtchkmmbedgolbaaW.PrintWords Go.Proofs.YtchkmmbedgolbaaW.PrintLast Go.Proofs.YtchkmmbedgolbaaW.PrintMore
attribute [local go_sem] max2_int min2_int max_two min_two max_three min_three max_four min_four   -- for this text's walks alone
set_option linter.unusedVariables false
set_option linter.unusedSimpArgs false
theorem cz7x17 {w : World} {g : Nat} {t : TypeId} {v0 v1 v2 v3 v4 v5 v6 : Value} (h : w.heap[g]? = some (.cells #[v0, v1, v2, v3, v4, v5, v6] t (0, 0))) : w.cell? ⟨g, 0, none⟩ = some v0 ∧ w.cell? ⟨g, 1, none⟩ = some v1 ∧ w.cell? ⟨g, 2, none⟩ = some v2 ∧ w.cell? ⟨g, 3, none⟩ = some v3 ∧ w.cell? ⟨g, 4, none⟩ = some v4 ∧ w.cell? ⟨g, 5, none⟩ = some v5 ∧ w.cell? ⟨g, 6, none⟩ = some v6 := ⟨(blk_cell h 0).trans rfl, (blk_cell h 1).trans rfl, (blk_cell h 2).trans rfl, (blk_cell h 3).trans rfl, (blk_cell h 4).trans rfl, (blk_cell h 5).trans rfl, (blk_cell h 6).trans rfl⟩
theorem fz7x17 {w : World} {g : Nat} {t : TypeId} {cs : Array Value} (h : w.heap[g]? = some (.cells cs t (0, 0))) : w.frozen? ⟨g, 0, none⟩ = false ∧ w.frozen? ⟨g, 1, none⟩ = false ∧ w.frozen? ⟨g, 2, none⟩ = false ∧ w.frozen? ⟨g, 3, none⟩ = false ∧ w.frozen? ⟨g, 4, none⟩ = false ∧ w.frozen? ⟨g, 5, none⟩ = false ∧ w.frozen? ⟨g, 6, none⟩ = false := ⟨blk_frozen h 0, blk_frozen h 1, blk_frozen h 2, blk_frozen h 3, blk_frozen h 4, blk_frozen h 5, blk_frozen h 6⟩
theorem z17_5 {p : Prop} (h : p := by first | (with_reducible assumption) | assumption) : p := h
theorem z17_4 {p : Prop} (h : p := by first | rfl | (simp; done) | (simp [*]; done)) : p := h
theorem z17_3 {p : Prop} (h : p := by (with_reducible repeat (first | apply Kd.R_alloc | apply Kd.R_drewN | apply Kd.R_drew)); exact HO458.out) : p := h
theorem z17_2 {p : Prop} (h : p := by (try simp only [List.map_toArray, List.map_cons, List.map_nil]); first | done | rfl | (simp only [List.length_drop, List.length_take]; rfl)) : p := h
theorem z17_1 {p : Prop} (h : p := by (with_reducible repeat (first | apply b1_ | apply b2_ | apply b3_)); refine blk_put (cs := #[.slice A452_0 ((rd_T62 l0 x36_2).f0).length c452_0, .bool ((rd_T62 l0 x36_2).f1), .slice A452_2 ((rd_T62 l0 x36_2).f2).length c452_2, .slice A452_3 ((rd_T62 l0 x36_2).f3).length c452_3, .slice A452_4 ((rd_T62 l0 x36_2).f4).length c452_4, .slice A452_5 ((rd_T62 l0 x36_2).f5).length c452_5, .slice none 0 0]) ?_ 6 _ rfl; (with_reducible repeat (first | apply b1_ | apply b2_ | apply b3_)); refine blk_put (cs := #[.slice A452_0 ((rd_T62 l0 x36_2).f0).length c452_0, .bool ((rd_T62 l0 x36_2).f1), .slice A452_2 ((rd_T62 l0 x36_2).f2).length c452_2, .slice A452_3 ((rd_T62 l0 x36_2).f3).length c452_3, .slice A452_4 ((rd_T62 l0 x36_2).f4).length c452_4, .slice none 0 0, .slice none 0 0]) ?_ 5 _ rfl; (with_reducible repeat (first | apply b1_ | apply b2_ | apply b3_)); refine blk_put (cs := #[.slice A452_0 ((rd_T62 l0 x36_2).f0).length c452_0, .bool ((rd_T62 l0 x36_2).f1), .slice A452_2 ((rd_T62 l0 x36_2).f2).length c452_2, .slice A452_3 ((rd_T62 l0 x36_2).f3).length c452_3, .slice none 0 0, .slice none 0 0, .slice none 0 0]) ?_ 4 _ rfl; (with_reducible repeat (first | apply b1_ | apply b2_ | apply b3_)); refine blk_put (cs := #[.slice A452_0 ((rd_T62 l0 x36_2).f0).length c452_0, .bool ((rd_T62 l0 x36_2).f1), .slice A452_2 ((rd_T62 l0 x36_2).f2).length c452_2, .slice none 0 0, .slice none 0 0, .slice none 0 0, .slice none 0 0]) ?_ 3 _ rfl; (with_reducible repeat (first | apply b1_ | apply b2_ | apply b3_)); refine blk_put (cs := #[.slice A452_0 ((rd_T62 l0 x36_2).f0).length c452_0, .bool ((rd_T62 l0 x36_2).f1), .slice none 0 0, .slice none 0 0, .slice none 0 0, .slice none 0 0, .slice none 0 0]) ?_ 2 _ rfl; (with_reducible repeat (first | apply b1_ | apply b2_ | apply b3_)); refine blk_put (cs := #[.slice A452_0 ((rd_T62 l0 x36_2).f0).length c452_0, .bool false, .slice none 0 0, .slice none 0 0, .slice none 0 0, .slice none 0 0, .slice none 0 0]) ?_ 1 _ rfl; (with_reducible repeat (first | apply b1_ | apply b2_ | apply b3_)); refine blk_put (cs := #[.slice none 0 0, .bool false, .slice none 0 0, .slice none 0 0, .slice none 0 0, .slice none 0 0, .slice none 0 0]) ?_ 0 _ rfl; (with_reducible repeat (first | apply b1_ | apply b2_ | apply b3_)); exact BK453.out) : p := h
theorem z17_0 {p : Prop} (h : p := by repeat (first | (with_reducible first | exact HB.out | apply below_alloc | apply pw_below_drewN | apply below_drew1 | refine below_set ?_ GE453.out) | exact HB.out)) : p := h

mutual
def laws_FnTuplesOf.j0 : Nat → List (S62) → Int → Int → List Int → Bool → Option (Bool)
 | 0, _, _, _, _, _ => none
 | k + 1, x0, x1, x2, x3, x25 => if x25 = true then (some true) else (laws_FnTuplesOf.l0 k x0 x3 (wrap64 (4 + (wrap64 (Int.tmod x1 30)))) (wrap64 (1 + (wrap64 (Int.tmod x2 3)))) x0 (x0.length : Int) 0)
def laws_FnTuplesOf.l0 : Nat → List (S62) → List Int → Int → Int → List (S62) → Int → Int → Option (Bool)
 | 0, _, _, _, _, _, _, _ => none
 | k + 1, x0, x3, x9, x10, x34, x35, x36 => if x36 < x35 then (if 0 ≤ x36 then (if x36 < (x34.length : Int) then ((tMD.f k ((rd_T62 x34 x36).f0) ((rd_T62 x34 x36).f1) ((rd_T62 x34 x36).f2) ((rd_T62 x34 x36).f3) ((rd_T62 x34 x36).f4) ((rd_T62 x34 x36).f5) ((rd_T62 x34 x36).f6) x9 x10).bind fun t454 => (if t454 = true then (laws_FnTuplesOf.l0 k x0 x3 x9 x10 x34 x35 (wrap64 (x36 + 1))) else (some true))) else (none)) else (none)) else (if (x0.length : Int) = 0 then (laws_FnTuplesOf.j2 k x0 x3 x9 x10 true) else (laws_FnTuplesOf.j2 k x0 x3 x9 x10 (decide ((x0.length : Int) > 8))))
def laws_FnTuplesOf.j2 : Nat → List (S62) → List Int → Int → Int → Bool → Option (Bool)
 | 0, _, _, _, _, _ => none
 | k + 1, x0, x3, x9, x10, x53 => if x53 = true then (some true) else ((tBy.f k x0 x9 x10 x3).bind fun bt455 => (if bt455.2 = true then ((iTO.f k bt455.1 x10 x9).bind fun bt459 => (if bt459.2.1 = true then (if bt459.2.2 = true then ((iTu.f k bt459.1 x0).bind fun t464 => (some t464)) else (some false)) else (some false))) else (some true)))
end
def laws_FnTuplesOf.f (k : Nat) (l0 : List (S62)) (a1 : Int) (a2 : Int) (l3 : List Int) : Option (Bool) := (zF.f k l0).bind fun t451 => (if t451 = true then (laws_FnTuplesOf.j0 k l0 a1 a2 l3 (decide ((l3.length : Int) > 2147483647))) else (laws_FnTuplesOf.j0 k l0 a1 a2 l3 true))
theorem laws_FnTuplesOf.mono_l : ∀ k, (∀ y0 y1 y2 y3 y4, LeO (laws_FnTuplesOf.j0 k y0 y1 y2 y3 y4) (laws_FnTuplesOf.j0 (k + 1) y0 y1 y2 y3 y4)) ∧ (∀ y0 y1 y2 y3 y4 y5 y6, LeO (laws_FnTuplesOf.l0 k y0 y1 y2 y3 y4 y5 y6) (laws_FnTuplesOf.l0 (k + 1) y0 y1 y2 y3 y4 y5 y6)) ∧ (∀ y0 y1 y2 y3 y4, LeO (laws_FnTuplesOf.j2 k y0 y1 y2 y3 y4) (laws_FnTuplesOf.j2 (k + 1) y0 y1 y2 y3 y4))
 | 0 => ⟨fun _ _ _ _ _ r h => by simp [laws_FnTuplesOf.j0] at h, fun _ _ _ _ _ _ _ r h => by simp [laws_FnTuplesOf.l0] at h, fun _ _ _ _ _ r h => by simp [laws_FnTuplesOf.j2] at h⟩
 | k + 1 => by
  obtain ⟨ih0, ih1, ih2⟩ := laws_FnTuplesOf.mono_l k
  refine ⟨?_, ?_, ?_⟩
  all_goals intros
  all_goals first | unfold laws_FnTuplesOf.j0 | unfold laws_FnTuplesOf.l0 | unfold laws_FnTuplesOf.j2
  all_goals repeat' first
  | (with_reducible exact ih0 _ _ _ _ _)
  | (with_reducible exact ih1 _ _ _ _ _ _ _)
  | (with_reducible exact ih2 _ _ _ _ _)
  | (with_reducible exact iTu.mono _ _ _)
  | (with_reducible exact iTO.mono _ _ _ _)
  | (with_reducible exact zF.mono _ _)
  | (with_reducible exact tBy.mono _ _ _ _ _)
  | (with_reducible exact tMD.mono _ _ _ _ _ _ _ _ _ _)
  | (with_reducible exact LeO.refl _)
  | (with_reducible exact LeO.none _)
  | (with_reducible refine LeO.ite ?_ ?_)
  | (with_reducible refine LeO.bind ?_ (fun _ => ?_))
theorem laws_FnTuplesOf.mono : ∀ a0 a1 a2 a3 k, LeO (laws_FnTuplesOf.f k a0 a1 a2 a3) (laws_FnTuplesOf.f (k + 1) a0 a1 a2 a3) := by
 intro a0 a1 a2 a3 k
 obtain ⟨ih0, ih1, ih2⟩ := laws_FnTuplesOf.mono_l k
 unfold laws_FnTuplesOf.f
 repeat' first
   | (with_reducible exact ih0 _ _ _ _ _)
   | (with_reducible exact ih1 _ _ _ _ _ _ _)
   | (with_reducible exact ih2 _ _ _ _ _)
   | (with_reducible exact iTu.mono _ _ _)
   | (with_reducible exact iTO.mono _ _ _ _)
   | (with_reducible exact zF.mono _ _)
   | (with_reducible exact tBy.mono _ _ _ _ _)
   | (with_reducible exact tMD.mono _ _ _ _ _ _ _ _ _ _)
   | (with_reducible exact LeO.refl _)
   | (with_reducible exact LeO.none _)
   | (with_reducible refine LeO.ite ?_ ?_)
   | (with_reducible refine LeO.bind ?_ (fun _ => ?_))
set_option maxHeartbeats 8000000 in
set_option maxRecDepth 100000 in
theorem laws_FnTuplesOf.calls (k : Nat) (A0 : Option Addr) (c0 : Nat) (l0 : List (S62)) (a1 : Int) (a2 : Int) (A3 : Option Addr) (c3 : Nat) (l3 : List Int) (r : Bool) (w : World) (hr0 : Kd.C k62 w A0 l0.length l0) (hc0 : l0.length ≤ c0) (hr3 : Kd.C (Kd.int .u8) w A3 l3.length l3) (hc3 : l3.length ≤ c3) (h : laws_FnTuplesOf.f k l0 a1 a2 l3 = some r) :
  Calls Try.prog 7 #[.slice A0 l0.length c0, .int .u8 a1, .int .u8 a2, .slice A3 l3.length c3] w fun e w' => e = .returned (.bool r) ∧ Below w.heap.size w w' := by
 have hu62 := Try.underlying62
 have HR0 := Aside0.mk hr0
 have HC0 := Aside0.mk hc0
 clear hr0 hc0
 have HR3 := Aside0.mk hr3
 have HC3 := Aside0.mk hc3
 clear hr3 hc3
 have HB := Aside0.mk (Below.refl w.heap.size w)
 have H : ((zF.f k l0).bind fun t451 => (if t451 = true then (laws_FnTuplesOf.j0 k l0 a1 a2 l3 (decide ((l3.length : Int) > 2147483647))) else (laws_FnTuplesOf.j0 k l0 a1 a2 l3 true))) = some r := h
 clear h
 have HC5 := Aside0.mk H
 clear H
 go_enter Try.func7, Try.ntmps7
 go_upto_region 1 with (fail)
 go_cut [25] (fun v25 wc => ∃ (kq : Nat) (x25_4 : Bool), v25 = .bool x25_4 ∧ Aside0 (laws_FnTuplesOf.j0 kq l0 a1 a2 l3 x25_4 = some r) ∧ Aside0 (kq ≤ k) ∧ Aside0 (Below w.heap.size w wc))
 case first =>
  have H := HC5.out
  clear HC5
  replace H := Option.bind_eq_some_iff.mp H
  obtain ⟨t451, A60, H⟩ := H
  replace H : (if t451 = true then (laws_FnTuplesOf.j0 k l0 a1 a2 l3 (decide ((l3.length : Int) > 2147483647))) else (laws_FnTuplesOf.j0 k l0 a1 a2 l3 true)) = some r := H
  have A6 := Aside0.mk A60
  clear A60
  by_cases c7 : t451 = true
  ·subst c7
   have H1 : (laws_FnTuplesOf.j0 k l0 a1 a2 l3 (decide ((l3.length : Int) > 2147483647))) = some r := by rw [if_pos rfl] at H; exact H
   clear H
   have H := H1
   clear H1
   have H' := Aside0.mk H
   clear H
   go_wp2_with (first | ((with_reducible refine gate_callee (f := 24) rfl ?_); refine goesL_ (some 19) rfl rfl Try.func24 (by kernel_rfl) rfl #[.slice A0 l0.length c0] rfl z17_2 ?_; (with_reducible refine (zF.calls k _ _ l0 true _ ?side1 ?side2 A6.out).mono ?_); (case side1 => repeat (first | exact (Kd.C_below HR0.out HB.out) | (with_reducible refine Kd.C_alloc ?_ _) | (with_reducible refine Kd.C_drewN ?_ _) | (with_reducible refine Kd.C_drew ?_))); (case side2 => exact HC0.out); rintro e w8 ⟨rfl, hb⟩; refine ⟨_, rfl, ?_⟩; have n0_ := Aside0.mk (below_step z17_0 hb); clear HB; have HB := n0_; clear n0_ hb; skip))
   go_meet
   case rel => exact ⟨_, (decide ((l3.length : Int) > 2147483647)), z17_4, H', ⟨by first | omega | exact Nat.le_refl _⟩, ⟨z17_0⟩⟩
  ·replace c7 := Bool.eq_false_iff.mpr c7
   subst c7
   have H1 : (laws_FnTuplesOf.j0 k l0 a1 a2 l3 true) = some r := by rw [if_neg (show ¬ (false = true) by decide)] at H; exact H
   clear H
   have H := H1
   clear H1
   have H' := Aside0.mk H
   clear H
   go_wp2_with (first | ((with_reducible refine gate_callee (f := 24) rfl ?_); refine goesL_ (some 19) rfl rfl Try.func24 (by kernel_rfl) rfl #[.slice A0 l0.length c0] rfl z17_2 ?_; (with_reducible refine (zF.calls k _ _ l0 false _ ?side1 ?side2 A6.out).mono ?_); (case side1 => repeat (first | exact (Kd.C_below HR0.out HB.out) | (with_reducible refine Kd.C_alloc ?_ _) | (with_reducible refine Kd.C_drewN ?_ _) | (with_reducible refine Kd.C_drew ?_))); (case side2 => exact HC0.out); rintro e w9 ⟨rfl, hb⟩; refine ⟨_, rfl, ?_⟩; have n0_ := Aside0.mk (below_step z17_0 hb); clear HB; have HB := n0_; clear n0_ hb; skip))
   go_meet
   case rel => exact ⟨_, (true), z17_4, H', ⟨by first | omega | exact Nat.le_refl _⟩, ⟨z17_0⟩⟩
 case rest =>
  clear HC5
  obtain ⟨kq, x25_4, rfl, HA, HJ4, HB⟩ := hcut
  cases kq with
  | zero => exact absurd HA.out (by simp [laws_FnTuplesOf.j0])
  | succ kj4 =>
   have H := HA.out
   clear HA
   simp only [laws_FnTuplesOf.j0] at H
   by_cases c10 : x25_4 = true
   ·subst c10
    have H1 : (some true) = some r := by rw [if_pos rfl] at H; exact H
    clear H
    have H := H1
    clear H1
    obtain rfl := Option.some.inj H
    go_wp2
    go_ret
    exact ⟨by first | rfl | (simp [errW_none, errW_some] <;> rfl) | (simp [*, errW_none, errW_some] <;> rfl), by repeat (first | (with_reducible first | exact HB.out | apply below_alloc | apply pw_below_drewN | apply below_drew1 | refine below_set ?_ GE453.out) | exact HB.out)⟩
   ·replace c10 := Bool.eq_false_iff.mpr c10
    subst c10
    have H1 : (laws_FnTuplesOf.l0 kj4 l0 l3 (wrap64 (4 + (wrap64 (Int.tmod a1 30)))) (wrap64 (1 + (wrap64 (Int.tmod a2 3)))) l0 (l0.length : Int) 0) = some r := by rw [if_neg (show ¬ (false = true) by decide)] at H; exact H
    clear H
    have H := H1
    clear H1
    have H' := Aside0.mk H
    clear H
    go_wp2
    go_loopg [36] kj4 (fun kq v36 w' => ∃ (x36_2 : Int), v36 = .int .i64 x36_2 ∧ Aside0 (laws_FnTuplesOf.l0 kq l0 l3 (wrap64 (4 + (wrap64 (Int.tmod a1 30)))) (wrap64 (1 + (wrap64 (Int.tmod a2 3)))) l0 (l0.length : Int) x36_2 = some r) ∧ Aside0 (kq ≤ kj4) ∧ Aside0 (Below w.heap.size w w'))
    case atStart => exact ⟨(0), z17_4, H', ⟨Nat.le_refl _⟩, ⟨z17_0⟩⟩
    case round =>
     clear H'
     obtain ⟨x36_2, rfl, HA, HK2, HB⟩ := hrel
     cases gk with
     | zero => exact absurd HA.out (by simp [laws_FnTuplesOf.l0])
     | succ k2 =>
      have H := HA.out
      clear HA
      simp only [laws_FnTuplesOf.l0] at H
      by_cases c11 : x36_2 < (l0.length : Int)
      ·rw [if_pos c11] at H
       have c11b0 : decide (x36_2 < (l0.length : Int)) = true := decide_eq_true c11
       clear c11
       by_cases c12 : 0 ≤ x36_2
       rotate_left
       ·rw [if_neg c12] at H
        exact absurd H (by simp)
       rw [if_pos c12] at H
       have c12b0 : decide (0 ≤ x36_2) = true := decide_eq_true c12
       clear c12
       by_cases c13 : x36_2 < (l0.length : Int)
       rotate_left
       ·rw [if_neg c13] at H
        exact absurd H (by simp)
       rw [if_pos c13] at H
       have c13b0 : decide (x36_2 < (l0.length : Int)) = true := decide_eq_true c13
       clear c13
       replace H := Option.bind_eq_some_iff.mp H
       obtain ⟨t454, A140, H⟩ := H
       replace H : (if t454 = true then (laws_FnTuplesOf.l0 k2 l0 l3 (wrap64 (4 + (wrap64 (Int.tmod a1 30)))) (wrap64 (1 + (wrap64 (Int.tmod a2 3)))) l0 (l0.length : Int) (wrap64 (x36_2 + 1))) else (some true)) = some r := H
       have A14 := Aside0.mk A140
       clear A140
       by_cases c15 : t454 = true
       ·subst c15
        have H1 : (laws_FnTuplesOf.l0 k2 l0 l3 (wrap64 (4 + (wrap64 (Int.tmod a1 30)))) (wrap64 (1 + (wrap64 (Int.tmod a2 3)))) l0 (l0.length : Int) (wrap64 (x36_2 + 1))) = some r := by rw [if_pos rfl] at H; exact H
        clear H
        have H := H1
        clear H1
        have H' := Aside0.mk H
        clear H
        have p452 : 0 ≤ (x36_2 : Int) := of_decide_eq_true z17_5
        have q452 : x36_2 < (l0.length : Int) := of_decide_eq_true z17_5
        obtain ⟨ad452, A452_0, c452_0, A452_2, c452_2, A452_3, c452_3, A452_4, c452_4, A452_5, c452_5, A452_6, c452_6, e452, hx452_0, hx452_1, hx452_2, hx452_3, hx452_4, hx452_5, hx452_6, hl452_0, hi452_0, hl452_2, hi452_2, hl452_3, hi452_3, hl452_4, hi452_4, hl452_5, hi452_5, hl452_6, hi452_6⟩ := at_T62 HR0.out x36_2 p452 q452
        cases e452
        replace hx452_0 := (HB.out.cell (World.block_lt_of_cell? w _ hx452_0)).trans hx452_0
        replace hx452_1 := (HB.out.cell (World.block_lt_of_cell? w _ hx452_1)).trans hx452_1
        replace hx452_2 := (HB.out.cell (World.block_lt_of_cell? w _ hx452_2)).trans hx452_2
        replace hx452_3 := (HB.out.cell (World.block_lt_of_cell? w _ hx452_3)).trans hx452_3
        replace hx452_4 := (HB.out.cell (World.block_lt_of_cell? w _ hx452_4)).trans hx452_4
        replace hx452_5 := (HB.out.cell (World.block_lt_of_cell? w _ hx452_5)).trans hx452_5
        replace hx452_6 := (HB.out.cell (World.block_lt_of_cell? w _ hx452_6)).trans hx452_6
        have HR452_0 := Aside0.mk hi452_0
        have HC452_0 := Aside0.mk hl452_0
        clear hi452_0 hl452_0
        have HR452_2 := Aside0.mk hi452_2
        have HC452_2 := Aside0.mk hl452_2
        clear hi452_2 hl452_2
        have HR452_3 := Aside0.mk hi452_3
        have HC452_3 := Aside0.mk hl452_3
        clear hi452_3 hl452_3
        have HR452_4 := Aside0.mk hi452_4
        have HC452_4 := Aside0.mk hl452_4
        clear hi452_4 hl452_4
        have HR452_5 := Aside0.mk hi452_5
        have HC452_5 := Aside0.mk hl452_5
        clear hi452_5 hl452_5
        have HR452_6 := Aside0.mk hi452_6
        have HC452_6 := Aside0.mk hl452_6
        clear hi452_6 hl452_6
        replace p452 := eq_true p452
        replace q452 := eq_true q452
        go_wp2_with (first | ((with_reducible refine gate_dst (N := 12) rfl ?_); (try (refine gate_guard (by rfl) ?_; dsimp only)); refine box_event ?hg (N := 12) ?hd (cs := #[.slice none 0 0, .bool false, .slice none 0 0, .slice none 0 0, .slice none 0 0, .slice none 0 0, .slice none 0 0]) (t := 62) ?hr ?_; (case hd => rfl); (case hg => rfl); (case hr => first | (go_simp; done) | (go_simp; rfl)); intro gb453 hg w16 hbox hb; have n0_ := Aside0.mk (below_step z17_0 hb); have n1_ := Aside0.mk (hbox); have n2_ := Aside0.mk ((by rw [hg]; exact (below_size z17_0) : w.heap.size ≤ gb453)); have n3_ := Aside0.mk ((by rw [hg]; exact (below_size z17_0) : w.heap.size ≤ gb453)); clear HB; have HB := n0_; have BK453 := n1_; have GW453 := n2_; have GE453 := n3_; clear n0_ n1_ n2_ n3_; clear hb hbox hg; obtain ⟨hcz17_0, hcz17_1, hcz17_2, hcz17_3, hcz17_4, hcz17_5, hcz17_6⟩ := cz7x17 BK453.out; obtain ⟨hfz17_0, hfz17_1, hfz17_2, hfz17_3, hfz17_4, hfz17_5, hfz17_6⟩ := fz7x17 BK453.out) | ((with_reducible refine gate_callee (f := 25) rfl ?_); refine goesL_ (some 43) rfl rfl Try.func25 (by kernel_rfl) rfl #[.agg #[.slice A452_0 ((rd_T62 l0 x36_2).f0).length c452_0, .bool ((rd_T62 l0 x36_2).f1), .slice A452_2 ((rd_T62 l0 x36_2).f2).length c452_2, .slice A452_3 ((rd_T62 l0 x36_2).f3).length c452_3, .slice A452_4 ((rd_T62 l0 x36_2).f4).length c452_4, .slice A452_5 ((rd_T62 l0 x36_2).f5).length c452_5, .slice A452_6 ((rd_T62 l0 x36_2).f6).length c452_6], .int .i64 (wrap64 (4 + (wrap64 (Int.tmod a1 30)))), .int .i64 (wrap64 (1 + (wrap64 (Int.tmod a2 3))))] rfl z17_2 ?_; (with_reducible refine (tMD.calls k2 _ _ ((rd_T62 l0 x36_2).f0) ((rd_T62 l0 x36_2).f1) _ _ ((rd_T62 l0 x36_2).f2) _ _ ((rd_T62 l0 x36_2).f3) _ _ ((rd_T62 l0 x36_2).f4) _ _ ((rd_T62 l0 x36_2).f5) _ _ ((rd_T62 l0 x36_2).f6) (wrap64 (4 + (wrap64 (Int.tmod a1 30)))) (wrap64 (1 + (wrap64 (Int.tmod a2 3)))) true _ ?side1 ?side2 ?side3 ?side4 ?side5 ?side6 ?side7 ?side8 ?side9 ?side10 ?side11 ?side12 A14.out).mono ?_); (case side1 => exact Kd.C_below HR452_0.out z17_0); (case side2 => exact HC452_0.out); (case side3 => exact Kd.C_below HR452_2.out z17_0); (case side4 => exact HC452_2.out); (case side5 => exact Kd.C_below HR452_3.out z17_0); (case side6 => exact HC452_3.out); (case side7 => exact Kd.C_below HR452_4.out z17_0); (case side8 => exact HC452_4.out); (case side9 => exact Kd.C_below HR452_5.out z17_0); (case side10 => exact HC452_5.out); (case side11 => exact Kd.C_below HR452_6.out z17_0); (case side12 => exact HC452_6.out); rintro e w18 ⟨rfl, hb⟩; refine ⟨_, rfl, ?_⟩; have n0_ := Aside0.mk (blk_below (g := gb453) (o := .cells #[.slice A452_0 ((rd_T62 l0 x36_2).f0).length c452_0, .bool ((rd_T62 l0 x36_2).f1), .slice A452_2 ((rd_T62 l0 x36_2).f2).length c452_2, .slice A452_3 ((rd_T62 l0 x36_2).f3).length c452_3, .slice A452_4 ((rd_T62 l0 x36_2).f4).length c452_4, .slice A452_5 ((rd_T62 l0 x36_2).f5).length c452_5, .slice A452_6 ((rd_T62 l0 x36_2).f6).length c452_6] 62 (0, 0)) z17_1 hb); have n1_ := Aside0.mk (below_step z17_0 hb); clear BK453; clear HB; have BK453 := n0_; have HB := n1_; clear n0_ n1_ hb; skip))
        go_roundg k2
        case measure => have := HJ4.out; have := HK2.out; omega
        case rel => exact ⟨(wrap64 (x36_2 + 1)), z17_4, H', ⟨by have := HJ4.out; have := HK2.out; omega⟩, ⟨z17_0⟩⟩
       ·replace c15 := Bool.eq_false_iff.mpr c15
        subst c15
        have H1 : (some true) = some r := by rw [if_neg (show ¬ (false = true) by decide)] at H; exact H
        clear H
        have H := H1
        clear H1
        obtain rfl := Option.some.inj H
        have p452 : 0 ≤ (x36_2 : Int) := of_decide_eq_true z17_5
        have q452 : x36_2 < (l0.length : Int) := of_decide_eq_true z17_5
        obtain ⟨ad452, A452_0, c452_0, A452_2, c452_2, A452_3, c452_3, A452_4, c452_4, A452_5, c452_5, A452_6, c452_6, e452, hx452_0, hx452_1, hx452_2, hx452_3, hx452_4, hx452_5, hx452_6, hl452_0, hi452_0, hl452_2, hi452_2, hl452_3, hi452_3, hl452_4, hi452_4, hl452_5, hi452_5, hl452_6, hi452_6⟩ := at_T62 HR0.out x36_2 p452 q452
        cases e452
        replace hx452_0 := (HB.out.cell (World.block_lt_of_cell? w _ hx452_0)).trans hx452_0
        replace hx452_1 := (HB.out.cell (World.block_lt_of_cell? w _ hx452_1)).trans hx452_1
        replace hx452_2 := (HB.out.cell (World.block_lt_of_cell? w _ hx452_2)).trans hx452_2
        replace hx452_3 := (HB.out.cell (World.block_lt_of_cell? w _ hx452_3)).trans hx452_3
        replace hx452_4 := (HB.out.cell (World.block_lt_of_cell? w _ hx452_4)).trans hx452_4
        replace hx452_5 := (HB.out.cell (World.block_lt_of_cell? w _ hx452_5)).trans hx452_5
        replace hx452_6 := (HB.out.cell (World.block_lt_of_cell? w _ hx452_6)).trans hx452_6
        have HR452_0 := Aside0.mk hi452_0
        have HC452_0 := Aside0.mk hl452_0
        clear hi452_0 hl452_0
        have HR452_2 := Aside0.mk hi452_2
        have HC452_2 := Aside0.mk hl452_2
        clear hi452_2 hl452_2
        have HR452_3 := Aside0.mk hi452_3
        have HC452_3 := Aside0.mk hl452_3
        clear hi452_3 hl452_3
        have HR452_4 := Aside0.mk hi452_4
        have HC452_4 := Aside0.mk hl452_4
        clear hi452_4 hl452_4
        have HR452_5 := Aside0.mk hi452_5
        have HC452_5 := Aside0.mk hl452_5
        clear hi452_5 hl452_5
        have HR452_6 := Aside0.mk hi452_6
        have HC452_6 := Aside0.mk hl452_6
        clear hi452_6 hl452_6
        replace p452 := eq_true p452
        replace q452 := eq_true q452
        go_wp2_with (first | ((with_reducible refine gate_dst (N := 12) rfl ?_); (try (refine gate_guard (by rfl) ?_; dsimp only)); refine box_event ?hg (N := 12) ?hd (cs := #[.slice none 0 0, .bool false, .slice none 0 0, .slice none 0 0, .slice none 0 0, .slice none 0 0, .slice none 0 0]) (t := 62) ?hr ?_; (case hd => rfl); (case hg => rfl); (case hr => first | (go_simp; done) | (go_simp; rfl)); intro gb453 hg w19 hbox hb; have n0_ := Aside0.mk (below_step z17_0 hb); have n1_ := Aside0.mk (hbox); have n2_ := Aside0.mk ((by rw [hg]; exact (below_size z17_0) : w.heap.size ≤ gb453)); have n3_ := Aside0.mk ((by rw [hg]; exact (below_size z17_0) : w.heap.size ≤ gb453)); clear HB; have HB := n0_; have BK453 := n1_; have GW453 := n2_; have GE453 := n3_; clear n0_ n1_ n2_ n3_; clear hb hbox hg; obtain ⟨hcz20_0, hcz20_1, hcz20_2, hcz20_3, hcz20_4, hcz20_5, hcz20_6⟩ := cz7x17 BK453.out; obtain ⟨hfz20_0, hfz20_1, hfz20_2, hfz20_3, hfz20_4, hfz20_5, hfz20_6⟩ := fz7x17 BK453.out) | ((with_reducible refine gate_callee (f := 25) rfl ?_); refine goesL_ (some 43) rfl rfl Try.func25 (by kernel_rfl) rfl #[.agg #[.slice A452_0 ((rd_T62 l0 x36_2).f0).length c452_0, .bool ((rd_T62 l0 x36_2).f1), .slice A452_2 ((rd_T62 l0 x36_2).f2).length c452_2, .slice A452_3 ((rd_T62 l0 x36_2).f3).length c452_3, .slice A452_4 ((rd_T62 l0 x36_2).f4).length c452_4, .slice A452_5 ((rd_T62 l0 x36_2).f5).length c452_5, .slice A452_6 ((rd_T62 l0 x36_2).f6).length c452_6], .int .i64 (wrap64 (4 + (wrap64 (Int.tmod a1 30)))), .int .i64 (wrap64 (1 + (wrap64 (Int.tmod a2 3))))] rfl z17_2 ?_; (with_reducible refine (tMD.calls k2 _ _ ((rd_T62 l0 x36_2).f0) ((rd_T62 l0 x36_2).f1) _ _ ((rd_T62 l0 x36_2).f2) _ _ ((rd_T62 l0 x36_2).f3) _ _ ((rd_T62 l0 x36_2).f4) _ _ ((rd_T62 l0 x36_2).f5) _ _ ((rd_T62 l0 x36_2).f6) (wrap64 (4 + (wrap64 (Int.tmod a1 30)))) (wrap64 (1 + (wrap64 (Int.tmod a2 3)))) false _ ?side1 ?side2 ?side3 ?side4 ?side5 ?side6 ?side7 ?side8 ?side9 ?side10 ?side11 ?side12 A14.out).mono ?_); (case side1 => exact Kd.C_below HR452_0.out z17_0); (case side2 => exact HC452_0.out); (case side3 => exact Kd.C_below HR452_2.out z17_0); (case side4 => exact HC452_2.out); (case side5 => exact Kd.C_below HR452_3.out z17_0); (case side6 => exact HC452_3.out); (case side7 => exact Kd.C_below HR452_4.out z17_0); (case side8 => exact HC452_4.out); (case side9 => exact Kd.C_below HR452_5.out z17_0); (case side10 => exact HC452_5.out); (case side11 => exact Kd.C_below HR452_6.out z17_0); (case side12 => exact HC452_6.out); rintro e w21 ⟨rfl, hb⟩; refine ⟨_, rfl, ?_⟩; have n0_ := Aside0.mk (blk_below (g := gb453) (o := .cells #[.slice A452_0 ((rd_T62 l0 x36_2).f0).length c452_0, .bool ((rd_T62 l0 x36_2).f1), .slice A452_2 ((rd_T62 l0 x36_2).f2).length c452_2, .slice A452_3 ((rd_T62 l0 x36_2).f3).length c452_3, .slice A452_4 ((rd_T62 l0 x36_2).f4).length c452_4, .slice A452_5 ((rd_T62 l0 x36_2).f5).length c452_5, .slice A452_6 ((rd_T62 l0 x36_2).f6).length c452_6] 62 (0, 0)) z17_1 hb); have n1_ := Aside0.mk (below_step z17_0 hb); clear BK453; clear HB; have BK453 := n0_; have HB := n1_; clear n0_ n1_ hb; skip))
        go_ret
        exact ⟨by first | rfl | (simp [errW_none, errW_some] <;> rfl) | (simp [*, errW_none, errW_some] <;> rfl), by repeat (first | (with_reducible first | exact HB.out | apply below_alloc | apply pw_below_drewN | apply below_drew1 | refine below_set ?_ GE453.out) | exact HB.out)⟩
      ·rw [if_neg c11] at H
       have c11b0 : decide (x36_2 < (l0.length : Int)) = false := decide_eq_false c11
       clear c11
       have HC22 := Aside0.mk H
       clear H
       go_upto_region 10 with (fail)
       go_cut [53] (fun v53 wc => ∃ (kq : Nat) (x53_21 : Bool), v53 = .bool x53_21 ∧ Aside0 (laws_FnTuplesOf.j2 kq l0 l3 (wrap64 (4 + (wrap64 (Int.tmod a1 30)))) (wrap64 (1 + (wrap64 (Int.tmod a2 3)))) x53_21 = some r) ∧ Aside0 (kq ≤ k2) ∧ Aside0 (Below w.heap.size w wc))
       case first =>
        have H := HC22.out
        clear HC22
        by_cases c23 : (l0.length : Int) = 0
        ·rw [if_pos c23] at H
         have c23b0 : ((l0.length : Int) == 0) = true := beq_iff_eq.mpr c23
         have c23b1 : ((l0.length : Int) != 0) = false := bne_eq_false_iff_eq.mpr c23
         clear c23
         (first | rw [c23b0] | (simp only [i64_w, i32_w]; rw [c23b0]) | skip)
         have H' := Aside0.mk H
         clear H
         go_wp2
         go_meet
         case rel => exact ⟨_, (true), z17_4, H', ⟨by have := HJ4.out; have := HK2.out; first | omega | exact Nat.le_refl _⟩, ⟨z17_0⟩⟩
        ·rw [if_neg c23] at H
         have c23b0 : ((l0.length : Int) == 0) = false := beq_eq_false_iff_ne.mpr c23
         have c23b1 : ((l0.length : Int) != 0) = true := bne_iff_ne.mpr c23
         have c23b2 : ¬ (l0 = []) := fun h_ => c23 (by rw [h_]; rfl)
         (first | rw [c23b0] | (simp only [i64_w, i32_w]; rw [c23b0]) | skip)
         have H' := Aside0.mk H
         clear H
         go_wp2
         go_meet
         case rel => exact ⟨_, (decide ((l0.length : Int) > 8)), z17_4, H', ⟨by have := HJ4.out; have := HK2.out; first | omega | exact Nat.le_refl _⟩, ⟨z17_0⟩⟩
       case rest =>
        clear HC22
        clear c11b0
        obtain ⟨kq, x53_21, rfl, HA, HJ21, HB⟩ := hcut
        cases kq with
        | zero => exact absurd HA.out (by simp [laws_FnTuplesOf.j2])
        | succ kj21 =>
         have H := HA.out
         clear HA
         simp only [laws_FnTuplesOf.j2] at H
         by_cases c24 : x53_21 = true
         ·subst c24
          have H1 : (some true) = some r := by rw [if_pos rfl] at H; exact H
          clear H
          have H := H1
          clear H1
          obtain rfl := Option.some.inj H
          go_wp2
          go_ret
          exact ⟨by first | rfl | (simp [errW_none, errW_some] <;> rfl) | (simp [*, errW_none, errW_some] <;> rfl), by repeat (first | (with_reducible first | exact HB.out | apply below_alloc | apply pw_below_drewN | apply below_drew1 | refine below_set ?_ GE453.out) | exact HB.out)⟩
         ·replace c24 := Bool.eq_false_iff.mpr c24
          subst c24
          have H1 : ((tBy.f kj21 l0 (wrap64 (4 + (wrap64 (Int.tmod a1 30)))) (wrap64 (1 + (wrap64 (Int.tmod a2 3)))) l3).bind fun bt455 => (if bt455.2 = true then ((iTO.f kj21 bt455.1 (wrap64 (1 + (wrap64 (Int.tmod a2 3)))) (wrap64 (4 + (wrap64 (Int.tmod a1 30))))).bind fun bt459 => (if bt459.2.1 = true then (if bt459.2.2 = true then ((iTu.f kj21 bt459.1 l0).bind fun t464 => (some t464)) else (some false)) else (some false))) else (some true))) = some r := by rw [if_neg (show ¬ (false = true) by decide)] at H; exact H
          clear H
          have H := H1
          clear H1
          replace H := Option.bind_eq_some_iff.mp H
          obtain ⟨⟨t455, t456⟩, A250, H⟩ := H
          replace H : (if t456 = true then ((iTO.f kj21 t455 (wrap64 (1 + (wrap64 (Int.tmod a2 3)))) (wrap64 (4 + (wrap64 (Int.tmod a1 30))))).bind fun bt459 => (if bt459.2.1 = true then (if bt459.2.2 = true then ((iTu.f kj21 bt459.1 l0).bind fun t464 => (some t464)) else (some false)) else (some false))) else (some true)) = some r := H
          have A25 := Aside0.mk A250
          clear A250
          by_cases c26 : t456 = true
          ·subst c26
           have H1 : ((iTO.f kj21 t455 (wrap64 (1 + (wrap64 (Int.tmod a2 3)))) (wrap64 (4 + (wrap64 (Int.tmod a1 30))))).bind fun bt459 => (if bt459.2.1 = true then (if bt459.2.2 = true then ((iTu.f kj21 bt459.1 l0).bind fun t464 => (some t464)) else (some false)) else (some false))) = some r := by rw [if_pos rfl] at H; exact H
           clear H
           have H := H1
           clear H1
           replace H := Option.bind_eq_some_iff.mp H
           obtain ⟨⟨t459, t460, t461⟩, A270, H⟩ := H
           replace H : (if t460 = true then (if t461 = true then ((iTu.f kj21 t459 l0).bind fun t464 => (some t464)) else (some false)) else (some false)) = some r := H
           have A27 := Aside0.mk A270
           clear A270
           by_cases c28 : t460 = true
           ·subst c28
            have H1 : (if t461 = true then ((iTu.f kj21 t459 l0).bind fun t464 => (some t464)) else (some false)) = some r := by rw [if_pos rfl] at H; exact H
            clear H
            have H := H1
            clear H1
            by_cases c29 : t461 = true
            ·subst c29
             have H1 : ((iTu.f kj21 t459 l0).bind fun t464 => (some t464)) = some r := by rw [if_pos rfl] at H; exact H
             clear H
             have H := H1
             clear H1
             replace H := Option.bind_eq_some_iff.mp H
             obtain ⟨t464, A300, H⟩ := H
             replace H : (some t464) = some r := H
             have A30 := Aside0.mk A300
             clear A300
             obtain rfl := Option.some.inj H
             go_wp2_with (first | ((with_reducible refine gate_callee (f := 26) rfl ?_); refine goesL_ (some 59) rfl rfl Try.func26 (by kernel_rfl) rfl #[.slice A0 l0.length c0, .int .i64 (wrap64 (4 + (wrap64 (Int.tmod a1 30)))), .int .i64 (wrap64 (1 + (wrap64 (Int.tmod a2 3)))), .slice A3 l3.length c3] rfl z17_2 ?_; (with_reducible refine (tBy.calls kj21 _ _ l0 (wrap64 (4 + (wrap64 (Int.tmod a1 30)))) (wrap64 (1 + (wrap64 (Int.tmod a2 3)))) _ _ l3 t455 true _ ?side1 ?side2 ?side3 ?side4 A25.out).mono ?_); (case side1 => repeat (first | exact (Kd.C_below HR0.out HB.out) | (with_reducible refine Kd.C_alloc ?_ _) | (with_reducible refine Kd.C_drewN ?_ _) | (with_reducible refine Kd.C_drew ?_))); (case side2 => exact HC0.out); (case side3 => repeat (first | exact (Kd.C_below HR3.out HB.out) | (with_reducible refine Kd.C_alloc ?_ _) | (with_reducible refine Kd.C_drewN ?_ _) | (with_reducible refine Kd.C_drew ?_))); (case side4 => exact HC3.out); rintro e w31 ⟨v457, rfl, ho0, hb⟩; refine ⟨_, rfl, ?_⟩; have n0_ := Aside0.mk (Kd.R_lower ho0 (below_size z17_0)); have n1_ := Aside0.mk (below_step z17_0 hb); clear HB; have HO458 := n0_; have HB := n1_; clear n0_ n1_ hb ho0; obtain ⟨Ao32, co32, eo32⟩ := Kd.R_slice HO458.out; subst eo32) | ((with_reducible refine gate_callee (f := 27) rfl ?_); refine goesL_ (some 68) rfl rfl Try.func27 (by kernel_rfl) rfl #[.slice Ao32 t455.length co32, .int .i64 (wrap64 (1 + (wrap64 (Int.tmod a2 3)))), .int .i64 (wrap64 (4 + (wrap64 (Int.tmod a1 30))))] rfl z17_2 ?_; (with_reducible refine (iTO.calls kj21 _ _ t455 (wrap64 (1 + (wrap64 (Int.tmod a2 3)))) (wrap64 (4 + (wrap64 (Int.tmod a1 30)))) t459 true true _ ?side1 ?side2 A27.out).mono ?_); (case side1 => repeat (first | exact (Kd.R_reads' HO458.out).2.2 | (with_reducible refine Kd.C_alloc ?_ _) | (with_reducible refine Kd.C_drewN ?_ _) | (with_reducible refine Kd.C_drew ?_))); (case side2 => exact (Kd.R_reads' HO458.out).2.1); rintro e w33 ⟨v462, rfl, ho0, hb⟩; refine ⟨_, rfl, ?_⟩; have n0_ := Aside0.mk (Kd.R_below z17_3 hb); have n1_ := Aside0.mk (Kd.S_lower ho0 (below_size z17_0)); have n2_ := Aside0.mk (below_step z17_0 hb); clear HO458; clear HB; have HO458 := n0_; have HO463 := n1_; have HB := n2_; clear n0_ n1_ n2_ hb ho0; obtain ⟨Ao34, co34, eo34⟩ := Kd.S_slice HO463.out; subst eo34) | (go_at_call 28; (with_reducible refine (iTu.calls kj21 _ _ t459 _ _ l0 t464 _ ?side1 ?side2 ?side3 ?side4 A30.out).mono ?_); (case side1 => repeat (first | exact (Kd.S_reads' HO463.out).2.2 | (with_reducible refine Kd.C_alloc ?_ _) | (with_reducible refine Kd.C_drewN ?_ _) | (with_reducible refine Kd.C_drew ?_))); (case side2 => exact (Kd.S_reads' HO463.out).2.1); (case side3 => repeat (first | exact (Kd.C_below HR0.out HB.out) | (with_reducible refine Kd.C_alloc ?_ _) | (with_reducible refine Kd.C_drewN ?_ _) | (with_reducible refine Kd.C_drew ?_))); (case side4 => exact HC0.out); rintro e w35 ⟨rfl, hb⟩; have n0_ := Aside0.mk (Kd.R_below z17_3 hb); have n1_ := Aside0.mk (Kd.S_below (by (with_reducible repeat (first | apply Kd.S_alloc | apply Kd.S_drewN | apply Kd.S_drew)); exact HO463.out) hb); have n2_ := Aside0.mk (below_step z17_0 hb); clear HO458; clear HO463; clear HB; have HO458 := n0_; have HO463 := n1_; have HB := n2_; clear n0_ n1_ n2_ hb; skip))
             go_ret
             exact ⟨by first | rfl | (simp [errW_none, errW_some] <;> rfl) | (simp [*, errW_none, errW_some] <;> rfl), by repeat (first | (with_reducible first | exact HB.out | apply below_alloc | apply pw_below_drewN | apply below_drew1 | refine below_set ?_ GE453.out) | exact HB.out)⟩
            ·replace c29 := Bool.eq_false_iff.mpr c29
             subst c29
             have H1 : (some false) = some r := by rw [if_neg (show ¬ (false = true) by decide)] at H; exact H
             clear H
             have H := H1
             clear H1
             obtain rfl := Option.some.inj H
             go_wp2_with (first | ((with_reducible refine gate_callee (f := 26) rfl ?_); refine goesL_ (some 59) rfl rfl Try.func26 (by kernel_rfl) rfl #[.slice A0 l0.length c0, .int .i64 (wrap64 (4 + (wrap64 (Int.tmod a1 30)))), .int .i64 (wrap64 (1 + (wrap64 (Int.tmod a2 3)))), .slice A3 l3.length c3] rfl z17_2 ?_; (with_reducible refine (tBy.calls kj21 _ _ l0 (wrap64 (4 + (wrap64 (Int.tmod a1 30)))) (wrap64 (1 + (wrap64 (Int.tmod a2 3)))) _ _ l3 t455 true _ ?side1 ?side2 ?side3 ?side4 A25.out).mono ?_); (case side1 => repeat (first | exact (Kd.C_below HR0.out HB.out) | (with_reducible refine Kd.C_alloc ?_ _) | (with_reducible refine Kd.C_drewN ?_ _) | (with_reducible refine Kd.C_drew ?_))); (case side2 => exact HC0.out); (case side3 => repeat (first | exact (Kd.C_below HR3.out HB.out) | (with_reducible refine Kd.C_alloc ?_ _) | (with_reducible refine Kd.C_drewN ?_ _) | (with_reducible refine Kd.C_drew ?_))); (case side4 => exact HC3.out); rintro e w36 ⟨v457, rfl, ho0, hb⟩; refine ⟨_, rfl, ?_⟩; have n0_ := Aside0.mk (Kd.R_lower ho0 (below_size z17_0)); have n1_ := Aside0.mk (below_step z17_0 hb); clear HB; have HO458 := n0_; have HB := n1_; clear n0_ n1_ hb ho0; obtain ⟨Ao37, co37, eo37⟩ := Kd.R_slice HO458.out; subst eo37) | ((with_reducible refine gate_callee (f := 27) rfl ?_); refine goesL_ (some 68) rfl rfl Try.func27 (by kernel_rfl) rfl #[.slice Ao37 t455.length co37, .int .i64 (wrap64 (1 + (wrap64 (Int.tmod a2 3)))), .int .i64 (wrap64 (4 + (wrap64 (Int.tmod a1 30))))] rfl z17_2 ?_; (with_reducible refine (iTO.calls kj21 _ _ t455 (wrap64 (1 + (wrap64 (Int.tmod a2 3)))) (wrap64 (4 + (wrap64 (Int.tmod a1 30)))) t459 true false _ ?side1 ?side2 A27.out).mono ?_); (case side1 => repeat (first | exact (Kd.R_reads' HO458.out).2.2 | (with_reducible refine Kd.C_alloc ?_ _) | (with_reducible refine Kd.C_drewN ?_ _) | (with_reducible refine Kd.C_drew ?_))); (case side2 => exact (Kd.R_reads' HO458.out).2.1); rintro e w38 ⟨v462, rfl, ho0, hb⟩; refine ⟨_, rfl, ?_⟩; have n0_ := Aside0.mk (Kd.R_below z17_3 hb); have n1_ := Aside0.mk (Kd.S_lower ho0 (below_size z17_0)); have n2_ := Aside0.mk (below_step z17_0 hb); clear HO458; clear HB; have HO458 := n0_; have HO463 := n1_; have HB := n2_; clear n0_ n1_ n2_ hb; (clear ho0)))
             go_ret
             exact ⟨by first | rfl | (simp [errW_none, errW_some] <;> rfl) | (simp [*, errW_none, errW_some] <;> rfl), by repeat (first | (with_reducible first | exact HB.out | apply below_alloc | apply pw_below_drewN | apply below_drew1 | refine below_set ?_ GE453.out) | exact HB.out)⟩
           ·replace c28 := Bool.eq_false_iff.mpr c28
            subst c28
            have H1 : (some false) = some r := by rw [if_neg (show ¬ (false = true) by decide)] at H; exact H
            clear H
            have H := H1
            clear H1
            obtain rfl := Option.some.inj H
            go_wp2_with (first | ((with_reducible refine gate_callee (f := 26) rfl ?_); refine goesL_ (some 59) rfl rfl Try.func26 (by kernel_rfl) rfl #[.slice A0 l0.length c0, .int .i64 (wrap64 (4 + (wrap64 (Int.tmod a1 30)))), .int .i64 (wrap64 (1 + (wrap64 (Int.tmod a2 3)))), .slice A3 l3.length c3] rfl z17_2 ?_; (with_reducible refine (tBy.calls kj21 _ _ l0 (wrap64 (4 + (wrap64 (Int.tmod a1 30)))) (wrap64 (1 + (wrap64 (Int.tmod a2 3)))) _ _ l3 t455 true _ ?side1 ?side2 ?side3 ?side4 A25.out).mono ?_); (case side1 => repeat (first | exact (Kd.C_below HR0.out HB.out) | (with_reducible refine Kd.C_alloc ?_ _) | (with_reducible refine Kd.C_drewN ?_ _) | (with_reducible refine Kd.C_drew ?_))); (case side2 => exact HC0.out); (case side3 => repeat (first | exact (Kd.C_below HR3.out HB.out) | (with_reducible refine Kd.C_alloc ?_ _) | (with_reducible refine Kd.C_drewN ?_ _) | (with_reducible refine Kd.C_drew ?_))); (case side4 => exact HC3.out); rintro e w39 ⟨v457, rfl, ho0, hb⟩; refine ⟨_, rfl, ?_⟩; have n0_ := Aside0.mk (Kd.R_lower ho0 (below_size z17_0)); have n1_ := Aside0.mk (below_step z17_0 hb); clear HB; have HO458 := n0_; have HB := n1_; clear n0_ n1_ hb ho0; obtain ⟨Ao40, co40, eo40⟩ := Kd.R_slice HO458.out; subst eo40) | ((with_reducible refine gate_callee (f := 27) rfl ?_); refine goesL_ (some 68) rfl rfl Try.func27 (by kernel_rfl) rfl #[.slice Ao40 t455.length co40, .int .i64 (wrap64 (1 + (wrap64 (Int.tmod a2 3)))), .int .i64 (wrap64 (4 + (wrap64 (Int.tmod a1 30))))] rfl z17_2 ?_; (with_reducible refine (iTO.calls kj21 _ _ t455 (wrap64 (1 + (wrap64 (Int.tmod a2 3)))) (wrap64 (4 + (wrap64 (Int.tmod a1 30)))) t459 false t461 _ ?side1 ?side2 A27.out).mono ?_); (case side1 => repeat (first | exact (Kd.R_reads' HO458.out).2.2 | (with_reducible refine Kd.C_alloc ?_ _) | (with_reducible refine Kd.C_drewN ?_ _) | (with_reducible refine Kd.C_drew ?_))); (case side2 => exact (Kd.R_reads' HO458.out).2.1); rintro e w41 ⟨v462, rfl, ho0, hb⟩; refine ⟨_, rfl, ?_⟩; have n0_ := Aside0.mk (Kd.R_below z17_3 hb); have n1_ := Aside0.mk (Kd.S_lower ho0 (below_size z17_0)); have n2_ := Aside0.mk (below_step z17_0 hb); clear HO458; clear HB; have HO458 := n0_; have HO463 := n1_; have HB := n2_; clear n0_ n1_ n2_ hb; (clear ho0)))
            go_ret
            exact ⟨by first | rfl | (simp [errW_none, errW_some] <;> rfl) | (simp [*, errW_none, errW_some] <;> rfl), by repeat (first | (with_reducible first | exact HB.out | apply below_alloc | apply pw_below_drewN | apply below_drew1 | refine below_set ?_ GE453.out) | exact HB.out)⟩
          ·replace c26 := Bool.eq_false_iff.mpr c26
           subst c26
           have H1 : (some true) = some r := by rw [if_neg (show ¬ (false = true) by decide)] at H; exact H
           clear H
           have H := H1
           clear H1
           obtain rfl := Option.some.inj H
           go_wp2_with (first | ((with_reducible refine gate_callee (f := 26) rfl ?_); refine goesL_ (some 59) rfl rfl Try.func26 (by kernel_rfl) rfl #[.slice A0 l0.length c0, .int .i64 (wrap64 (4 + (wrap64 (Int.tmod a1 30)))), .int .i64 (wrap64 (1 + (wrap64 (Int.tmod a2 3)))), .slice A3 l3.length c3] rfl z17_2 ?_; (with_reducible refine (tBy.calls kj21 _ _ l0 (wrap64 (4 + (wrap64 (Int.tmod a1 30)))) (wrap64 (1 + (wrap64 (Int.tmod a2 3)))) _ _ l3 t455 false _ ?side1 ?side2 ?side3 ?side4 A25.out).mono ?_); (case side1 => repeat (first | exact (Kd.C_below HR0.out HB.out) | (with_reducible refine Kd.C_alloc ?_ _) | (with_reducible refine Kd.C_drewN ?_ _) | (with_reducible refine Kd.C_drew ?_))); (case side2 => exact HC0.out); (case side3 => repeat (first | exact (Kd.C_below HR3.out HB.out) | (with_reducible refine Kd.C_alloc ?_ _) | (with_reducible refine Kd.C_drewN ?_ _) | (with_reducible refine Kd.C_drew ?_))); (case side4 => exact HC3.out); rintro e w42 ⟨v457, rfl, ho0, hb⟩; refine ⟨_, rfl, ?_⟩; have n0_ := Aside0.mk (Kd.R_lower ho0 (below_size z17_0)); have n1_ := Aside0.mk (below_step z17_0 hb); clear HB; have HO458 := n0_; have HB := n1_; clear n0_ n1_ hb; (clear ho0)))
           go_ret
           exact ⟨by first | rfl | (simp [errW_none, errW_some] <;> rfl) | (simp [*, errW_none, errW_some] <;> rfl), by repeat (first | (with_reducible first | exact HB.out | apply below_alloc | apply pw_below_drewN | apply below_drew1 | refine below_set ?_ GE453.out) | exact HB.out)⟩

/-- THE ONE PURE STATEMENT of laws_FnTuplesOf: yours. -/
def good62 (x : S62) : Prop := (x.f0.length ≤ maxLen ∧ ∀ y ∈ x.f0, (Lit.int .i64 y).wf = true) ∧ True ∧ (x.f2.length ≤ maxLen ∧ ∀ y ∈ x.f2, (Lit.int .i64 y).wf = true) ∧ (x.f3.length ≤ maxLen ∧ ∀ y ∈ x.f3, (Lit.int .i64 y).wf = true) ∧ (x.f4.length ≤ maxLen ∧ ∀ y ∈ x.f4, (Lit.int .i64 y).wf = true) ∧ (x.f5.length ≤ maxLen ∧ ∀ y ∈ x.f5, (Lit.int .i64 y).wf = true) ∧ (x.f6.length ≤ maxLen ∧ ∀ y ∈ x.f6, (Lit.int .i64 y).wf = true)
def laws_FnTuplesOf.Pure : Prop := ∀ (l0 : List (S62)) (a1 : Int) (a2 : Int) (l3 : List Int), l0.length ≤ maxLen → (∀ y ∈ l0, good62 y) → (Lit.int .u8 a1).wf = true → (Lit.int .u8 a2).wf = true → l3.length ≤ maxLen → l3.length * 1 ≤ 140737488351232 → (∀ x ∈ l3, (Lit.int .u8 x).wf = true) → ∃ k, laws_FnTuplesOf.f k l0 a1 a2 l3 = some true
theorem laws_FnTuplesOf.walk (P : laws_FnTuplesOf.Pure) (a0 : Option Addr) (cap0 : Nat) (l0 : List (S62)) (a1 : Int) (a2 : Int) (a3 : Option Addr) (len3 cap3 : Nat) (z3 : List Int) (w : World) (hc0 : l0.length ≤ cap0) (hC0 : Kd.C k62 w a0 l0.length l0) (hm0 : l0.length ≤ maxLen) (hg0 : ∀ y ∈ l0, good62 y) (w1 : (Lit.int .u8 a1).wf = true) (w2 : (Lit.int .u8 a2).wf = true) (w3 : (a3 = none ∧ len3 = 0 ∧ cap3 = 0 ∧ z3 = []) ∨ ∃ x, a3 = some x ∧ len3 ≤ cap3 ∧ cap3 ≤ maxLen ∧ z3.length = cap3 ∧ (∀ i, i < z3.length → w.cell? (x.add i) = some (.int .u8 (z3.getD i 0))) ∧ ∀ n ∈ z3, (Lit.int .u8 n).wf = true) (y3 : len3 * 1 ≤ 140737488351232) :
  Calls Try.prog 7 #[.slice a0 l0.length cap0, .int .u8 a1, .int .u8 a2, .slice a3 len3 cap3] w fun e w' => e = .returned (.bool true) ∧ Below w.heap.size w w' := by
 obtain ⟨l3, rfl, hr3, hm3, hw3, hc3⟩ := ReadsInt.ofRowC w3
 obtain ⟨k, h⟩ := P l0 a1 a2 l3 hm0 hg0 w1 w2 hm3 y3 hw3
 refine (laws_FnTuplesOf.calls k _ _ l0 a1 a2 _ _ l3 true w hC0 hc0 (Kd.C_of_reads (d := (0 : Int)) (h1 := fun _ => rfl) hr3) hc3 h).mono ?_
 rintro e w' ⟨rfl, hd⟩
 exact ⟨rfl, hd⟩

end Go.Proofs.Ytchkmmbedgolbaa.PFnTuplesOf

