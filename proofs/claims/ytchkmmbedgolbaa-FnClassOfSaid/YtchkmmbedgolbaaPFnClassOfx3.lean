-- Written by a program of this session (xprint) out of the translation; Lean checks it.
import Derived.Test.YtchkmmbedgolbaaPFnClassOfx0
import Derived.Test.YtchkmmbedgolbaaPFnClassOfx1
import Derived.Test.YtchkmmbedgolbaaPFnClassOfx2
namespace Go.Proofs.Ytchkmmbedgolbaa.PFnClassOf
open Go.RowKit Go.Proofs.YtchkmmbedgolbaaW.PrintWords Go.Proofs.YtchkmmbedgolbaaW.PrintLast Go.Proofs.YtchkmmbedgolbaaW.PrintMore
attribute [local go_sem] max2_int min2_int max_two min_two max_three min_three max_four min_four   -- for this text's walks alone
set_option linter.unusedVariables false
set_option linter.unusedSimpArgs false

/-! ### spec_fontClass: function 38 -/
def spec_fontClass.l0 : Nat → Int → List (S27) → Int → Int → Option (Int)
 | 0, _, _, _, _ => none
 | k + 1, x1, x7, x8, x9 => if x9 < x8 then (if 0 ≤ x9 then (if x9 < (x7.length : Int) then (if ((rd_T27 x7 x9).f0) = x1 then (some ((rd_T27 x7 x9).f1)) else (spec_fontClass.l0 k x1 x7 x8 (wrap64 (x9 + 1)))) else (none)) else (none)) else (some 0)
def spec_fontClass.f (k : Nat) (l0 : List (S27)) (a1 : Int) : Option (Int) := spec_fontClass.l0 k a1 l0 (l0.length : Int) 0
theorem spec_fontClass.mono_l : ∀ k, (∀ y0 y1 y2 y3, LeO (spec_fontClass.l0 k y0 y1 y2 y3) (spec_fontClass.l0 (k + 1) y0 y1 y2 y3))
 | 0 => fun _ _ _ _ r h => by simp [spec_fontClass.l0] at h
 | k + 1 => by
  have ih0 := spec_fontClass.mono_l k
  ·intro y0 y1 y2 y3
   unfold spec_fontClass.l0
   repeat' first
   | (with_reducible exact ih0 _ _ _ _)
   | (with_reducible exact LeO.refl _)
   | (with_reducible exact LeO.none _)
   | (with_reducible refine LeO.ite ?_ ?_)
   | (with_reducible refine LeO.bind ?_ (fun _ => ?_))
   | exact ih0 _ _ _ _
   | exact LeO.none _
   | refine LeO.ite ?_ ?_
   | refine LeO.bind ?_ (fun _ => ?_)
theorem spec_fontClass.mono : ∀ a0 a1 k, LeO (spec_fontClass.f k a0 a1) (spec_fontClass.f (k + 1) a0 a1) := by
 intro a0 a1 k
 have ih0 := spec_fontClass.mono_l k
 unfold spec_fontClass.f
 repeat' first
   | (with_reducible exact ih0 _ _ _ _)
   | (with_reducible exact LeO.refl _)
   | (with_reducible exact LeO.none _)
   | (with_reducible refine LeO.ite ?_ ?_)
   | (with_reducible refine LeO.bind ?_ (fun _ => ?_))
   | exact ih0 _ _ _ _
   | exact LeO.none _
   | refine LeO.ite ?_ ?_
   | refine LeO.bind ?_ (fun _ => ?_)
set_option maxHeartbeats 8000000 in
set_option maxRecDepth 100000 in
theorem spec_fontClass.calls (k : Nat) (A0 : Option Addr) (c0 : Nat) (l0 : List (S27)) (a1 : Int) (r : Int) (w : World) (hr0 : Kd.C k27 w A0 l0.length l0) (hc0 : l0.length ≤ c0) (h : spec_fontClass.f k l0 a1 = some r) :
  Calls Try.prog 38 #[.slice A0 l0.length c0, .int .i64 a1] w fun e w' => e = .returned (.int .i64 r) ∧ Below w.heap.size w w' := by
 have hu27 := Try.underlying27
 have HR0 := Aside0.mk hr0
 have HC0 := Aside0.mk hc0
 clear hr0 hc0
 have HB := Aside0.mk (Below.refl w.heap.size w)
 have H : (spec_fontClass.l0 k a1 l0 (l0.length : Int) 0) = some r := h
 clear h
 have H' := Aside0.mk H
 clear H
 go_enter Try.func38, Try.ntmps38
 go_wp2
 go_loopg [9] k (fun kq v9 w' => ∃ (x9_1 : Int), v9 = .int .i64 x9_1 ∧ Aside0 (spec_fontClass.l0 kq a1 l0 (l0.length : Int) x9_1 = some r) ∧ Aside0 (kq ≤ k) ∧ Aside0 (Below w.heap.size w w'))
 case atStart => exact ⟨(0), (by first | rfl | (simp; done) | (simp [*]; done)), H', ⟨Nat.le_refl _⟩, ⟨by repeat (first | (with_reducible first | exact HB.out | apply below_alloc | apply pw_below_drewN | apply below_drew1) | exact HB.out)⟩⟩
 case round =>
  clear H'
  try clear p2
  obtain ⟨x9_1, rfl, HA, HK1, HB⟩ := hrel
  cases gk with
  | zero => exact absurd HA.out (by simp [spec_fontClass.l0])
  | succ k1 =>
   have H := HA.out
   clear HA
   simp only [spec_fontClass.l0] at H
   by_cases c3 : x9_1 < (l0.length : Int)
   ·rw [if_pos c3] at H
    have c3b0 : decide (x9_1 < (l0.length : Int)) = true := decide_eq_true c3
    clear c3
    by_cases c4 : 0 ≤ x9_1
    ·rw [if_pos c4] at H
     have c4b0 : decide (0 ≤ x9_1) = true := decide_eq_true c4
     clear c4
     by_cases c5 : x9_1 < (l0.length : Int)
     ·rw [if_pos c5] at H
      have c5b0 : decide (x9_1 < (l0.length : Int)) = true := decide_eq_true c5
      clear c5
      by_cases c6 : ((rd_T27 l0 x9_1).f0) = a1
      ·rw [if_pos c6] at H
       have c6b0 : (((rd_T27 l0 x9_1).f0) == a1) = true := beq_iff_eq.mpr c6
       have c6b1 : (((rd_T27 l0 x9_1).f0) != a1) = false := bne_eq_false_iff_eq.mpr c6
       clear c6
       obtain rfl := Option.some.inj H
       have p152 : 0 ≤ (x9_1 : Int) := of_decide_eq_true (by first | (with_reducible assumption) | assumption)
       have q152 : x9_1 < (l0.length : Int) := of_decide_eq_true (by first | (with_reducible assumption) | assumption)
       obtain ⟨ad152, e152, hx152_0, hx152_1⟩ := at_T27 HR0.out x9_1 p152 q152
       cases e152
       replace hx152_0 := (HB.out.cell (World.block_lt_of_cell? w _ hx152_0)).trans hx152_0
       replace hx152_1 := (HB.out.cell (World.block_lt_of_cell? w _ hx152_1)).trans hx152_1
       replace p152 := eq_true p152
       replace q152 := eq_true q152
       go_wp2_with (first | ((with_reducible refine gate_dst (N := 6) rfl ?_); refine box_event ?hg (N := 6) ?hd (cs := #[.int .i64 0, .int .i64 0]) (t := 27) ?hr ?_; (case hd => rfl); (case hg => rfl); (case hr => first | (go_simp; done) | (go_simp; rfl)); intro gb153 hg w7 hbox hb; have n0_ := Aside0.mk (below_step (by repeat (first | (with_reducible first | exact HB.out | apply below_alloc | apply pw_below_drewN | apply below_drew1) | exact HB.out)) hb); have n1_ := Aside0.mk (hbox); have n2_ := Aside0.mk ((by rw [hg]; exact (below_size (by repeat (first | (with_reducible first | exact HB.out | apply below_alloc | apply pw_below_drewN | apply below_drew1) | exact HB.out))) : w.heap.size ≤ gb153)); have n3_ := Aside0.mk ((by rw [hg]; exact (below_size (by repeat (first | (with_reducible first | exact HB.out | apply below_alloc | apply pw_below_drewN | apply below_drew1) | exact HB.out))) : w.heap.size ≤ gb153)); clear HB; have HB := n0_; have BK153 := n1_; have GW153 := n2_; have GE153 := n3_; clear n0_ n1_ n2_ n3_; clear hb hbox hg; have hcz8_0 : w7.cell? ⟨gb153, 0, none⟩ = some (.int .i64 0) := (blk_cell BK153.out 0).trans rfl; have hcz8_1 : w7.cell? ⟨gb153, 1, none⟩ = some (.int .i64 0) := (blk_cell BK153.out 1).trans rfl; have hfz8_0 := blk_frozen BK153.out 0; have hfz8_1 := blk_frozen BK153.out 1))
       go_ret
       exact ⟨by first | rfl | (simp [errW_none, errW_some] <;> rfl) | (simp [*, errW_none, errW_some] <;> rfl), by repeat (first | (with_reducible first | exact HB.out | apply below_alloc | apply pw_below_drewN | apply below_drew1 | refine below_set ?_ GE153.out) | exact HB.out)⟩
      ·rw [if_neg c6] at H
       have c6b0 : (((rd_T27 l0 x9_1).f0) == a1) = false := beq_eq_false_iff_ne.mpr c6
       have c6b1 : (((rd_T27 l0 x9_1).f0) != a1) = true := bne_iff_ne.mpr c6
       have H' := Aside0.mk H
       clear H
       have p152 : 0 ≤ (x9_1 : Int) := of_decide_eq_true (by first | (with_reducible assumption) | assumption)
       have q152 : x9_1 < (l0.length : Int) := of_decide_eq_true (by first | (with_reducible assumption) | assumption)
       obtain ⟨ad152, e152, hx152_0, hx152_1⟩ := at_T27 HR0.out x9_1 p152 q152
       cases e152
       replace hx152_0 := (HB.out.cell (World.block_lt_of_cell? w _ hx152_0)).trans hx152_0
       replace hx152_1 := (HB.out.cell (World.block_lt_of_cell? w _ hx152_1)).trans hx152_1
       replace p152 := eq_true p152
       replace q152 := eq_true q152
       go_wp2_with (first | ((with_reducible refine gate_dst (N := 6) rfl ?_); refine box_event ?hg (N := 6) ?hd (cs := #[.int .i64 0, .int .i64 0]) (t := 27) ?hr ?_; (case hd => rfl); (case hg => rfl); (case hr => first | (go_simp; done) | (go_simp; rfl)); intro gb153 hg w9 hbox hb; have n0_ := Aside0.mk (below_step (by repeat (first | (with_reducible first | exact HB.out | apply below_alloc | apply pw_below_drewN | apply below_drew1) | exact HB.out)) hb); have n1_ := Aside0.mk (hbox); have n2_ := Aside0.mk ((by rw [hg]; exact (below_size (by repeat (first | (with_reducible first | exact HB.out | apply below_alloc | apply pw_below_drewN | apply below_drew1) | exact HB.out))) : w.heap.size ≤ gb153)); have n3_ := Aside0.mk ((by rw [hg]; exact (below_size (by repeat (first | (with_reducible first | exact HB.out | apply below_alloc | apply pw_below_drewN | apply below_drew1) | exact HB.out))) : w.heap.size ≤ gb153)); clear HB; have HB := n0_; have BK153 := n1_; have GW153 := n2_; have GE153 := n3_; clear n0_ n1_ n2_ n3_; clear hb hbox hg; have hcz10_0 : w9.cell? ⟨gb153, 0, none⟩ = some (.int .i64 0) := (blk_cell BK153.out 0).trans rfl; have hcz10_1 : w9.cell? ⟨gb153, 1, none⟩ = some (.int .i64 0) := (blk_cell BK153.out 1).trans rfl; have hfz10_0 := blk_frozen BK153.out 0; have hfz10_1 := blk_frozen BK153.out 1))
       go_roundg k1
       case measure => have := HK1.out; omega
       case rel => exact ⟨(wrap64 (x9_1 + 1)), (by first | rfl | (simp; done) | (simp [*]; done)), H', ⟨by have := HK1.out; omega⟩, ⟨by repeat (first | (with_reducible first | exact HB.out | apply below_alloc | apply pw_below_drewN | apply below_drew1 | refine below_set ?_ GE153.out) | exact HB.out)⟩⟩
     ·rw [if_neg c5] at H
      exact absurd H (by simp)
    ·rw [if_neg c4] at H
     exact absurd H (by simp)
   ·rw [if_neg c3] at H
    have c3b0 : decide (x9_1 < (l0.length : Int)) = false := decide_eq_false c3
    clear c3
    obtain rfl := Option.some.inj H
    go_wp2
    go_ret
    exact ⟨by first | rfl | (simp [errW_none, errW_some] <;> rfl) | (simp [*, errW_none, errW_some] <;> rfl), by repeat (first | (with_reducible first | exact HB.out | apply below_alloc | apply pw_below_drewN | apply below_drew1) | exact HB.out)⟩

/-! ### spec_ClassRef: function 16 -/
def spec_ClassRef.f (k : Nat) (l0 : List (S27)) (a1 : Int) : Option (Int) := (spec_fontClass.f k l0 a1).bind fun t154 => (some t154)
theorem spec_ClassRef.mono : ∀ a0 a1 k, LeO (spec_ClassRef.f k a0 a1) (spec_ClassRef.f (k + 1) a0 a1) := by
 intro a0 a1 k
 unfold spec_ClassRef.f
 repeat' first
   | (with_reducible exact spec_fontClass.mono _ _ _)
   | (with_reducible exact LeO.refl _)
   | (with_reducible exact LeO.none _)
   | (with_reducible refine LeO.ite ?_ ?_)
   | (with_reducible refine LeO.bind ?_ (fun _ => ?_))
   | exact spec_fontClass.mono _ _ _
   | exact LeO.none _
   | refine LeO.ite ?_ ?_
   | refine LeO.bind ?_ (fun _ => ?_)
set_option maxHeartbeats 8000000 in
set_option maxRecDepth 100000 in
theorem spec_ClassRef.calls (k : Nat) (A0 : Option Addr) (c0 : Nat) (l0 : List (S27)) (a1 : Int) (r : Int) (w : World) (hr0 : Kd.C k27 w A0 l0.length l0) (hc0 : l0.length ≤ c0) (h : spec_ClassRef.f k l0 a1 = some r) :
  Calls Try.prog 16 #[.slice A0 l0.length c0, .int .i64 a1] w fun e w' => e = .returned (.int .i64 r) ∧ Below w.heap.size w w' := by
 have HR0 := Aside0.mk hr0
 have HC0 := Aside0.mk hc0
 clear hr0 hc0
 have HB := Aside0.mk (Below.refl w.heap.size w)
 have H : ((spec_fontClass.f k l0 a1).bind fun t154 => (some t154)) = some r := h
 clear h
 replace H := Option.bind_eq_some_iff.mp H
 obtain ⟨t154, A30, H⟩ := H
 replace H : (some t154) = some r := H
 have A3 := Aside0.mk A30
 clear A30
 obtain rfl := Option.some.inj H
 go_enter Try.func16, Try.ntmps16
 go_wp2_with (first | ((with_reducible refine gate_callee (f := 38) rfl ?_); refine goesL_ (some 7) rfl rfl Try.func38 (by kernel_rfl) rfl #[.slice A0 l0.length c0, .int .i64 a1] rfl (by (try simp only [List.map_toArray, List.map_cons, List.map_nil]); first | done | rfl | (simp only [List.length_drop, List.length_take]; rfl)) ?_; (with_reducible refine (spec_fontClass.calls k _ _ l0 a1 t154 _ ?side1 ?side2 A3.out).mono ?_); (case side1 => repeat (first | exact HR0.out | (with_reducible refine Kd.C_alloc ?_ _) | (with_reducible refine Kd.C_drewN ?_ _) | (with_reducible refine Kd.C_drew ?_))); (case side2 => exact HC0.out); rintro e w4 ⟨rfl, hb⟩; refine ⟨_, rfl, ?_⟩; have n0_ := Aside0.mk (below_step (by repeat (first | (with_reducible first | exact HB.out | apply below_alloc | apply pw_below_drewN | apply below_drew1) | exact HB.out)) hb); clear HB; have HB := n0_; clear n0_; (try clear hb); (try clear hb2); (try clear hk); (try clear hi)))
 go_ret
 exact ⟨by first | rfl | (simp [errW_none, errW_some] <;> rfl) | (simp [*, errW_none, errW_some] <;> rfl), by repeat (first | (with_reducible first | exact HB.out | apply below_alloc | apply pw_below_drewN | apply below_drew1) | exact HB.out)⟩

/-! ### laws_FnClassOf: function 5 -/
mutual
def laws_FnClassOf.j0 : Nat → List Int → List Int → Bool → Int → Bool → Option (Bool)
 | 0, _, _, _, _, _ => none
 | k + 1, x0, x1, x2, x3, x25 => if x25 = true then (some true) else ((laws_rising.f k x0).bind fun t155 => (laws_FnClassOf.l0 k x1 x2 x3 ([] : List (S27)) t155 (t155.length : Int) 0))
def laws_FnClassOf.l0 : Nat → List Int → Bool → Int → List (S27) → List Int → Int → Int → Option (Bool)
 | 0, _, _, _, _, _, _, _ => none
 | k + 1, x1, x2, x3, x9, x27, x28, x29 => if x29 < x28 then (if 0 ≤ x29 then (if x29 < (x27.length : Int) then (if x2 = true then ((laws_at.f x1 x29).bind fun t159 => (if x9.length < 8796093022208 then (laws_FnClassOf.l0 k x1 x2 x3 (x9 ++ [(⟨rd x27 x29, wrap64 (1 + (wrap64 (Int.tmod t159 5)))⟩ : S27)]) x27 x28 (wrap64 (x29 + 1))) else (none))) else (if (rd x27 x29) < 4000 then ((laws_at.f x1 x29).bind fun t163 => (if x9.length < 8796093022208 then (laws_FnClassOf.l0 k x1 x2 x3 (x9 ++ [(⟨rd x27 x29, wrap64 (1 + (wrap64 (Int.tmod t163 5)))⟩ : S27)]) x27 x28 (wrap64 (x29 + 1))) else (none))) else (laws_FnClassOf.l0 k x1 x2 x3 x9 x27 x28 (wrap64 (x29 + 1))))) else (none)) else (none)) else (if x2 = true then ((impl_ClassOf.f k 2 x9 (wrap64 (x3))).bind fun bt167 => ((spec_ClassRef.f k x9 (wrap64 (x3))).bind fun t169 => ((impl_ClassOf.f k 2 (([(⟨7, 3⟩ : S27)] : List (S27))) 7).bind fun bt173 => (if bt167.1 = t169 then (if bt167.2 = true then (if bt173.1 = 3 then (some bt173.2) else (some false)) else (if t169 = 0 then (if bt173.1 = 3 then (some bt173.2) else (some false)) else (some false))) else (some false))))) else ((impl_ClassOf.f k 1 x9 (wrap64 (x3))).bind fun bt175 => ((spec_ClassRef.f k x9 (wrap64 (x3))).bind fun t177 => ((impl_ClassOf.f k 2 (([(⟨7, 3⟩ : S27)] : List (S27))) 7).bind fun bt181 => (if bt175.1 = t177 then (if bt175.2 = true then (if bt181.1 = 3 then (some bt181.2) else (some false)) else (if t177 = 0 then (if bt181.1 = 3 then (some bt181.2) else (some false)) else (some false))) else (some false))))))
end
def laws_FnClassOf.f (k : Nat) (l0 : List Int) (l1 : List Int) (a2 : Bool) (a3 : Int) : Option (Bool) := if (l0.length : Int) > 2147483647 then (laws_FnClassOf.j0 k l0 l1 a2 a3 true) else (laws_FnClassOf.j0 k l0 l1 a2 a3 (decide ((l1.length : Int) > 2147483647)))
theorem laws_FnClassOf.mono_l : ∀ k, (∀ y0 y1 y2 y3 y4, LeO (laws_FnClassOf.j0 k y0 y1 y2 y3 y4) (laws_FnClassOf.j0 (k + 1) y0 y1 y2 y3 y4)) ∧ (∀ y0 y1 y2 y3 y4 y5 y6, LeO (laws_FnClassOf.l0 k y0 y1 y2 y3 y4 y5 y6) (laws_FnClassOf.l0 (k + 1) y0 y1 y2 y3 y4 y5 y6))
 | 0 => ⟨fun _ _ _ _ _ r h => by simp [laws_FnClassOf.j0] at h, fun _ _ _ _ _ _ _ r h => by simp [laws_FnClassOf.l0] at h⟩
 | k + 1 => by
  obtain ⟨ih0, ih1⟩ := laws_FnClassOf.mono_l k
  refine ⟨?_, ?_⟩
  ·intro y0 y1 y2 y3 y4
   unfold laws_FnClassOf.j0
   repeat' first
   | (with_reducible exact ih0 _ _ _ _ _)
   | (with_reducible exact ih1 _ _ _ _ _ _ _)
   | (with_reducible exact impl_ClassOf.mono _ _ _ _)
   | (with_reducible exact laws_rising.mono _ _)
   | (with_reducible exact spec_ClassRef.mono _ _ _)
   | (with_reducible exact LeO.refl _)
   | (with_reducible exact LeO.none _)
   | (with_reducible refine LeO.ite ?_ ?_)
   | (with_reducible refine LeO.bind ?_ (fun _ => ?_))
   | exact ih0 _ _ _ _ _
   | exact ih1 _ _ _ _ _ _ _
   | exact impl_ClassOf.mono _ _ _ _
   | exact laws_rising.mono _ _
   | exact spec_ClassRef.mono _ _ _
   | exact LeO.none _
   | refine LeO.ite ?_ ?_
   | refine LeO.bind ?_ (fun _ => ?_)
  ·intro y0 y1 y2 y3 y4 y5 y6
   unfold laws_FnClassOf.l0
   repeat' first
   | (with_reducible exact ih0 _ _ _ _ _)
   | (with_reducible exact ih1 _ _ _ _ _ _ _)
   | (with_reducible exact impl_ClassOf.mono _ _ _ _)
   | (with_reducible exact laws_rising.mono _ _)
   | (with_reducible exact spec_ClassRef.mono _ _ _)
   | (with_reducible exact LeO.refl _)
   | (with_reducible exact LeO.none _)
   | (with_reducible refine LeO.ite ?_ ?_)
   | (with_reducible refine LeO.bind ?_ (fun _ => ?_))
   | exact ih0 _ _ _ _ _
   | exact ih1 _ _ _ _ _ _ _
   | exact impl_ClassOf.mono _ _ _ _
   | exact laws_rising.mono _ _
   | exact spec_ClassRef.mono _ _ _
   | exact LeO.none _
   | refine LeO.ite ?_ ?_
   | refine LeO.bind ?_ (fun _ => ?_)
theorem laws_FnClassOf.mono : ∀ a0 a1 a2 a3 k, LeO (laws_FnClassOf.f k a0 a1 a2 a3) (laws_FnClassOf.f (k + 1) a0 a1 a2 a3) := by
 intro a0 a1 a2 a3 k
 obtain ⟨ih0, ih1⟩ := laws_FnClassOf.mono_l k
 unfold laws_FnClassOf.f
 repeat' first
   | (with_reducible exact ih0 _ _ _ _ _)
   | (with_reducible exact ih1 _ _ _ _ _ _ _)
   | (with_reducible exact impl_ClassOf.mono _ _ _ _)
   | (with_reducible exact laws_rising.mono _ _)
   | (with_reducible exact spec_ClassRef.mono _ _ _)
   | (with_reducible exact LeO.refl _)
   | (with_reducible exact LeO.none _)
   | (with_reducible refine LeO.ite ?_ ?_)
   | (with_reducible refine LeO.bind ?_ (fun _ => ?_))
   | exact ih0 _ _ _ _ _
   | exact ih1 _ _ _ _ _ _ _
   | exact impl_ClassOf.mono _ _ _ _
   | exact laws_rising.mono _ _
   | exact spec_ClassRef.mono _ _ _
   | exact LeO.none _
   | refine LeO.ite ?_ ?_
   | refine LeO.bind ?_ (fun _ => ?_)
set_option maxHeartbeats 8000000 in
set_option maxRecDepth 100000 in
theorem laws_FnClassOf.calls (k : Nat) (A0 : Option Addr) (c0 : Nat) (l0 : List Int) (A1 : Option Addr) (c1 : Nat) (l1 : List Int) (a2 : Bool) (a3 : Int) (r : Bool) (w : World) (hr0 : Kd.C (Kd.int .u16) w A0 l0.length l0) (hc0 : l0.length ≤ c0) (hr1 : Kd.C (Kd.int .u8) w A1 l1.length l1) (hc1 : l1.length ≤ c1) (h : laws_FnClassOf.f k l0 l1 a2 a3 = some r) :
  Calls Try.prog 5 #[.slice A0 l0.length c0, .slice A1 l1.length c1, .bool a2, .int .u16 a3] w fun e w' => e = .returned (.bool r) ∧ Below w.heap.size w w' := by
 have hu27 := Try.underlying27
 have HR0 := Aside0.mk hr0
 have HC0 := Aside0.mk hc0
 clear hr0 hc0
 have HR1 := Aside0.mk hr1
 have HC1 := Aside0.mk hc1
 clear hr1 hc1
 have HB := Aside0.mk (Below.refl w.heap.size w)
 have H : (if (l0.length : Int) > 2147483647 then (laws_FnClassOf.j0 k l0 l1 a2 a3 true) else (laws_FnClassOf.j0 k l0 l1 a2 a3 (decide ((l1.length : Int) > 2147483647)))) = some r := h
 clear h
 have HC5 := Aside0.mk H
 clear H
 go_enter Try.func5, Try.ntmps5
 go_upto_region 1 with (fail)
 go_cut [25] (fun v25 wc => ∃ (kq : Nat) (x25_4 : Bool), v25 = .bool x25_4 ∧ Aside0 (laws_FnClassOf.j0 kq l0 l1 a2 a3 x25_4 = some r) ∧ Aside0 (kq ≤ k) ∧ Aside0 (Below w.heap.size w wc))
 case first =>
  have H := HC5.out
  clear HC5
  by_cases c6 : (l0.length : Int) > 2147483647
  ·rw [if_pos c6] at H
   have c6b0 : decide (2147483647 < (l0.length : Int)) = true := decide_eq_true c6
   have c6b1 : decide (2147483647 < l0.length) = true := decide_eq_true (by omega)
   clear c6
   (first | rw [c6b0] | (simp only [i64_w, i32_w]; rw [c6b0]) | skip)
   have H' := Aside0.mk H
   clear H
   go_wp2
   go_meet
   case rel => exact ⟨_, (true), (by first | rfl | (simp; done) | (simp [*]; done)), H', ⟨by first | omega | exact Nat.le_refl _⟩, ⟨by repeat (first | (with_reducible first | exact HB.out | apply below_alloc | apply pw_below_drewN | apply below_drew1) | exact HB.out)⟩⟩
  ·rw [if_neg c6] at H
   have c6b0 : decide (2147483647 < (l0.length : Int)) = false := decide_eq_false c6
   have c6b1 : decide (2147483647 < l0.length) = false := decide_eq_false (by omega)
   clear c6
   (first | rw [c6b0] | (simp only [i64_w, i32_w]; rw [c6b0]) | skip)
   have H' := Aside0.mk H
   clear H
   go_wp2
   go_meet
   case rel => exact ⟨_, (decide ((l1.length : Int) > 2147483647)), (by first | rfl | (simp; done) | (simp [*]; done)), H', ⟨by first | omega | exact Nat.le_refl _⟩, ⟨by repeat (first | (with_reducible first | exact HB.out | apply below_alloc | apply pw_below_drewN | apply below_drew1) | exact HB.out)⟩⟩
 case rest =>
  clear HC5
  try clear c1
  try clear p2
  try clear c5
  try clear c6
  try clear c6b0
  try clear c6b1
  obtain ⟨kq, x25_4, rfl, HA, HJ4, HB⟩ := hcut
  cases kq with
  | zero => exact absurd HA.out (by simp [laws_FnClassOf.j0])
  | succ kj4 =>
   have H := HA.out
   clear HA
   simp only [laws_FnClassOf.j0] at H
   by_cases c7 : x25_4 = true
   ·subst c7
    have H1 : (some true) = some r := by rw [if_pos rfl] at H; exact H
    clear H
    have H := H1
    clear H1
    obtain rfl := Option.some.inj H
    go_wp2
    go_ret
    exact ⟨by first | rfl | (simp [errW_none, errW_some] <;> rfl) | (simp [*, errW_none, errW_some] <;> rfl), by repeat (first | (with_reducible first | exact HB.out | apply below_alloc | apply pw_below_drewN | apply below_drew1) | exact HB.out)⟩
   ·replace c7 := Bool.eq_false_iff.mpr c7
    subst c7
    have H1 : ((laws_rising.f kj4 l0).bind fun t155 => (laws_FnClassOf.l0 kj4 l1 a2 a3 ([] : List (S27)) t155 (t155.length : Int) 0)) = some r := by rw [if_neg (show ¬ (false = true) by decide)] at H; exact H
    clear H
    have H := H1
    clear H1
    replace H := Option.bind_eq_some_iff.mp H
    obtain ⟨t155, A80, H⟩ := H
    replace H : (laws_FnClassOf.l0 kj4 l1 a2 a3 ([] : List (S27)) t155 (t155.length : Int) 0) = some r := H
    have A8 := Aside0.mk A80
    clear A80
    have H' := Aside0.mk H
    clear H
    go_wp2_with (first | ((with_reducible refine gate_callee (f := 11) rfl ?_); refine goesL_ (some 27) rfl rfl Try.func11 (by kernel_rfl) rfl #[.slice A0 l0.length c0] rfl (by (try simp only [List.map_toArray, List.map_cons, List.map_nil]); first | done | rfl | (simp only [List.length_drop, List.length_take]; rfl)) ?_; (with_reducible refine (laws_rising.calls kj4 _ _ l0 t155 _ ?side1 ?side2 A8.out).mono ?_); (case side1 => repeat (first | exact (Kd.C_below HR0.out HB.out) | (with_reducible refine Kd.C_alloc ?_ _) | (with_reducible refine Kd.C_drewN ?_ _) | (with_reducible refine Kd.C_drew ?_))); (case side2 => exact HC0.out); rintro e w9 ⟨v156, rfl, ho0, hb⟩; refine ⟨_, rfl, ?_⟩; have n0_ := Aside0.mk (Kd.R_lower ho0 (below_size (by repeat (first | (with_reducible first | exact HB.out | apply below_alloc | apply pw_below_drewN | apply below_drew1) | exact HB.out)))); have n1_ := Aside0.mk (below_step (by repeat (first | (with_reducible first | exact HB.out | apply below_alloc | apply pw_below_drewN | apply below_drew1) | exact HB.out)) hb); clear HB; have HO157 := n0_; have HB := n1_; clear n0_ n1_; (try clear hb); (try clear hb2); (try clear hk); (try clear hi); (try clear ho0); obtain ⟨Ao10, co10, eo10⟩ := Kd.R_slice HO157.out; subst eo10))
    go_loopg [9, 29] kj4 (fun kq v9 v29 w' => ∃ (x9_2 : List (S27)) (x29_2 : Int), v29 = .int .i64 x29_2 ∧ Aside0 (laws_FnClassOf.l0 kq l1 a2 a3 x9_2 t155 (t155.length : Int) x29_2 = some r) ∧ Aside0 (kq ≤ kj4) ∧ Aside0 (Kd.R k27 27 w' w.heap.size (fun _ => True) v9 x9_2) ∧ Aside0 (Kd.R (Kd.int .i64) 3 w' w.heap.size (fun _ => True) (.slice Ao10 t155.length co10) t155) ∧ Aside0 (Below w.heap.size w w'))
    case atStart => exact ⟨(([] : List (S27))), (0), (by first | rfl | (simp; done) | (simp [*]; done)), H', ⟨Nat.le_refl _⟩, ⟨by first | exact Kd.R_nil _ _ _ _ _ | exact Kd.N_nil _ _ _ _ _ | exact Kd.V_nil _ _ _ _ _ | exact Kd.Q_nil _ _ _ _ _ | exact Kd.S_nil _ _ _ _ _⟩, ⟨by (with_reducible repeat (first | apply Kd.R_alloc | apply Kd.R_drewN | apply Kd.R_drew)); exact HO157.out⟩, ⟨by repeat (first | (with_reducible first | exact HB.out | apply below_alloc | apply pw_below_drewN | apply below_drew1) | exact HB.out)⟩⟩
    case round =>
     clear H'
     try clear c1
     try clear p2
     try clear c5
     try clear c6
     try clear c6b0
     try clear c6b1
     try clear c7
     try clear p2
     obtain ⟨x9_2, x29_2, rfl, HA, HK2, HO_9, HO_27, HB⟩ := hrel
     cases gk with
     | zero => exact absurd HA.out (by simp [laws_FnClassOf.l0])
     | succ k2 =>
      have H := HA.out
      clear HA
      simp only [laws_FnClassOf.l0] at H
      by_cases c11 : x29_2 < (t155.length : Int)
      ·rw [if_pos c11] at H
       have c11b0 : decide (x29_2 < (t155.length : Int)) = true := decide_eq_true c11
       clear c11
       by_cases c12 : 0 ≤ x29_2
       ·rw [if_pos c12] at H
        have c12b0 : decide (0 ≤ x29_2) = true := decide_eq_true c12
        clear c12
        by_cases c13 : x29_2 < (t155.length : Int)
        ·rw [if_pos c13] at H
         have c13b0 : decide (x29_2 < (t155.length : Int)) = true := decide_eq_true c13
         clear c13
         by_cases c14 : a2 = true
         ·subst c14
          have H1 : ((laws_at.f l1 x29_2).bind fun t159 => (if x9_2.length < 8796093022208 then (laws_FnClassOf.l0 k2 l1 true a3 (x9_2 ++ [(⟨rd t155 x29_2, wrap64 (1 + (wrap64 (Int.tmod t159 5)))⟩ : S27)]) t155 (t155.length : Int) (wrap64 (x29_2 + 1))) else (none))) = some r := by rw [if_pos rfl] at H; exact H
          clear H
          have H := H1
          clear H1
          replace H := Option.bind_eq_some_iff.mp H
          obtain ⟨t159, A150, H⟩ := H
          replace H : (if x9_2.length < 8796093022208 then (laws_FnClassOf.l0 k2 l1 true a3 (x9_2 ++ [(⟨rd t155 x29_2, wrap64 (1 + (wrap64 (Int.tmod t159 5)))⟩ : S27)]) t155 (t155.length : Int) (wrap64 (x29_2 + 1))) else (none)) = some r := H
          have A15 := Aside0.mk A150
          clear A150
          by_cases c16 : x9_2.length < 8796093022208
          ·rw [if_pos c16] at H
           have LMc16 := Aside0.mk c16
           clear c16
           obtain ⟨y160, hy160⟩ : ∃ y_ : List (S27), y_ = (x9_2 ++ [(⟨rd t155 x29_2, wrap64 (1 + (wrap64 (Int.tmod t159 5)))⟩ : S27)]) := ⟨_, rfl⟩
           replace H : (laws_FnClassOf.l0 k2 l1 true a3 y160 t155 (t155.length : Int) (wrap64 (x29_2 + 1))) = some r := by first | (rw [hy160]; with_reducible exact H) | (have H2_ := (Option.bind_some _ _).symm.trans H; rw [hy160]; with_reducible exact H2_) | (have H2_ := (Option.bind_some _ _).symm.trans H; with_reducible exact H2_) | with_reducible exact H | (rw [hy160]; exact H) | exact H
           have Ny160 := Aside0.mk hy160
           clear hy160
           have H' := Aside0.mk H
           clear H
           have p158 : 0 ≤ (x29_2 : Int) := of_decide_eq_true (by first | (with_reducible assumption) | assumption)
           have q158 : x29_2 < (t155.length : Int) := of_decide_eq_true (by first | (with_reducible assumption) | assumption)
           obtain ⟨ad158, e158, hx158_0⟩ := Kd.at_int (Kd.R_reads' HO_27.out).2.2 x29_2 p158 q158
           cases e158
           replace p158 := eq_true p158
           replace q158 := eq_true q158
           go_wp2_with (first | ((with_reducible refine gate_callee (f := 14) rfl ?_); refine goesL_ (some 43) rfl rfl Try.func14 (by kernel_rfl) rfl #[.slice A1 l1.length c1, .int .i64 x29_2] rfl (by (try simp only [List.map_toArray, List.map_cons, List.map_nil]); first | done | rfl | (simp only [List.length_drop, List.length_take]; rfl)) ?_; (with_reducible refine (laws_at.calls _ _ l1 x29_2 t159 _ ?side1 ?side2 A15.out).mono ?_); (case side1 => repeat (first | exact (Kd.C_below HR1.out HB.out) | (with_reducible refine Kd.C_alloc ?_ _) | (with_reducible refine Kd.C_drewN ?_ _) | (with_reducible refine Kd.C_drew ?_))); (case side2 => exact HC1.out); rintro e w' ⟨rfl, ⟨nd, rfl⟩⟩; refine ⟨_, rfl, ?_⟩) | ((with_reducible refine gate_builtin (b := .append) (xs := #[.tmp 39, .tmp 48]) rfl ?_); (try (refine gate_guard (by rfl) ?_; dsimp only)); at_builtin; refine Kd.R_append k27 (w0 := w) w.heap.size rfl (.tmp 39) (.tmp 48) 24 27 (.agg #[(.int .i64 0), (.int .i64 0)]) 16 rfl Try.underlying24 info27 rfl (by decide) (by omega) u9 x9_2 (⟨rd t155 x29_2, wrap64 (1 + (wrap64 (Int.tmod t159 5)))⟩ : S27) [.int .i64 (rd t155 x29_2), .int .i64 (wrap64 (1 + (wrap64 (Int.tmod t159 5))))] (fun _ => True) (fun _ => False) rfl rfl ?aP (fun _ hk => hk.elim) ?aF ?aO ?aB ?aS ?aL ?_; (case aP => exact k27_mkM _ _ _ (⟨rd t155 x29_2, wrap64 (1 + (wrap64 (Int.tmod t159 5)))⟩ : S27)); (case aB => exact (by repeat (first | (with_reducible first | exact HB.out | apply below_alloc | apply pw_below_drewN | apply below_drew1) | exact HB.out))); (case aF => exact (fun _ _ => trivial)); (case aO => exact (by (with_reducible repeat (first | apply Kd.R_alloc | apply Kd.R_drewN | apply Kd.R_drew)); exact HO_9.out)); (case aS => exact (below_size (by repeat (first | (with_reducible first | exact HB.out | apply below_alloc | apply pw_below_drewN | apply below_drew1) | exact HB.out)))); (case aL => have := LMc16.out; omega); intro v161 w17 ho hb hg hat; rw [← Ny160.out] at ho; have n0_ := Aside0.mk (Kd.R_over' (by (with_reducible repeat (first | apply Kd.R_alloc | apply Kd.R_drewN | apply Kd.R_drew)); exact HO_27.out) (Kd.R_typed (by (with_reducible repeat (first | apply Kd.R_alloc | apply Kd.R_drewN | apply Kd.R_drew)); exact HO_9.out)) (by decide) hg); have n1_ := Aside0.mk (hb); have n2_ := Aside0.mk (ho); clear HO_27; clear HB; clear HO_9; have HO_27 := n0_; have HB := n1_; have HO162 := n2_; clear n0_ n1_ n2_; clear ho hb hg hat))
           go_roundg k2
           case measure => have := HJ4.out; have := HK2.out; omega
           case rel => exact ⟨(y160), (wrap64 (x29_2 + 1)), (by first | rfl | (simp; done) | (simp [*]; done)), H', ⟨by have := HJ4.out; have := HK2.out; omega⟩, ⟨by (with_reducible repeat (first | apply Kd.R_alloc | apply Kd.R_drewN | apply Kd.R_drew)); exact HO162.out⟩, ⟨by (with_reducible repeat (first | apply Kd.R_alloc | apply Kd.R_drewN | apply Kd.R_drew)); exact HO_27.out⟩, ⟨by repeat (first | (with_reducible first | exact HB.out | apply below_alloc | apply pw_below_drewN | apply below_drew1) | exact HB.out)⟩⟩
          ·rw [if_neg c16] at H
           exact absurd H (by simp)
         ·replace c14 := Bool.eq_false_iff.mpr c14
          subst c14
          have H1 : (if (rd t155 x29_2) < 4000 then ((laws_at.f l1 x29_2).bind fun t163 => (if x9_2.length < 8796093022208 then (laws_FnClassOf.l0 k2 l1 false a3 (x9_2 ++ [(⟨rd t155 x29_2, wrap64 (1 + (wrap64 (Int.tmod t163 5)))⟩ : S27)]) t155 (t155.length : Int) (wrap64 (x29_2 + 1))) else (none))) else (laws_FnClassOf.l0 k2 l1 false a3 x9_2 t155 (t155.length : Int) (wrap64 (x29_2 + 1)))) = some r := by rw [if_neg (show ¬ (false = true) by decide)] at H; exact H
          clear H
          have H := H1
          clear H1
          by_cases c18 : (rd t155 x29_2) < 4000
          ·rw [if_pos c18] at H
           have c18b0 : decide ((rd t155 x29_2) < 4000) = true := decide_eq_true c18
           clear c18
           replace H := Option.bind_eq_some_iff.mp H
           obtain ⟨t163, A190, H⟩ := H
           replace H : (if x9_2.length < 8796093022208 then (laws_FnClassOf.l0 k2 l1 false a3 (x9_2 ++ [(⟨rd t155 x29_2, wrap64 (1 + (wrap64 (Int.tmod t163 5)))⟩ : S27)]) t155 (t155.length : Int) (wrap64 (x29_2 + 1))) else (none)) = some r := H
           have A19 := Aside0.mk A190
           clear A190
           by_cases c20 : x9_2.length < 8796093022208
           ·rw [if_pos c20] at H
            have LMc20 := Aside0.mk c20
            clear c20
            obtain ⟨y164, hy164⟩ : ∃ y_ : List (S27), y_ = (x9_2 ++ [(⟨rd t155 x29_2, wrap64 (1 + (wrap64 (Int.tmod t163 5)))⟩ : S27)]) := ⟨_, rfl⟩
            replace H : (laws_FnClassOf.l0 k2 l1 false a3 y164 t155 (t155.length : Int) (wrap64 (x29_2 + 1))) = some r := by first | (rw [hy164]; with_reducible exact H) | (have H2_ := (Option.bind_some _ _).symm.trans H; rw [hy164]; with_reducible exact H2_) | (have H2_ := (Option.bind_some _ _).symm.trans H; with_reducible exact H2_) | with_reducible exact H | (rw [hy164]; exact H) | exact H
            have Ny164 := Aside0.mk hy164
            clear hy164
            have H' := Aside0.mk H
            clear H
            have p158 : 0 ≤ (x29_2 : Int) := of_decide_eq_true (by first | (with_reducible assumption) | assumption)
            have q158 : x29_2 < (t155.length : Int) := of_decide_eq_true (by first | (with_reducible assumption) | assumption)
            obtain ⟨ad158, e158, hx158_0⟩ := Kd.at_int (Kd.R_reads' HO_27.out).2.2 x29_2 p158 q158
            cases e158
            replace p158 := eq_true p158
            replace q158 := eq_true q158
            go_wp2_with (first | ((with_reducible refine gate_callee (f := 14) rfl ?_); refine goesL_ (some 43) rfl rfl Try.func14 (by kernel_rfl) rfl #[.slice A1 l1.length c1, .int .i64 x29_2] rfl (by (try simp only [List.map_toArray, List.map_cons, List.map_nil]); first | done | rfl | (simp only [List.length_drop, List.length_take]; rfl)) ?_; (with_reducible refine (laws_at.calls _ _ l1 x29_2 t163 _ ?side1 ?side2 A19.out).mono ?_); (case side1 => repeat (first | exact (Kd.C_below HR1.out HB.out) | (with_reducible refine Kd.C_alloc ?_ _) | (with_reducible refine Kd.C_drewN ?_ _) | (with_reducible refine Kd.C_drew ?_))); (case side2 => exact HC1.out); rintro e w' ⟨rfl, ⟨nd, rfl⟩⟩; refine ⟨_, rfl, ?_⟩) | ((with_reducible refine gate_builtin (b := .append) (xs := #[.tmp 39, .tmp 48]) rfl ?_); (try (refine gate_guard (by rfl) ?_; dsimp only)); at_builtin; refine Kd.R_append k27 (w0 := w) w.heap.size rfl (.tmp 39) (.tmp 48) 24 27 (.agg #[(.int .i64 0), (.int .i64 0)]) 16 rfl Try.underlying24 info27 rfl (by decide) (by omega) u9 x9_2 (⟨rd t155 x29_2, wrap64 (1 + (wrap64 (Int.tmod t163 5)))⟩ : S27) [.int .i64 (rd t155 x29_2), .int .i64 (wrap64 (1 + (wrap64 (Int.tmod t163 5))))] (fun _ => True) (fun _ => False) rfl rfl ?aP (fun _ hk => hk.elim) ?aF ?aO ?aB ?aS ?aL ?_; (case aP => exact k27_mkM _ _ _ (⟨rd t155 x29_2, wrap64 (1 + (wrap64 (Int.tmod t163 5)))⟩ : S27)); (case aB => exact (by repeat (first | (with_reducible first | exact HB.out | apply below_alloc | apply pw_below_drewN | apply below_drew1) | exact HB.out))); (case aF => exact (fun _ _ => trivial)); (case aO => exact (by (with_reducible repeat (first | apply Kd.R_alloc | apply Kd.R_drewN | apply Kd.R_drew)); exact HO_9.out)); (case aS => exact (below_size (by repeat (first | (with_reducible first | exact HB.out | apply below_alloc | apply pw_below_drewN | apply below_drew1) | exact HB.out)))); (case aL => have := LMc20.out; omega); intro v165 w21 ho hb hg hat; rw [← Ny164.out] at ho; have n0_ := Aside0.mk (Kd.R_over' (by (with_reducible repeat (first | apply Kd.R_alloc | apply Kd.R_drewN | apply Kd.R_drew)); exact HO_27.out) (Kd.R_typed (by (with_reducible repeat (first | apply Kd.R_alloc | apply Kd.R_drewN | apply Kd.R_drew)); exact HO_9.out)) (by decide) hg); have n1_ := Aside0.mk (hb); have n2_ := Aside0.mk (ho); clear HO_27; clear HB; clear HO_9; have HO_27 := n0_; have HB := n1_; have HO166 := n2_; clear n0_ n1_ n2_; clear ho hb hg hat))
            go_roundg k2
            case measure => have := HJ4.out; have := HK2.out; omega
            case rel => exact ⟨(y164), (wrap64 (x29_2 + 1)), (by first | rfl | (simp; done) | (simp [*]; done)), H', ⟨by have := HJ4.out; have := HK2.out; omega⟩, ⟨by (with_reducible repeat (first | apply Kd.R_alloc | apply Kd.R_drewN | apply Kd.R_drew)); exact HO166.out⟩, ⟨by (with_reducible repeat (first | apply Kd.R_alloc | apply Kd.R_drewN | apply Kd.R_drew)); exact HO_27.out⟩, ⟨by repeat (first | (with_reducible first | exact HB.out | apply below_alloc | apply pw_below_drewN | apply below_drew1) | exact HB.out)⟩⟩
           ·rw [if_neg c20] at H
            exact absurd H (by simp)
          ·rw [if_neg c18] at H
           have c18b0 : decide ((rd t155 x29_2) < 4000) = false := decide_eq_false c18
           clear c18
           have H' := Aside0.mk H
           clear H
           have p158 : 0 ≤ (x29_2 : Int) := of_decide_eq_true (by first | (with_reducible assumption) | assumption)
           have q158 : x29_2 < (t155.length : Int) := of_decide_eq_true (by first | (with_reducible assumption) | assumption)
           obtain ⟨ad158, e158, hx158_0⟩ := Kd.at_int (Kd.R_reads' HO_27.out).2.2 x29_2 p158 q158
           cases e158
           replace p158 := eq_true p158
           replace q158 := eq_true q158
           go_wp2
           go_roundg k2
           case measure => have := HJ4.out; have := HK2.out; omega
           case rel => exact ⟨(x9_2), (wrap64 (x29_2 + 1)), (by first | rfl | (simp; done) | (simp [*]; done)), H', ⟨by have := HJ4.out; have := HK2.out; omega⟩, ⟨by (with_reducible repeat (first | apply Kd.R_alloc | apply Kd.R_drewN | apply Kd.R_drew)); exact HO_9.out⟩, ⟨by (with_reducible repeat (first | apply Kd.R_alloc | apply Kd.R_drewN | apply Kd.R_drew)); exact HO_27.out⟩, ⟨by repeat (first | (with_reducible first | exact HB.out | apply below_alloc | apply pw_below_drewN | apply below_drew1) | exact HB.out)⟩⟩
        ·rw [if_neg c13] at H
         exact absurd H (by simp)
       ·rw [if_neg c12] at H
        exact absurd H (by simp)
      ·rw [if_neg c11] at H
       have c11b0 : decide (x29_2 < (t155.length : Int)) = false := decide_eq_false c11
       clear c11
       by_cases c22 : a2 = true
       ·subst c22
        have H1 : ((impl_ClassOf.f k2 2 x9_2 (wrap64 (a3))).bind fun bt167 => ((spec_ClassRef.f k2 x9_2 (wrap64 (a3))).bind fun t169 => ((impl_ClassOf.f k2 2 (([(⟨7, 3⟩ : S27)] : List (S27))) 7).bind fun bt173 => (if bt167.1 = t169 then (if bt167.2 = true then (if bt173.1 = 3 then (some bt173.2) else (some false)) else (if t169 = 0 then (if bt173.1 = 3 then (some bt173.2) else (some false)) else (some false))) else (some false))))) = some r := by rw [if_pos rfl] at H; exact H
        clear H
        have H := H1
        clear H1
        replace H := Option.bind_eq_some_iff.mp H
        obtain ⟨⟨t167, t168⟩, A230, H⟩ := H
        replace H : ((spec_ClassRef.f k2 x9_2 (wrap64 (a3))).bind fun t169 => ((impl_ClassOf.f k2 2 (([(⟨7, 3⟩ : S27)] : List (S27))) 7).bind fun bt173 => (if t167 = t169 then (if t168 = true then (if bt173.1 = 3 then (some bt173.2) else (some false)) else (if t169 = 0 then (if bt173.1 = 3 then (some bt173.2) else (some false)) else (some false))) else (some false)))) = some r := H
        have A23 := Aside0.mk A230
        clear A230
        replace H := Option.bind_eq_some_iff.mp H
        obtain ⟨t169, A240, H⟩ := H
        replace H : ((impl_ClassOf.f k2 2 (([(⟨7, 3⟩ : S27)] : List (S27))) 7).bind fun bt173 => (if t167 = t169 then (if t168 = true then (if bt173.1 = 3 then (some bt173.2) else (some false)) else (if t169 = 0 then (if bt173.1 = 3 then (some bt173.2) else (some false)) else (some false))) else (some false))) = some r := H
        have A24 := Aside0.mk A240
        clear A240
        obtain ⟨y170, hy170⟩ : ∃ y_ : List (S27), y_ = (([(⟨7, 3⟩ : S27)] : List (S27))) := ⟨_, rfl⟩
        replace H : ((impl_ClassOf.f k2 2 y170 7).bind fun bt173 => (if t167 = t169 then (if t168 = true then (if bt173.1 = 3 then (some bt173.2) else (some false)) else (if t169 = 0 then (if bt173.1 = 3 then (some bt173.2) else (some false)) else (some false))) else (some false))) = some r := by first | (rw [hy170]; with_reducible exact H) | (have H2_ := (Option.bind_some _ _).symm.trans H; rw [hy170]; with_reducible exact H2_) | (have H2_ := (Option.bind_some _ _).symm.trans H; with_reducible exact H2_) | with_reducible exact H | (rw [hy170]; exact H) | exact H
        have Ny170 := Aside0.mk hy170
        clear hy170
        replace H := Option.bind_eq_some_iff.mp H
        obtain ⟨⟨t173, t174⟩, A250, H⟩ := H
        replace H : (if t167 = t169 then (if t168 = true then (if t173 = 3 then (some t174) else (some false)) else (if t169 = 0 then (if t173 = 3 then (some t174) else (some false)) else (some false))) else (some false)) = some r := H
        have A25 := Aside0.mk A250
        clear A250
        by_cases c26 : t167 = t169
        ·rw [if_pos c26] at H
         have c26b0 : (t167 == t169) = true := beq_iff_eq.mpr c26
         have c26b1 : (t167 != t169) = false := bne_eq_false_iff_eq.mpr c26
         clear c26
         by_cases c27 : t168 = true
         ·subst c27
          have H1 : (if t173 = 3 then (some t174) else (some false)) = some r := by rw [if_pos rfl] at H; exact H
          clear H
          have H := H1
          clear H1
          by_cases c28 : t173 = 3
          ·rw [if_pos c28] at H
           have c28b0 : (t173 == 3) = true := beq_iff_eq.mpr c28
           have c28b1 : (t173 != 3) = false := bne_eq_false_iff_eq.mpr c28
           clear c28
           obtain rfl := Option.some.inj H
           obtain ⟨Ao29, co29, eo29⟩ := Kd.R_slice HO_9.out
           subst eo29
           go_wp2_with (first | ((with_reducible refine gate_callee (f := 15) rfl ?_); refine goesL_ (some 57) rfl rfl Try.func15 (by kernel_rfl) rfl #[.int .i64 2, .slice Ao29 x9_2.length co29, .int .i64 (wrap64 (a3))] rfl (by (try simp only [List.map_toArray, List.map_cons, List.map_nil]); first | done | rfl | (simp only [List.length_drop, List.length_take]; rfl)) ?_; (with_reducible refine (impl_ClassOf.calls k2 2 _ _ x9_2 (wrap64 (a3)) t167 true _ ?side1 ?side2 A23.out).mono ?_); (case side1 => repeat (first | exact (Kd.R_reads' HO_9.out).2.2 | (with_reducible refine Kd.C_alloc ?_ _) | (with_reducible refine Kd.C_drewN ?_ _) | (with_reducible refine Kd.C_drew ?_))); (case side2 => exact (Kd.R_reads' HO_9.out).2.1); rintro e w30 ⟨rfl, hb⟩; refine ⟨_, rfl, ?_⟩; have n0_ := Aside0.mk (Kd.R_below (by (with_reducible repeat (first | apply Kd.R_alloc | apply Kd.R_drewN | apply Kd.R_drew)); exact HO_9.out) hb); have n1_ := Aside0.mk (Kd.R_below (by (with_reducible repeat (first | apply Kd.R_alloc | apply Kd.R_drewN | apply Kd.R_drew)); exact HO_27.out) hb); have n2_ := Aside0.mk (below_step (by repeat (first | (with_reducible first | exact HB.out | apply below_alloc | apply pw_below_drewN | apply below_drew1) | exact HB.out)) hb); clear HO_9; clear HO_27; clear HB; have HO_9 := n0_; have HO_27 := n1_; have HB := n2_; clear n0_ n1_ n2_; (try clear hb); (try clear hb2); (try clear hk); (try clear hi)) | ((with_reducible refine gate_callee (f := 16) rfl ?_); refine goesL_ (some 63) rfl rfl Try.func16 (by kernel_rfl) rfl #[.slice Ao29 x9_2.length co29, .int .i64 (wrap64 (a3))] rfl (by (try simp only [List.map_toArray, List.map_cons, List.map_nil]); first | done | rfl | (simp only [List.length_drop, List.length_take]; rfl)) ?_; (with_reducible refine (spec_ClassRef.calls k2 _ _ x9_2 (wrap64 (a3)) t169 _ ?side1 ?side2 A24.out).mono ?_); (case side1 => repeat (first | exact (Kd.R_reads' HO_9.out).2.2 | (with_reducible refine Kd.C_alloc ?_ _) | (with_reducible refine Kd.C_drewN ?_ _) | (with_reducible refine Kd.C_drew ?_))); (case side2 => exact (Kd.R_reads' HO_9.out).2.1); rintro e w31 ⟨rfl, hb⟩; refine ⟨_, rfl, ?_⟩; have n0_ := Aside0.mk (Kd.R_below (by (with_reducible repeat (first | apply Kd.R_alloc | apply Kd.R_drewN | apply Kd.R_drew)); exact HO_9.out) hb); have n1_ := Aside0.mk (Kd.R_below (by (with_reducible repeat (first | apply Kd.R_alloc | apply Kd.R_drewN | apply Kd.R_drew)); exact HO_27.out) hb); have n2_ := Aside0.mk (below_step (by repeat (first | (with_reducible first | exact HB.out | apply below_alloc | apply pw_below_drewN | apply below_drew1) | exact HB.out)) hb); clear HO_9; clear HO_27; clear HB; have HO_9 := n0_; have HO_27 := n1_; have HB := n2_; clear n0_ n1_ n2_; (try clear hb); (try clear hb2); (try clear hk); (try clear hi)) | ((with_reducible refine gate_dst (N := 66) rfl ?_); (try (refine gate_guard (by rfl) ?_; dsimp only)); refine Kd.R_lit k27 _ 27 ?hg (N := 66) ?hd (xs := ([(⟨7, 3⟩ : S27)] : List (S27))) (inner := [.int .i64 7, .int .i64 3]) (ok := fun _ => True) (okp := fun _ => True) ?hr ?hp (fun _ hk => hk) trivial (Below.refl _ _) (Nat.le_refl _) (by simp) ?_; (case hd => rfl); (case hg => rfl); (case hr => first | (go_simp; done) | (go_simp; rfl)); (case hp => exact (Reps.c2 (show Kd.M k27 _ _ _ (⟨7, 3⟩ : S27) [.int .i64 7, .int .i64 3] from (k27_mkM _ _ _ (⟨7, 3⟩ : S27) )) (Reps.none _ _))); intro v171 w32 ho33 hb hg_ hnew_; clear hg_ hnew_; (first | rw [← Ny170.out] at ho33 | (simp only [Int.reduceToNat] at ho33; rw [← Ny170.out] at ho33)); have n0_ := Aside0.mk (Kd.R_elder' (by (with_reducible repeat (first | apply Kd.R_alloc | apply Kd.R_drewN | apply Kd.R_drew)); exact HO_9.out) (Kd.R_base ho33) hb); have n1_ := Aside0.mk (Kd.R_below (by (with_reducible repeat (first | apply Kd.R_alloc | apply Kd.R_drewN | apply Kd.R_drew)); exact HO_27.out) hb); have n2_ := Aside0.mk (Kd.R_lower (Kd.R_new' ho33 (Kd.R_lt (by (with_reducible repeat (first | apply Kd.R_alloc | apply Kd.R_drewN | apply Kd.R_drew)); exact HO_9.out))) (below_size (by repeat (first | (with_reducible first | exact HB.out | apply below_alloc | apply pw_below_drewN | apply below_drew1) | exact HB.out)))); have n3_ := Aside0.mk (below_step (by repeat (first | (with_reducible first | exact HB.out | apply below_alloc | apply pw_below_drewN | apply below_drew1) | exact HB.out)) hb); clear HO_9; clear HO_27; clear HB; have HO_9 := n0_; have HO_27 := n1_; have HO172 := n2_; have HB := n3_; clear n0_ n1_ n2_ n3_; clear hb ho33; obtain ⟨Ao34, co34, eo34⟩ := Kd.R_slice HO172.out; subst eo34) | ((with_reducible refine gate_callee (f := 15) rfl ?_); refine goesL_ (some 67) rfl rfl Try.func15 (by kernel_rfl) rfl #[.int .i64 2, .slice Ao34 y170.length co34, .int .i64 7] rfl (by (try simp only [List.map_toArray, List.map_cons, List.map_nil]); first | done | rfl | (simp only [List.length_drop, List.length_take]; rfl)) ?_; (with_reducible refine (impl_ClassOf.calls k2 2 _ _ y170 7 t173 t174 _ ?side1 ?side2 A25.out).mono ?_); (case side1 => repeat (first | exact (Kd.R_reads' HO172.out).2.2 | (with_reducible refine Kd.C_alloc ?_ _) | (with_reducible refine Kd.C_drewN ?_ _) | (with_reducible refine Kd.C_drew ?_))); (case side2 => exact (Kd.R_reads' HO172.out).2.1); rintro e w35 ⟨rfl, hb⟩; refine ⟨_, rfl, ?_⟩; have n0_ := Aside0.mk (Kd.R_below (by (with_reducible repeat (first | apply Kd.R_alloc | apply Kd.R_drewN | apply Kd.R_drew)); exact HO_9.out) hb); have n1_ := Aside0.mk (Kd.R_below (by (with_reducible repeat (first | apply Kd.R_alloc | apply Kd.R_drewN | apply Kd.R_drew)); exact HO_27.out) hb); have n2_ := Aside0.mk (Kd.R_below (by (with_reducible repeat (first | apply Kd.R_alloc | apply Kd.R_drewN | apply Kd.R_drew)); exact HO172.out) hb); have n3_ := Aside0.mk (below_step (by repeat (first | (with_reducible first | exact HB.out | apply below_alloc | apply pw_below_drewN | apply below_drew1) | exact HB.out)) hb); clear HO_9; clear HO_27; clear HO172; clear HB; have HO_9 := n0_; have HO_27 := n1_; have HO172 := n2_; have HB := n3_; clear n0_ n1_ n2_ n3_; (try clear hb); (try clear hb2); (try clear hk); (try clear hi)))
           go_ret
           exact ⟨by first | rfl | (simp [errW_none, errW_some] <;> rfl) | (simp [*, errW_none, errW_some] <;> rfl), by repeat (first | (with_reducible first | exact HB.out | apply below_alloc | apply pw_below_drewN | apply below_drew1) | exact HB.out)⟩
          ·rw [if_neg c28] at H
           have c28b0 : (t173 == 3) = false := beq_eq_false_iff_ne.mpr c28
           have c28b1 : (t173 != 3) = true := bne_iff_ne.mpr c28
           obtain rfl := Option.some.inj H
           obtain ⟨Ao36, co36, eo36⟩ := Kd.R_slice HO_9.out
           subst eo36
           go_wp2_with (first | ((with_reducible refine gate_callee (f := 15) rfl ?_); refine goesL_ (some 57) rfl rfl Try.func15 (by kernel_rfl) rfl #[.int .i64 2, .slice Ao36 x9_2.length co36, .int .i64 (wrap64 (a3))] rfl (by (try simp only [List.map_toArray, List.map_cons, List.map_nil]); first | done | rfl | (simp only [List.length_drop, List.length_take]; rfl)) ?_; (with_reducible refine (impl_ClassOf.calls k2 2 _ _ x9_2 (wrap64 (a3)) t167 true _ ?side1 ?side2 A23.out).mono ?_); (case side1 => repeat (first | exact (Kd.R_reads' HO_9.out).2.2 | (with_reducible refine Kd.C_alloc ?_ _) | (with_reducible refine Kd.C_drewN ?_ _) | (with_reducible refine Kd.C_drew ?_))); (case side2 => exact (Kd.R_reads' HO_9.out).2.1); rintro e w37 ⟨rfl, hb⟩; refine ⟨_, rfl, ?_⟩; have n0_ := Aside0.mk (Kd.R_below (by (with_reducible repeat (first | apply Kd.R_alloc | apply Kd.R_drewN | apply Kd.R_drew)); exact HO_9.out) hb); have n1_ := Aside0.mk (Kd.R_below (by (with_reducible repeat (first | apply Kd.R_alloc | apply Kd.R_drewN | apply Kd.R_drew)); exact HO_27.out) hb); have n2_ := Aside0.mk (below_step (by repeat (first | (with_reducible first | exact HB.out | apply below_alloc | apply pw_below_drewN | apply below_drew1) | exact HB.out)) hb); clear HO_9; clear HO_27; clear HB; have HO_9 := n0_; have HO_27 := n1_; have HB := n2_; clear n0_ n1_ n2_; (try clear hb); (try clear hb2); (try clear hk); (try clear hi)) | ((with_reducible refine gate_callee (f := 16) rfl ?_); refine goesL_ (some 63) rfl rfl Try.func16 (by kernel_rfl) rfl #[.slice Ao36 x9_2.length co36, .int .i64 (wrap64 (a3))] rfl (by (try simp only [List.map_toArray, List.map_cons, List.map_nil]); first | done | rfl | (simp only [List.length_drop, List.length_take]; rfl)) ?_; (with_reducible refine (spec_ClassRef.calls k2 _ _ x9_2 (wrap64 (a3)) t169 _ ?side1 ?side2 A24.out).mono ?_); (case side1 => repeat (first | exact (Kd.R_reads' HO_9.out).2.2 | (with_reducible refine Kd.C_alloc ?_ _) | (with_reducible refine Kd.C_drewN ?_ _) | (with_reducible refine Kd.C_drew ?_))); (case side2 => exact (Kd.R_reads' HO_9.out).2.1); rintro e w38 ⟨rfl, hb⟩; refine ⟨_, rfl, ?_⟩; have n0_ := Aside0.mk (Kd.R_below (by (with_reducible repeat (first | apply Kd.R_alloc | apply Kd.R_drewN | apply Kd.R_drew)); exact HO_9.out) hb); have n1_ := Aside0.mk (Kd.R_below (by (with_reducible repeat (first | apply Kd.R_alloc | apply Kd.R_drewN | apply Kd.R_drew)); exact HO_27.out) hb); have n2_ := Aside0.mk (below_step (by repeat (first | (with_reducible first | exact HB.out | apply below_alloc | apply pw_below_drewN | apply below_drew1) | exact HB.out)) hb); clear HO_9; clear HO_27; clear HB; have HO_9 := n0_; have HO_27 := n1_; have HB := n2_; clear n0_ n1_ n2_; (try clear hb); (try clear hb2); (try clear hk); (try clear hi)) | ((with_reducible refine gate_dst (N := 66) rfl ?_); (try (refine gate_guard (by rfl) ?_; dsimp only)); refine Kd.R_lit k27 _ 27 ?hg (N := 66) ?hd (xs := ([(⟨7, 3⟩ : S27)] : List (S27))) (inner := [.int .i64 7, .int .i64 3]) (ok := fun _ => True) (okp := fun _ => True) ?hr ?hp (fun _ hk => hk) trivial (Below.refl _ _) (Nat.le_refl _) (by simp) ?_; (case hd => rfl); (case hg => rfl); (case hr => first | (go_simp; done) | (go_simp; rfl)); (case hp => exact (Reps.c2 (show Kd.M k27 _ _ _ (⟨7, 3⟩ : S27) [.int .i64 7, .int .i64 3] from (k27_mkM _ _ _ (⟨7, 3⟩ : S27) )) (Reps.none _ _))); intro v171 w39 ho40 hb hg_ hnew_; clear hg_ hnew_; (first | rw [← Ny170.out] at ho40 | (simp only [Int.reduceToNat] at ho40; rw [← Ny170.out] at ho40)); have n0_ := Aside0.mk (Kd.R_elder' (by (with_reducible repeat (first | apply Kd.R_alloc | apply Kd.R_drewN | apply Kd.R_drew)); exact HO_9.out) (Kd.R_base ho40) hb); have n1_ := Aside0.mk (Kd.R_below (by (with_reducible repeat (first | apply Kd.R_alloc | apply Kd.R_drewN | apply Kd.R_drew)); exact HO_27.out) hb); have n2_ := Aside0.mk (Kd.R_lower (Kd.R_new' ho40 (Kd.R_lt (by (with_reducible repeat (first | apply Kd.R_alloc | apply Kd.R_drewN | apply Kd.R_drew)); exact HO_9.out))) (below_size (by repeat (first | (with_reducible first | exact HB.out | apply below_alloc | apply pw_below_drewN | apply below_drew1) | exact HB.out)))); have n3_ := Aside0.mk (below_step (by repeat (first | (with_reducible first | exact HB.out | apply below_alloc | apply pw_below_drewN | apply below_drew1) | exact HB.out)) hb); clear HO_9; clear HO_27; clear HB; have HO_9 := n0_; have HO_27 := n1_; have HO172 := n2_; have HB := n3_; clear n0_ n1_ n2_ n3_; clear hb ho40; obtain ⟨Ao41, co41, eo41⟩ := Kd.R_slice HO172.out; subst eo41) | ((with_reducible refine gate_callee (f := 15) rfl ?_); refine goesL_ (some 67) rfl rfl Try.func15 (by kernel_rfl) rfl #[.int .i64 2, .slice Ao41 y170.length co41, .int .i64 7] rfl (by (try simp only [List.map_toArray, List.map_cons, List.map_nil]); first | done | rfl | (simp only [List.length_drop, List.length_take]; rfl)) ?_; (with_reducible refine (impl_ClassOf.calls k2 2 _ _ y170 7 t173 t174 _ ?side1 ?side2 A25.out).mono ?_); (case side1 => repeat (first | exact (Kd.R_reads' HO172.out).2.2 | (with_reducible refine Kd.C_alloc ?_ _) | (with_reducible refine Kd.C_drewN ?_ _) | (with_reducible refine Kd.C_drew ?_))); (case side2 => exact (Kd.R_reads' HO172.out).2.1); rintro e w42 ⟨rfl, hb⟩; refine ⟨_, rfl, ?_⟩; have n0_ := Aside0.mk (Kd.R_below (by (with_reducible repeat (first | apply Kd.R_alloc | apply Kd.R_drewN | apply Kd.R_drew)); exact HO_9.out) hb); have n1_ := Aside0.mk (Kd.R_below (by (with_reducible repeat (first | apply Kd.R_alloc | apply Kd.R_drewN | apply Kd.R_drew)); exact HO_27.out) hb); have n2_ := Aside0.mk (Kd.R_below (by (with_reducible repeat (first | apply Kd.R_alloc | apply Kd.R_drewN | apply Kd.R_drew)); exact HO172.out) hb); have n3_ := Aside0.mk (below_step (by repeat (first | (with_reducible first | exact HB.out | apply below_alloc | apply pw_below_drewN | apply below_drew1) | exact HB.out)) hb); clear HO_9; clear HO_27; clear HO172; clear HB; have HO_9 := n0_; have HO_27 := n1_; have HO172 := n2_; have HB := n3_; clear n0_ n1_ n2_ n3_; (try clear hb); (try clear hb2); (try clear hk); (try clear hi)))
           go_ret
           exact ⟨by first | rfl | (simp [errW_none, errW_some] <;> rfl) | (simp [*, errW_none, errW_some] <;> rfl), by repeat (first | (with_reducible first | exact HB.out | apply below_alloc | apply pw_below_drewN | apply below_drew1) | exact HB.out)⟩
         ·replace c27 := Bool.eq_false_iff.mpr c27
          subst c27
          have H1 : (if t169 = 0 then (if t173 = 3 then (some t174) else (some false)) else (some false)) = some r := by rw [if_neg (show ¬ (false = true) by decide)] at H; exact H
          clear H
          have H := H1
          clear H1
          by_cases c43 : t169 = 0
          ·rw [if_pos c43] at H
           have c43b0 : (t169 == 0) = true := beq_iff_eq.mpr c43
           have c43b1 : (t169 != 0) = false := bne_eq_false_iff_eq.mpr c43
           clear c43
           by_cases c44 : t173 = 3
           ·rw [if_pos c44] at H
            have c44b0 : (t173 == 3) = true := beq_iff_eq.mpr c44
            have c44b1 : (t173 != 3) = false := bne_eq_false_iff_eq.mpr c44
            clear c44
            obtain rfl := Option.some.inj H
            obtain ⟨Ao45, co45, eo45⟩ := Kd.R_slice HO_9.out
            subst eo45
            go_wp2_with (first | ((with_reducible refine gate_callee (f := 15) rfl ?_); refine goesL_ (some 57) rfl rfl Try.func15 (by kernel_rfl) rfl #[.int .i64 2, .slice Ao45 x9_2.length co45, .int .i64 (wrap64 (a3))] rfl (by (try simp only [List.map_toArray, List.map_cons, List.map_nil]); first | done | rfl | (simp only [List.length_drop, List.length_take]; rfl)) ?_; (with_reducible refine (impl_ClassOf.calls k2 2 _ _ x9_2 (wrap64 (a3)) t167 false _ ?side1 ?side2 A23.out).mono ?_); (case side1 => repeat (first | exact (Kd.R_reads' HO_9.out).2.2 | (with_reducible refine Kd.C_alloc ?_ _) | (with_reducible refine Kd.C_drewN ?_ _) | (with_reducible refine Kd.C_drew ?_))); (case side2 => exact (Kd.R_reads' HO_9.out).2.1); rintro e w46 ⟨rfl, hb⟩; refine ⟨_, rfl, ?_⟩; have n0_ := Aside0.mk (Kd.R_below (by (with_reducible repeat (first | apply Kd.R_alloc | apply Kd.R_drewN | apply Kd.R_drew)); exact HO_9.out) hb); have n1_ := Aside0.mk (Kd.R_below (by (with_reducible repeat (first | apply Kd.R_alloc | apply Kd.R_drewN | apply Kd.R_drew)); exact HO_27.out) hb); have n2_ := Aside0.mk (below_step (by repeat (first | (with_reducible first | exact HB.out | apply below_alloc | apply pw_below_drewN | apply below_drew1) | exact HB.out)) hb); clear HO_9; clear HO_27; clear HB; have HO_9 := n0_; have HO_27 := n1_; have HB := n2_; clear n0_ n1_ n2_; (try clear hb); (try clear hb2); (try clear hk); (try clear hi)) | ((with_reducible refine gate_callee (f := 16) rfl ?_); refine goesL_ (some 63) rfl rfl Try.func16 (by kernel_rfl) rfl #[.slice Ao45 x9_2.length co45, .int .i64 (wrap64 (a3))] rfl (by (try simp only [List.map_toArray, List.map_cons, List.map_nil]); first | done | rfl | (simp only [List.length_drop, List.length_take]; rfl)) ?_; (with_reducible refine (spec_ClassRef.calls k2 _ _ x9_2 (wrap64 (a3)) t169 _ ?side1 ?side2 A24.out).mono ?_); (case side1 => repeat (first | exact (Kd.R_reads' HO_9.out).2.2 | (with_reducible refine Kd.C_alloc ?_ _) | (with_reducible refine Kd.C_drewN ?_ _) | (with_reducible refine Kd.C_drew ?_))); (case side2 => exact (Kd.R_reads' HO_9.out).2.1); rintro e w47 ⟨rfl, hb⟩; refine ⟨_, rfl, ?_⟩; have n0_ := Aside0.mk (Kd.R_below (by (with_reducible repeat (first | apply Kd.R_alloc | apply Kd.R_drewN | apply Kd.R_drew)); exact HO_9.out) hb); have n1_ := Aside0.mk (Kd.R_below (by (with_reducible repeat (first | apply Kd.R_alloc | apply Kd.R_drewN | apply Kd.R_drew)); exact HO_27.out) hb); have n2_ := Aside0.mk (below_step (by repeat (first | (with_reducible first | exact HB.out | apply below_alloc | apply pw_below_drewN | apply below_drew1) | exact HB.out)) hb); clear HO_9; clear HO_27; clear HB; have HO_9 := n0_; have HO_27 := n1_; have HB := n2_; clear n0_ n1_ n2_; (try clear hb); (try clear hb2); (try clear hk); (try clear hi)) | ((with_reducible refine gate_dst (N := 66) rfl ?_); (try (refine gate_guard (by rfl) ?_; dsimp only)); refine Kd.R_lit k27 _ 27 ?hg (N := 66) ?hd (xs := ([(⟨7, 3⟩ : S27)] : List (S27))) (inner := [.int .i64 7, .int .i64 3]) (ok := fun _ => True) (okp := fun _ => True) ?hr ?hp (fun _ hk => hk) trivial (Below.refl _ _) (Nat.le_refl _) (by simp) ?_; (case hd => rfl); (case hg => rfl); (case hr => first | (go_simp; done) | (go_simp; rfl)); (case hp => exact (Reps.c2 (show Kd.M k27 _ _ _ (⟨7, 3⟩ : S27) [.int .i64 7, .int .i64 3] from (k27_mkM _ _ _ (⟨7, 3⟩ : S27) )) (Reps.none _ _))); intro v171 w48 ho49 hb hg_ hnew_; clear hg_ hnew_; (first | rw [← Ny170.out] at ho49 | (simp only [Int.reduceToNat] at ho49; rw [← Ny170.out] at ho49)); have n0_ := Aside0.mk (Kd.R_elder' (by (with_reducible repeat (first | apply Kd.R_alloc | apply Kd.R_drewN | apply Kd.R_drew)); exact HO_9.out) (Kd.R_base ho49) hb); have n1_ := Aside0.mk (Kd.R_below (by (with_reducible repeat (first | apply Kd.R_alloc | apply Kd.R_drewN | apply Kd.R_drew)); exact HO_27.out) hb); have n2_ := Aside0.mk (Kd.R_lower (Kd.R_new' ho49 (Kd.R_lt (by (with_reducible repeat (first | apply Kd.R_alloc | apply Kd.R_drewN | apply Kd.R_drew)); exact HO_9.out))) (below_size (by repeat (first | (with_reducible first | exact HB.out | apply below_alloc | apply pw_below_drewN | apply below_drew1) | exact HB.out)))); have n3_ := Aside0.mk (below_step (by repeat (first | (with_reducible first | exact HB.out | apply below_alloc | apply pw_below_drewN | apply below_drew1) | exact HB.out)) hb); clear HO_9; clear HO_27; clear HB; have HO_9 := n0_; have HO_27 := n1_; have HO172 := n2_; have HB := n3_; clear n0_ n1_ n2_ n3_; clear hb ho49; obtain ⟨Ao50, co50, eo50⟩ := Kd.R_slice HO172.out; subst eo50) | ((with_reducible refine gate_callee (f := 15) rfl ?_); refine goesL_ (some 67) rfl rfl Try.func15 (by kernel_rfl) rfl #[.int .i64 2, .slice Ao50 y170.length co50, .int .i64 7] rfl (by (try simp only [List.map_toArray, List.map_cons, List.map_nil]); first | done | rfl | (simp only [List.length_drop, List.length_take]; rfl)) ?_; (with_reducible refine (impl_ClassOf.calls k2 2 _ _ y170 7 t173 t174 _ ?side1 ?side2 A25.out).mono ?_); (case side1 => repeat (first | exact (Kd.R_reads' HO172.out).2.2 | (with_reducible refine Kd.C_alloc ?_ _) | (with_reducible refine Kd.C_drewN ?_ _) | (with_reducible refine Kd.C_drew ?_))); (case side2 => exact (Kd.R_reads' HO172.out).2.1); rintro e w51 ⟨rfl, hb⟩; refine ⟨_, rfl, ?_⟩; have n0_ := Aside0.mk (Kd.R_below (by (with_reducible repeat (first | apply Kd.R_alloc | apply Kd.R_drewN | apply Kd.R_drew)); exact HO_9.out) hb); have n1_ := Aside0.mk (Kd.R_below (by (with_reducible repeat (first | apply Kd.R_alloc | apply Kd.R_drewN | apply Kd.R_drew)); exact HO_27.out) hb); have n2_ := Aside0.mk (Kd.R_below (by (with_reducible repeat (first | apply Kd.R_alloc | apply Kd.R_drewN | apply Kd.R_drew)); exact HO172.out) hb); have n3_ := Aside0.mk (below_step (by repeat (first | (with_reducible first | exact HB.out | apply below_alloc | apply pw_below_drewN | apply below_drew1) | exact HB.out)) hb); clear HO_9; clear HO_27; clear HO172; clear HB; have HO_9 := n0_; have HO_27 := n1_; have HO172 := n2_; have HB := n3_; clear n0_ n1_ n2_ n3_; (try clear hb); (try clear hb2); (try clear hk); (try clear hi)))
            go_ret
            exact ⟨by first | rfl | (simp [errW_none, errW_some] <;> rfl) | (simp [*, errW_none, errW_some] <;> rfl), by repeat (first | (with_reducible first | exact HB.out | apply below_alloc | apply pw_below_drewN | apply below_drew1) | exact HB.out)⟩
           ·rw [if_neg c44] at H
            have c44b0 : (t173 == 3) = false := beq_eq_false_iff_ne.mpr c44
            have c44b1 : (t173 != 3) = true := bne_iff_ne.mpr c44
            obtain rfl := Option.some.inj H
            obtain ⟨Ao52, co52, eo52⟩ := Kd.R_slice HO_9.out
            subst eo52
            go_wp2_with (first | ((with_reducible refine gate_callee (f := 15) rfl ?_); refine goesL_ (some 57) rfl rfl Try.func15 (by kernel_rfl) rfl #[.int .i64 2, .slice Ao52 x9_2.length co52, .int .i64 (wrap64 (a3))] rfl (by (try simp only [List.map_toArray, List.map_cons, List.map_nil]); first | done | rfl | (simp only [List.length_drop, List.length_take]; rfl)) ?_; (with_reducible refine (impl_ClassOf.calls k2 2 _ _ x9_2 (wrap64 (a3)) t167 false _ ?side1 ?side2 A23.out).mono ?_); (case side1 => repeat (first | exact (Kd.R_reads' HO_9.out).2.2 | (with_reducible refine Kd.C_alloc ?_ _) | (with_reducible refine Kd.C_drewN ?_ _) | (with_reducible refine Kd.C_drew ?_))); (case side2 => exact (Kd.R_reads' HO_9.out).2.1); rintro e w53 ⟨rfl, hb⟩; refine ⟨_, rfl, ?_⟩; have n0_ := Aside0.mk (Kd.R_below (by (with_reducible repeat (first | apply Kd.R_alloc | apply Kd.R_drewN | apply Kd.R_drew)); exact HO_9.out) hb); have n1_ := Aside0.mk (Kd.R_below (by (with_reducible repeat (first | apply Kd.R_alloc | apply Kd.R_drewN | apply Kd.R_drew)); exact HO_27.out) hb); have n2_ := Aside0.mk (below_step (by repeat (first | (with_reducible first | exact HB.out | apply below_alloc | apply pw_below_drewN | apply below_drew1) | exact HB.out)) hb); clear HO_9; clear HO_27; clear HB; have HO_9 := n0_; have HO_27 := n1_; have HB := n2_; clear n0_ n1_ n2_; (try clear hb); (try clear hb2); (try clear hk); (try clear hi)) | ((with_reducible refine gate_callee (f := 16) rfl ?_); refine goesL_ (some 63) rfl rfl Try.func16 (by kernel_rfl) rfl #[.slice Ao52 x9_2.length co52, .int .i64 (wrap64 (a3))] rfl (by (try simp only [List.map_toArray, List.map_cons, List.map_nil]); first | done | rfl | (simp only [List.length_drop, List.length_take]; rfl)) ?_; (with_reducible refine (spec_ClassRef.calls k2 _ _ x9_2 (wrap64 (a3)) t169 _ ?side1 ?side2 A24.out).mono ?_); (case side1 => repeat (first | exact (Kd.R_reads' HO_9.out).2.2 | (with_reducible refine Kd.C_alloc ?_ _) | (with_reducible refine Kd.C_drewN ?_ _) | (with_reducible refine Kd.C_drew ?_))); (case side2 => exact (Kd.R_reads' HO_9.out).2.1); rintro e w54 ⟨rfl, hb⟩; refine ⟨_, rfl, ?_⟩; have n0_ := Aside0.mk (Kd.R_below (by (with_reducible repeat (first | apply Kd.R_alloc | apply Kd.R_drewN | apply Kd.R_drew)); exact HO_9.out) hb); have n1_ := Aside0.mk (Kd.R_below (by (with_reducible repeat (first | apply Kd.R_alloc | apply Kd.R_drewN | apply Kd.R_drew)); exact HO_27.out) hb); have n2_ := Aside0.mk (below_step (by repeat (first | (with_reducible first | exact HB.out | apply below_alloc | apply pw_below_drewN | apply below_drew1) | exact HB.out)) hb); clear HO_9; clear HO_27; clear HB; have HO_9 := n0_; have HO_27 := n1_; have HB := n2_; clear n0_ n1_ n2_; (try clear hb); (try clear hb2); (try clear hk); (try clear hi)) | ((with_reducible refine gate_dst (N := 66) rfl ?_); (try (refine gate_guard (by rfl) ?_; dsimp only)); refine Kd.R_lit k27 _ 27 ?hg (N := 66) ?hd (xs := ([(⟨7, 3⟩ : S27)] : List (S27))) (inner := [.int .i64 7, .int .i64 3]) (ok := fun _ => True) (okp := fun _ => True) ?hr ?hp (fun _ hk => hk) trivial (Below.refl _ _) (Nat.le_refl _) (by simp) ?_; (case hd => rfl); (case hg => rfl); (case hr => first | (go_simp; done) | (go_simp; rfl)); (case hp => exact (Reps.c2 (show Kd.M k27 _ _ _ (⟨7, 3⟩ : S27) [.int .i64 7, .int .i64 3] from (k27_mkM _ _ _ (⟨7, 3⟩ : S27) )) (Reps.none _ _))); intro v171 w55 ho56 hb hg_ hnew_; clear hg_ hnew_; (first | rw [← Ny170.out] at ho56 | (simp only [Int.reduceToNat] at ho56; rw [← Ny170.out] at ho56)); have n0_ := Aside0.mk (Kd.R_elder' (by (with_reducible repeat (first | apply Kd.R_alloc | apply Kd.R_drewN | apply Kd.R_drew)); exact HO_9.out) (Kd.R_base ho56) hb); have n1_ := Aside0.mk (Kd.R_below (by (with_reducible repeat (first | apply Kd.R_alloc | apply Kd.R_drewN | apply Kd.R_drew)); exact HO_27.out) hb); have n2_ := Aside0.mk (Kd.R_lower (Kd.R_new' ho56 (Kd.R_lt (by (with_reducible repeat (first | apply Kd.R_alloc | apply Kd.R_drewN | apply Kd.R_drew)); exact HO_9.out))) (below_size (by repeat (first | (with_reducible first | exact HB.out | apply below_alloc | apply pw_below_drewN | apply below_drew1) | exact HB.out)))); have n3_ := Aside0.mk (below_step (by repeat (first | (with_reducible first | exact HB.out | apply below_alloc | apply pw_below_drewN | apply below_drew1) | exact HB.out)) hb); clear HO_9; clear HO_27; clear HB; have HO_9 := n0_; have HO_27 := n1_; have HO172 := n2_; have HB := n3_; clear n0_ n1_ n2_ n3_; clear hb ho56; obtain ⟨Ao57, co57, eo57⟩ := Kd.R_slice HO172.out; subst eo57) | ((with_reducible refine gate_callee (f := 15) rfl ?_); refine goesL_ (some 67) rfl rfl Try.func15 (by kernel_rfl) rfl #[.int .i64 2, .slice Ao57 y170.length co57, .int .i64 7] rfl (by (try simp only [List.map_toArray, List.map_cons, List.map_nil]); first | done | rfl | (simp only [List.length_drop, List.length_take]; rfl)) ?_; (with_reducible refine (impl_ClassOf.calls k2 2 _ _ y170 7 t173 t174 _ ?side1 ?side2 A25.out).mono ?_); (case side1 => repeat (first | exact (Kd.R_reads' HO172.out).2.2 | (with_reducible refine Kd.C_alloc ?_ _) | (with_reducible refine Kd.C_drewN ?_ _) | (with_reducible refine Kd.C_drew ?_))); (case side2 => exact (Kd.R_reads' HO172.out).2.1); rintro e w58 ⟨rfl, hb⟩; refine ⟨_, rfl, ?_⟩; have n0_ := Aside0.mk (Kd.R_below (by (with_reducible repeat (first | apply Kd.R_alloc | apply Kd.R_drewN | apply Kd.R_drew)); exact HO_9.out) hb); have n1_ := Aside0.mk (Kd.R_below (by (with_reducible repeat (first | apply Kd.R_alloc | apply Kd.R_drewN | apply Kd.R_drew)); exact HO_27.out) hb); have n2_ := Aside0.mk (Kd.R_below (by (with_reducible repeat (first | apply Kd.R_alloc | apply Kd.R_drewN | apply Kd.R_drew)); exact HO172.out) hb); have n3_ := Aside0.mk (below_step (by repeat (first | (with_reducible first | exact HB.out | apply below_alloc | apply pw_below_drewN | apply below_drew1) | exact HB.out)) hb); clear HO_9; clear HO_27; clear HO172; clear HB; have HO_9 := n0_; have HO_27 := n1_; have HO172 := n2_; have HB := n3_; clear n0_ n1_ n2_ n3_; (try clear hb); (try clear hb2); (try clear hk); (try clear hi)))
            go_ret
            exact ⟨by first | rfl | (simp [errW_none, errW_some] <;> rfl) | (simp [*, errW_none, errW_some] <;> rfl), by repeat (first | (with_reducible first | exact HB.out | apply below_alloc | apply pw_below_drewN | apply below_drew1) | exact HB.out)⟩
          ·rw [if_neg c43] at H
           have c43b0 : (t169 == 0) = false := beq_eq_false_iff_ne.mpr c43
           have c43b1 : (t169 != 0) = true := bne_iff_ne.mpr c43
           obtain rfl := Option.some.inj H
           obtain ⟨Ao59, co59, eo59⟩ := Kd.R_slice HO_9.out
           subst eo59
           go_wp2_with (first | ((with_reducible refine gate_callee (f := 15) rfl ?_); refine goesL_ (some 57) rfl rfl Try.func15 (by kernel_rfl) rfl #[.int .i64 2, .slice Ao59 x9_2.length co59, .int .i64 (wrap64 (a3))] rfl (by (try simp only [List.map_toArray, List.map_cons, List.map_nil]); first | done | rfl | (simp only [List.length_drop, List.length_take]; rfl)) ?_; (with_reducible refine (impl_ClassOf.calls k2 2 _ _ x9_2 (wrap64 (a3)) t167 false _ ?side1 ?side2 A23.out).mono ?_); (case side1 => repeat (first | exact (Kd.R_reads' HO_9.out).2.2 | (with_reducible refine Kd.C_alloc ?_ _) | (with_reducible refine Kd.C_drewN ?_ _) | (with_reducible refine Kd.C_drew ?_))); (case side2 => exact (Kd.R_reads' HO_9.out).2.1); rintro e w60 ⟨rfl, hb⟩; refine ⟨_, rfl, ?_⟩; have n0_ := Aside0.mk (Kd.R_below (by (with_reducible repeat (first | apply Kd.R_alloc | apply Kd.R_drewN | apply Kd.R_drew)); exact HO_9.out) hb); have n1_ := Aside0.mk (Kd.R_below (by (with_reducible repeat (first | apply Kd.R_alloc | apply Kd.R_drewN | apply Kd.R_drew)); exact HO_27.out) hb); have n2_ := Aside0.mk (below_step (by repeat (first | (with_reducible first | exact HB.out | apply below_alloc | apply pw_below_drewN | apply below_drew1) | exact HB.out)) hb); clear HO_9; clear HO_27; clear HB; have HO_9 := n0_; have HO_27 := n1_; have HB := n2_; clear n0_ n1_ n2_; (try clear hb); (try clear hb2); (try clear hk); (try clear hi)) | ((with_reducible refine gate_callee (f := 16) rfl ?_); refine goesL_ (some 63) rfl rfl Try.func16 (by kernel_rfl) rfl #[.slice Ao59 x9_2.length co59, .int .i64 (wrap64 (a3))] rfl (by (try simp only [List.map_toArray, List.map_cons, List.map_nil]); first | done | rfl | (simp only [List.length_drop, List.length_take]; rfl)) ?_; (with_reducible refine (spec_ClassRef.calls k2 _ _ x9_2 (wrap64 (a3)) t169 _ ?side1 ?side2 A24.out).mono ?_); (case side1 => repeat (first | exact (Kd.R_reads' HO_9.out).2.2 | (with_reducible refine Kd.C_alloc ?_ _) | (with_reducible refine Kd.C_drewN ?_ _) | (with_reducible refine Kd.C_drew ?_))); (case side2 => exact (Kd.R_reads' HO_9.out).2.1); rintro e w61 ⟨rfl, hb⟩; refine ⟨_, rfl, ?_⟩; have n0_ := Aside0.mk (Kd.R_below (by (with_reducible repeat (first | apply Kd.R_alloc | apply Kd.R_drewN | apply Kd.R_drew)); exact HO_9.out) hb); have n1_ := Aside0.mk (Kd.R_below (by (with_reducible repeat (first | apply Kd.R_alloc | apply Kd.R_drewN | apply Kd.R_drew)); exact HO_27.out) hb); have n2_ := Aside0.mk (below_step (by repeat (first | (with_reducible first | exact HB.out | apply below_alloc | apply pw_below_drewN | apply below_drew1) | exact HB.out)) hb); clear HO_9; clear HO_27; clear HB; have HO_9 := n0_; have HO_27 := n1_; have HB := n2_; clear n0_ n1_ n2_; (try clear hb); (try clear hb2); (try clear hk); (try clear hi)) | ((with_reducible refine gate_dst (N := 66) rfl ?_); (try (refine gate_guard (by rfl) ?_; dsimp only)); refine Kd.R_lit k27 _ 27 ?hg (N := 66) ?hd (xs := ([(⟨7, 3⟩ : S27)] : List (S27))) (inner := [.int .i64 7, .int .i64 3]) (ok := fun _ => True) (okp := fun _ => True) ?hr ?hp (fun _ hk => hk) trivial (Below.refl _ _) (Nat.le_refl _) (by simp) ?_; (case hd => rfl); (case hg => rfl); (case hr => first | (go_simp; done) | (go_simp; rfl)); (case hp => exact (Reps.c2 (show Kd.M k27 _ _ _ (⟨7, 3⟩ : S27) [.int .i64 7, .int .i64 3] from (k27_mkM _ _ _ (⟨7, 3⟩ : S27) )) (Reps.none _ _))); intro v171 w62 ho63 hb hg_ hnew_; clear hg_ hnew_; (first | rw [← Ny170.out] at ho63 | (simp only [Int.reduceToNat] at ho63; rw [← Ny170.out] at ho63)); have n0_ := Aside0.mk (Kd.R_elder' (by (with_reducible repeat (first | apply Kd.R_alloc | apply Kd.R_drewN | apply Kd.R_drew)); exact HO_9.out) (Kd.R_base ho63) hb); have n1_ := Aside0.mk (Kd.R_below (by (with_reducible repeat (first | apply Kd.R_alloc | apply Kd.R_drewN | apply Kd.R_drew)); exact HO_27.out) hb); have n2_ := Aside0.mk (Kd.R_lower (Kd.R_new' ho63 (Kd.R_lt (by (with_reducible repeat (first | apply Kd.R_alloc | apply Kd.R_drewN | apply Kd.R_drew)); exact HO_9.out))) (below_size (by repeat (first | (with_reducible first | exact HB.out | apply below_alloc | apply pw_below_drewN | apply below_drew1) | exact HB.out)))); have n3_ := Aside0.mk (below_step (by repeat (first | (with_reducible first | exact HB.out | apply below_alloc | apply pw_below_drewN | apply below_drew1) | exact HB.out)) hb); clear HO_9; clear HO_27; clear HB; have HO_9 := n0_; have HO_27 := n1_; have HO172 := n2_; have HB := n3_; clear n0_ n1_ n2_ n3_; clear hb ho63; obtain ⟨Ao64, co64, eo64⟩ := Kd.R_slice HO172.out; subst eo64) | ((with_reducible refine gate_callee (f := 15) rfl ?_); refine goesL_ (some 67) rfl rfl Try.func15 (by kernel_rfl) rfl #[.int .i64 2, .slice Ao64 y170.length co64, .int .i64 7] rfl (by (try simp only [List.map_toArray, List.map_cons, List.map_nil]); first | done | rfl | (simp only [List.length_drop, List.length_take]; rfl)) ?_; (with_reducible refine (impl_ClassOf.calls k2 2 _ _ y170 7 t173 t174 _ ?side1 ?side2 A25.out).mono ?_); (case side1 => repeat (first | exact (Kd.R_reads' HO172.out).2.2 | (with_reducible refine Kd.C_alloc ?_ _) | (with_reducible refine Kd.C_drewN ?_ _) | (with_reducible refine Kd.C_drew ?_))); (case side2 => exact (Kd.R_reads' HO172.out).2.1); rintro e w65 ⟨rfl, hb⟩; refine ⟨_, rfl, ?_⟩; have n0_ := Aside0.mk (Kd.R_below (by (with_reducible repeat (first | apply Kd.R_alloc | apply Kd.R_drewN | apply Kd.R_drew)); exact HO_9.out) hb); have n1_ := Aside0.mk (Kd.R_below (by (with_reducible repeat (first | apply Kd.R_alloc | apply Kd.R_drewN | apply Kd.R_drew)); exact HO_27.out) hb); have n2_ := Aside0.mk (Kd.R_below (by (with_reducible repeat (first | apply Kd.R_alloc | apply Kd.R_drewN | apply Kd.R_drew)); exact HO172.out) hb); have n3_ := Aside0.mk (below_step (by repeat (first | (with_reducible first | exact HB.out | apply below_alloc | apply pw_below_drewN | apply below_drew1) | exact HB.out)) hb); clear HO_9; clear HO_27; clear HO172; clear HB; have HO_9 := n0_; have HO_27 := n1_; have HO172 := n2_; have HB := n3_; clear n0_ n1_ n2_ n3_; (try clear hb); (try clear hb2); (try clear hk); (try clear hi)))
           go_ret
           exact ⟨by first | rfl | (simp [errW_none, errW_some] <;> rfl) | (simp [*, errW_none, errW_some] <;> rfl), by repeat (first | (with_reducible first | exact HB.out | apply below_alloc | apply pw_below_drewN | apply below_drew1) | exact HB.out)⟩
        ·rw [if_neg c26] at H
         have c26b0 : (t167 == t169) = false := beq_eq_false_iff_ne.mpr c26
         have c26b1 : (t167 != t169) = true := bne_iff_ne.mpr c26
         obtain rfl := Option.some.inj H
         obtain ⟨Ao66, co66, eo66⟩ := Kd.R_slice HO_9.out
         subst eo66
         go_wp2_with (first | ((with_reducible refine gate_callee (f := 15) rfl ?_); refine goesL_ (some 57) rfl rfl Try.func15 (by kernel_rfl) rfl #[.int .i64 2, .slice Ao66 x9_2.length co66, .int .i64 (wrap64 (a3))] rfl (by (try simp only [List.map_toArray, List.map_cons, List.map_nil]); first | done | rfl | (simp only [List.length_drop, List.length_take]; rfl)) ?_; (with_reducible refine (impl_ClassOf.calls k2 2 _ _ x9_2 (wrap64 (a3)) t167 t168 _ ?side1 ?side2 A23.out).mono ?_); (case side1 => repeat (first | exact (Kd.R_reads' HO_9.out).2.2 | (with_reducible refine Kd.C_alloc ?_ _) | (with_reducible refine Kd.C_drewN ?_ _) | (with_reducible refine Kd.C_drew ?_))); (case side2 => exact (Kd.R_reads' HO_9.out).2.1); rintro e w67 ⟨rfl, hb⟩; refine ⟨_, rfl, ?_⟩; have n0_ := Aside0.mk (Kd.R_below (by (with_reducible repeat (first | apply Kd.R_alloc | apply Kd.R_drewN | apply Kd.R_drew)); exact HO_9.out) hb); have n1_ := Aside0.mk (Kd.R_below (by (with_reducible repeat (first | apply Kd.R_alloc | apply Kd.R_drewN | apply Kd.R_drew)); exact HO_27.out) hb); have n2_ := Aside0.mk (below_step (by repeat (first | (with_reducible first | exact HB.out | apply below_alloc | apply pw_below_drewN | apply below_drew1) | exact HB.out)) hb); clear HO_9; clear HO_27; clear HB; have HO_9 := n0_; have HO_27 := n1_; have HB := n2_; clear n0_ n1_ n2_; (try clear hb); (try clear hb2); (try clear hk); (try clear hi)) | ((with_reducible refine gate_callee (f := 16) rfl ?_); refine goesL_ (some 63) rfl rfl Try.func16 (by kernel_rfl) rfl #[.slice Ao66 x9_2.length co66, .int .i64 (wrap64 (a3))] rfl (by (try simp only [List.map_toArray, List.map_cons, List.map_nil]); first | done | rfl | (simp only [List.length_drop, List.length_take]; rfl)) ?_; (with_reducible refine (spec_ClassRef.calls k2 _ _ x9_2 (wrap64 (a3)) t169 _ ?side1 ?side2 A24.out).mono ?_); (case side1 => repeat (first | exact (Kd.R_reads' HO_9.out).2.2 | (with_reducible refine Kd.C_alloc ?_ _) | (with_reducible refine Kd.C_drewN ?_ _) | (with_reducible refine Kd.C_drew ?_))); (case side2 => exact (Kd.R_reads' HO_9.out).2.1); rintro e w68 ⟨rfl, hb⟩; refine ⟨_, rfl, ?_⟩; have n0_ := Aside0.mk (Kd.R_below (by (with_reducible repeat (first | apply Kd.R_alloc | apply Kd.R_drewN | apply Kd.R_drew)); exact HO_9.out) hb); have n1_ := Aside0.mk (Kd.R_below (by (with_reducible repeat (first | apply Kd.R_alloc | apply Kd.R_drewN | apply Kd.R_drew)); exact HO_27.out) hb); have n2_ := Aside0.mk (below_step (by repeat (first | (with_reducible first | exact HB.out | apply below_alloc | apply pw_below_drewN | apply below_drew1) | exact HB.out)) hb); clear HO_9; clear HO_27; clear HB; have HO_9 := n0_; have HO_27 := n1_; have HB := n2_; clear n0_ n1_ n2_; (try clear hb); (try clear hb2); (try clear hk); (try clear hi)) | ((with_reducible refine gate_dst (N := 66) rfl ?_); (try (refine gate_guard (by rfl) ?_; dsimp only)); refine Kd.R_lit k27 _ 27 ?hg (N := 66) ?hd (xs := ([(⟨7, 3⟩ : S27)] : List (S27))) (inner := [.int .i64 7, .int .i64 3]) (ok := fun _ => True) (okp := fun _ => True) ?hr ?hp (fun _ hk => hk) trivial (Below.refl _ _) (Nat.le_refl _) (by simp) ?_; (case hd => rfl); (case hg => rfl); (case hr => first | (go_simp; done) | (go_simp; rfl)); (case hp => exact (Reps.c2 (show Kd.M k27 _ _ _ (⟨7, 3⟩ : S27) [.int .i64 7, .int .i64 3] from (k27_mkM _ _ _ (⟨7, 3⟩ : S27) )) (Reps.none _ _))); intro v171 w69 ho70 hb hg_ hnew_; clear hg_ hnew_; (first | rw [← Ny170.out] at ho70 | (simp only [Int.reduceToNat] at ho70; rw [← Ny170.out] at ho70)); have n0_ := Aside0.mk (Kd.R_elder' (by (with_reducible repeat (first | apply Kd.R_alloc | apply Kd.R_drewN | apply Kd.R_drew)); exact HO_9.out) (Kd.R_base ho70) hb); have n1_ := Aside0.mk (Kd.R_below (by (with_reducible repeat (first | apply Kd.R_alloc | apply Kd.R_drewN | apply Kd.R_drew)); exact HO_27.out) hb); have n2_ := Aside0.mk (Kd.R_lower (Kd.R_new' ho70 (Kd.R_lt (by (with_reducible repeat (first | apply Kd.R_alloc | apply Kd.R_drewN | apply Kd.R_drew)); exact HO_9.out))) (below_size (by repeat (first | (with_reducible first | exact HB.out | apply below_alloc | apply pw_below_drewN | apply below_drew1) | exact HB.out)))); have n3_ := Aside0.mk (below_step (by repeat (first | (with_reducible first | exact HB.out | apply below_alloc | apply pw_below_drewN | apply below_drew1) | exact HB.out)) hb); clear HO_9; clear HO_27; clear HB; have HO_9 := n0_; have HO_27 := n1_; have HO172 := n2_; have HB := n3_; clear n0_ n1_ n2_ n3_; clear hb ho70; obtain ⟨Ao71, co71, eo71⟩ := Kd.R_slice HO172.out; subst eo71) | ((with_reducible refine gate_callee (f := 15) rfl ?_); refine goesL_ (some 67) rfl rfl Try.func15 (by kernel_rfl) rfl #[.int .i64 2, .slice Ao71 y170.length co71, .int .i64 7] rfl (by (try simp only [List.map_toArray, List.map_cons, List.map_nil]); first | done | rfl | (simp only [List.length_drop, List.length_take]; rfl)) ?_; (with_reducible refine (impl_ClassOf.calls k2 2 _ _ y170 7 t173 t174 _ ?side1 ?side2 A25.out).mono ?_); (case side1 => repeat (first | exact (Kd.R_reads' HO172.out).2.2 | (with_reducible refine Kd.C_alloc ?_ _) | (with_reducible refine Kd.C_drewN ?_ _) | (with_reducible refine Kd.C_drew ?_))); (case side2 => exact (Kd.R_reads' HO172.out).2.1); rintro e w72 ⟨rfl, hb⟩; refine ⟨_, rfl, ?_⟩; have n0_ := Aside0.mk (Kd.R_below (by (with_reducible repeat (first | apply Kd.R_alloc | apply Kd.R_drewN | apply Kd.R_drew)); exact HO_9.out) hb); have n1_ := Aside0.mk (Kd.R_below (by (with_reducible repeat (first | apply Kd.R_alloc | apply Kd.R_drewN | apply Kd.R_drew)); exact HO_27.out) hb); have n2_ := Aside0.mk (Kd.R_below (by (with_reducible repeat (first | apply Kd.R_alloc | apply Kd.R_drewN | apply Kd.R_drew)); exact HO172.out) hb); have n3_ := Aside0.mk (below_step (by repeat (first | (with_reducible first | exact HB.out | apply below_alloc | apply pw_below_drewN | apply below_drew1) | exact HB.out)) hb); clear HO_9; clear HO_27; clear HO172; clear HB; have HO_9 := n0_; have HO_27 := n1_; have HO172 := n2_; have HB := n3_; clear n0_ n1_ n2_ n3_; (try clear hb); (try clear hb2); (try clear hk); (try clear hi)))
         go_ret
         exact ⟨by first | rfl | (simp [errW_none, errW_some] <;> rfl) | (simp [*, errW_none, errW_some] <;> rfl), by repeat (first | (with_reducible first | exact HB.out | apply below_alloc | apply pw_below_drewN | apply below_drew1) | exact HB.out)⟩
       ·replace c22 := Bool.eq_false_iff.mpr c22
        subst c22
        have H1 : ((impl_ClassOf.f k2 1 x9_2 (wrap64 (a3))).bind fun bt175 => ((spec_ClassRef.f k2 x9_2 (wrap64 (a3))).bind fun t177 => ((impl_ClassOf.f k2 2 (([(⟨7, 3⟩ : S27)] : List (S27))) 7).bind fun bt181 => (if bt175.1 = t177 then (if bt175.2 = true then (if bt181.1 = 3 then (some bt181.2) else (some false)) else (if t177 = 0 then (if bt181.1 = 3 then (some bt181.2) else (some false)) else (some false))) else (some false))))) = some r := by rw [if_neg (show ¬ (false = true) by decide)] at H; exact H
        clear H
        have H := H1
        clear H1
        replace H := Option.bind_eq_some_iff.mp H
        obtain ⟨⟨t175, t176⟩, A730, H⟩ := H
        replace H : ((spec_ClassRef.f k2 x9_2 (wrap64 (a3))).bind fun t177 => ((impl_ClassOf.f k2 2 (([(⟨7, 3⟩ : S27)] : List (S27))) 7).bind fun bt181 => (if t175 = t177 then (if t176 = true then (if bt181.1 = 3 then (some bt181.2) else (some false)) else (if t177 = 0 then (if bt181.1 = 3 then (some bt181.2) else (some false)) else (some false))) else (some false)))) = some r := H
        have A73 := Aside0.mk A730
        clear A730
        replace H := Option.bind_eq_some_iff.mp H
        obtain ⟨t177, A740, H⟩ := H
        replace H : ((impl_ClassOf.f k2 2 (([(⟨7, 3⟩ : S27)] : List (S27))) 7).bind fun bt181 => (if t175 = t177 then (if t176 = true then (if bt181.1 = 3 then (some bt181.2) else (some false)) else (if t177 = 0 then (if bt181.1 = 3 then (some bt181.2) else (some false)) else (some false))) else (some false))) = some r := H
        have A74 := Aside0.mk A740
        clear A740
        obtain ⟨y178, hy178⟩ : ∃ y_ : List (S27), y_ = (([(⟨7, 3⟩ : S27)] : List (S27))) := ⟨_, rfl⟩
        replace H : ((impl_ClassOf.f k2 2 y178 7).bind fun bt181 => (if t175 = t177 then (if t176 = true then (if bt181.1 = 3 then (some bt181.2) else (some false)) else (if t177 = 0 then (if bt181.1 = 3 then (some bt181.2) else (some false)) else (some false))) else (some false))) = some r := by first | (rw [hy178]; with_reducible exact H) | (have H2_ := (Option.bind_some _ _).symm.trans H; rw [hy178]; with_reducible exact H2_) | (have H2_ := (Option.bind_some _ _).symm.trans H; with_reducible exact H2_) | with_reducible exact H | (rw [hy178]; exact H) | exact H
        have Ny178 := Aside0.mk hy178
        clear hy178
        replace H := Option.bind_eq_some_iff.mp H
        obtain ⟨⟨t181, t182⟩, A750, H⟩ := H
        replace H : (if t175 = t177 then (if t176 = true then (if t181 = 3 then (some t182) else (some false)) else (if t177 = 0 then (if t181 = 3 then (some t182) else (some false)) else (some false))) else (some false)) = some r := H
        have A75 := Aside0.mk A750
        clear A750
        by_cases c76 : t175 = t177
        ·rw [if_pos c76] at H
         have c76b0 : (t175 == t177) = true := beq_iff_eq.mpr c76
         have c76b1 : (t175 != t177) = false := bne_eq_false_iff_eq.mpr c76
         clear c76
         by_cases c77 : t176 = true
         ·subst c77
          have H1 : (if t181 = 3 then (some t182) else (some false)) = some r := by rw [if_pos rfl] at H; exact H
          clear H
          have H := H1
          clear H1
          by_cases c78 : t181 = 3
          ·rw [if_pos c78] at H
           have c78b0 : (t181 == 3) = true := beq_iff_eq.mpr c78
           have c78b1 : (t181 != 3) = false := bne_eq_false_iff_eq.mpr c78
           clear c78
           obtain rfl := Option.some.inj H
           obtain ⟨Ao79, co79, eo79⟩ := Kd.R_slice HO_9.out
           subst eo79
           go_wp2_with (first | ((with_reducible refine gate_callee (f := 15) rfl ?_); refine goesL_ (some 57) rfl rfl Try.func15 (by kernel_rfl) rfl #[.int .i64 1, .slice Ao79 x9_2.length co79, .int .i64 (wrap64 (a3))] rfl (by (try simp only [List.map_toArray, List.map_cons, List.map_nil]); first | done | rfl | (simp only [List.length_drop, List.length_take]; rfl)) ?_; (with_reducible refine (impl_ClassOf.calls k2 1 _ _ x9_2 (wrap64 (a3)) t175 true _ ?side1 ?side2 A73.out).mono ?_); (case side1 => repeat (first | exact (Kd.R_reads' HO_9.out).2.2 | (with_reducible refine Kd.C_alloc ?_ _) | (with_reducible refine Kd.C_drewN ?_ _) | (with_reducible refine Kd.C_drew ?_))); (case side2 => exact (Kd.R_reads' HO_9.out).2.1); rintro e w80 ⟨rfl, hb⟩; refine ⟨_, rfl, ?_⟩; have n0_ := Aside0.mk (Kd.R_below (by (with_reducible repeat (first | apply Kd.R_alloc | apply Kd.R_drewN | apply Kd.R_drew)); exact HO_9.out) hb); have n1_ := Aside0.mk (Kd.R_below (by (with_reducible repeat (first | apply Kd.R_alloc | apply Kd.R_drewN | apply Kd.R_drew)); exact HO_27.out) hb); have n2_ := Aside0.mk (below_step (by repeat (first | (with_reducible first | exact HB.out | apply below_alloc | apply pw_below_drewN | apply below_drew1) | exact HB.out)) hb); clear HO_9; clear HO_27; clear HB; have HO_9 := n0_; have HO_27 := n1_; have HB := n2_; clear n0_ n1_ n2_; (try clear hb); (try clear hb2); (try clear hk); (try clear hi)) | ((with_reducible refine gate_callee (f := 16) rfl ?_); refine goesL_ (some 63) rfl rfl Try.func16 (by kernel_rfl) rfl #[.slice Ao79 x9_2.length co79, .int .i64 (wrap64 (a3))] rfl (by (try simp only [List.map_toArray, List.map_cons, List.map_nil]); first | done | rfl | (simp only [List.length_drop, List.length_take]; rfl)) ?_; (with_reducible refine (spec_ClassRef.calls k2 _ _ x9_2 (wrap64 (a3)) t177 _ ?side1 ?side2 A74.out).mono ?_); (case side1 => repeat (first | exact (Kd.R_reads' HO_9.out).2.2 | (with_reducible refine Kd.C_alloc ?_ _) | (with_reducible refine Kd.C_drewN ?_ _) | (with_reducible refine Kd.C_drew ?_))); (case side2 => exact (Kd.R_reads' HO_9.out).2.1); rintro e w81 ⟨rfl, hb⟩; refine ⟨_, rfl, ?_⟩; have n0_ := Aside0.mk (Kd.R_below (by (with_reducible repeat (first | apply Kd.R_alloc | apply Kd.R_drewN | apply Kd.R_drew)); exact HO_9.out) hb); have n1_ := Aside0.mk (Kd.R_below (by (with_reducible repeat (first | apply Kd.R_alloc | apply Kd.R_drewN | apply Kd.R_drew)); exact HO_27.out) hb); have n2_ := Aside0.mk (below_step (by repeat (first | (with_reducible first | exact HB.out | apply below_alloc | apply pw_below_drewN | apply below_drew1) | exact HB.out)) hb); clear HO_9; clear HO_27; clear HB; have HO_9 := n0_; have HO_27 := n1_; have HB := n2_; clear n0_ n1_ n2_; (try clear hb); (try clear hb2); (try clear hk); (try clear hi)) | ((with_reducible refine gate_dst (N := 66) rfl ?_); (try (refine gate_guard (by rfl) ?_; dsimp only)); refine Kd.R_lit k27 _ 27 ?hg (N := 66) ?hd (xs := ([(⟨7, 3⟩ : S27)] : List (S27))) (inner := [.int .i64 7, .int .i64 3]) (ok := fun _ => True) (okp := fun _ => True) ?hr ?hp (fun _ hk => hk) trivial (Below.refl _ _) (Nat.le_refl _) (by simp) ?_; (case hd => rfl); (case hg => rfl); (case hr => first | (go_simp; done) | (go_simp; rfl)); (case hp => exact (Reps.c2 (show Kd.M k27 _ _ _ (⟨7, 3⟩ : S27) [.int .i64 7, .int .i64 3] from (k27_mkM _ _ _ (⟨7, 3⟩ : S27) )) (Reps.none _ _))); intro v179 w82 ho83 hb hg_ hnew_; clear hg_ hnew_; (first | rw [← Ny178.out] at ho83 | (simp only [Int.reduceToNat] at ho83; rw [← Ny178.out] at ho83)); have n0_ := Aside0.mk (Kd.R_elder' (by (with_reducible repeat (first | apply Kd.R_alloc | apply Kd.R_drewN | apply Kd.R_drew)); exact HO_9.out) (Kd.R_base ho83) hb); have n1_ := Aside0.mk (Kd.R_below (by (with_reducible repeat (first | apply Kd.R_alloc | apply Kd.R_drewN | apply Kd.R_drew)); exact HO_27.out) hb); have n2_ := Aside0.mk (Kd.R_lower (Kd.R_new' ho83 (Kd.R_lt (by (with_reducible repeat (first | apply Kd.R_alloc | apply Kd.R_drewN | apply Kd.R_drew)); exact HO_9.out))) (below_size (by repeat (first | (with_reducible first | exact HB.out | apply below_alloc | apply pw_below_drewN | apply below_drew1) | exact HB.out)))); have n3_ := Aside0.mk (below_step (by repeat (first | (with_reducible first | exact HB.out | apply below_alloc | apply pw_below_drewN | apply below_drew1) | exact HB.out)) hb); clear HO_9; clear HO_27; clear HB; have HO_9 := n0_; have HO_27 := n1_; have HO180 := n2_; have HB := n3_; clear n0_ n1_ n2_ n3_; clear hb ho83; obtain ⟨Ao84, co84, eo84⟩ := Kd.R_slice HO180.out; subst eo84) | ((with_reducible refine gate_callee (f := 15) rfl ?_); refine goesL_ (some 67) rfl rfl Try.func15 (by kernel_rfl) rfl #[.int .i64 2, .slice Ao84 y178.length co84, .int .i64 7] rfl (by (try simp only [List.map_toArray, List.map_cons, List.map_nil]); first | done | rfl | (simp only [List.length_drop, List.length_take]; rfl)) ?_; (with_reducible refine (impl_ClassOf.calls k2 2 _ _ y178 7 t181 t182 _ ?side1 ?side2 A75.out).mono ?_); (case side1 => repeat (first | exact (Kd.R_reads' HO180.out).2.2 | (with_reducible refine Kd.C_alloc ?_ _) | (with_reducible refine Kd.C_drewN ?_ _) | (with_reducible refine Kd.C_drew ?_))); (case side2 => exact (Kd.R_reads' HO180.out).2.1); rintro e w85 ⟨rfl, hb⟩; refine ⟨_, rfl, ?_⟩; have n0_ := Aside0.mk (Kd.R_below (by (with_reducible repeat (first | apply Kd.R_alloc | apply Kd.R_drewN | apply Kd.R_drew)); exact HO_9.out) hb); have n1_ := Aside0.mk (Kd.R_below (by (with_reducible repeat (first | apply Kd.R_alloc | apply Kd.R_drewN | apply Kd.R_drew)); exact HO_27.out) hb); have n2_ := Aside0.mk (Kd.R_below (by (with_reducible repeat (first | apply Kd.R_alloc | apply Kd.R_drewN | apply Kd.R_drew)); exact HO180.out) hb); have n3_ := Aside0.mk (below_step (by repeat (first | (with_reducible first | exact HB.out | apply below_alloc | apply pw_below_drewN | apply below_drew1) | exact HB.out)) hb); clear HO_9; clear HO_27; clear HO180; clear HB; have HO_9 := n0_; have HO_27 := n1_; have HO180 := n2_; have HB := n3_; clear n0_ n1_ n2_ n3_; (try clear hb); (try clear hb2); (try clear hk); (try clear hi)))
           go_ret
           exact ⟨by first | rfl | (simp [errW_none, errW_some] <;> rfl) | (simp [*, errW_none, errW_some] <;> rfl), by repeat (first | (with_reducible first | exact HB.out | apply below_alloc | apply pw_below_drewN | apply below_drew1) | exact HB.out)⟩
          ·rw [if_neg c78] at H
           have c78b0 : (t181 == 3) = false := beq_eq_false_iff_ne.mpr c78
           have c78b1 : (t181 != 3) = true := bne_iff_ne.mpr c78
           obtain rfl := Option.some.inj H
           obtain ⟨Ao86, co86, eo86⟩ := Kd.R_slice HO_9.out
           subst eo86
           go_wp2_with (first | ((with_reducible refine gate_callee (f := 15) rfl ?_); refine goesL_ (some 57) rfl rfl Try.func15 (by kernel_rfl) rfl #[.int .i64 1, .slice Ao86 x9_2.length co86, .int .i64 (wrap64 (a3))] rfl (by (try simp only [List.map_toArray, List.map_cons, List.map_nil]); first | done | rfl | (simp only [List.length_drop, List.length_take]; rfl)) ?_; (with_reducible refine (impl_ClassOf.calls k2 1 _ _ x9_2 (wrap64 (a3)) t175 true _ ?side1 ?side2 A73.out).mono ?_); (case side1 => repeat (first | exact (Kd.R_reads' HO_9.out).2.2 | (with_reducible refine Kd.C_alloc ?_ _) | (with_reducible refine Kd.C_drewN ?_ _) | (with_reducible refine Kd.C_drew ?_))); (case side2 => exact (Kd.R_reads' HO_9.out).2.1); rintro e w87 ⟨rfl, hb⟩; refine ⟨_, rfl, ?_⟩; have n0_ := Aside0.mk (Kd.R_below (by (with_reducible repeat (first | apply Kd.R_alloc | apply Kd.R_drewN | apply Kd.R_drew)); exact HO_9.out) hb); have n1_ := Aside0.mk (Kd.R_below (by (with_reducible repeat (first | apply Kd.R_alloc | apply Kd.R_drewN | apply Kd.R_drew)); exact HO_27.out) hb); have n2_ := Aside0.mk (below_step (by repeat (first | (with_reducible first | exact HB.out | apply below_alloc | apply pw_below_drewN | apply below_drew1) | exact HB.out)) hb); clear HO_9; clear HO_27; clear HB; have HO_9 := n0_; have HO_27 := n1_; have HB := n2_; clear n0_ n1_ n2_; (try clear hb); (try clear hb2); (try clear hk); (try clear hi)) | ((with_reducible refine gate_callee (f := 16) rfl ?_); refine goesL_ (some 63) rfl rfl Try.func16 (by kernel_rfl) rfl #[.slice Ao86 x9_2.length co86, .int .i64 (wrap64 (a3))] rfl (by (try simp only [List.map_toArray, List.map_cons, List.map_nil]); first | done | rfl | (simp only [List.length_drop, List.length_take]; rfl)) ?_; (with_reducible refine (spec_ClassRef.calls k2 _ _ x9_2 (wrap64 (a3)) t177 _ ?side1 ?side2 A74.out).mono ?_); (case side1 => repeat (first | exact (Kd.R_reads' HO_9.out).2.2 | (with_reducible refine Kd.C_alloc ?_ _) | (with_reducible refine Kd.C_drewN ?_ _) | (with_reducible refine Kd.C_drew ?_))); (case side2 => exact (Kd.R_reads' HO_9.out).2.1); rintro e w88 ⟨rfl, hb⟩; refine ⟨_, rfl, ?_⟩; have n0_ := Aside0.mk (Kd.R_below (by (with_reducible repeat (first | apply Kd.R_alloc | apply Kd.R_drewN | apply Kd.R_drew)); exact HO_9.out) hb); have n1_ := Aside0.mk (Kd.R_below (by (with_reducible repeat (first | apply Kd.R_alloc | apply Kd.R_drewN | apply Kd.R_drew)); exact HO_27.out) hb); have n2_ := Aside0.mk (below_step (by repeat (first | (with_reducible first | exact HB.out | apply below_alloc | apply pw_below_drewN | apply below_drew1) | exact HB.out)) hb); clear HO_9; clear HO_27; clear HB; have HO_9 := n0_; have HO_27 := n1_; have HB := n2_; clear n0_ n1_ n2_; (try clear hb); (try clear hb2); (try clear hk); (try clear hi)) | ((with_reducible refine gate_dst (N := 66) rfl ?_); (try (refine gate_guard (by rfl) ?_; dsimp only)); refine Kd.R_lit k27 _ 27 ?hg (N := 66) ?hd (xs := ([(⟨7, 3⟩ : S27)] : List (S27))) (inner := [.int .i64 7, .int .i64 3]) (ok := fun _ => True) (okp := fun _ => True) ?hr ?hp (fun _ hk => hk) trivial (Below.refl _ _) (Nat.le_refl _) (by simp) ?_; (case hd => rfl); (case hg => rfl); (case hr => first | (go_simp; done) | (go_simp; rfl)); (case hp => exact (Reps.c2 (show Kd.M k27 _ _ _ (⟨7, 3⟩ : S27) [.int .i64 7, .int .i64 3] from (k27_mkM _ _ _ (⟨7, 3⟩ : S27) )) (Reps.none _ _))); intro v179 w89 ho90 hb hg_ hnew_; clear hg_ hnew_; (first | rw [← Ny178.out] at ho90 | (simp only [Int.reduceToNat] at ho90; rw [← Ny178.out] at ho90)); have n0_ := Aside0.mk (Kd.R_elder' (by (with_reducible repeat (first | apply Kd.R_alloc | apply Kd.R_drewN | apply Kd.R_drew)); exact HO_9.out) (Kd.R_base ho90) hb); have n1_ := Aside0.mk (Kd.R_below (by (with_reducible repeat (first | apply Kd.R_alloc | apply Kd.R_drewN | apply Kd.R_drew)); exact HO_27.out) hb); have n2_ := Aside0.mk (Kd.R_lower (Kd.R_new' ho90 (Kd.R_lt (by (with_reducible repeat (first | apply Kd.R_alloc | apply Kd.R_drewN | apply Kd.R_drew)); exact HO_9.out))) (below_size (by repeat (first | (with_reducible first | exact HB.out | apply below_alloc | apply pw_below_drewN | apply below_drew1) | exact HB.out)))); have n3_ := Aside0.mk (below_step (by repeat (first | (with_reducible first | exact HB.out | apply below_alloc | apply pw_below_drewN | apply below_drew1) | exact HB.out)) hb); clear HO_9; clear HO_27; clear HB; have HO_9 := n0_; have HO_27 := n1_; have HO180 := n2_; have HB := n3_; clear n0_ n1_ n2_ n3_; clear hb ho90; obtain ⟨Ao91, co91, eo91⟩ := Kd.R_slice HO180.out; subst eo91) | ((with_reducible refine gate_callee (f := 15) rfl ?_); refine goesL_ (some 67) rfl rfl Try.func15 (by kernel_rfl) rfl #[.int .i64 2, .slice Ao91 y178.length co91, .int .i64 7] rfl (by (try simp only [List.map_toArray, List.map_cons, List.map_nil]); first | done | rfl | (simp only [List.length_drop, List.length_take]; rfl)) ?_; (with_reducible refine (impl_ClassOf.calls k2 2 _ _ y178 7 t181 t182 _ ?side1 ?side2 A75.out).mono ?_); (case side1 => repeat (first | exact (Kd.R_reads' HO180.out).2.2 | (with_reducible refine Kd.C_alloc ?_ _) | (with_reducible refine Kd.C_drewN ?_ _) | (with_reducible refine Kd.C_drew ?_))); (case side2 => exact (Kd.R_reads' HO180.out).2.1); rintro e w92 ⟨rfl, hb⟩; refine ⟨_, rfl, ?_⟩; have n0_ := Aside0.mk (Kd.R_below (by (with_reducible repeat (first | apply Kd.R_alloc | apply Kd.R_drewN | apply Kd.R_drew)); exact HO_9.out) hb); have n1_ := Aside0.mk (Kd.R_below (by (with_reducible repeat (first | apply Kd.R_alloc | apply Kd.R_drewN | apply Kd.R_drew)); exact HO_27.out) hb); have n2_ := Aside0.mk (Kd.R_below (by (with_reducible repeat (first | apply Kd.R_alloc | apply Kd.R_drewN | apply Kd.R_drew)); exact HO180.out) hb); have n3_ := Aside0.mk (below_step (by repeat (first | (with_reducible first | exact HB.out | apply below_alloc | apply pw_below_drewN | apply below_drew1) | exact HB.out)) hb); clear HO_9; clear HO_27; clear HO180; clear HB; have HO_9 := n0_; have HO_27 := n1_; have HO180 := n2_; have HB := n3_; clear n0_ n1_ n2_ n3_; (try clear hb); (try clear hb2); (try clear hk); (try clear hi)))
           go_ret
           exact ⟨by first | rfl | (simp [errW_none, errW_some] <;> rfl) | (simp [*, errW_none, errW_some] <;> rfl), by repeat (first | (with_reducible first | exact HB.out | apply below_alloc | apply pw_below_drewN | apply below_drew1) | exact HB.out)⟩
         ·replace c77 := Bool.eq_false_iff.mpr c77
          subst c77
          have H1 : (if t177 = 0 then (if t181 = 3 then (some t182) else (some false)) else (some false)) = some r := by rw [if_neg (show ¬ (false = true) by decide)] at H; exact H
          clear H
          have H := H1
          clear H1
          by_cases c93 : t177 = 0
          ·rw [if_pos c93] at H
           have c93b0 : (t177 == 0) = true := beq_iff_eq.mpr c93
           have c93b1 : (t177 != 0) = false := bne_eq_false_iff_eq.mpr c93
           clear c93
           by_cases c94 : t181 = 3
           ·rw [if_pos c94] at H
            have c94b0 : (t181 == 3) = true := beq_iff_eq.mpr c94
            have c94b1 : (t181 != 3) = false := bne_eq_false_iff_eq.mpr c94
            clear c94
            obtain rfl := Option.some.inj H
            obtain ⟨Ao95, co95, eo95⟩ := Kd.R_slice HO_9.out
            subst eo95
            go_wp2_with (first | ((with_reducible refine gate_callee (f := 15) rfl ?_); refine goesL_ (some 57) rfl rfl Try.func15 (by kernel_rfl) rfl #[.int .i64 1, .slice Ao95 x9_2.length co95, .int .i64 (wrap64 (a3))] rfl (by (try simp only [List.map_toArray, List.map_cons, List.map_nil]); first | done | rfl | (simp only [List.length_drop, List.length_take]; rfl)) ?_; (with_reducible refine (impl_ClassOf.calls k2 1 _ _ x9_2 (wrap64 (a3)) t175 false _ ?side1 ?side2 A73.out).mono ?_); (case side1 => repeat (first | exact (Kd.R_reads' HO_9.out).2.2 | (with_reducible refine Kd.C_alloc ?_ _) | (with_reducible refine Kd.C_drewN ?_ _) | (with_reducible refine Kd.C_drew ?_))); (case side2 => exact (Kd.R_reads' HO_9.out).2.1); rintro e w96 ⟨rfl, hb⟩; refine ⟨_, rfl, ?_⟩; have n0_ := Aside0.mk (Kd.R_below (by (with_reducible repeat (first | apply Kd.R_alloc | apply Kd.R_drewN | apply Kd.R_drew)); exact HO_9.out) hb); have n1_ := Aside0.mk (Kd.R_below (by (with_reducible repeat (first | apply Kd.R_alloc | apply Kd.R_drewN | apply Kd.R_drew)); exact HO_27.out) hb); have n2_ := Aside0.mk (below_step (by repeat (first | (with_reducible first | exact HB.out | apply below_alloc | apply pw_below_drewN | apply below_drew1) | exact HB.out)) hb); clear HO_9; clear HO_27; clear HB; have HO_9 := n0_; have HO_27 := n1_; have HB := n2_; clear n0_ n1_ n2_; (try clear hb); (try clear hb2); (try clear hk); (try clear hi)) | ((with_reducible refine gate_callee (f := 16) rfl ?_); refine goesL_ (some 63) rfl rfl Try.func16 (by kernel_rfl) rfl #[.slice Ao95 x9_2.length co95, .int .i64 (wrap64 (a3))] rfl (by (try simp only [List.map_toArray, List.map_cons, List.map_nil]); first | done | rfl | (simp only [List.length_drop, List.length_take]; rfl)) ?_; (with_reducible refine (spec_ClassRef.calls k2 _ _ x9_2 (wrap64 (a3)) t177 _ ?side1 ?side2 A74.out).mono ?_); (case side1 => repeat (first | exact (Kd.R_reads' HO_9.out).2.2 | (with_reducible refine Kd.C_alloc ?_ _) | (with_reducible refine Kd.C_drewN ?_ _) | (with_reducible refine Kd.C_drew ?_))); (case side2 => exact (Kd.R_reads' HO_9.out).2.1); rintro e w97 ⟨rfl, hb⟩; refine ⟨_, rfl, ?_⟩; have n0_ := Aside0.mk (Kd.R_below (by (with_reducible repeat (first | apply Kd.R_alloc | apply Kd.R_drewN | apply Kd.R_drew)); exact HO_9.out) hb); have n1_ := Aside0.mk (Kd.R_below (by (with_reducible repeat (first | apply Kd.R_alloc | apply Kd.R_drewN | apply Kd.R_drew)); exact HO_27.out) hb); have n2_ := Aside0.mk (below_step (by repeat (first | (with_reducible first | exact HB.out | apply below_alloc | apply pw_below_drewN | apply below_drew1) | exact HB.out)) hb); clear HO_9; clear HO_27; clear HB; have HO_9 := n0_; have HO_27 := n1_; have HB := n2_; clear n0_ n1_ n2_; (try clear hb); (try clear hb2); (try clear hk); (try clear hi)) | ((with_reducible refine gate_dst (N := 66) rfl ?_); (try (refine gate_guard (by rfl) ?_; dsimp only)); refine Kd.R_lit k27 _ 27 ?hg (N := 66) ?hd (xs := ([(⟨7, 3⟩ : S27)] : List (S27))) (inner := [.int .i64 7, .int .i64 3]) (ok := fun _ => True) (okp := fun _ => True) ?hr ?hp (fun _ hk => hk) trivial (Below.refl _ _) (Nat.le_refl _) (by simp) ?_; (case hd => rfl); (case hg => rfl); (case hr => first | (go_simp; done) | (go_simp; rfl)); (case hp => exact (Reps.c2 (show Kd.M k27 _ _ _ (⟨7, 3⟩ : S27) [.int .i64 7, .int .i64 3] from (k27_mkM _ _ _ (⟨7, 3⟩ : S27) )) (Reps.none _ _))); intro v179 w98 ho99 hb hg_ hnew_; clear hg_ hnew_; (first | rw [← Ny178.out] at ho99 | (simp only [Int.reduceToNat] at ho99; rw [← Ny178.out] at ho99)); have n0_ := Aside0.mk (Kd.R_elder' (by (with_reducible repeat (first | apply Kd.R_alloc | apply Kd.R_drewN | apply Kd.R_drew)); exact HO_9.out) (Kd.R_base ho99) hb); have n1_ := Aside0.mk (Kd.R_below (by (with_reducible repeat (first | apply Kd.R_alloc | apply Kd.R_drewN | apply Kd.R_drew)); exact HO_27.out) hb); have n2_ := Aside0.mk (Kd.R_lower (Kd.R_new' ho99 (Kd.R_lt (by (with_reducible repeat (first | apply Kd.R_alloc | apply Kd.R_drewN | apply Kd.R_drew)); exact HO_9.out))) (below_size (by repeat (first | (with_reducible first | exact HB.out | apply below_alloc | apply pw_below_drewN | apply below_drew1) | exact HB.out)))); have n3_ := Aside0.mk (below_step (by repeat (first | (with_reducible first | exact HB.out | apply below_alloc | apply pw_below_drewN | apply below_drew1) | exact HB.out)) hb); clear HO_9; clear HO_27; clear HB; have HO_9 := n0_; have HO_27 := n1_; have HO180 := n2_; have HB := n3_; clear n0_ n1_ n2_ n3_; clear hb ho99; obtain ⟨Ao100, co100, eo100⟩ := Kd.R_slice HO180.out; subst eo100) | ((with_reducible refine gate_callee (f := 15) rfl ?_); refine goesL_ (some 67) rfl rfl Try.func15 (by kernel_rfl) rfl #[.int .i64 2, .slice Ao100 y178.length co100, .int .i64 7] rfl (by (try simp only [List.map_toArray, List.map_cons, List.map_nil]); first | done | rfl | (simp only [List.length_drop, List.length_take]; rfl)) ?_; (with_reducible refine (impl_ClassOf.calls k2 2 _ _ y178 7 t181 t182 _ ?side1 ?side2 A75.out).mono ?_); (case side1 => repeat (first | exact (Kd.R_reads' HO180.out).2.2 | (with_reducible refine Kd.C_alloc ?_ _) | (with_reducible refine Kd.C_drewN ?_ _) | (with_reducible refine Kd.C_drew ?_))); (case side2 => exact (Kd.R_reads' HO180.out).2.1); rintro e w101 ⟨rfl, hb⟩; refine ⟨_, rfl, ?_⟩; have n0_ := Aside0.mk (Kd.R_below (by (with_reducible repeat (first | apply Kd.R_alloc | apply Kd.R_drewN | apply Kd.R_drew)); exact HO_9.out) hb); have n1_ := Aside0.mk (Kd.R_below (by (with_reducible repeat (first | apply Kd.R_alloc | apply Kd.R_drewN | apply Kd.R_drew)); exact HO_27.out) hb); have n2_ := Aside0.mk (Kd.R_below (by (with_reducible repeat (first | apply Kd.R_alloc | apply Kd.R_drewN | apply Kd.R_drew)); exact HO180.out) hb); have n3_ := Aside0.mk (below_step (by repeat (first | (with_reducible first | exact HB.out | apply below_alloc | apply pw_below_drewN | apply below_drew1) | exact HB.out)) hb); clear HO_9; clear HO_27; clear HO180; clear HB; have HO_9 := n0_; have HO_27 := n1_; have HO180 := n2_; have HB := n3_; clear n0_ n1_ n2_ n3_; (try clear hb); (try clear hb2); (try clear hk); (try clear hi)))
            go_ret
            exact ⟨by first | rfl | (simp [errW_none, errW_some] <;> rfl) | (simp [*, errW_none, errW_some] <;> rfl), by repeat (first | (with_reducible first | exact HB.out | apply below_alloc | apply pw_below_drewN | apply below_drew1) | exact HB.out)⟩
           ·rw [if_neg c94] at H
            have c94b0 : (t181 == 3) = false := beq_eq_false_iff_ne.mpr c94
            have c94b1 : (t181 != 3) = true := bne_iff_ne.mpr c94
            obtain rfl := Option.some.inj H
            obtain ⟨Ao102, co102, eo102⟩ := Kd.R_slice HO_9.out
            subst eo102
            go_wp2_with (first | ((with_reducible refine gate_callee (f := 15) rfl ?_); refine goesL_ (some 57) rfl rfl Try.func15 (by kernel_rfl) rfl #[.int .i64 1, .slice Ao102 x9_2.length co102, .int .i64 (wrap64 (a3))] rfl (by (try simp only [List.map_toArray, List.map_cons, List.map_nil]); first | done | rfl | (simp only [List.length_drop, List.length_take]; rfl)) ?_; (with_reducible refine (impl_ClassOf.calls k2 1 _ _ x9_2 (wrap64 (a3)) t175 false _ ?side1 ?side2 A73.out).mono ?_); (case side1 => repeat (first | exact (Kd.R_reads' HO_9.out).2.2 | (with_reducible refine Kd.C_alloc ?_ _) | (with_reducible refine Kd.C_drewN ?_ _) | (with_reducible refine Kd.C_drew ?_))); (case side2 => exact (Kd.R_reads' HO_9.out).2.1); rintro e w103 ⟨rfl, hb⟩; refine ⟨_, rfl, ?_⟩; have n0_ := Aside0.mk (Kd.R_below (by (with_reducible repeat (first | apply Kd.R_alloc | apply Kd.R_drewN | apply Kd.R_drew)); exact HO_9.out) hb); have n1_ := Aside0.mk (Kd.R_below (by (with_reducible repeat (first | apply Kd.R_alloc | apply Kd.R_drewN | apply Kd.R_drew)); exact HO_27.out) hb); have n2_ := Aside0.mk (below_step (by repeat (first | (with_reducible first | exact HB.out | apply below_alloc | apply pw_below_drewN | apply below_drew1) | exact HB.out)) hb); clear HO_9; clear HO_27; clear HB; have HO_9 := n0_; have HO_27 := n1_; have HB := n2_; clear n0_ n1_ n2_; (try clear hb); (try clear hb2); (try clear hk); (try clear hi)) | ((with_reducible refine gate_callee (f := 16) rfl ?_); refine goesL_ (some 63) rfl rfl Try.func16 (by kernel_rfl) rfl #[.slice Ao102 x9_2.length co102, .int .i64 (wrap64 (a3))] rfl (by (try simp only [List.map_toArray, List.map_cons, List.map_nil]); first | done | rfl | (simp only [List.length_drop, List.length_take]; rfl)) ?_; (with_reducible refine (spec_ClassRef.calls k2 _ _ x9_2 (wrap64 (a3)) t177 _ ?side1 ?side2 A74.out).mono ?_); (case side1 => repeat (first | exact (Kd.R_reads' HO_9.out).2.2 | (with_reducible refine Kd.C_alloc ?_ _) | (with_reducible refine Kd.C_drewN ?_ _) | (with_reducible refine Kd.C_drew ?_))); (case side2 => exact (Kd.R_reads' HO_9.out).2.1); rintro e w104 ⟨rfl, hb⟩; refine ⟨_, rfl, ?_⟩; have n0_ := Aside0.mk (Kd.R_below (by (with_reducible repeat (first | apply Kd.R_alloc | apply Kd.R_drewN | apply Kd.R_drew)); exact HO_9.out) hb); have n1_ := Aside0.mk (Kd.R_below (by (with_reducible repeat (first | apply Kd.R_alloc | apply Kd.R_drewN | apply Kd.R_drew)); exact HO_27.out) hb); have n2_ := Aside0.mk (below_step (by repeat (first | (with_reducible first | exact HB.out | apply below_alloc | apply pw_below_drewN | apply below_drew1) | exact HB.out)) hb); clear HO_9; clear HO_27; clear HB; have HO_9 := n0_; have HO_27 := n1_; have HB := n2_; clear n0_ n1_ n2_; (try clear hb); (try clear hb2); (try clear hk); (try clear hi)) | ((with_reducible refine gate_dst (N := 66) rfl ?_); (try (refine gate_guard (by rfl) ?_; dsimp only)); refine Kd.R_lit k27 _ 27 ?hg (N := 66) ?hd (xs := ([(⟨7, 3⟩ : S27)] : List (S27))) (inner := [.int .i64 7, .int .i64 3]) (ok := fun _ => True) (okp := fun _ => True) ?hr ?hp (fun _ hk => hk) trivial (Below.refl _ _) (Nat.le_refl _) (by simp) ?_; (case hd => rfl); (case hg => rfl); (case hr => first | (go_simp; done) | (go_simp; rfl)); (case hp => exact (Reps.c2 (show Kd.M k27 _ _ _ (⟨7, 3⟩ : S27) [.int .i64 7, .int .i64 3] from (k27_mkM _ _ _ (⟨7, 3⟩ : S27) )) (Reps.none _ _))); intro v179 w105 ho106 hb hg_ hnew_; clear hg_ hnew_; (first | rw [← Ny178.out] at ho106 | (simp only [Int.reduceToNat] at ho106; rw [← Ny178.out] at ho106)); have n0_ := Aside0.mk (Kd.R_elder' (by (with_reducible repeat (first | apply Kd.R_alloc | apply Kd.R_drewN | apply Kd.R_drew)); exact HO_9.out) (Kd.R_base ho106) hb); have n1_ := Aside0.mk (Kd.R_below (by (with_reducible repeat (first | apply Kd.R_alloc | apply Kd.R_drewN | apply Kd.R_drew)); exact HO_27.out) hb); have n2_ := Aside0.mk (Kd.R_lower (Kd.R_new' ho106 (Kd.R_lt (by (with_reducible repeat (first | apply Kd.R_alloc | apply Kd.R_drewN | apply Kd.R_drew)); exact HO_9.out))) (below_size (by repeat (first | (with_reducible first | exact HB.out | apply below_alloc | apply pw_below_drewN | apply below_drew1) | exact HB.out)))); have n3_ := Aside0.mk (below_step (by repeat (first | (with_reducible first | exact HB.out | apply below_alloc | apply pw_below_drewN | apply below_drew1) | exact HB.out)) hb); clear HO_9; clear HO_27; clear HB; have HO_9 := n0_; have HO_27 := n1_; have HO180 := n2_; have HB := n3_; clear n0_ n1_ n2_ n3_; clear hb ho106; obtain ⟨Ao107, co107, eo107⟩ := Kd.R_slice HO180.out; subst eo107) | ((with_reducible refine gate_callee (f := 15) rfl ?_); refine goesL_ (some 67) rfl rfl Try.func15 (by kernel_rfl) rfl #[.int .i64 2, .slice Ao107 y178.length co107, .int .i64 7] rfl (by (try simp only [List.map_toArray, List.map_cons, List.map_nil]); first | done | rfl | (simp only [List.length_drop, List.length_take]; rfl)) ?_; (with_reducible refine (impl_ClassOf.calls k2 2 _ _ y178 7 t181 t182 _ ?side1 ?side2 A75.out).mono ?_); (case side1 => repeat (first | exact (Kd.R_reads' HO180.out).2.2 | (with_reducible refine Kd.C_alloc ?_ _) | (with_reducible refine Kd.C_drewN ?_ _) | (with_reducible refine Kd.C_drew ?_))); (case side2 => exact (Kd.R_reads' HO180.out).2.1); rintro e w108 ⟨rfl, hb⟩; refine ⟨_, rfl, ?_⟩; have n0_ := Aside0.mk (Kd.R_below (by (with_reducible repeat (first | apply Kd.R_alloc | apply Kd.R_drewN | apply Kd.R_drew)); exact HO_9.out) hb); have n1_ := Aside0.mk (Kd.R_below (by (with_reducible repeat (first | apply Kd.R_alloc | apply Kd.R_drewN | apply Kd.R_drew)); exact HO_27.out) hb); have n2_ := Aside0.mk (Kd.R_below (by (with_reducible repeat (first | apply Kd.R_alloc | apply Kd.R_drewN | apply Kd.R_drew)); exact HO180.out) hb); have n3_ := Aside0.mk (below_step (by repeat (first | (with_reducible first | exact HB.out | apply below_alloc | apply pw_below_drewN | apply below_drew1) | exact HB.out)) hb); clear HO_9; clear HO_27; clear HO180; clear HB; have HO_9 := n0_; have HO_27 := n1_; have HO180 := n2_; have HB := n3_; clear n0_ n1_ n2_ n3_; (try clear hb); (try clear hb2); (try clear hk); (try clear hi)))
            go_ret
            exact ⟨by first | rfl | (simp [errW_none, errW_some] <;> rfl) | (simp [*, errW_none, errW_some] <;> rfl), by repeat (first | (with_reducible first | exact HB.out | apply below_alloc | apply pw_below_drewN | apply below_drew1) | exact HB.out)⟩
          ·rw [if_neg c93] at H
           have c93b0 : (t177 == 0) = false := beq_eq_false_iff_ne.mpr c93
           have c93b1 : (t177 != 0) = true := bne_iff_ne.mpr c93
           obtain rfl := Option.some.inj H
           obtain ⟨Ao109, co109, eo109⟩ := Kd.R_slice HO_9.out
           subst eo109
           go_wp2_with (first | ((with_reducible refine gate_callee (f := 15) rfl ?_); refine goesL_ (some 57) rfl rfl Try.func15 (by kernel_rfl) rfl #[.int .i64 1, .slice Ao109 x9_2.length co109, .int .i64 (wrap64 (a3))] rfl (by (try simp only [List.map_toArray, List.map_cons, List.map_nil]); first | done | rfl | (simp only [List.length_drop, List.length_take]; rfl)) ?_; (with_reducible refine (impl_ClassOf.calls k2 1 _ _ x9_2 (wrap64 (a3)) t175 false _ ?side1 ?side2 A73.out).mono ?_); (case side1 => repeat (first | exact (Kd.R_reads' HO_9.out).2.2 | (with_reducible refine Kd.C_alloc ?_ _) | (with_reducible refine Kd.C_drewN ?_ _) | (with_reducible refine Kd.C_drew ?_))); (case side2 => exact (Kd.R_reads' HO_9.out).2.1); rintro e w110 ⟨rfl, hb⟩; refine ⟨_, rfl, ?_⟩; have n0_ := Aside0.mk (Kd.R_below (by (with_reducible repeat (first | apply Kd.R_alloc | apply Kd.R_drewN | apply Kd.R_drew)); exact HO_9.out) hb); have n1_ := Aside0.mk (Kd.R_below (by (with_reducible repeat (first | apply Kd.R_alloc | apply Kd.R_drewN | apply Kd.R_drew)); exact HO_27.out) hb); have n2_ := Aside0.mk (below_step (by repeat (first | (with_reducible first | exact HB.out | apply below_alloc | apply pw_below_drewN | apply below_drew1) | exact HB.out)) hb); clear HO_9; clear HO_27; clear HB; have HO_9 := n0_; have HO_27 := n1_; have HB := n2_; clear n0_ n1_ n2_; (try clear hb); (try clear hb2); (try clear hk); (try clear hi)) | ((with_reducible refine gate_callee (f := 16) rfl ?_); refine goesL_ (some 63) rfl rfl Try.func16 (by kernel_rfl) rfl #[.slice Ao109 x9_2.length co109, .int .i64 (wrap64 (a3))] rfl (by (try simp only [List.map_toArray, List.map_cons, List.map_nil]); first | done | rfl | (simp only [List.length_drop, List.length_take]; rfl)) ?_; (with_reducible refine (spec_ClassRef.calls k2 _ _ x9_2 (wrap64 (a3)) t177 _ ?side1 ?side2 A74.out).mono ?_); (case side1 => repeat (first | exact (Kd.R_reads' HO_9.out).2.2 | (with_reducible refine Kd.C_alloc ?_ _) | (with_reducible refine Kd.C_drewN ?_ _) | (with_reducible refine Kd.C_drew ?_))); (case side2 => exact (Kd.R_reads' HO_9.out).2.1); rintro e w111 ⟨rfl, hb⟩; refine ⟨_, rfl, ?_⟩; have n0_ := Aside0.mk (Kd.R_below (by (with_reducible repeat (first | apply Kd.R_alloc | apply Kd.R_drewN | apply Kd.R_drew)); exact HO_9.out) hb); have n1_ := Aside0.mk (Kd.R_below (by (with_reducible repeat (first | apply Kd.R_alloc | apply Kd.R_drewN | apply Kd.R_drew)); exact HO_27.out) hb); have n2_ := Aside0.mk (below_step (by repeat (first | (with_reducible first | exact HB.out | apply below_alloc | apply pw_below_drewN | apply below_drew1) | exact HB.out)) hb); clear HO_9; clear HO_27; clear HB; have HO_9 := n0_; have HO_27 := n1_; have HB := n2_; clear n0_ n1_ n2_; (try clear hb); (try clear hb2); (try clear hk); (try clear hi)) | ((with_reducible refine gate_dst (N := 66) rfl ?_); (try (refine gate_guard (by rfl) ?_; dsimp only)); refine Kd.R_lit k27 _ 27 ?hg (N := 66) ?hd (xs := ([(⟨7, 3⟩ : S27)] : List (S27))) (inner := [.int .i64 7, .int .i64 3]) (ok := fun _ => True) (okp := fun _ => True) ?hr ?hp (fun _ hk => hk) trivial (Below.refl _ _) (Nat.le_refl _) (by simp) ?_; (case hd => rfl); (case hg => rfl); (case hr => first | (go_simp; done) | (go_simp; rfl)); (case hp => exact (Reps.c2 (show Kd.M k27 _ _ _ (⟨7, 3⟩ : S27) [.int .i64 7, .int .i64 3] from (k27_mkM _ _ _ (⟨7, 3⟩ : S27) )) (Reps.none _ _))); intro v179 w112 ho113 hb hg_ hnew_; clear hg_ hnew_; (first | rw [← Ny178.out] at ho113 | (simp only [Int.reduceToNat] at ho113; rw [← Ny178.out] at ho113)); have n0_ := Aside0.mk (Kd.R_elder' (by (with_reducible repeat (first | apply Kd.R_alloc | apply Kd.R_drewN | apply Kd.R_drew)); exact HO_9.out) (Kd.R_base ho113) hb); have n1_ := Aside0.mk (Kd.R_below (by (with_reducible repeat (first | apply Kd.R_alloc | apply Kd.R_drewN | apply Kd.R_drew)); exact HO_27.out) hb); have n2_ := Aside0.mk (Kd.R_lower (Kd.R_new' ho113 (Kd.R_lt (by (with_reducible repeat (first | apply Kd.R_alloc | apply Kd.R_drewN | apply Kd.R_drew)); exact HO_9.out))) (below_size (by repeat (first | (with_reducible first | exact HB.out | apply below_alloc | apply pw_below_drewN | apply below_drew1) | exact HB.out)))); have n3_ := Aside0.mk (below_step (by repeat (first | (with_reducible first | exact HB.out | apply below_alloc | apply pw_below_drewN | apply below_drew1) | exact HB.out)) hb); clear HO_9; clear HO_27; clear HB; have HO_9 := n0_; have HO_27 := n1_; have HO180 := n2_; have HB := n3_; clear n0_ n1_ n2_ n3_; clear hb ho113; obtain ⟨Ao114, co114, eo114⟩ := Kd.R_slice HO180.out; subst eo114) | ((with_reducible refine gate_callee (f := 15) rfl ?_); refine goesL_ (some 67) rfl rfl Try.func15 (by kernel_rfl) rfl #[.int .i64 2, .slice Ao114 y178.length co114, .int .i64 7] rfl (by (try simp only [List.map_toArray, List.map_cons, List.map_nil]); first | done | rfl | (simp only [List.length_drop, List.length_take]; rfl)) ?_; (with_reducible refine (impl_ClassOf.calls k2 2 _ _ y178 7 t181 t182 _ ?side1 ?side2 A75.out).mono ?_); (case side1 => repeat (first | exact (Kd.R_reads' HO180.out).2.2 | (with_reducible refine Kd.C_alloc ?_ _) | (with_reducible refine Kd.C_drewN ?_ _) | (with_reducible refine Kd.C_drew ?_))); (case side2 => exact (Kd.R_reads' HO180.out).2.1); rintro e w115 ⟨rfl, hb⟩; refine ⟨_, rfl, ?_⟩; have n0_ := Aside0.mk (Kd.R_below (by (with_reducible repeat (first | apply Kd.R_alloc | apply Kd.R_drewN | apply Kd.R_drew)); exact HO_9.out) hb); have n1_ := Aside0.mk (Kd.R_below (by (with_reducible repeat (first | apply Kd.R_alloc | apply Kd.R_drewN | apply Kd.R_drew)); exact HO_27.out) hb); have n2_ := Aside0.mk (Kd.R_below (by (with_reducible repeat (first | apply Kd.R_alloc | apply Kd.R_drewN | apply Kd.R_drew)); exact HO180.out) hb); have n3_ := Aside0.mk (below_step (by repeat (first | (with_reducible first | exact HB.out | apply below_alloc | apply pw_below_drewN | apply below_drew1) | exact HB.out)) hb); clear HO_9; clear HO_27; clear HO180; clear HB; have HO_9 := n0_; have HO_27 := n1_; have HO180 := n2_; have HB := n3_; clear n0_ n1_ n2_ n3_; (try clear hb); (try clear hb2); (try clear hk); (try clear hi)))
           go_ret
           exact ⟨by first | rfl | (simp [errW_none, errW_some] <;> rfl) | (simp [*, errW_none, errW_some] <;> rfl), by repeat (first | (with_reducible first | exact HB.out | apply below_alloc | apply pw_below_drewN | apply below_drew1) | exact HB.out)⟩
        ·rw [if_neg c76] at H
         have c76b0 : (t175 == t177) = false := beq_eq_false_iff_ne.mpr c76
         have c76b1 : (t175 != t177) = true := bne_iff_ne.mpr c76
         obtain rfl := Option.some.inj H
         obtain ⟨Ao116, co116, eo116⟩ := Kd.R_slice HO_9.out
         subst eo116
         go_wp2_with (first | ((with_reducible refine gate_callee (f := 15) rfl ?_); refine goesL_ (some 57) rfl rfl Try.func15 (by kernel_rfl) rfl #[.int .i64 1, .slice Ao116 x9_2.length co116, .int .i64 (wrap64 (a3))] rfl (by (try simp only [List.map_toArray, List.map_cons, List.map_nil]); first | done | rfl | (simp only [List.length_drop, List.length_take]; rfl)) ?_; (with_reducible refine (impl_ClassOf.calls k2 1 _ _ x9_2 (wrap64 (a3)) t175 t176 _ ?side1 ?side2 A73.out).mono ?_); (case side1 => repeat (first | exact (Kd.R_reads' HO_9.out).2.2 | (with_reducible refine Kd.C_alloc ?_ _) | (with_reducible refine Kd.C_drewN ?_ _) | (with_reducible refine Kd.C_drew ?_))); (case side2 => exact (Kd.R_reads' HO_9.out).2.1); rintro e w117 ⟨rfl, hb⟩; refine ⟨_, rfl, ?_⟩; have n0_ := Aside0.mk (Kd.R_below (by (with_reducible repeat (first | apply Kd.R_alloc | apply Kd.R_drewN | apply Kd.R_drew)); exact HO_9.out) hb); have n1_ := Aside0.mk (Kd.R_below (by (with_reducible repeat (first | apply Kd.R_alloc | apply Kd.R_drewN | apply Kd.R_drew)); exact HO_27.out) hb); have n2_ := Aside0.mk (below_step (by repeat (first | (with_reducible first | exact HB.out | apply below_alloc | apply pw_below_drewN | apply below_drew1) | exact HB.out)) hb); clear HO_9; clear HO_27; clear HB; have HO_9 := n0_; have HO_27 := n1_; have HB := n2_; clear n0_ n1_ n2_; (try clear hb); (try clear hb2); (try clear hk); (try clear hi)) | ((with_reducible refine gate_callee (f := 16) rfl ?_); refine goesL_ (some 63) rfl rfl Try.func16 (by kernel_rfl) rfl #[.slice Ao116 x9_2.length co116, .int .i64 (wrap64 (a3))] rfl (by (try simp only [List.map_toArray, List.map_cons, List.map_nil]); first | done | rfl | (simp only [List.length_drop, List.length_take]; rfl)) ?_; (with_reducible refine (spec_ClassRef.calls k2 _ _ x9_2 (wrap64 (a3)) t177 _ ?side1 ?side2 A74.out).mono ?_); (case side1 => repeat (first | exact (Kd.R_reads' HO_9.out).2.2 | (with_reducible refine Kd.C_alloc ?_ _) | (with_reducible refine Kd.C_drewN ?_ _) | (with_reducible refine Kd.C_drew ?_))); (case side2 => exact (Kd.R_reads' HO_9.out).2.1); rintro e w118 ⟨rfl, hb⟩; refine ⟨_, rfl, ?_⟩; have n0_ := Aside0.mk (Kd.R_below (by (with_reducible repeat (first | apply Kd.R_alloc | apply Kd.R_drewN | apply Kd.R_drew)); exact HO_9.out) hb); have n1_ := Aside0.mk (Kd.R_below (by (with_reducible repeat (first | apply Kd.R_alloc | apply Kd.R_drewN | apply Kd.R_drew)); exact HO_27.out) hb); have n2_ := Aside0.mk (below_step (by repeat (first | (with_reducible first | exact HB.out | apply below_alloc | apply pw_below_drewN | apply below_drew1) | exact HB.out)) hb); clear HO_9; clear HO_27; clear HB; have HO_9 := n0_; have HO_27 := n1_; have HB := n2_; clear n0_ n1_ n2_; (try clear hb); (try clear hb2); (try clear hk); (try clear hi)) | ((with_reducible refine gate_dst (N := 66) rfl ?_); (try (refine gate_guard (by rfl) ?_; dsimp only)); refine Kd.R_lit k27 _ 27 ?hg (N := 66) ?hd (xs := ([(⟨7, 3⟩ : S27)] : List (S27))) (inner := [.int .i64 7, .int .i64 3]) (ok := fun _ => True) (okp := fun _ => True) ?hr ?hp (fun _ hk => hk) trivial (Below.refl _ _) (Nat.le_refl _) (by simp) ?_; (case hd => rfl); (case hg => rfl); (case hr => first | (go_simp; done) | (go_simp; rfl)); (case hp => exact (Reps.c2 (show Kd.M k27 _ _ _ (⟨7, 3⟩ : S27) [.int .i64 7, .int .i64 3] from (k27_mkM _ _ _ (⟨7, 3⟩ : S27) )) (Reps.none _ _))); intro v179 w119 ho120 hb hg_ hnew_; clear hg_ hnew_; (first | rw [← Ny178.out] at ho120 | (simp only [Int.reduceToNat] at ho120; rw [← Ny178.out] at ho120)); have n0_ := Aside0.mk (Kd.R_elder' (by (with_reducible repeat (first | apply Kd.R_alloc | apply Kd.R_drewN | apply Kd.R_drew)); exact HO_9.out) (Kd.R_base ho120) hb); have n1_ := Aside0.mk (Kd.R_below (by (with_reducible repeat (first | apply Kd.R_alloc | apply Kd.R_drewN | apply Kd.R_drew)); exact HO_27.out) hb); have n2_ := Aside0.mk (Kd.R_lower (Kd.R_new' ho120 (Kd.R_lt (by (with_reducible repeat (first | apply Kd.R_alloc | apply Kd.R_drewN | apply Kd.R_drew)); exact HO_9.out))) (below_size (by repeat (first | (with_reducible first | exact HB.out | apply below_alloc | apply pw_below_drewN | apply below_drew1) | exact HB.out)))); have n3_ := Aside0.mk (below_step (by repeat (first | (with_reducible first | exact HB.out | apply below_alloc | apply pw_below_drewN | apply below_drew1) | exact HB.out)) hb); clear HO_9; clear HO_27; clear HB; have HO_9 := n0_; have HO_27 := n1_; have HO180 := n2_; have HB := n3_; clear n0_ n1_ n2_ n3_; clear hb ho120; obtain ⟨Ao121, co121, eo121⟩ := Kd.R_slice HO180.out; subst eo121) | ((with_reducible refine gate_callee (f := 15) rfl ?_); refine goesL_ (some 67) rfl rfl Try.func15 (by kernel_rfl) rfl #[.int .i64 2, .slice Ao121 y178.length co121, .int .i64 7] rfl (by (try simp only [List.map_toArray, List.map_cons, List.map_nil]); first | done | rfl | (simp only [List.length_drop, List.length_take]; rfl)) ?_; (with_reducible refine (impl_ClassOf.calls k2 2 _ _ y178 7 t181 t182 _ ?side1 ?side2 A75.out).mono ?_); (case side1 => repeat (first | exact (Kd.R_reads' HO180.out).2.2 | (with_reducible refine Kd.C_alloc ?_ _) | (with_reducible refine Kd.C_drewN ?_ _) | (with_reducible refine Kd.C_drew ?_))); (case side2 => exact (Kd.R_reads' HO180.out).2.1); rintro e w122 ⟨rfl, hb⟩; refine ⟨_, rfl, ?_⟩; have n0_ := Aside0.mk (Kd.R_below (by (with_reducible repeat (first | apply Kd.R_alloc | apply Kd.R_drewN | apply Kd.R_drew)); exact HO_9.out) hb); have n1_ := Aside0.mk (Kd.R_below (by (with_reducible repeat (first | apply Kd.R_alloc | apply Kd.R_drewN | apply Kd.R_drew)); exact HO_27.out) hb); have n2_ := Aside0.mk (Kd.R_below (by (with_reducible repeat (first | apply Kd.R_alloc | apply Kd.R_drewN | apply Kd.R_drew)); exact HO180.out) hb); have n3_ := Aside0.mk (below_step (by repeat (first | (with_reducible first | exact HB.out | apply below_alloc | apply pw_below_drewN | apply below_drew1) | exact HB.out)) hb); clear HO_9; clear HO_27; clear HO180; clear HB; have HO_9 := n0_; have HO_27 := n1_; have HO180 := n2_; have HB := n3_; clear n0_ n1_ n2_ n3_; (try clear hb); (try clear hb2); (try clear hk); (try clear hi)))
         go_ret
         exact ⟨by first | rfl | (simp [errW_none, errW_some] <;> rfl) | (simp [*, errW_none, errW_some] <;> rfl), by repeat (first | (with_reducible first | exact HB.out | apply below_alloc | apply pw_below_drewN | apply below_drew1) | exact HB.out)⟩

/-- THE ONE PURE STATEMENT of laws_FnClassOf: yours. -/
def laws_FnClassOf.Pure : Prop := ∀ (l0 : List Int) (l1 : List Int) (a2 : Bool) (a3 : Int), l0.length ≤ maxLen → l0.length * 2 ≤ 140737488351232 → (∀ x ∈ l0, (Lit.int .u16 x).wf = true) → l1.length ≤ maxLen → l1.length * 1 ≤ 140737488351232 → (∀ x ∈ l1, (Lit.int .u8 x).wf = true) → (Lit.int .u16 a3).wf = true → ∃ k, laws_FnClassOf.f k l0 l1 a2 a3 = some true
theorem laws_FnClassOf.walk (P : laws_FnClassOf.Pure) (a0 : Option Addr) (len0 cap0 : Nat) (z0 : List Int) (a1 : Option Addr) (len1 cap1 : Nat) (z1 : List Int) (a2 : Bool) (a3 : Int) (w : World) (w0 : (a0 = none ∧ len0 = 0 ∧ cap0 = 0 ∧ z0 = []) ∨ ∃ x, a0 = some x ∧ len0 ≤ cap0 ∧ cap0 ≤ maxLen ∧ z0.length = cap0 ∧ (∀ i, i < z0.length → w.cell? (x.add i) = some (.int .u16 (z0.getD i 0))) ∧ ∀ n ∈ z0, (Lit.int .u16 n).wf = true) (y0 : len0 * 2 ≤ 140737488351232) (w1 : (a1 = none ∧ len1 = 0 ∧ cap1 = 0 ∧ z1 = []) ∨ ∃ x, a1 = some x ∧ len1 ≤ cap1 ∧ cap1 ≤ maxLen ∧ z1.length = cap1 ∧ (∀ i, i < z1.length → w.cell? (x.add i) = some (.int .u8 (z1.getD i 0))) ∧ ∀ n ∈ z1, (Lit.int .u8 n).wf = true) (y1 : len1 * 1 ≤ 140737488351232) (w3 : (Lit.int .u16 a3).wf = true) :
  Calls Try.prog 5 #[.slice a0 len0 cap0, .slice a1 len1 cap1, .bool a2, .int .u16 a3] w fun e w' => e = .returned (.bool true) ∧ Below w.heap.size w w' := by
 obtain ⟨l0, rfl, hr0, hm0, hw0, hc0⟩ := ReadsInt.ofRowC w0
 obtain ⟨l1, rfl, hr1, hm1, hw1, hc1⟩ := ReadsInt.ofRowC w1
 obtain ⟨k, h⟩ := P l0 l1 a2 a3 hm0 y0 hw0 hm1 y1 hw1 w3
 refine (laws_FnClassOf.calls k _ _ l0 _ _ l1 a2 a3 true w (Kd.C_of_reads (d := (0 : Int)) (h1 := fun _ => rfl) hr0) hc0 (Kd.C_of_reads (d := (0 : Int)) (h1 := fun _ => rfl) hr1) hc1 h).mono ?_
 rintro e w' ⟨rfl, hd⟩
 exact ⟨rfl, hd⟩

end Go.Proofs.Ytchkmmbedgolbaa.PFnClassOf
