-- Written by a program of this session (xprint) out of the translation; Lean checks it.
import Derived.Test.YtchkmmbedgolbaaPFnTuplesOfx0
namespace Go.Proofs.Ytchkmmbedgolbaa.PFnTuplesOf
open Go.RowKit Go.Proofs.YtchkmmbedgolbaaW.PrintWords Go.Proofs.YtchkmmbedgolbaaW.PrintLast Go.Proofs.YtchkmmbedgolbaaW.PrintMore
attribute [local go_sem] max2_int min2_int max_two min_two max_three min_three max_four min_four   -- for this text's walks alone
set_option linter.unusedVariables false
set_option linter.unusedSimpArgs false
theorem cz7x1 {w : World} {g : Nat} {t : TypeId} {v0 v1 v2 v3 v4 v5 v6 : Value} (h : w.heap[g]? = some (.cells #[v0, v1, v2, v3, v4, v5, v6] t (0, 0))) : w.cell? ⟨g, 0, none⟩ = some v0 ∧ w.cell? ⟨g, 1, none⟩ = some v1 ∧ w.cell? ⟨g, 2, none⟩ = some v2 ∧ w.cell? ⟨g, 3, none⟩ = some v3 ∧ w.cell? ⟨g, 4, none⟩ = some v4 ∧ w.cell? ⟨g, 5, none⟩ = some v5 ∧ w.cell? ⟨g, 6, none⟩ = some v6 := ⟨(blk_cell h 0).trans rfl, (blk_cell h 1).trans rfl, (blk_cell h 2).trans rfl, (blk_cell h 3).trans rfl, (blk_cell h 4).trans rfl, (blk_cell h 5).trans rfl, (blk_cell h 6).trans rfl⟩
theorem fz7x1 {w : World} {g : Nat} {t : TypeId} {cs : Array Value} (h : w.heap[g]? = some (.cells cs t (0, 0))) : w.frozen? ⟨g, 0, none⟩ = false ∧ w.frozen? ⟨g, 1, none⟩ = false ∧ w.frozen? ⟨g, 2, none⟩ = false ∧ w.frozen? ⟨g, 3, none⟩ = false ∧ w.frozen? ⟨g, 4, none⟩ = false ∧ w.frozen? ⟨g, 5, none⟩ = false ∧ w.frozen? ⟨g, 6, none⟩ = false := ⟨blk_frozen h 0, blk_frozen h 1, blk_frozen h 2, blk_frozen h 3, blk_frozen h 4, blk_frozen h 5, blk_frozen h 6⟩
theorem z1_6 {p : Prop} (h : p := by (try simp only [List.map_toArray, List.map_cons, List.map_nil]); first | done | rfl | (simp only [List.length_drop, List.length_take]; rfl)) : p := h
theorem z1_5 {p : Prop} (h : p := by have := HK1.out; first | omega | exact Nat.le_refl _) : p := h
theorem z1_4 {p : Prop} (h : p := by first | rfl | (simp; done) | (simp [*]; done)) : p := h
theorem z1_3 {p : Prop} (h : p := by first | (with_reducible assumption) | assumption) : p := h
theorem z1_2 {p : Prop} (h : p := by rw [hg]; exact (below_size z1_0)) : p := h
theorem z1_1 {p : Prop} (h : p := by (with_reducible repeat (first | apply b1_ | apply b2_ | apply b3_)); refine blk_put (cs := #[.slice A102_0 ((rd_T62 l0 x10_1).f0).length c102_0, .bool ((rd_T62 l0 x10_1).f1), .slice A102_2 ((rd_T62 l0 x10_1).f2).length c102_2, .slice A102_3 ((rd_T62 l0 x10_1).f3).length c102_3, .slice A102_4 ((rd_T62 l0 x10_1).f4).length c102_4, .slice A102_5 ((rd_T62 l0 x10_1).f5).length c102_5, .slice none 0 0]) ?_ 6 _ rfl; (with_reducible repeat (first | apply b1_ | apply b2_ | apply b3_)); refine blk_put (cs := #[.slice A102_0 ((rd_T62 l0 x10_1).f0).length c102_0, .bool ((rd_T62 l0 x10_1).f1), .slice A102_2 ((rd_T62 l0 x10_1).f2).length c102_2, .slice A102_3 ((rd_T62 l0 x10_1).f3).length c102_3, .slice A102_4 ((rd_T62 l0 x10_1).f4).length c102_4, .slice none 0 0, .slice none 0 0]) ?_ 5 _ rfl; (with_reducible repeat (first | apply b1_ | apply b2_ | apply b3_)); refine blk_put (cs := #[.slice A102_0 ((rd_T62 l0 x10_1).f0).length c102_0, .bool ((rd_T62 l0 x10_1).f1), .slice A102_2 ((rd_T62 l0 x10_1).f2).length c102_2, .slice A102_3 ((rd_T62 l0 x10_1).f3).length c102_3, .slice none 0 0, .slice none 0 0, .slice none 0 0]) ?_ 4 _ rfl; (with_reducible repeat (first | apply b1_ | apply b2_ | apply b3_)); refine blk_put (cs := #[.slice A102_0 ((rd_T62 l0 x10_1).f0).length c102_0, .bool ((rd_T62 l0 x10_1).f1), .slice A102_2 ((rd_T62 l0 x10_1).f2).length c102_2, .slice none 0 0, .slice none 0 0, .slice none 0 0, .slice none 0 0]) ?_ 3 _ rfl; (with_reducible repeat (first | apply b1_ | apply b2_ | apply b3_)); refine blk_put (cs := #[.slice A102_0 ((rd_T62 l0 x10_1).f0).length c102_0, .bool ((rd_T62 l0 x10_1).f1), .slice none 0 0, .slice none 0 0, .slice none 0 0, .slice none 0 0, .slice none 0 0]) ?_ 2 _ rfl; (with_reducible repeat (first | apply b1_ | apply b2_ | apply b3_)); refine blk_put (cs := #[.slice A102_0 ((rd_T62 l0 x10_1).f0).length c102_0, .bool false, .slice none 0 0, .slice none 0 0, .slice none 0 0, .slice none 0 0, .slice none 0 0]) ?_ 1 _ rfl; (with_reducible repeat (first | apply b1_ | apply b2_ | apply b3_)); refine blk_put (cs := #[.slice none 0 0, .bool false, .slice none 0 0, .slice none 0 0, .slice none 0 0, .slice none 0 0, .slice none 0 0]) ?_ 0 _ rfl; (with_reducible repeat (first | apply b1_ | apply b2_ | apply b3_)); exact BK103.out) : p := h
theorem z1_0 {p : Prop} (h : p := by repeat (first | (with_reducible first | exact HB.out | apply below_alloc | apply pw_below_drewN | apply below_drew1 | refine below_set ?_ GE101.out | refine below_set ?_ GE103.out) | exact HB.out)) : p := h

def zG.f (l0_0 : List Int) (a0_1 : Bool) (l0_2 : List Int) (l0_3 : List Int) (l0_4 : List Int) (l0_5 : List Int) (l0_6 : List Int) : Option (Bool) := if (l0_0.length : Int) > 2147483647 then (some false) else (if (l0_2.length : Int) > 2147483647 then (some false) else (if (l0_3.length : Int) > 2147483647 then (some false) else (if (l0_4.length : Int) > 2147483647 then (some false) else (if (l0_5.length : Int) > 2147483647 then (some false) else (if (l0_6.length : Int) > 2147483647 then (some false) else (some true))))))
set_option maxHeartbeats 8000000 in
set_option maxRecDepth 100000 in
theorem zG.calls (A0_0 : Option Addr) (c0_0 : Nat) (l0_0 : List Int) (a0_1 : Bool) (A0_2 : Option Addr) (c0_2 : Nat) (l0_2 : List Int) (A0_3 : Option Addr) (c0_3 : Nat) (l0_3 : List Int) (A0_4 : Option Addr) (c0_4 : Nat) (l0_4 : List Int) (A0_5 : Option Addr) (c0_5 : Nat) (l0_5 : List Int) (A0_6 : Option Addr) (c0_6 : Nat) (l0_6 : List Int) (r : Bool) (w : World) (hr0_0 : Kd.C (Kd.int .i64) w A0_0 l0_0.length l0_0) (hc0_0 : l0_0.length ≤ c0_0) (hr0_2 : Kd.C (Kd.int .i64) w A0_2 l0_2.length l0_2) (hc0_2 : l0_2.length ≤ c0_2) (hr0_3 : Kd.C (Kd.int .i64) w A0_3 l0_3.length l0_3) (hc0_3 : l0_3.length ≤ c0_3) (hr0_4 : Kd.C (Kd.int .i64) w A0_4 l0_4.length l0_4) (hc0_4 : l0_4.length ≤ c0_4) (hr0_5 : Kd.C (Kd.int .i64) w A0_5 l0_5.length l0_5) (hc0_5 : l0_5.length ≤ c0_5) (hr0_6 : Kd.C (Kd.int .i64) w A0_6 l0_6.length l0_6) (hc0_6 : l0_6.length ≤ c0_6) (h : zG.f l0_0 a0_1 l0_2 l0_3 l0_4 l0_5 l0_6 = some r) :
  Calls Try.prog 43 #[.agg #[.slice A0_0 l0_0.length c0_0, .bool a0_1, .slice A0_2 l0_2.length c0_2, .slice A0_3 l0_3.length c0_3, .slice A0_4 l0_4.length c0_4, .slice A0_5 l0_5.length c0_5, .slice A0_6 l0_6.length c0_6]] w fun e w' => e = .returned (.bool r) ∧ Below w.heap.size w w' := by
 have hu62 := Try.underlying62
 have HR0_0 := Aside0.mk hr0_0
 have HC0_0 := Aside0.mk hc0_0
 clear hr0_0 hc0_0
 have HR0_2 := Aside0.mk hr0_2
 have HC0_2 := Aside0.mk hc0_2
 clear hr0_2 hc0_2
 have HR0_3 := Aside0.mk hr0_3
 have HC0_3 := Aside0.mk hc0_3
 clear hr0_3 hc0_3
 have HR0_4 := Aside0.mk hr0_4
 have HC0_4 := Aside0.mk hc0_4
 clear hr0_4 hc0_4
 have HR0_5 := Aside0.mk hr0_5
 have HC0_5 := Aside0.mk hc0_5
 clear hr0_5 hc0_5
 have HR0_6 := Aside0.mk hr0_6
 have HC0_6 := Aside0.mk hc0_6
 clear hr0_6 hc0_6
 have HB := Aside0.mk (Below.refl w.heap.size w)
 have H : (if (l0_0.length : Int) > 2147483647 then (some false) else (if (l0_2.length : Int) > 2147483647 then (some false) else (if (l0_3.length : Int) > 2147483647 then (some false) else (if (l0_4.length : Int) > 2147483647 then (some false) else (if (l0_5.length : Int) > 2147483647 then (some false) else (if (l0_6.length : Int) > 2147483647 then (some false) else (some true))))))) = some r := h
 clear h
 by_cases c2 : (l0_0.length : Int) > 2147483647
 ·rw [if_pos c2] at H
  have c2b0 : decide (2147483647 < (l0_0.length : Int)) = true := decide_eq_true c2
  have c2b1 : decide (2147483647 < l0_0.length) = true := decide_eq_true (by omega)
  clear c2
  obtain rfl := Option.some.inj H
  go_enter Try.func43, Try.ntmps43
  go_wp2_with (first | ((with_reducible refine gate_dst (N := 1) rfl ?_); refine box_event ?hg (N := 1) ?hd (cs := #[.slice A0_0 l0_0.length c0_0, .bool a0_1, .slice A0_2 l0_2.length c0_2, .slice A0_3 l0_3.length c0_3, .slice A0_4 l0_4.length c0_4, .slice A0_5 l0_5.length c0_5, .slice A0_6 l0_6.length c0_6]) (t := 62) ?hr ?_; (case hd => rfl); (case hg => rfl); (case hr => first | (go_simp; done) | (go_simp; rfl)); intro gb101 hg w3 hbox hb; have n0_ := Aside0.mk (below_step z1_0 hb); have n1_ := Aside0.mk (hbox); have n2_ := Aside0.mk ((z1_2 : w.heap.size ≤ gb101)); have n3_ := Aside0.mk ((z1_2 : w.heap.size ≤ gb101)); clear HB; have HB := n0_; have BK101 := n1_; have GW101 := n2_; have GE101 := n3_; clear n0_ n1_ n2_ n3_; clear hb hbox hg; obtain ⟨hcz4_0, hcz4_1, hcz4_2, hcz4_3, hcz4_4, hcz4_5, hcz4_6⟩ := cz7x1 BK101.out; obtain ⟨hfz4_0, hfz4_1, hfz4_2, hfz4_3, hfz4_4, hfz4_5, hfz4_6⟩ := fz7x1 BK101.out))
  go_ret
  exact ⟨by first | rfl | (simp [errW_none, errW_some] <;> rfl) | (simp [*, errW_none, errW_some] <;> rfl), by repeat (first | (with_reducible first | exact HB.out | apply below_alloc | apply pw_below_drewN | apply below_drew1 | refine below_set ?_ GE101.out | refine below_set ?_ GE103.out) | exact HB.out)⟩
 ·rw [if_neg c2] at H
  have c2b0 : decide (2147483647 < (l0_0.length : Int)) = false := decide_eq_false c2
  have c2b1 : decide (2147483647 < l0_0.length) = false := decide_eq_false (by omega)
  clear c2
  by_cases c5 : (l0_2.length : Int) > 2147483647
  ·rw [if_pos c5] at H
   have c5b0 : decide (2147483647 < (l0_2.length : Int)) = true := decide_eq_true c5
   have c5b1 : decide (2147483647 < l0_2.length) = true := decide_eq_true (by omega)
   clear c5
   obtain rfl := Option.some.inj H
   go_enter Try.func43, Try.ntmps43
   go_wp2_with (first | ((with_reducible refine gate_dst (N := 1) rfl ?_); refine box_event ?hg (N := 1) ?hd (cs := #[.slice A0_0 l0_0.length c0_0, .bool a0_1, .slice A0_2 l0_2.length c0_2, .slice A0_3 l0_3.length c0_3, .slice A0_4 l0_4.length c0_4, .slice A0_5 l0_5.length c0_5, .slice A0_6 l0_6.length c0_6]) (t := 62) ?hr ?_; (case hd => rfl); (case hg => rfl); (case hr => first | (go_simp; done) | (go_simp; rfl)); intro gb101 hg w6 hbox hb; have n0_ := Aside0.mk (below_step z1_0 hb); have n1_ := Aside0.mk (hbox); have n2_ := Aside0.mk ((z1_2 : w.heap.size ≤ gb101)); have n3_ := Aside0.mk ((z1_2 : w.heap.size ≤ gb101)); clear HB; have HB := n0_; have BK101 := n1_; have GW101 := n2_; have GE101 := n3_; clear n0_ n1_ n2_ n3_; clear hb hbox hg; obtain ⟨hcz7_0, hcz7_1, hcz7_2, hcz7_3, hcz7_4, hcz7_5, hcz7_6⟩ := cz7x1 BK101.out; obtain ⟨hfz7_0, hfz7_1, hfz7_2, hfz7_3, hfz7_4, hfz7_5, hfz7_6⟩ := fz7x1 BK101.out))
   go_ret
   exact ⟨by first | rfl | (simp [errW_none, errW_some] <;> rfl) | (simp [*, errW_none, errW_some] <;> rfl), by repeat (first | (with_reducible first | exact HB.out | apply below_alloc | apply pw_below_drewN | apply below_drew1 | refine below_set ?_ GE101.out | refine below_set ?_ GE103.out) | exact HB.out)⟩
  ·rw [if_neg c5] at H
   have c5b0 : decide (2147483647 < (l0_2.length : Int)) = false := decide_eq_false c5
   have c5b1 : decide (2147483647 < l0_2.length) = false := decide_eq_false (by omega)
   clear c5
   by_cases c8 : (l0_3.length : Int) > 2147483647
   ·rw [if_pos c8] at H
    have c8b0 : decide (2147483647 < (l0_3.length : Int)) = true := decide_eq_true c8
    have c8b1 : decide (2147483647 < l0_3.length) = true := decide_eq_true (by omega)
    clear c8
    obtain rfl := Option.some.inj H
    go_enter Try.func43, Try.ntmps43
    go_wp2_with (first | ((with_reducible refine gate_dst (N := 1) rfl ?_); refine box_event ?hg (N := 1) ?hd (cs := #[.slice A0_0 l0_0.length c0_0, .bool a0_1, .slice A0_2 l0_2.length c0_2, .slice A0_3 l0_3.length c0_3, .slice A0_4 l0_4.length c0_4, .slice A0_5 l0_5.length c0_5, .slice A0_6 l0_6.length c0_6]) (t := 62) ?hr ?_; (case hd => rfl); (case hg => rfl); (case hr => first | (go_simp; done) | (go_simp; rfl)); intro gb101 hg w9 hbox hb; have n0_ := Aside0.mk (below_step z1_0 hb); have n1_ := Aside0.mk (hbox); have n2_ := Aside0.mk ((z1_2 : w.heap.size ≤ gb101)); have n3_ := Aside0.mk ((z1_2 : w.heap.size ≤ gb101)); clear HB; have HB := n0_; have BK101 := n1_; have GW101 := n2_; have GE101 := n3_; clear n0_ n1_ n2_ n3_; clear hb hbox hg; obtain ⟨hcz10_0, hcz10_1, hcz10_2, hcz10_3, hcz10_4, hcz10_5, hcz10_6⟩ := cz7x1 BK101.out; obtain ⟨hfz10_0, hfz10_1, hfz10_2, hfz10_3, hfz10_4, hfz10_5, hfz10_6⟩ := fz7x1 BK101.out))
    go_ret
    exact ⟨by first | rfl | (simp [errW_none, errW_some] <;> rfl) | (simp [*, errW_none, errW_some] <;> rfl), by repeat (first | (with_reducible first | exact HB.out | apply below_alloc | apply pw_below_drewN | apply below_drew1 | refine below_set ?_ GE101.out | refine below_set ?_ GE103.out) | exact HB.out)⟩
   ·rw [if_neg c8] at H
    have c8b0 : decide (2147483647 < (l0_3.length : Int)) = false := decide_eq_false c8
    have c8b1 : decide (2147483647 < l0_3.length) = false := decide_eq_false (by omega)
    clear c8
    by_cases c11 : (l0_4.length : Int) > 2147483647
    ·rw [if_pos c11] at H
     have c11b0 : decide (2147483647 < (l0_4.length : Int)) = true := decide_eq_true c11
     have c11b1 : decide (2147483647 < l0_4.length) = true := decide_eq_true (by omega)
     clear c11
     obtain rfl := Option.some.inj H
     go_enter Try.func43, Try.ntmps43
     go_wp2_with (first | ((with_reducible refine gate_dst (N := 1) rfl ?_); refine box_event ?hg (N := 1) ?hd (cs := #[.slice A0_0 l0_0.length c0_0, .bool a0_1, .slice A0_2 l0_2.length c0_2, .slice A0_3 l0_3.length c0_3, .slice A0_4 l0_4.length c0_4, .slice A0_5 l0_5.length c0_5, .slice A0_6 l0_6.length c0_6]) (t := 62) ?hr ?_; (case hd => rfl); (case hg => rfl); (case hr => first | (go_simp; done) | (go_simp; rfl)); intro gb101 hg w12 hbox hb; have n0_ := Aside0.mk (below_step z1_0 hb); have n1_ := Aside0.mk (hbox); have n2_ := Aside0.mk ((z1_2 : w.heap.size ≤ gb101)); have n3_ := Aside0.mk ((z1_2 : w.heap.size ≤ gb101)); clear HB; have HB := n0_; have BK101 := n1_; have GW101 := n2_; have GE101 := n3_; clear n0_ n1_ n2_ n3_; clear hb hbox hg; obtain ⟨hcz13_0, hcz13_1, hcz13_2, hcz13_3, hcz13_4, hcz13_5, hcz13_6⟩ := cz7x1 BK101.out; obtain ⟨hfz13_0, hfz13_1, hfz13_2, hfz13_3, hfz13_4, hfz13_5, hfz13_6⟩ := fz7x1 BK101.out))
     go_ret
     exact ⟨by first | rfl | (simp [errW_none, errW_some] <;> rfl) | (simp [*, errW_none, errW_some] <;> rfl), by repeat (first | (with_reducible first | exact HB.out | apply below_alloc | apply pw_below_drewN | apply below_drew1 | refine below_set ?_ GE101.out | refine below_set ?_ GE103.out) | exact HB.out)⟩
    ·rw [if_neg c11] at H
     have c11b0 : decide (2147483647 < (l0_4.length : Int)) = false := decide_eq_false c11
     have c11b1 : decide (2147483647 < l0_4.length) = false := decide_eq_false (by omega)
     clear c11
     by_cases c14 : (l0_5.length : Int) > 2147483647
     ·rw [if_pos c14] at H
      have c14b0 : decide (2147483647 < (l0_5.length : Int)) = true := decide_eq_true c14
      have c14b1 : decide (2147483647 < l0_5.length) = true := decide_eq_true (by omega)
      clear c14
      obtain rfl := Option.some.inj H
      go_enter Try.func43, Try.ntmps43
      go_wp2_with (first | ((with_reducible refine gate_dst (N := 1) rfl ?_); refine box_event ?hg (N := 1) ?hd (cs := #[.slice A0_0 l0_0.length c0_0, .bool a0_1, .slice A0_2 l0_2.length c0_2, .slice A0_3 l0_3.length c0_3, .slice A0_4 l0_4.length c0_4, .slice A0_5 l0_5.length c0_5, .slice A0_6 l0_6.length c0_6]) (t := 62) ?hr ?_; (case hd => rfl); (case hg => rfl); (case hr => first | (go_simp; done) | (go_simp; rfl)); intro gb101 hg w15 hbox hb; have n0_ := Aside0.mk (below_step z1_0 hb); have n1_ := Aside0.mk (hbox); have n2_ := Aside0.mk ((z1_2 : w.heap.size ≤ gb101)); have n3_ := Aside0.mk ((z1_2 : w.heap.size ≤ gb101)); clear HB; have HB := n0_; have BK101 := n1_; have GW101 := n2_; have GE101 := n3_; clear n0_ n1_ n2_ n3_; clear hb hbox hg; obtain ⟨hcz16_0, hcz16_1, hcz16_2, hcz16_3, hcz16_4, hcz16_5, hcz16_6⟩ := cz7x1 BK101.out; obtain ⟨hfz16_0, hfz16_1, hfz16_2, hfz16_3, hfz16_4, hfz16_5, hfz16_6⟩ := fz7x1 BK101.out))
      go_ret
      exact ⟨by first | rfl | (simp [errW_none, errW_some] <;> rfl) | (simp [*, errW_none, errW_some] <;> rfl), by repeat (first | (with_reducible first | exact HB.out | apply below_alloc | apply pw_below_drewN | apply below_drew1 | refine below_set ?_ GE101.out | refine below_set ?_ GE103.out) | exact HB.out)⟩
     ·rw [if_neg c14] at H
      have c14b0 : decide (2147483647 < (l0_5.length : Int)) = false := decide_eq_false c14
      have c14b1 : decide (2147483647 < l0_5.length) = false := decide_eq_false (by omega)
      clear c14
      by_cases c17 : (l0_6.length : Int) > 2147483647
      ·rw [if_pos c17] at H
       have c17b0 : decide (2147483647 < (l0_6.length : Int)) = true := decide_eq_true c17
       have c17b1 : decide (2147483647 < l0_6.length) = true := decide_eq_true (by omega)
       clear c17
       obtain rfl := Option.some.inj H
       go_enter Try.func43, Try.ntmps43
       go_wp2_with (first | ((with_reducible refine gate_dst (N := 1) rfl ?_); refine box_event ?hg (N := 1) ?hd (cs := #[.slice A0_0 l0_0.length c0_0, .bool a0_1, .slice A0_2 l0_2.length c0_2, .slice A0_3 l0_3.length c0_3, .slice A0_4 l0_4.length c0_4, .slice A0_5 l0_5.length c0_5, .slice A0_6 l0_6.length c0_6]) (t := 62) ?hr ?_; (case hd => rfl); (case hg => rfl); (case hr => first | (go_simp; done) | (go_simp; rfl)); intro gb101 hg w18 hbox hb; have n0_ := Aside0.mk (below_step z1_0 hb); have n1_ := Aside0.mk (hbox); have n2_ := Aside0.mk ((z1_2 : w.heap.size ≤ gb101)); have n3_ := Aside0.mk ((z1_2 : w.heap.size ≤ gb101)); clear HB; have HB := n0_; have BK101 := n1_; have GW101 := n2_; have GE101 := n3_; clear n0_ n1_ n2_ n3_; clear hb hbox hg; obtain ⟨hcz19_0, hcz19_1, hcz19_2, hcz19_3, hcz19_4, hcz19_5, hcz19_6⟩ := cz7x1 BK101.out; obtain ⟨hfz19_0, hfz19_1, hfz19_2, hfz19_3, hfz19_4, hfz19_5, hfz19_6⟩ := fz7x1 BK101.out))
       go_ret
       exact ⟨by first | rfl | (simp [errW_none, errW_some] <;> rfl) | (simp [*, errW_none, errW_some] <;> rfl), by repeat (first | (with_reducible first | exact HB.out | apply below_alloc | apply pw_below_drewN | apply below_drew1 | refine below_set ?_ GE101.out | refine below_set ?_ GE103.out) | exact HB.out)⟩
      ·rw [if_neg c17] at H
       have c17b0 : decide (2147483647 < (l0_6.length : Int)) = false := decide_eq_false c17
       have c17b1 : decide (2147483647 < l0_6.length) = false := decide_eq_false (by omega)
       clear c17
       obtain rfl := Option.some.inj H
       go_enter Try.func43, Try.ntmps43
       go_wp2_with (first | ((with_reducible refine gate_dst (N := 1) rfl ?_); refine box_event ?hg (N := 1) ?hd (cs := #[.slice A0_0 l0_0.length c0_0, .bool a0_1, .slice A0_2 l0_2.length c0_2, .slice A0_3 l0_3.length c0_3, .slice A0_4 l0_4.length c0_4, .slice A0_5 l0_5.length c0_5, .slice A0_6 l0_6.length c0_6]) (t := 62) ?hr ?_; (case hd => rfl); (case hg => rfl); (case hr => first | (go_simp; done) | (go_simp; rfl)); intro gb101 hg w20 hbox hb; have n0_ := Aside0.mk (below_step z1_0 hb); have n1_ := Aside0.mk (hbox); have n2_ := Aside0.mk ((z1_2 : w.heap.size ≤ gb101)); have n3_ := Aside0.mk ((z1_2 : w.heap.size ≤ gb101)); clear HB; have HB := n0_; have BK101 := n1_; have GW101 := n2_; have GE101 := n3_; clear n0_ n1_ n2_ n3_; clear hb hbox hg; obtain ⟨hcz21_0, hcz21_1, hcz21_2, hcz21_3, hcz21_4, hcz21_5, hcz21_6⟩ := cz7x1 BK101.out; obtain ⟨hfz21_0, hfz21_1, hfz21_2, hfz21_3, hfz21_4, hfz21_5, hfz21_6⟩ := fz7x1 BK101.out))
       go_ret
       exact ⟨by first | rfl | (simp [errW_none, errW_some] <;> rfl) | (simp [*, errW_none, errW_some] <;> rfl), by repeat (first | (with_reducible first | exact HB.out | apply below_alloc | apply pw_below_drewN | apply below_drew1 | refine below_set ?_ GE101.out | refine below_set ?_ GE103.out) | exact HB.out)⟩

def zF.l0 : Nat → List (S62) → Int → Int → Option (Bool)
 | 0, _, _, _ => none
 | k + 1, x8, x9, x10 => if x10 < x9 then (if 0 ≤ x10 then (if x10 < (x8.length : Int) then ((zG.f ((rd_T62 x8 x10).f0) ((rd_T62 x8 x10).f1) ((rd_T62 x8 x10).f2) ((rd_T62 x8 x10).f3) ((rd_T62 x8 x10).f4) ((rd_T62 x8 x10).f5) ((rd_T62 x8 x10).f6)).bind fun t104 => (if t104 = true then (zF.l0 k x8 x9 (wrap64 (x10 + 1))) else (some false))) else (none)) else (none)) else (some true)
def zF.f (k : Nat) (l0 : List (S62)) : Option (Bool) := if (l0.length : Int) > 2147483647 then (some false) else (zF.l0 k l0 (l0.length : Int) 0)
theorem zF.mono_l : ∀ k, (∀ y0 y1 y2, LeO (zF.l0 k y0 y1 y2) (zF.l0 (k + 1) y0 y1 y2))
 | 0 => fun _ _ _ r h => by simp [zF.l0] at h
 | k + 1 => by
  have ih0 := zF.mono_l k
  ·intro y0 y1 y2
   unfold zF.l0
   repeat' first
   | (with_reducible exact ih0 _ _ _)
   | (with_reducible exact LeO.refl _)
   | (with_reducible exact LeO.none _)
   | (with_reducible refine LeO.ite ?_ ?_)
   | (with_reducible refine LeO.bind ?_ (fun _ => ?_))
theorem zF.mono : ∀ a0 k, LeO (zF.f k a0) (zF.f (k + 1) a0) := by
 intro a0 k
 have ih0 := zF.mono_l k
 unfold zF.f
 repeat' first
   | (with_reducible exact ih0 _ _ _)
   | (with_reducible exact LeO.refl _)
   | (with_reducible exact LeO.none _)
   | (with_reducible refine LeO.ite ?_ ?_)
   | (with_reducible refine LeO.bind ?_ (fun _ => ?_))
set_option maxHeartbeats 8000000 in
set_option maxRecDepth 100000 in
theorem zF.calls (k : Nat) (A0 : Option Addr) (c0 : Nat) (l0 : List (S62)) (r : Bool) (w : World) (hr0 : Kd.C k62 w A0 l0.length l0) (hc0 : l0.length ≤ c0) (h : zF.f k l0 = some r) :
  Calls Try.prog 24 #[.slice A0 l0.length c0] w fun e w' => e = .returned (.bool r) ∧ Below w.heap.size w w' := by
 have hu62 := Try.underlying62
 have HR0 := Aside0.mk hr0
 have HC0 := Aside0.mk hc0
 clear hr0 hc0
 have HB := Aside0.mk (Below.refl w.heap.size w)
 have H : (if (l0.length : Int) > 2147483647 then (some false) else (zF.l0 k l0 (l0.length : Int) 0)) = some r := h
 clear h
 by_cases c2 : (l0.length : Int) > 2147483647
 ·rw [if_pos c2] at H
  have c2b0 : decide (2147483647 < (l0.length : Int)) = true := decide_eq_true c2
  have c2b1 : decide (2147483647 < l0.length) = true := decide_eq_true (by omega)
  clear c2
  obtain rfl := Option.some.inj H
  go_enter Try.func24, Try.ntmps24
  go_wp2
  go_ret
  exact ⟨by first | rfl | (simp [errW_none, errW_some] <;> rfl) | (simp [*, errW_none, errW_some] <;> rfl), by repeat (first | (with_reducible first | exact HB.out | apply below_alloc | apply pw_below_drewN | apply below_drew1 | refine below_set ?_ GE101.out | refine below_set ?_ GE103.out) | exact HB.out)⟩
 ·rw [if_neg c2] at H
  have c2b0 : decide (2147483647 < (l0.length : Int)) = false := decide_eq_false c2
  have c2b1 : decide (2147483647 < l0.length) = false := decide_eq_false (by omega)
  clear c2
  have H' := Aside0.mk H
  clear H
  go_enter Try.func24, Try.ntmps24
  go_wp2
  go_loopg [10] k (fun kq v10 w' => ∃ (x10_1 : Int), v10 = .int .i64 x10_1 ∧ Aside0 (zF.l0 kq l0 (l0.length : Int) x10_1 = some r) ∧ Aside0 (kq ≤ k) ∧ Aside0 (Below w.heap.size w w'))
  case atStart => exact ⟨(0), z1_4, H', ⟨Nat.le_refl _⟩, ⟨z1_0⟩⟩
  case round =>
   clear H'
   clear c2b0 c2b1
   obtain ⟨x10_1, rfl, HA, HK1, HB⟩ := hrel
   cases gk with
   | zero => exact absurd HA.out (by simp [zF.l0])
   | succ k1 =>
    have H := HA.out
    clear HA
    simp only [zF.l0] at H
    by_cases c3 : x10_1 < (l0.length : Int)
    ·rw [if_pos c3] at H
     have c3b0 : decide (x10_1 < (l0.length : Int)) = true := decide_eq_true c3
     clear c3
     by_cases c4 : 0 ≤ x10_1
     rotate_left
     ·rw [if_neg c4] at H
      exact absurd H (by simp)
     rw [if_pos c4] at H
     have c4b0 : decide (0 ≤ x10_1) = true := decide_eq_true c4
     clear c4
     by_cases c5 : x10_1 < (l0.length : Int)
     rotate_left
     ·rw [if_neg c5] at H
      exact absurd H (by simp)
     rw [if_pos c5] at H
     have c5b0 : decide (x10_1 < (l0.length : Int)) = true := decide_eq_true c5
     clear c5
     replace H := Option.bind_eq_some_iff.mp H
     obtain ⟨t104, A60, H⟩ := H
     replace H : (if t104 = true then (zF.l0 k1 l0 (l0.length : Int) (wrap64 (x10_1 + 1))) else (some false)) = some r := H
     have A6 := Aside0.mk A60
     clear A60
     by_cases c7 : t104 = true
     ·subst c7
      have H1 : (zF.l0 k1 l0 (l0.length : Int) (wrap64 (x10_1 + 1))) = some r := by rw [if_pos rfl] at H; exact H
      clear H
      have H := H1
      clear H1
      have H' := Aside0.mk H
      clear H
      have p102 : 0 ≤ (x10_1 : Int) := of_decide_eq_true z1_3
      have q102 : x10_1 < (l0.length : Int) := of_decide_eq_true z1_3
      obtain ⟨ad102, A102_0, c102_0, A102_2, c102_2, A102_3, c102_3, A102_4, c102_4, A102_5, c102_5, A102_6, c102_6, e102, hx102_0, hx102_1, hx102_2, hx102_3, hx102_4, hx102_5, hx102_6, hl102_0, hi102_0, hl102_2, hi102_2, hl102_3, hi102_3, hl102_4, hi102_4, hl102_5, hi102_5, hl102_6, hi102_6⟩ := at_T62 HR0.out x10_1 p102 q102
      cases e102
      replace hx102_0 := (HB.out.cell (World.block_lt_of_cell? w _ hx102_0)).trans hx102_0
      replace hx102_1 := (HB.out.cell (World.block_lt_of_cell? w _ hx102_1)).trans hx102_1
      replace hx102_2 := (HB.out.cell (World.block_lt_of_cell? w _ hx102_2)).trans hx102_2
      replace hx102_3 := (HB.out.cell (World.block_lt_of_cell? w _ hx102_3)).trans hx102_3
      replace hx102_4 := (HB.out.cell (World.block_lt_of_cell? w _ hx102_4)).trans hx102_4
      replace hx102_5 := (HB.out.cell (World.block_lt_of_cell? w _ hx102_5)).trans hx102_5
      replace hx102_6 := (HB.out.cell (World.block_lt_of_cell? w _ hx102_6)).trans hx102_6
      have HR102_0 := Aside0.mk hi102_0
      have HC102_0 := Aside0.mk hl102_0
      clear hi102_0 hl102_0
      have HR102_2 := Aside0.mk hi102_2
      have HC102_2 := Aside0.mk hl102_2
      clear hi102_2 hl102_2
      have HR102_3 := Aside0.mk hi102_3
      have HC102_3 := Aside0.mk hl102_3
      clear hi102_3 hl102_3
      have HR102_4 := Aside0.mk hi102_4
      have HC102_4 := Aside0.mk hl102_4
      clear hi102_4 hl102_4
      have HR102_5 := Aside0.mk hi102_5
      have HC102_5 := Aside0.mk hl102_5
      clear hi102_5 hl102_5
      have HR102_6 := Aside0.mk hi102_6
      have HC102_6 := Aside0.mk hl102_6
      clear hi102_6 hl102_6
      replace p102 := eq_true p102
      replace q102 := eq_true q102
      go_wp2_with (first | ((with_reducible refine gate_dst (N := 4) rfl ?_); refine box_event ?hg (N := 4) ?hd (cs := #[.slice none 0 0, .bool false, .slice none 0 0, .slice none 0 0, .slice none 0 0, .slice none 0 0, .slice none 0 0]) (t := 62) ?hr ?_; (case hd => rfl); (case hg => rfl); (case hr => first | (go_simp; done) | (go_simp; rfl)); intro gb103 hg w8 hbox hb; have n0_ := Aside0.mk (below_step z1_0 hb); have n1_ := Aside0.mk (hbox); have n2_ := Aside0.mk ((z1_2 : w.heap.size ≤ gb103)); have n3_ := Aside0.mk ((z1_2 : w.heap.size ≤ gb103)); clear HB; have HB := n0_; have BK103 := n1_; have GW103 := n2_; have GE103 := n3_; clear n0_ n1_ n2_ n3_; clear hb hbox hg; obtain ⟨hcz9_0, hcz9_1, hcz9_2, hcz9_3, hcz9_4, hcz9_5, hcz9_6⟩ := cz7x1 BK103.out; obtain ⟨hfz9_0, hfz9_1, hfz9_2, hfz9_3, hfz9_4, hfz9_5, hfz9_6⟩ := fz7x1 BK103.out) | ((with_reducible refine gate_callee (f := 43) rfl ?_); refine goesL_ (some 15) rfl rfl Try.func43 (by kernel_rfl) rfl #[.agg #[.slice A102_0 ((rd_T62 l0 x10_1).f0).length c102_0, .bool ((rd_T62 l0 x10_1).f1), .slice A102_2 ((rd_T62 l0 x10_1).f2).length c102_2, .slice A102_3 ((rd_T62 l0 x10_1).f3).length c102_3, .slice A102_4 ((rd_T62 l0 x10_1).f4).length c102_4, .slice A102_5 ((rd_T62 l0 x10_1).f5).length c102_5, .slice A102_6 ((rd_T62 l0 x10_1).f6).length c102_6]] rfl z1_6 ?_; (with_reducible refine (zG.calls _ _ ((rd_T62 l0 x10_1).f0) ((rd_T62 l0 x10_1).f1) _ _ ((rd_T62 l0 x10_1).f2) _ _ ((rd_T62 l0 x10_1).f3) _ _ ((rd_T62 l0 x10_1).f4) _ _ ((rd_T62 l0 x10_1).f5) _ _ ((rd_T62 l0 x10_1).f6) true _ ?side1 ?side2 ?side3 ?side4 ?side5 ?side6 ?side7 ?side8 ?side9 ?side10 ?side11 ?side12 A6.out).mono ?_); (case side1 => exact Kd.C_below HR102_0.out z1_0); (case side2 => exact HC102_0.out); (case side3 => exact Kd.C_below HR102_2.out z1_0); (case side4 => exact HC102_2.out); (case side5 => exact Kd.C_below HR102_3.out z1_0); (case side6 => exact HC102_3.out); (case side7 => exact Kd.C_below HR102_4.out z1_0); (case side8 => exact HC102_4.out); (case side9 => exact Kd.C_below HR102_5.out z1_0); (case side10 => exact HC102_5.out); (case side11 => exact Kd.C_below HR102_6.out z1_0); (case side12 => exact HC102_6.out); rintro e w10 ⟨rfl, hb⟩; refine ⟨_, rfl, ?_⟩; have n0_ := Aside0.mk (blk_below (g := gb103) (o := .cells #[.slice A102_0 ((rd_T62 l0 x10_1).f0).length c102_0, .bool ((rd_T62 l0 x10_1).f1), .slice A102_2 ((rd_T62 l0 x10_1).f2).length c102_2, .slice A102_3 ((rd_T62 l0 x10_1).f3).length c102_3, .slice A102_4 ((rd_T62 l0 x10_1).f4).length c102_4, .slice A102_5 ((rd_T62 l0 x10_1).f5).length c102_5, .slice A102_6 ((rd_T62 l0 x10_1).f6).length c102_6] 62 (0, 0)) z1_1 hb); have n1_ := Aside0.mk (below_step z1_0 hb); clear BK103; clear HB; have BK103 := n0_; have HB := n1_; clear n0_ n1_ hb; skip))
      go_roundg k1
      case measure => have := HK1.out; omega
      case rel => exact ⟨(wrap64 (x10_1 + 1)), z1_4, H', ⟨by have := HK1.out; omega⟩, ⟨z1_0⟩⟩
     ·replace c7 := Bool.eq_false_iff.mpr c7
      subst c7
      have H1 : (some false) = some r := by rw [if_neg (show ¬ (false = true) by decide)] at H; exact H
      clear H
      have H := H1
      clear H1
      obtain rfl := Option.some.inj H
      have p102 : 0 ≤ (x10_1 : Int) := of_decide_eq_true z1_3
      have q102 : x10_1 < (l0.length : Int) := of_decide_eq_true z1_3
      obtain ⟨ad102, A102_0, c102_0, A102_2, c102_2, A102_3, c102_3, A102_4, c102_4, A102_5, c102_5, A102_6, c102_6, e102, hx102_0, hx102_1, hx102_2, hx102_3, hx102_4, hx102_5, hx102_6, hl102_0, hi102_0, hl102_2, hi102_2, hl102_3, hi102_3, hl102_4, hi102_4, hl102_5, hi102_5, hl102_6, hi102_6⟩ := at_T62 HR0.out x10_1 p102 q102
      cases e102
      replace hx102_0 := (HB.out.cell (World.block_lt_of_cell? w _ hx102_0)).trans hx102_0
      replace hx102_1 := (HB.out.cell (World.block_lt_of_cell? w _ hx102_1)).trans hx102_1
      replace hx102_2 := (HB.out.cell (World.block_lt_of_cell? w _ hx102_2)).trans hx102_2
      replace hx102_3 := (HB.out.cell (World.block_lt_of_cell? w _ hx102_3)).trans hx102_3
      replace hx102_4 := (HB.out.cell (World.block_lt_of_cell? w _ hx102_4)).trans hx102_4
      replace hx102_5 := (HB.out.cell (World.block_lt_of_cell? w _ hx102_5)).trans hx102_5
      replace hx102_6 := (HB.out.cell (World.block_lt_of_cell? w _ hx102_6)).trans hx102_6
      have HR102_0 := Aside0.mk hi102_0
      have HC102_0 := Aside0.mk hl102_0
      clear hi102_0 hl102_0
      have HR102_2 := Aside0.mk hi102_2
      have HC102_2 := Aside0.mk hl102_2
      clear hi102_2 hl102_2
      have HR102_3 := Aside0.mk hi102_3
      have HC102_3 := Aside0.mk hl102_3
      clear hi102_3 hl102_3
      have HR102_4 := Aside0.mk hi102_4
      have HC102_4 := Aside0.mk hl102_4
      clear hi102_4 hl102_4
      have HR102_5 := Aside0.mk hi102_5
      have HC102_5 := Aside0.mk hl102_5
      clear hi102_5 hl102_5
      have HR102_6 := Aside0.mk hi102_6
      have HC102_6 := Aside0.mk hl102_6
      clear hi102_6 hl102_6
      replace p102 := eq_true p102
      replace q102 := eq_true q102
      go_wp2_with (first | ((with_reducible refine gate_dst (N := 4) rfl ?_); refine box_event ?hg (N := 4) ?hd (cs := #[.slice none 0 0, .bool false, .slice none 0 0, .slice none 0 0, .slice none 0 0, .slice none 0 0, .slice none 0 0]) (t := 62) ?hr ?_; (case hd => rfl); (case hg => rfl); (case hr => first | (go_simp; done) | (go_simp; rfl)); intro gb103 hg w11 hbox hb; have n0_ := Aside0.mk (below_step z1_0 hb); have n1_ := Aside0.mk (hbox); have n2_ := Aside0.mk ((z1_2 : w.heap.size ≤ gb103)); have n3_ := Aside0.mk ((z1_2 : w.heap.size ≤ gb103)); clear HB; have HB := n0_; have BK103 := n1_; have GW103 := n2_; have GE103 := n3_; clear n0_ n1_ n2_ n3_; clear hb hbox hg; obtain ⟨hcz12_0, hcz12_1, hcz12_2, hcz12_3, hcz12_4, hcz12_5, hcz12_6⟩ := cz7x1 BK103.out; obtain ⟨hfz12_0, hfz12_1, hfz12_2, hfz12_3, hfz12_4, hfz12_5, hfz12_6⟩ := fz7x1 BK103.out) | ((with_reducible refine gate_callee (f := 43) rfl ?_); refine goesL_ (some 15) rfl rfl Try.func43 (by kernel_rfl) rfl #[.agg #[.slice A102_0 ((rd_T62 l0 x10_1).f0).length c102_0, .bool ((rd_T62 l0 x10_1).f1), .slice A102_2 ((rd_T62 l0 x10_1).f2).length c102_2, .slice A102_3 ((rd_T62 l0 x10_1).f3).length c102_3, .slice A102_4 ((rd_T62 l0 x10_1).f4).length c102_4, .slice A102_5 ((rd_T62 l0 x10_1).f5).length c102_5, .slice A102_6 ((rd_T62 l0 x10_1).f6).length c102_6]] rfl z1_6 ?_; (with_reducible refine (zG.calls _ _ ((rd_T62 l0 x10_1).f0) ((rd_T62 l0 x10_1).f1) _ _ ((rd_T62 l0 x10_1).f2) _ _ ((rd_T62 l0 x10_1).f3) _ _ ((rd_T62 l0 x10_1).f4) _ _ ((rd_T62 l0 x10_1).f5) _ _ ((rd_T62 l0 x10_1).f6) false _ ?side1 ?side2 ?side3 ?side4 ?side5 ?side6 ?side7 ?side8 ?side9 ?side10 ?side11 ?side12 A6.out).mono ?_); (case side1 => exact Kd.C_below HR102_0.out z1_0); (case side2 => exact HC102_0.out); (case side3 => exact Kd.C_below HR102_2.out z1_0); (case side4 => exact HC102_2.out); (case side5 => exact Kd.C_below HR102_3.out z1_0); (case side6 => exact HC102_3.out); (case side7 => exact Kd.C_below HR102_4.out z1_0); (case side8 => exact HC102_4.out); (case side9 => exact Kd.C_below HR102_5.out z1_0); (case side10 => exact HC102_5.out); (case side11 => exact Kd.C_below HR102_6.out z1_0); (case side12 => exact HC102_6.out); rintro e w13 ⟨rfl, hb⟩; refine ⟨_, rfl, ?_⟩; have n0_ := Aside0.mk (blk_below (g := gb103) (o := .cells #[.slice A102_0 ((rd_T62 l0 x10_1).f0).length c102_0, .bool ((rd_T62 l0 x10_1).f1), .slice A102_2 ((rd_T62 l0 x10_1).f2).length c102_2, .slice A102_3 ((rd_T62 l0 x10_1).f3).length c102_3, .slice A102_4 ((rd_T62 l0 x10_1).f4).length c102_4, .slice A102_5 ((rd_T62 l0 x10_1).f5).length c102_5, .slice A102_6 ((rd_T62 l0 x10_1).f6).length c102_6] 62 (0, 0)) z1_1 hb); have n1_ := Aside0.mk (below_step z1_0 hb); clear BK103; clear HB; have BK103 := n0_; have HB := n1_; clear n0_ n1_ hb; skip))
      go_ret
      exact ⟨by first | rfl | (simp [errW_none, errW_some] <;> rfl) | (simp [*, errW_none, errW_some] <;> rfl), by repeat (first | (with_reducible first | exact HB.out | apply below_alloc | apply pw_below_drewN | apply below_drew1 | refine below_set ?_ GE101.out | refine below_set ?_ GE103.out) | exact HB.out)⟩
    ·rw [if_neg c3] at H
     have c3b0 : decide (x10_1 < (l0.length : Int)) = false := decide_eq_false c3
     clear c3
     obtain rfl := Option.some.inj H
     go_wp2
     go_ret
     exact ⟨by first | rfl | (simp [errW_none, errW_some] <;> rfl) | (simp [*, errW_none, errW_some] <;> rfl), by repeat (first | (with_reducible first | exact HB.out | apply below_alloc | apply pw_below_drewN | apply below_drew1 | refine below_set ?_ GE101.out | refine below_set ?_ GE103.out) | exact HB.out)⟩

mutual
def fRi.l0 : Nat → List Int → Int → List Int → Int → Int → Option (Bool)
 | 0, _, _, _, _, _ => none
 | k + 1, x0, x1, x7, x8, x9 => if x9 < x8 then (if 0 ≤ x9 then (if x9 < (x7.length : Int) then (if (rd x7 x9) < 0 then (fRi.j1 k x0 x1 x7 x8 x9 true) else (if (rd x7 x9) ≥ x1 then (fRi.j1 k x0 x1 x7 x8 x9 true) else (if x9 > 0 then (if 0 ≤ (wrap64 (x9 - 1)) then (if (wrap64 (x9 - 1)) < (x0.length : Int) then (fRi.j1 k x0 x1 x7 x8 x9 (decide ((rd x7 x9) ≤ (rd x0 (wrap64 (x9 - 1)))))) else (none)) else (none)) else (fRi.j1 k x0 x1 x7 x8 x9 false)))) else (none)) else (none)) else (some true)
def fRi.j1 : Nat → List Int → Int → List Int → Int → Int → Bool → Option (Bool)
 | 0, _, _, _, _, _, _ => none
 | k + 1, x0, x1, x7, x8, x9, x33 => if x33 = true then (some false) else (fRi.l0 k x0 x1 x7 x8 (wrap64 (x9 + 1)))
end
def fRi.f (k : Nat) (l0 : List Int) (a1 : Int) : Option (Bool) := fRi.l0 k l0 a1 l0 (l0.length : Int) 0
theorem fRi.mono_l : ∀ k, (∀ y0 y1 y2 y3 y4, LeO (fRi.l0 k y0 y1 y2 y3 y4) (fRi.l0 (k + 1) y0 y1 y2 y3 y4)) ∧ (∀ y0 y1 y2 y3 y4 y5, LeO (fRi.j1 k y0 y1 y2 y3 y4 y5) (fRi.j1 (k + 1) y0 y1 y2 y3 y4 y5))
 | 0 => ⟨fun _ _ _ _ _ r h => by simp [fRi.l0] at h, fun _ _ _ _ _ _ r h => by simp [fRi.j1] at h⟩
 | k + 1 => by
  obtain ⟨ih0, ih1⟩ := fRi.mono_l k
  refine ⟨?_, ?_⟩
  all_goals intros
  all_goals first | unfold fRi.l0 | unfold fRi.j1
  all_goals repeat' first
  | (with_reducible exact ih0 _ _ _ _ _)
  | (with_reducible exact ih1 _ _ _ _ _ _)
  | (with_reducible exact LeO.refl _)
  | (with_reducible exact LeO.none _)
  | (with_reducible refine LeO.ite ?_ ?_)
  | (with_reducible refine LeO.bind ?_ (fun _ => ?_))
theorem fRi.mono : ∀ a0 a1 k, LeO (fRi.f k a0 a1) (fRi.f (k + 1) a0 a1) := by
 intro a0 a1 k
 obtain ⟨ih0, ih1⟩ := fRi.mono_l k
 unfold fRi.f
 repeat' first
   | (with_reducible exact ih0 _ _ _ _ _)
   | (with_reducible exact ih1 _ _ _ _ _ _)
   | (with_reducible exact LeO.refl _)
   | (with_reducible exact LeO.none _)
   | (with_reducible refine LeO.ite ?_ ?_)
   | (with_reducible refine LeO.bind ?_ (fun _ => ?_))
set_option maxHeartbeats 8000000 in
set_option maxRecDepth 100000 in
theorem fRi.calls (k : Nat) (A0 : Option Addr) (c0 : Nat) (l0 : List Int) (a1 : Int) (r : Bool) (w : World) (hr0 : Kd.C (Kd.int .i64) w A0 l0.length l0) (hc0 : l0.length ≤ c0) (h : fRi.f k l0 a1 = some r) :
  Calls Try.prog 59 #[.slice A0 l0.length c0, .int .i64 a1] w fun e w' => e = .returned (.bool r) ∧ Drawn0 w w' := by
 have HR0 := Aside0.mk hr0
 have HC0 := Aside0.mk hc0
 clear hr0 hc0
 have H : (fRi.l0 k l0 a1 l0 (l0.length : Int) 0) = some r := h
 clear h
 have H' := Aside0.mk H
 clear H
 go_enter Try.func59, Try.ntmps59
 go_wp2
 go_loopg [9] k (fun kq v9 w' => ∃ (x9_1 : Int), v9 = .int .i64 x9_1 ∧ Aside0 (fRi.l0 kq l0 a1 l0 (l0.length : Int) x9_1 = some r) ∧ Aside0 (kq ≤ k) ∧ Drawn0 w w')
 case atStart => exact ⟨(0), z1_4, H', ⟨Nat.le_refl _⟩, by repeat (first | exact Drawn0.refl _ | apply Drawn0.step)⟩
 case round =>
  clear H'
  obtain ⟨x9_1, rfl, HA, HK1, ⟨m1, rfl⟩⟩ := hrel
  cases gk with
  | zero => exact absurd HA.out (by simp [fRi.l0])
  | succ k1 =>
   have H := HA.out
   clear HA
   simp only [fRi.l0] at H
   by_cases c3 : x9_1 < (l0.length : Int)
   ·rw [if_pos c3] at H
    have c3b0 : decide (x9_1 < (l0.length : Int)) = true := decide_eq_true c3
    clear c3
    by_cases c4 : 0 ≤ x9_1
    rotate_left
    ·rw [if_neg c4] at H
     exact absurd H (by simp)
    rw [if_pos c4] at H
    have c4b0 : decide (0 ≤ x9_1) = true := decide_eq_true c4
    clear c4
    by_cases c5 : x9_1 < (l0.length : Int)
    rotate_left
    ·rw [if_neg c5] at H
     exact absurd H (by simp)
    rw [if_pos c5] at H
    have c5b0 : decide (x9_1 < (l0.length : Int)) = true := decide_eq_true c5
    clear c5
    have HC6 := Aside0.mk H
    clear H
    have p105 : 0 ≤ (x9_1 : Int) := of_decide_eq_true z1_3
    have q105 : x9_1 < (l0.length : Int) := of_decide_eq_true z1_3
    obtain ⟨ad105, e105, hx105_0⟩ := Kd.at_int HR0.out x9_1 p105 q105
    cases e105
    replace p105 := eq_true p105
    replace q105 := eq_true q105
    go_upto_region 4 with (fail)
    go_cut [33] (fun v33 wc => ∃ (kq : Nat) (x33_5 : Bool), v33 = .bool x33_5 ∧ Aside0 (fRi.j1 kq l0 a1 l0 (l0.length : Int) x9_1 x33_5 = some r) ∧ Aside0 (kq ≤ k1) ∧ Drawn0 w wc)
    case first =>
     have H := HC6.out
     clear HC6
     by_cases c7 : (rd l0 x9_1) < 0
     ·rw [if_pos c7] at H
      have c7b0 : decide ((rd l0 x9_1) < 0) = true := decide_eq_true c7
      clear c7
      (first | rw [c7b0] | (simp only [i64_w, i32_w]; rw [c7b0]) | skip)
      have H' := Aside0.mk H
      clear H
      go_wp2
      go_meet
      case rel => exact ⟨_, (true), z1_4, H', ⟨z1_5⟩, by repeat (first | exact Drawn0.refl _ | apply Drawn0.step)⟩
     ·rw [if_neg c7] at H
      have c7b0 : decide ((rd l0 x9_1) < 0) = false := decide_eq_false c7
      clear c7
      (first | rw [c7b0] | (simp only [i64_w, i32_w]; rw [c7b0]) | skip)
      by_cases c8 : (rd l0 x9_1) ≥ a1
      ·rw [if_pos c8] at H
       have c8b0 : decide (a1 ≤ (rd l0 x9_1)) = true := decide_eq_true c8
       clear c8
       have H' := Aside0.mk H
       clear H
       go_wp2
       go_meet
       case rel => exact ⟨_, (true), z1_4, H', ⟨z1_5⟩, by repeat (first | exact Drawn0.refl _ | apply Drawn0.step)⟩
      ·rw [if_neg c8] at H
       have c8b0 : decide (a1 ≤ (rd l0 x9_1)) = false := decide_eq_false c8
       clear c8
       by_cases c9 : x9_1 > 0
       ·rw [if_pos c9] at H
        have c9b0 : decide (0 < x9_1) = true := decide_eq_true c9
        clear c9
        obtain ⟨ji10, hji10⟩ : ∃ j_ : Int, (wrap64 (x9_1 - 1)) = j_ := ⟨_, rfl⟩
        replace H : (if 0 ≤ (ji10) then (if (ji10) < (l0.length : Int) then (fRi.j1 k1 l0 a1 l0 (l0.length : Int) x9_1 (decide ((rd l0 x9_1) ≤ (rd l0 (ji10))))) else (none)) else (none)) = some r := by first | (rw [hji10] at H; exact H) | (simp only [hji10] at H ⊢; exact H)
        have hji10w : (IntKind.i64.wrap (x9_1 - 1)) = ji10 := (i64_w _).trans hji10
        by_cases c11 : 0 ≤ (ji10)
        rotate_left
        ·rw [if_neg c11] at H
         exact absurd H (by simp)
        rw [if_pos c11] at H
        have c11b0 : decide (0 ≤ (ji10)) = true := decide_eq_true c11
        clear c11
        by_cases c12 : (ji10) < (l0.length : Int)
        rotate_left
        ·rw [if_neg c12] at H
         exact absurd H (by simp)
        rw [if_pos c12] at H
        have c12b0 : decide ((ji10) < (l0.length : Int)) = true := decide_eq_true c12
        clear c12
        have H' := Aside0.mk H
        clear H
        have p106 : 0 ≤ ((ji10) : Int) := of_decide_eq_true z1_3
        have q106 : (ji10) < (l0.length : Int) := of_decide_eq_true z1_3
        obtain ⟨ad106, e106, hx106_0⟩ := Kd.at_int HR0.out (ji10) p106 q106
        obtain rfl : ad105 = ad106 := (by injection e106)
        replace p106 := eq_true p106
        replace q106 := eq_true q106
        go_wp2
        go_meet
        case rel => exact ⟨_, (decide ((rd l0 x9_1) ≤ (rd l0 (ji10)))), (by first | rfl | (simp; done) | (simp only [← hji10] <;> (first | rfl | simp)) | (simp [*]; done)), H', ⟨z1_5⟩, by repeat (first | exact Drawn0.refl _ | apply Drawn0.step)⟩
       ·rw [if_neg c9] at H
        have c9b0 : decide (0 < x9_1) = false := decide_eq_false c9
        clear c9
        have H' := Aside0.mk H
        clear H
        go_wp2
        go_meet
        case rel => exact ⟨_, (false), z1_4, H', ⟨z1_5⟩, by repeat (first | exact Drawn0.refl _ | apply Drawn0.step)⟩
    case rest =>
     clear HC6
     clear c3b0 c4b0 c5b0 hx105_0 p105 q105
     obtain ⟨kq, x33_5, rfl, HA, HJ5, ⟨mc5, rfl⟩⟩ := hcut
     cases kq with
     | zero => exact absurd HA.out (by simp [fRi.j1])
     | succ kj5 =>
      have H := HA.out
      clear HA
      simp only [fRi.j1] at H
      by_cases c13 : x33_5 = true
      ·subst c13
       have H1 : (some false) = some r := by rw [if_pos rfl] at H; exact H
       clear H
       have H := H1
       clear H1
       obtain rfl := Option.some.inj H
       go_wp2
       go_ret
       exact ⟨by first | rfl | (simp; done) | (simp [*]; done), by repeat (first | exact Drawn0.refl _ | apply Drawn0.step)⟩
      ·replace c13 := Bool.eq_false_iff.mpr c13
       subst c13
       have H1 : (fRi.l0 kj5 l0 a1 l0 (l0.length : Int) (wrap64 (x9_1 + 1))) = some r := by rw [if_neg (show ¬ (false = true) by decide)] at H; exact H
       clear H
       have H := H1
       clear H1
       have H' := Aside0.mk H
       clear H
       go_wp2
       go_roundg kj5
       case measure => have := HK1.out; have := HJ5.out; omega
       case rel => exact ⟨(wrap64 (x9_1 + 1)), z1_4, H', ⟨by have := HK1.out; have := HJ5.out; omega⟩, by repeat (first | exact Drawn0.refl _ | apply Drawn0.step)⟩
   ·rw [if_neg c3] at H
    have c3b0 : decide (x9_1 < (l0.length : Int)) = false := decide_eq_false c3
    clear c3
    obtain rfl := Option.some.inj H
    go_wp2
    go_ret
    exact ⟨by first | rfl | (simp; done) | (simp [*]; done), by repeat (first | exact Drawn0.refl _ | apply Drawn0.step)⟩

end Go.Proofs.Ytchkmmbedgolbaa.PFnTuplesOf

