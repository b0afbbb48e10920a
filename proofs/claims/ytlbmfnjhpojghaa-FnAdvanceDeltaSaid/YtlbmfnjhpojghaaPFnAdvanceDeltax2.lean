-- Written by a program of this session (xprint) out of the translation; Lean checks it.
import Derived.Test.YtlbmfnjhpojghaaPFnAdvanceDeltax0
import Derived.Test.YtlbmfnjhpojghaaPFnAdvanceDeltax1
namespace Go.Proofs.Ytlbmfnjhpojghaa.PFnAdvanceDelta
open Go.RowKit Go.Proofs.YtlbmfnjhpojghaaW.PrintWords Go.Proofs.YtlbmfnjhpojghaaW.PrintLast Go.Proofs.YtlbmfnjhpojghaaW.PrintMore
attribute [local go_sem] max2_int min2_int max_two min_two max_three min_three max_four min_four   -- for this text's walks alone
set_option linter.unusedVariables false
set_option linter.unusedSimpArgs false

attribute [local go_sem] f_add f_sub f_mul f_quo f_conv f_same f_int f_max
/-! ### spec_RegionAxis: function 30 -/
def spec_RegionAxis.f (l0 : List (S161)) (a1 : Int) : Option (Int × Int × Int) := if a1 ≥ (l0.length : Int) then (some (0, 0, 0)) else (if 0 ≤ a1 then (if a1 < (l0.length : Int) then ((spec_Coord.f ((rd_T161 l0 a1).f0)).bind fun t106 => ((spec_Coord.f ((rd_T161 l0 a1).f1)).bind fun t108 => ((spec_Coord.f ((rd_T161 l0 a1).f2)).bind fun t110 => (if t108 < 0 then (some (mn (mn (wrap64 (-(mx t106 (wrap64 (-t106))))) t108) (mn (mx (wrap64 (-(mx t106 (wrap64 (-t106))))) t108) (wrap64 (-(mx t110 (wrap64 (-t110)))))), mx (mn (wrap64 (-(mx t106 (wrap64 (-t106))))) t108) (mn (mx (wrap64 (-(mx t106 (wrap64 (-t106))))) t108) (wrap64 (-(mx t110 (wrap64 (-t110)))))), mx (mx (wrap64 (-(mx t106 (wrap64 (-t106))))) t108) (wrap64 (-(mx t110 (wrap64 (-t110))))))) else (some (mn (mn (mx t106 (wrap64 (-t106))) t108) (mn (mx (mx t106 (wrap64 (-t106))) t108) (mx t110 (wrap64 (-t110)))), mx (mn (mx t106 (wrap64 (-t106))) t108) (mn (mx (mx t106 (wrap64 (-t106))) t108) (mx t110 (wrap64 (-t110)))), mx (mx (mx t106 (wrap64 (-t106))) t108) (mx t110 (wrap64 (-t110))))))))) else (none)) else (none))
def spec_RegionAxis.T3 : Bool × List (List Nat × List Nat) := (true, [([], []), ([], []), ([0, 1], [0, 1]), ([2], [2]), ([3], [3]), ([4], [4]), ([], []), ([], []), ([6, 7], [6, 7]), ([8], [8]), ([9], [9]), ([10, 5], [10]), ([], []), ([], []), ([12, 13], [12, 13]), ([14], [14]), ([15], [15]), ([16, 11], [16]), ([5, 17, 0, 1, 2, 3, 4, 5], [5]), ([11, 18, 0, 1, 2, 3, 4, 5, 6, 7, 8, 9, 10, 11, 18], [11]), ([17, 19, 0, 1, 2, 3, 4, 5, 6, 7, 8, 9, 10, 11, 12, 13, 14, 15, 16, 17, 18, 19], [17])])
def spec_RegionAxis.B3 : List Nat := [0, 0, 3, 7, 15, 31, 0, 0, 192, 448, 960, 2047, 0, 0, 12288, 28672, 61440, 131071, 262143, 524287, 1048575]
theorem spec_RegionAxis.tab3 : rtab .any (opsOf Try.f30 3) = spec_RegionAxis.T3 := by kernel_rfl
theorem spec_RegionAxis.bits3 : waitsOk spec_RegionAxis.T3.2 spec_RegionAxis.B3 = true := by kernel_rfl
set_option maxHeartbeats 8000000 in
set_option maxRecDepth 100000 in
theorem spec_RegionAxis.calls (A0 : Option Addr) (c0 : Nat) (l0 : List (S161)) (a1 : Int) (r1 : Int) (r2 : Int) (r3 : Int) (w : World) (hr0 : Kd.C k161 w A0 l0.length l0) (hc0 : l0.length ≤ c0) (h : spec_RegionAxis.f l0 a1 = some (r1, r2, r3)) :
  Calls Try.prog 30 #[.slice A0 l0.length c0, .int .i64 a1] w fun e w' => e = .returned (.agg #[.int .i64 r1, .int .i64 r2, .int .i64 r3]) ∧ Below w.heap.size w w' := by
 have hu36 := Try.underlying36
 have HR0 := Aside0.mk hr0
 have HC0 := Aside0.mk hc0
 clear hr0 hc0
 have HB := Aside0.mk (Below.refl w.heap.size w)
 have H : (if a1 ≥ (l0.length : Int) then (some (0, 0, 0)) else (if 0 ≤ a1 then (if a1 < (l0.length : Int) then ((spec_Coord.f ((rd_T161 l0 a1).f0)).bind fun t106 => ((spec_Coord.f ((rd_T161 l0 a1).f1)).bind fun t108 => ((spec_Coord.f ((rd_T161 l0 a1).f2)).bind fun t110 => (if t108 < 0 then (some (mn (mn (wrap64 (-(mx t106 (wrap64 (-t106))))) t108) (mn (mx (wrap64 (-(mx t106 (wrap64 (-t106))))) t108) (wrap64 (-(mx t110 (wrap64 (-t110)))))), mx (mn (wrap64 (-(mx t106 (wrap64 (-t106))))) t108) (mn (mx (wrap64 (-(mx t106 (wrap64 (-t106))))) t108) (wrap64 (-(mx t110 (wrap64 (-t110)))))), mx (mx (wrap64 (-(mx t106 (wrap64 (-t106))))) t108) (wrap64 (-(mx t110 (wrap64 (-t110))))))) else (some (mn (mn (mx t106 (wrap64 (-t106))) t108) (mn (mx (mx t106 (wrap64 (-t106))) t108) (mx t110 (wrap64 (-t110)))), mx (mn (mx t106 (wrap64 (-t106))) t108) (mn (mx (mx t106 (wrap64 (-t106))) t108) (mx t110 (wrap64 (-t110)))), mx (mx (mx t106 (wrap64 (-t106))) t108) (mx t110 (wrap64 (-t110))))))))) else (none)) else (none))) = some (r1, r2, r3) := h
 clear h
 by_cases c3 : a1 ≥ (l0.length : Int)
 ·rw [if_pos c3] at H
  have c3b0 : decide ((l0.length : Int) ≤ a1) = true := decide_eq_true c3
  clear c3
  simp only [Option.some.injEq, Prod.mk.injEq] at H
  obtain ⟨rfl, rfl, rfl⟩ := H
  go_enter Try.func30, Try.ntmps30
  go_wp2_with (first | ((with_reducible refine gate_dst (N := 4) rfl ?_); refine box_event ?hg (N := 4) ?hd (cs := #[.int .i64 0, .int .i64 0, .int .i64 0]) (t := 36) ?hr ?_; (case hd => rfl); (case hg => rfl); (case hr => first | (go_simp; done) | (go_simp; rfl)); intro gb104 hg w4 hbox hb; have n0_ := Aside0.mk (below_step (by repeat (first | (with_reducible first | exact HB.out | apply below_alloc | apply pw_below_drewN | apply below_drew1) | exact HB.out)) hb); have n1_ := Aside0.mk (hbox); have n2_ := Aside0.mk ((by rw [hg]; exact (below_size (by repeat (first | (with_reducible first | exact HB.out | apply below_alloc | apply pw_below_drewN | apply below_drew1) | exact HB.out))) : w.heap.size ≤ gb104)); have n3_ := Aside0.mk ((by rw [hg]; exact (below_size (by repeat (first | (with_reducible first | exact HB.out | apply below_alloc | apply pw_below_drewN | apply below_drew1) | exact HB.out))) : w.heap.size ≤ gb104)); clear HB; have HB := n0_; have BK104 := n1_; have GW104 := n2_; have GE104 := n3_; clear n0_ n1_ n2_ n3_; clear hb hbox hg; have hcz5_0 : w4.cell? ⟨gb104, 0, none⟩ = some (.int .i64 0) := (blk_cell BK104.out 0).trans rfl; have hcz5_1 : w4.cell? ⟨gb104, 1, none⟩ = some (.int .i64 0) := (blk_cell BK104.out 1).trans rfl; have hcz5_2 : w4.cell? ⟨gb104, 2, none⟩ = some (.int .i64 0) := (blk_cell BK104.out 2).trans rfl; have hfz5_0 := blk_frozen BK104.out 0; have hfz5_1 := blk_frozen BK104.out 1; have hfz5_2 := blk_frozen BK104.out 2))
  refine bodyPost_ret (results_cell_row rfl _ _ gb104 36 #[.int .i64 0, .int .i64 0, .int .i64 0] (0, 0) _ rfl (by (with_reducible repeat (first | refine b1_ ?_ _ | refine b2_ ?_ | refine b3_ ?_ _)); refine blk_put (cs := #[.int .i64 0, .int .i64 0, .int .i64 0]) ?_ 2 _ rfl; (with_reducible repeat (first | refine b1_ ?_ _ | refine b2_ ?_ | refine b3_ ?_ _)); refine blk_put (cs := #[.int .i64 0, .int .i64 0, .int .i64 0]) ?_ 1 _ rfl; (with_reducible repeat (first | refine b1_ ?_ _ | refine b2_ ?_ | refine b3_ ?_ _)); refine blk_put (cs := #[.int .i64 0, .int .i64 0, .int .i64 0]) ?_ 0 _ rfl; (with_reducible repeat (first | refine b1_ ?_ _ | refine b2_ ?_ | refine b3_ ?_ _)); exact BK104.out) Try.underlying36 rfl (by kernel_rfl)) rfl ?_
  exact ⟨by first | rfl | (simp [errW_none, errW_some] <;> rfl) | (simp [*, errW_none, errW_some] <;> rfl), by repeat (first | (with_reducible first | exact HB.out | apply below_alloc | apply pw_below_drewN | apply below_drew1 | refine below_set ?_ GE104.out) | exact HB.out)⟩
 ·rw [if_neg c3] at H
  have c3b0 : decide ((l0.length : Int) ≤ a1) = false := decide_eq_false c3
  clear c3
  by_cases c6 : 0 ≤ a1
  ·rw [if_pos c6] at H
   have c6b0 : decide (0 ≤ a1) = true := decide_eq_true c6
   clear c6
   by_cases c7 : a1 < (l0.length : Int)
   ·rw [if_pos c7] at H
    have c7b0 : decide (a1 < (l0.length : Int)) = true := decide_eq_true c7
    clear c7
    replace H := Option.bind_eq_some_iff.mp H
    obtain ⟨t106, A80, H⟩ := H
    replace H : ((spec_Coord.f ((rd_T161 l0 a1).f1)).bind fun t108 => ((spec_Coord.f ((rd_T161 l0 a1).f2)).bind fun t110 => (if t108 < 0 then (some (mn (mn (wrap64 (-(mx t106 (wrap64 (-t106))))) t108) (mn (mx (wrap64 (-(mx t106 (wrap64 (-t106))))) t108) (wrap64 (-(mx t110 (wrap64 (-t110)))))), mx (mn (wrap64 (-(mx t106 (wrap64 (-t106))))) t108) (mn (mx (wrap64 (-(mx t106 (wrap64 (-t106))))) t108) (wrap64 (-(mx t110 (wrap64 (-t110)))))), mx (mx (wrap64 (-(mx t106 (wrap64 (-t106))))) t108) (wrap64 (-(mx t110 (wrap64 (-t110))))))) else (some (mn (mn (mx t106 (wrap64 (-t106))) t108) (mn (mx (mx t106 (wrap64 (-t106))) t108) (mx t110 (wrap64 (-t110)))), mx (mn (mx t106 (wrap64 (-t106))) t108) (mn (mx (mx t106 (wrap64 (-t106))) t108) (mx t110 (wrap64 (-t110)))), mx (mx (mx t106 (wrap64 (-t106))) t108) (mx t110 (wrap64 (-t110)))))))) = some (r1, r2, r3) := H
    have A8 := Aside0.mk A80
    clear A80
    replace H := Option.bind_eq_some_iff.mp H
    obtain ⟨t108, A90, H⟩ := H
    replace H : ((spec_Coord.f ((rd_T161 l0 a1).f2)).bind fun t110 => (if t108 < 0 then (some (mn (mn (wrap64 (-(mx t106 (wrap64 (-t106))))) t108) (mn (mx (wrap64 (-(mx t106 (wrap64 (-t106))))) t108) (wrap64 (-(mx t110 (wrap64 (-t110)))))), mx (mn (wrap64 (-(mx t106 (wrap64 (-t106))))) t108) (mn (mx (wrap64 (-(mx t106 (wrap64 (-t106))))) t108) (wrap64 (-(mx t110 (wrap64 (-t110)))))), mx (mx (wrap64 (-(mx t106 (wrap64 (-t106))))) t108) (wrap64 (-(mx t110 (wrap64 (-t110))))))) else (some (mn (mn (mx t106 (wrap64 (-t106))) t108) (mn (mx (mx t106 (wrap64 (-t106))) t108) (mx t110 (wrap64 (-t110)))), mx (mn (mx t106 (wrap64 (-t106))) t108) (mn (mx (mx t106 (wrap64 (-t106))) t108) (mx t110 (wrap64 (-t110)))), mx (mx (mx t106 (wrap64 (-t106))) t108) (mx t110 (wrap64 (-t110))))))) = some (r1, r2, r3) := H
    have A9 := Aside0.mk A90
    clear A90
    replace H := Option.bind_eq_some_iff.mp H
    obtain ⟨t110, A100, H⟩ := H
    replace H : (if t108 < 0 then (some (mn (mn (wrap64 (-(mx t106 (wrap64 (-t106))))) t108) (mn (mx (wrap64 (-(mx t106 (wrap64 (-t106))))) t108) (wrap64 (-(mx t110 (wrap64 (-t110)))))), mx (mn (wrap64 (-(mx t106 (wrap64 (-t106))))) t108) (mn (mx (wrap64 (-(mx t106 (wrap64 (-t106))))) t108) (wrap64 (-(mx t110 (wrap64 (-t110)))))), mx (mx (wrap64 (-(mx t106 (wrap64 (-t106))))) t108) (wrap64 (-(mx t110 (wrap64 (-t110))))))) else (some (mn (mn (mx t106 (wrap64 (-t106))) t108) (mn (mx (mx t106 (wrap64 (-t106))) t108) (mx t110 (wrap64 (-t110)))), mx (mn (mx t106 (wrap64 (-t106))) t108) (mn (mx (mx t106 (wrap64 (-t106))) t108) (mx t110 (wrap64 (-t110)))), mx (mx (mx t106 (wrap64 (-t106))) t108) (mx t110 (wrap64 (-t110)))))) = some (r1, r2, r3) := H
    have A10 := Aside0.mk A100
    clear A100
    by_cases c11 : t108 < 0
    ·rw [if_pos c11] at H
     have c11b0 : decide (t108 < 0) = true := decide_eq_true c11
     clear c11
     obtain ⟨ji12, hji12⟩ : ∃ j_ : Int, (mx t106 (wrap64 (-t106))) = j_ := ⟨_, rfl⟩
     replace H : (some (mn (mn (wrap64 (-(ji12))) t108) (mn (mx (wrap64 (-(ji12))) t108) (wrap64 (-(mx t110 (wrap64 (-t110)))))), mx (mn (wrap64 (-(ji12))) t108) (mn (mx (wrap64 (-(ji12))) t108) (wrap64 (-(mx t110 (wrap64 (-t110)))))), mx (mx (wrap64 (-(ji12))) t108) (wrap64 (-(mx t110 (wrap64 (-t110))))))) = some (r1, r2, r3) := by first | (rw [hji12] at H; exact H) | (simp only [hji12] at H ⊢; exact H)
     (try rw [hji12] at A8)
     (try rw [hji12] at A9)
     (try rw [hji12] at A10)
     have hji12_ : (if t106 < (wrap64 (-t106)) then (wrap64 (-t106)) else t106) = ji12 := hji12
     obtain ⟨ji13, hji13⟩ : ∃ j_ : Int, (mx t110 (wrap64 (-t110))) = j_ := ⟨_, rfl⟩
     replace H : (some (mn (mn (wrap64 (-(ji12))) t108) (mn (mx (wrap64 (-(ji12))) t108) (wrap64 (-(ji13)))), mx (mn (wrap64 (-(ji12))) t108) (mn (mx (wrap64 (-(ji12))) t108) (wrap64 (-(ji13)))), mx (mx (wrap64 (-(ji12))) t108) (wrap64 (-(ji13))))) = some (r1, r2, r3) := by first | (rw [hji13] at H; exact H) | (simp only [hji13] at H ⊢; exact H)
     (try rw [hji13] at A8)
     (try rw [hji13] at A9)
     (try rw [hji13] at A10)
     have hji13_ : (if t110 < (wrap64 (-t110)) then (wrap64 (-t110)) else t110) = ji13 := hji13
     obtain ⟨ji14, hji14⟩ : ∃ j_ : Int, (mn (wrap64 (-(ji12))) t108) = j_ := ⟨_, rfl⟩
     replace H : (some (mn (ji14) (mn (mx (wrap64 (-(ji12))) t108) (wrap64 (-(ji13)))), mx (ji14) (mn (mx (wrap64 (-(ji12))) t108) (wrap64 (-(ji13)))), mx (mx (wrap64 (-(ji12))) t108) (wrap64 (-(ji13))))) = some (r1, r2, r3) := by first | (rw [hji14] at H; exact H) | (simp only [hji14] at H ⊢; exact H)
     (try rw [hji14] at A8)
     (try rw [hji14] at A9)
     (try rw [hji14] at A10)
     have hji14_ : (if t108 < (wrap64 (-(ji12))) then t108 else (wrap64 (-(ji12)))) = ji14 := hji14
     obtain ⟨ji15, hji15⟩ : ∃ j_ : Int, (mx (wrap64 (-(ji12))) t108) = j_ := ⟨_, rfl⟩
     replace H : (some (mn (ji14) (mn (ji15) (wrap64 (-(ji13)))), mx (ji14) (mn (ji15) (wrap64 (-(ji13)))), mx (ji15) (wrap64 (-(ji13))))) = some (r1, r2, r3) := by first | (rw [hji15] at H; exact H) | (simp only [hji15] at H ⊢; exact H)
     (try rw [hji15] at A8)
     (try rw [hji15] at A9)
     (try rw [hji15] at A10)
     have hji15_ : (if (wrap64 (-(ji12))) < t108 then t108 else (wrap64 (-(ji12)))) = ji15 := hji15
     obtain ⟨ji16, hji16⟩ : ∃ j_ : Int, (mn (ji15) (wrap64 (-(ji13)))) = j_ := ⟨_, rfl⟩
     replace H : (some (mn (ji14) (ji16), mx (ji14) (ji16), mx (ji15) (wrap64 (-(ji13))))) = some (r1, r2, r3) := by first | (rw [hji16] at H; exact H) | (simp only [hji16] at H ⊢; exact H)
     (try rw [hji16] at A8)
     (try rw [hji16] at A9)
     (try rw [hji16] at A10)
     have hji16_ : (if (wrap64 (-(ji13))) < (ji15) then (wrap64 (-(ji13))) else (ji15)) = ji16 := hji16
     obtain ⟨ji17, hji17⟩ : ∃ j_ : Int, (mx (ji15) (wrap64 (-(ji13)))) = j_ := ⟨_, rfl⟩
     replace H : (some (mn (ji14) (ji16), mx (ji14) (ji16), ji17)) = some (r1, r2, r3) := by first | (rw [hji17] at H; exact H) | (simp only [hji17] at H ⊢; exact H)
     (try rw [hji17] at A8)
     (try rw [hji17] at A9)
     (try rw [hji17] at A10)
     have hji17_ : (if (ji15) < (wrap64 (-(ji13))) then (wrap64 (-(ji13))) else (ji15)) = ji17 := hji17
     obtain ⟨ji18, hji18⟩ : ∃ j_ : Int, (mn (ji14) (ji16)) = j_ := ⟨_, rfl⟩
     replace H : (some (ji18, mx (ji14) (ji16), ji17)) = some (r1, r2, r3) := by first | (rw [hji18] at H; exact H) | (simp only [hji18] at H ⊢; exact H)
     (try rw [hji18] at A8)
     (try rw [hji18] at A9)
     (try rw [hji18] at A10)
     have hji18_ : (if (ji16) < (ji14) then (ji16) else (ji14)) = ji18 := hji18
     obtain ⟨ji19, hji19⟩ : ∃ j_ : Int, (mx (ji14) (ji16)) = j_ := ⟨_, rfl⟩
     replace H : (some (ji18, ji19, ji17)) = some (r1, r2, r3) := by first | (rw [hji19] at H; exact H) | (simp only [hji19] at H ⊢; exact H)
     (try rw [hji19] at A8)
     (try rw [hji19] at A9)
     (try rw [hji19] at A10)
     have hji19_ : (if (ji14) < (ji16) then (ji16) else (ji14)) = ji19 := hji19
     simp only [Option.some.injEq, Prod.mk.injEq] at H
     obtain ⟨rfl, rfl, rfl⟩ := H
     go_enter Try.func30, Try.ntmps30
     try go_wp2_with (first | ((with_reducible refine gate_dst (N := 4) rfl ?_); refine box_event ?hg (N := 4) ?hd (cs := #[.int .i64 0, .int .i64 0, .int .i64 0]) (t := 36) ?hr ?_; (case hd => rfl); (case hg => rfl); (case hr => first | (go_simp; done) | (go_simp; rfl)); intro gb104 hg w20 hbox hb; have n0_ := Aside0.mk (below_step (by repeat (first | (with_reducible first | exact HB.out | apply below_alloc | apply pw_below_drewN | apply below_drew1) | exact HB.out)) hb); have n1_ := Aside0.mk (hbox); have n2_ := Aside0.mk ((by rw [hg]; exact (below_size (by repeat (first | (with_reducible first | exact HB.out | apply below_alloc | apply pw_below_drewN | apply below_drew1) | exact HB.out))) : w.heap.size ≤ gb104)); have n3_ := Aside0.mk ((by rw [hg]; exact (below_size (by repeat (first | (with_reducible first | exact HB.out | apply below_alloc | apply pw_below_drewN | apply below_drew1) | exact HB.out))) : w.heap.size ≤ gb104)); clear HB; have HB := n0_; have BK104 := n1_; have GW104 := n2_; have GE104 := n3_; clear n0_ n1_ n2_ n3_; clear hb hbox hg))
     have n0_ := Aside0.mk (blk_drew BK104.out)
     have n1_ := Aside0.mk (below_drew1 HB.out)
     clear BK104
     clear HB
     have BK104 := n0_
     have HB := n1_
     clear n0_ n1_
     have p105 : 0 ≤ (a1 : Int) := of_decide_eq_true (by first | (with_reducible assumption) | assumption)
     have q105 : a1 < (l0.length : Int) := of_decide_eq_true (by first | (with_reducible assumption) | assumption)
     obtain ⟨ad105, e105, hx105_0, hx105_1, hx105_2⟩ := at_T161 HR0.out a1 p105 q105
     have hw105_2 := hx105_2
     have hw105_1 := hx105_1
     have hw105_0 := hx105_0
     cases e105
     replace hx105_0 := (HB.out.cell (World.block_lt_of_cell? w _ hx105_0)).trans hx105_0
     replace hx105_1 := (HB.out.cell (World.block_lt_of_cell? w _ hx105_1)).trans hx105_1
     replace hx105_2 := (HB.out.cell (World.block_lt_of_cell? w _ hx105_2)).trans hx105_2
     replace p105 := eq_true p105
     replace q105 := eq_true q105
     have p107 : 0 ≤ (a1 : Int) := of_decide_eq_true (by first | (with_reducible assumption) | assumption)
     have q107 : a1 < (l0.length : Int) := of_decide_eq_true (by first | (with_reducible assumption) | assumption)
     obtain ⟨ad107, e107, hx107_0, hx107_1, hx107_2⟩ := at_T161 HR0.out a1 p107 q107
     have hw107_2 := hx107_2
     have hw107_1 := hx107_1
     have hw107_0 := hx107_0
     obtain rfl : ad105 = ad107 := (by injection e107)
     replace hx107_0 := (HB.out.cell (World.block_lt_of_cell? w _ hx107_0)).trans hx107_0
     replace hx107_1 := (HB.out.cell (World.block_lt_of_cell? w _ hx107_1)).trans hx107_1
     replace hx107_2 := (HB.out.cell (World.block_lt_of_cell? w _ hx107_2)).trans hx107_2
     replace p107 := eq_true p107
     replace q107 := eq_true q107
     have p109 : 0 ≤ (a1 : Int) := of_decide_eq_true (by first | (with_reducible assumption) | assumption)
     have q109 : a1 < (l0.length : Int) := of_decide_eq_true (by first | (with_reducible assumption) | assumption)
     obtain ⟨ad109, e109, hx109_0, hx109_1, hx109_2⟩ := at_T161 HR0.out a1 p109 q109
     have hw109_2 := hx109_2
     have hw109_1 := hx109_1
     have hw109_0 := hx109_0
     obtain rfl : ad105 = ad109 := (by injection e109)
     replace hx109_0 := (HB.out.cell (World.block_lt_of_cell? w _ hx109_0)).trans hx109_0
     replace hx109_1 := (HB.out.cell (World.block_lt_of_cell? w _ hx109_1)).trans hx109_1
     replace hx109_2 := (HB.out.cell (World.block_lt_of_cell? w _ hx109_2)).trans hx109_2
     replace p109 := eq_true p109
     replace q109 := eq_true q109
     refine start_ (n := 21) (S := fun w' => w'.cell? (ad105.add ((a1).toNat * 3)) = some (.int .i16 ((rd_T161 l0 a1).f0)) ∧ w'.cell? ⟨(ad105.add ((a1).toNat * 3)).block, (ad105.add ((a1).toNat * 3)).off + 1, none⟩ = some (.int .i16 ((rd_T161 l0 a1).f1)) ∧ w'.cell? ⟨(ad105.add ((a1).toNat * 3)).block, (ad105.add ((a1).toNat * 3)).off + 2, none⟩ = some (.int .i16 ((rd_T161 l0 a1).f2)) ∧ w'.cell? (ad105.add ((a1).toNat * 3)) = some (.int .i16 ((rd_T161 l0 a1).f0)) ∧ w'.cell? ⟨(ad105.add ((a1).toNat * 3)).block, (ad105.add ((a1).toNat * 3)).off + 1, none⟩ = some (.int .i16 ((rd_T161 l0 a1).f1)) ∧ w'.cell? ⟨(ad105.add ((a1).toNat * 3)).block, (ad105.add ((a1).toNat * 3)).off + 2, none⟩ = some (.int .i16 ((rd_T161 l0 a1).f2)) ∧ w'.cell? (ad105.add ((a1).toNat * 3)) = some (.int .i16 ((rd_T161 l0 a1).f0)) ∧ w'.cell? ⟨(ad105.add ((a1).toNat * 3)).block, (ad105.add ((a1).toNat * 3)).off + 1, none⟩ = some (.int .i16 ((rd_T161 l0 a1).f1)) ∧ w'.cell? ⟨(ad105.add ((a1).toNat * 3)).block, (ad105.add ((a1).toNat * 3)).off + 2, none⟩ = some (.int .i16 ((rd_T161 l0 a1).f2))) (ds := []) #[ff,ff,ff,ff,ff,ff,ff,ff,ff,ff,ff,ff,ff,ff,ff,ff,ff,ff,ff,ff,ff] (by kernel_rfl) rfl rfl ⟨((HB.out.cell (World.block_lt_of_cell? w _ hw105_0)).trans hw105_0), ((HB.out.cell (World.block_lt_of_cell? w _ hw105_1)).trans hw105_1), ((HB.out.cell (World.block_lt_of_cell? w _ hw105_2)).trans hw105_2), ((HB.out.cell (World.block_lt_of_cell? w _ hw107_0)).trans hw107_0), ((HB.out.cell (World.block_lt_of_cell? w _ hw107_1)).trans hw107_1), ((HB.out.cell (World.block_lt_of_cell? w _ hw107_2)).trans hw107_2), ((HB.out.cell (World.block_lt_of_cell? w _ hw109_0)).trans hw109_0), ((HB.out.cell (World.block_lt_of_cell? w _ hw109_1)).trans hw109_1), ((HB.out.cell (World.block_lt_of_cell? w _ hw109_2)).trans hw109_2)⟩ (fun hHeld => ?_); refine with_tabW spec_RegionAxis.tab3 spec_RegionAxis.bits3 (fun HT_ HW_ => ?_)
     generalize w20.drew = w21 at BK104 HB hx105_0 hx105_1 hx105_2 hx107_0 hx107_1 hx107_2 hx109_0 hx109_1 hx109_2 hHeld ⊢
     refine pure_ (i := 0) (N := some 13) (v := ?_) (a' := ?_) #[tt,ff,ff,ff,ff,ff,ff,ff,ff,ff,ff,ff,ff,ff,ff,ff,ff,ff,ff,ff,ff] rfl rfl (any_of HT_.out (by kernel_rfl)) (fun _ _ _ h => h) (Or.inl ⟨by rfl, ?_⟩) ?_ ?_
     rotate_left
     ·intro w'
      go_simp
      with_reducible rfl
     rotate_left
     ·simp only [Act.put, L1_, L2_, L3_, i64_w, i32_w]
      rfl
     refine pure_ (i := 1) (N := some 14) (v := ?_) (a' := ?_) #[tt,tt,ff,ff,ff,ff,ff,ff,ff,ff,ff,ff,ff,ff,ff,ff,ff,ff,ff,ff,ff] rfl rfl (any_of HT_.out (by kernel_rfl)) (fun _ _ _ h => h) (Or.inl ⟨by rfl, ?_⟩) ?_ ?_
     rotate_left
     ·intro w'
      go_simp
      with_reducible rfl
     rotate_left
     ·simp only [Act.put, L1_, L2_, L3_, i64_w, i32_w]
      rfl
     refine pure_ (i := 2) (N := some 15) (v := ?_) (a' := ?_) #[tt,tt,tt,ff,ff,ff,ff,ff,ff,ff,ff,ff,ff,ff,ff,ff,ff,ff,ff,ff,ff] rfl rfl (any_of HT_.out (by kernel_rfl)) (fun _ _ _ h => h) (Or.inl ⟨by rfl, ?_⟩) ?_ ?_
     rotate_left
     ·intro w'
      go_simp
      with_reducible rfl
     rotate_left
     ·simp only [Act.put, L1_, L2_, L3_, i64_w, i32_w]
      rfl
     refine pure_ (i := 3) (N := some 16) (v := ?_) (a' := ?_) #[tt,tt,tt,tt,ff,ff,ff,ff,ff,ff,ff,ff,ff,ff,ff,ff,ff,ff,ff,ff,ff] rfl rfl (any_of HT_.out (by kernel_rfl)) (fun _ _ _ h => h) (Or.inl ⟨by rfl, ?_⟩) ?_ ?_
     rotate_left
     ·intro w'
      go_simp
      with_reducible rfl
     rotate_left
     ·simp only [Act.put, L1_, L2_, L3_, i64_w, i32_w]
      rfl
     refine pure_ (i := 6) (N := some 19) (v := ?_) (a' := ?_) #[tt,tt,tt,tt,ff,ff,tt,ff,ff,ff,ff,ff,ff,ff,ff,ff,ff,ff,ff,ff,ff] rfl rfl (any_of HT_.out (by kernel_rfl)) (fun _ _ _ h => h) (Or.inl ⟨by rfl, ?_⟩) ?_ ?_
     rotate_left
     ·intro w'
      go_simp
      with_reducible rfl
     rotate_left
     ·simp only [Act.put, L1_, L2_, L3_, i64_w, i32_w]
      rfl
     refine pure_ (i := 7) (N := some 20) (v := ?_) (a' := ?_) #[tt,tt,tt,tt,ff,ff,tt,tt,ff,ff,ff,ff,ff,ff,ff,ff,ff,ff,ff,ff,ff] rfl rfl (any_of HT_.out (by kernel_rfl)) (fun _ _ _ h => h) (Or.inl ⟨by rfl, ?_⟩) ?_ ?_
     rotate_left
     ·intro w'
      go_simp
      with_reducible rfl
     rotate_left
     ·simp only [Act.put, L1_, L2_, L3_, i64_w, i32_w]
      rfl
     refine pure_ (i := 8) (N := some 21) (v := ?_) (a' := ?_) #[tt,tt,tt,tt,ff,ff,tt,tt,tt,ff,ff,ff,ff,ff,ff,ff,ff,ff,ff,ff,ff] rfl rfl (any_of HT_.out (by kernel_rfl)) (fun _ _ _ h => h) (Or.inl ⟨by rfl, ?_⟩) ?_ ?_
     rotate_left
     ·intro w'
      go_simp
      with_reducible rfl
     rotate_left
     ·simp only [Act.put, L1_, L2_, L3_, i64_w, i32_w]
      rfl
     refine pure_ (i := 9) (N := some 22) (v := ?_) (a' := ?_) #[tt,tt,tt,tt,ff,ff,tt,tt,tt,tt,ff,ff,ff,ff,ff,ff,ff,ff,ff,ff,ff] rfl rfl (any_of HT_.out (by kernel_rfl)) (fun _ _ _ h => h) (Or.inl ⟨by rfl, ?_⟩) ?_ ?_
     rotate_left
     ·intro w'
      go_simp
      with_reducible rfl
     rotate_left
     ·simp only [Act.put, L1_, L2_, L3_, i64_w, i32_w]
      rfl
     refine pure_ (i := 12) (N := some 25) (v := ?_) (a' := ?_) #[tt,tt,tt,tt,ff,ff,tt,tt,tt,tt,ff,ff,tt,ff,ff,ff,ff,ff,ff,ff,ff] rfl rfl (any_of HT_.out (by kernel_rfl)) (fun _ _ _ h => h) (Or.inl ⟨by rfl, ?_⟩) ?_ ?_
     rotate_left
     ·intro w'
      go_simp
      with_reducible rfl
     rotate_left
     ·simp only [Act.put, L1_, L2_, L3_, i64_w, i32_w]
      rfl
     refine pure_ (i := 13) (N := some 26) (v := ?_) (a' := ?_) #[tt,tt,tt,tt,ff,ff,tt,tt,tt,tt,ff,ff,tt,tt,ff,ff,ff,ff,ff,ff,ff] rfl rfl (any_of HT_.out (by kernel_rfl)) (fun _ _ _ h => h) (Or.inl ⟨by rfl, ?_⟩) ?_ ?_
     rotate_left
     ·intro w'
      go_simp
      with_reducible rfl
     rotate_left
     ·simp only [Act.put, L1_, L2_, L3_, i64_w, i32_w]
      rfl
     refine pure_ (i := 14) (N := some 27) (v := ?_) (a' := ?_) #[tt,tt,tt,tt,ff,ff,tt,tt,tt,tt,ff,ff,tt,tt,tt,ff,ff,ff,ff,ff,ff] rfl rfl (any_of HT_.out (by kernel_rfl)) (fun _ _ _ h => h) (Or.inl ⟨by rfl, ?_⟩) ?_ ?_
     rotate_left
     ·intro w'
      go_simp
      with_reducible rfl
     rotate_left
     ·simp only [Act.put, L1_, L2_, L3_, i64_w, i32_w]
      rfl
     refine pure_ (i := 15) (N := some 28) (v := ?_) (a' := ?_) #[tt,tt,tt,tt,ff,ff,tt,tt,tt,tt,ff,ff,tt,tt,tt,tt,ff,ff,ff,ff,ff] rfl rfl (any_of HT_.out (by kernel_rfl)) (fun _ _ _ h => h) (Or.inl ⟨by rfl, ?_⟩) ?_ ?_
     rotate_left
     ·intro w'
      go_simp
      with_reducible rfl
     rotate_left
     ·simp only [Act.put, L1_, L2_, L3_, i64_w, i32_w]
      rfl
     refine take_ (i := 4) (N := some 17) (v := ?_) (a' := ?_) #[tt,tt,tt,tt,tt,ff,tt,tt,tt,tt,ff,ff,tt,tt,tt,tt,ff,ff,ff,ff,ff] rfl rfl (take_ofW HT_.out HW_.out (by kernel_rfl)) (fun _ _ _ h => h) (Or.inl ⟨by rfl, ?_⟩) hHeld ?_ ?_
     rotate_left
     ·rintro w' ⟨s0, s1, s2, s3, s4, s5, s6, s7, s8⟩
      go_simp
      with_reducible rfl
     rotate_left
     ·simp only [Act.put, L1_, L2_, L3_, i64_w, i32_w]
      rfl
     refine take_ (i := 10) (N := some 23) (v := ?_) (a' := ?_) #[tt,tt,tt,tt,tt,ff,tt,tt,tt,tt,tt,ff,tt,tt,tt,tt,ff,ff,ff,ff,ff] rfl rfl (take_ofW HT_.out HW_.out (by kernel_rfl)) (fun _ _ _ h => h) (Or.inl ⟨by rfl, ?_⟩) hHeld ?_ ?_
     rotate_left
     ·rintro w' ⟨s0, s1, s2, s3, s4, s5, s6, s7, s8⟩
      go_simp
      with_reducible rfl
     rotate_left
     ·simp only [Act.put, L1_, L2_, L3_, i64_w, i32_w]
      rfl
     refine take_ (i := 16) (N := some 29) (v := ?_) (a' := ?_) #[tt,tt,tt,tt,tt,ff,tt,tt,tt,tt,tt,ff,tt,tt,tt,tt,tt,ff,ff,ff,ff] rfl rfl (take_ofW HT_.out HW_.out (by kernel_rfl)) (fun _ _ _ h => h) (Or.inl ⟨by rfl, ?_⟩) hHeld ?_ ?_
     rotate_left
     ·rintro w' ⟨s0, s1, s2, s3, s4, s5, s6, s7, s8⟩
      go_simp
      with_reducible rfl
     rotate_left
     ·simp only [Act.put, L1_, L2_, L3_, i64_w, i32_w]
      rfl
     refine one_ (i := 5) (N := some 18) #[tt,tt,tt,tt,tt,tt,tt,tt,tt,tt,tt,ff,tt,tt,tt,tt,tt,ff,ff,ff,ff] rfl rfl (one_of HT_.out (by kernel_rfl)) (by decide) (fun K hK => ?_)
     refine goes_ Try.func32 (by kernel_rfl) rfl #[.int .i16 ((rd_T161 l0 a1).f0)] (by rfl) rfl rfl (by (try simp only [List.map_toArray, List.map_cons, List.map_nil]); first | done | rfl | (simp only [List.length_drop, List.length_take]; rfl)) ?_
     with_reducible refine (spec_Coord.calls ((rd_T161 l0 a1).f0) t106 _ A8.out).mono ?_
     rintro e w22 ⟨rfl, hb⟩
     refine ⟨_, rfl, ?_⟩
     have n0_ := Aside0.mk (blk_below (g := gb104) (o := .cells #[.int .i64 0, .int .i64 0, .int .i64 0] 36 (0, 0)) (by (with_reducible repeat (first | refine b1_ ?_ _ | refine b2_ ?_ | refine b3_ ?_ _)); exact BK104.out) hb)
     have n1_ := Aside0.mk (below_step (by repeat (first | (with_reducible first | exact HB.out | apply below_alloc | apply pw_below_drewN | apply below_drew1 | refine below_set ?_ GE104.out) | exact HB.out)) hb)
     clear BK104
     clear HB
     have BK104 := n0_
     have HB := n1_
     clear n0_ n1_
     (try clear hb)
     (try clear hb2)
     (try clear hk)
     (try clear hi)
     refine hK.out _ _ ⟨((HB.out.cell (World.block_lt_of_cell? w _ hw105_0)).trans hw105_0), ((HB.out.cell (World.block_lt_of_cell? w _ hw105_1)).trans hw105_1), ((HB.out.cell (World.block_lt_of_cell? w _ hw105_2)).trans hw105_2), ((HB.out.cell (World.block_lt_of_cell? w _ hw107_0)).trans hw107_0), ((HB.out.cell (World.block_lt_of_cell? w _ hw107_1)).trans hw107_1), ((HB.out.cell (World.block_lt_of_cell? w _ hw107_2)).trans hw107_2), ((HB.out.cell (World.block_lt_of_cell? w _ hw109_0)).trans hw109_0), ((HB.out.cell (World.block_lt_of_cell? w _ hw109_1)).trans hw109_1), ((HB.out.cell (World.block_lt_of_cell? w _ hw109_2)).trans hw109_2)⟩ (fun hHeld => ?_)
     clear hK K
     refine norm_ (a' := ?_) ?_ ?_
     rotate_left
     ·show Act.put _ (some 18) _ = _
      simp only [Act.put, L1_, L2_, L3_, i64_w, i32_w]
      rfl
     refine one_ (i := 11) (N := some 24) #[tt,tt,tt,tt,tt,tt,tt,tt,tt,tt,tt,tt,tt,tt,tt,tt,tt,ff,ff,ff,ff] rfl rfl (one_of HT_.out (by kernel_rfl)) (by decide) (fun K hK => ?_)
     refine goes_ Try.func32 (by kernel_rfl) rfl #[.int .i16 ((rd_T161 l0 a1).f1)] (by rfl) rfl rfl (by (try simp only [List.map_toArray, List.map_cons, List.map_nil]); first | done | rfl | (simp only [List.length_drop, List.length_take]; rfl)) ?_
     with_reducible refine (spec_Coord.calls ((rd_T161 l0 a1).f1) t108 _ A9.out).mono ?_
     rintro e w23 ⟨rfl, hb⟩
     refine ⟨_, rfl, ?_⟩
     have n0_ := Aside0.mk (blk_below (g := gb104) (o := .cells #[.int .i64 0, .int .i64 0, .int .i64 0] 36 (0, 0)) (by (with_reducible repeat (first | refine b1_ ?_ _ | refine b2_ ?_ | refine b3_ ?_ _)); exact BK104.out) hb)
     have n1_ := Aside0.mk (below_step (by repeat (first | (with_reducible first | exact HB.out | apply below_alloc | apply pw_below_drewN | apply below_drew1 | refine below_set ?_ GE104.out) | exact HB.out)) hb)
     clear BK104
     clear HB
     have BK104 := n0_
     have HB := n1_
     clear n0_ n1_
     (try clear hb)
     (try clear hb2)
     (try clear hk)
     (try clear hi)
     refine hK.out _ _ ⟨((HB.out.cell (World.block_lt_of_cell? w _ hw105_0)).trans hw105_0), ((HB.out.cell (World.block_lt_of_cell? w _ hw105_1)).trans hw105_1), ((HB.out.cell (World.block_lt_of_cell? w _ hw105_2)).trans hw105_2), ((HB.out.cell (World.block_lt_of_cell? w _ hw107_0)).trans hw107_0), ((HB.out.cell (World.block_lt_of_cell? w _ hw107_1)).trans hw107_1), ((HB.out.cell (World.block_lt_of_cell? w _ hw107_2)).trans hw107_2), ((HB.out.cell (World.block_lt_of_cell? w _ hw109_0)).trans hw109_0), ((HB.out.cell (World.block_lt_of_cell? w _ hw109_1)).trans hw109_1), ((HB.out.cell (World.block_lt_of_cell? w _ hw109_2)).trans hw109_2)⟩ (fun hHeld => ?_)
     clear hK K
     refine norm_ (a' := ?_) ?_ ?_
     rotate_left
     ·show Act.put _ (some 24) _ = _
      simp only [Act.put, L1_, L2_, L3_, i64_w, i32_w]
      rfl
     refine one_ (i := 17) (N := some 30) #[tt,tt,tt,tt,tt,tt,tt,tt,tt,tt,tt,tt,tt,tt,tt,tt,tt,tt,ff,ff,ff] rfl rfl (one_of HT_.out (by kernel_rfl)) (by decide) (fun K hK => ?_)
     refine goes_ Try.func32 (by kernel_rfl) rfl #[.int .i16 ((rd_T161 l0 a1).f2)] (by rfl) rfl rfl (by (try simp only [List.map_toArray, List.map_cons, List.map_nil]); first | done | rfl | (simp only [List.length_drop, List.length_take]; rfl)) ?_
     with_reducible refine (spec_Coord.calls ((rd_T161 l0 a1).f2) t110 _ A10.out).mono ?_
     rintro e w24 ⟨rfl, hb⟩
     refine ⟨_, rfl, ?_⟩
     have n0_ := Aside0.mk (blk_below (g := gb104) (o := .cells #[.int .i64 0, .int .i64 0, .int .i64 0] 36 (0, 0)) (by (with_reducible repeat (first | refine b1_ ?_ _ | refine b2_ ?_ | refine b3_ ?_ _)); exact BK104.out) hb)
     have n1_ := Aside0.mk (below_step (by repeat (first | (with_reducible first | exact HB.out | apply below_alloc | apply pw_below_drewN | apply below_drew1 | refine below_set ?_ GE104.out) | exact HB.out)) hb)
     clear BK104
     clear HB
     have BK104 := n0_
     have HB := n1_
     clear n0_ n1_
     (try clear hb)
     (try clear hb2)
     (try clear hk)
     (try clear hi)
     refine hK.out _ _ ⟨((HB.out.cell (World.block_lt_of_cell? w _ hw105_0)).trans hw105_0), ((HB.out.cell (World.block_lt_of_cell? w _ hw105_1)).trans hw105_1), ((HB.out.cell (World.block_lt_of_cell? w _ hw105_2)).trans hw105_2), ((HB.out.cell (World.block_lt_of_cell? w _ hw107_0)).trans hw107_0), ((HB.out.cell (World.block_lt_of_cell? w _ hw107_1)).trans hw107_1), ((HB.out.cell (World.block_lt_of_cell? w _ hw107_2)).trans hw107_2), ((HB.out.cell (World.block_lt_of_cell? w _ hw109_0)).trans hw109_0), ((HB.out.cell (World.block_lt_of_cell? w _ hw109_1)).trans hw109_1), ((HB.out.cell (World.block_lt_of_cell? w _ hw109_2)).trans hw109_2)⟩ (fun hHeld => ?_)
     clear hK K
     refine norm_ (a' := ?_) ?_ ?_
     rotate_left
     ·show Act.put _ (some 30) _ = _
      simp only [Act.put, L1_, L2_, L3_, i64_w, i32_w]
      rfl
     refine pure_ (i := 18) (N := some 5) (v := ?_) (a' := ?_) #[tt,tt,tt,tt,tt,tt,tt,tt,tt,tt,tt,tt,tt,tt,tt,tt,tt,tt,tt,ff,ff] rfl rfl (any_of HT_.out (by kernel_rfl)) (fun _ _ _ h => h) (Or.inl ⟨by rfl, ?_⟩) ?_ ?_
     rotate_left
     ·intro w'
      go_simp
      with_reducible rfl
     rotate_left
     ·simp only [Act.put, L1_, L2_, L3_, i64_w, i32_w]
      rfl
     refine pure_ (i := 19) (N := some 6) (v := ?_) (a' := ?_) #[tt,tt,tt,tt,tt,tt,tt,tt,tt,tt,tt,tt,tt,tt,tt,tt,tt,tt,tt,tt,ff] rfl rfl (any_of HT_.out (by kernel_rfl)) (fun _ _ _ h => h) (Or.inl ⟨by rfl, ?_⟩) ?_ ?_
     rotate_left
     ·intro w'
      go_simp
      with_reducible rfl
     rotate_left
     ·simp only [Act.put, L1_, L2_, L3_, i64_w, i32_w]
      rfl
     refine pure_ (i := 20) (N := some 7) (v := ?_) (a' := ?_) #[tt,tt,tt,tt,tt,tt,tt,tt,tt,tt,tt,tt,tt,tt,tt,tt,tt,tt,tt,tt,tt] rfl rfl (any_of HT_.out (by kernel_rfl)) (fun _ _ _ h => h) (Or.inl ⟨by rfl, ?_⟩) ?_ ?_
     rotate_left
     ·intro w'
      go_simp
      with_reducible rfl
     rotate_left
     ·simp only [Act.put, L1_, L2_, L3_, i64_w, i32_w]
      rfl
     refine done_ (done_of HT_.out (by kernel_rfl)) ?_
     have hcz25_0 : w24.cell? ⟨gb104, 0, none⟩ = some (.int .i64 0) := (blk_cell BK104.out 0).trans rfl
     have hcz25_1 : w24.cell? ⟨gb104, 1, none⟩ = some (.int .i64 0) := (blk_cell BK104.out 1).trans rfl
     have hcz25_2 : w24.cell? ⟨gb104, 2, none⟩ = some (.int .i64 0) := (blk_cell BK104.out 2).trans rfl
     have hfz25_0 := blk_frozen BK104.out 0
     have hfz25_1 := blk_frozen BK104.out 1
     have hfz25_2 := blk_frozen BK104.out 2
     try go_wp2
     refine bodyPost_ret (results_cell_row rfl _ _ gb104 36 #[.int .i64 ji18, .int .i64 ji19, .int .i64 ji17] (0, 0) _ rfl (by (with_reducible repeat (first | refine b1_ ?_ _ | refine b2_ ?_ | refine b3_ ?_ _)); refine blk_put (cs := #[.int .i64 ji18, .int .i64 ji19, .int .i64 0]) ?_ 2 _ rfl; (with_reducible repeat (first | refine b1_ ?_ _ | refine b2_ ?_ | refine b3_ ?_ _)); refine blk_put (cs := #[.int .i64 ji18, .int .i64 0, .int .i64 0]) ?_ 1 _ rfl; (with_reducible repeat (first | refine b1_ ?_ _ | refine b2_ ?_ | refine b3_ ?_ _)); refine blk_put (cs := #[.int .i64 0, .int .i64 0, .int .i64 0]) ?_ 0 _ rfl; (with_reducible repeat (first | refine b1_ ?_ _ | refine b2_ ?_ | refine b3_ ?_ _)); exact BK104.out) Try.underlying36 rfl (by kernel_rfl)) rfl ?_
     exact ⟨by first | rfl | (simp [errW_none, errW_some] <;> rfl) | (simp only [← hji12, ← hji13, ← hji14, ← hji15, ← hji16, ← hji17, ← hji18, ← hji19]; first | rfl | (simp [errW_none, errW_some] <;> rfl)) | (simp [*, errW_none, errW_some] <;> rfl), by repeat (first | (with_reducible first | exact HB.out | apply below_alloc | apply pw_below_drewN | apply below_drew1 | refine below_set ?_ GE104.out) | exact HB.out)⟩
    ·rw [if_neg c11] at H
     have c11b0 : decide (t108 < 0) = false := decide_eq_false c11
     clear c11
     obtain ⟨ji26, hji26⟩ : ∃ j_ : Int, (mx t106 (wrap64 (-t106))) = j_ := ⟨_, rfl⟩
     replace H : (some (mn (mn (ji26) t108) (mn (mx (ji26) t108) (mx t110 (wrap64 (-t110)))), mx (mn (ji26) t108) (mn (mx (ji26) t108) (mx t110 (wrap64 (-t110)))), mx (mx (ji26) t108) (mx t110 (wrap64 (-t110))))) = some (r1, r2, r3) := by first | (rw [hji26] at H; exact H) | (simp only [hji26] at H ⊢; exact H)
     (try rw [hji26] at A8)
     (try rw [hji26] at A9)
     (try rw [hji26] at A10)
     have hji26_ : (if t106 < (wrap64 (-t106)) then (wrap64 (-t106)) else t106) = ji26 := hji26
     obtain ⟨ji27, hji27⟩ : ∃ j_ : Int, (mx t110 (wrap64 (-t110))) = j_ := ⟨_, rfl⟩
     replace H : (some (mn (mn (ji26) t108) (mn (mx (ji26) t108) (ji27)), mx (mn (ji26) t108) (mn (mx (ji26) t108) (ji27)), mx (mx (ji26) t108) (ji27))) = some (r1, r2, r3) := by first | (rw [hji27] at H; exact H) | (simp only [hji27] at H ⊢; exact H)
     (try rw [hji27] at A8)
     (try rw [hji27] at A9)
     (try rw [hji27] at A10)
     have hji27_ : (if t110 < (wrap64 (-t110)) then (wrap64 (-t110)) else t110) = ji27 := hji27
     obtain ⟨ji28, hji28⟩ : ∃ j_ : Int, (mn (ji26) t108) = j_ := ⟨_, rfl⟩
     replace H : (some (mn (ji28) (mn (mx (ji26) t108) (ji27)), mx (ji28) (mn (mx (ji26) t108) (ji27)), mx (mx (ji26) t108) (ji27))) = some (r1, r2, r3) := by first | (rw [hji28] at H; exact H) | (simp only [hji28] at H ⊢; exact H)
     (try rw [hji28] at A8)
     (try rw [hji28] at A9)
     (try rw [hji28] at A10)
     have hji28_ : (if t108 < (ji26) then t108 else (ji26)) = ji28 := hji28
     obtain ⟨ji29, hji29⟩ : ∃ j_ : Int, (mx (ji26) t108) = j_ := ⟨_, rfl⟩
     replace H : (some (mn (ji28) (mn (ji29) (ji27)), mx (ji28) (mn (ji29) (ji27)), mx (ji29) (ji27))) = some (r1, r2, r3) := by first | (rw [hji29] at H; exact H) | (simp only [hji29] at H ⊢; exact H)
     (try rw [hji29] at A8)
     (try rw [hji29] at A9)
     (try rw [hji29] at A10)
     have hji29_ : (if (ji26) < t108 then t108 else (ji26)) = ji29 := hji29
     obtain ⟨ji30, hji30⟩ : ∃ j_ : Int, (mn (ji29) (ji27)) = j_ := ⟨_, rfl⟩
     replace H : (some (mn (ji28) (ji30), mx (ji28) (ji30), mx (ji29) (ji27))) = some (r1, r2, r3) := by first | (rw [hji30] at H; exact H) | (simp only [hji30] at H ⊢; exact H)
     (try rw [hji30] at A8)
     (try rw [hji30] at A9)
     (try rw [hji30] at A10)
     have hji30_ : (if (ji27) < (ji29) then (ji27) else (ji29)) = ji30 := hji30
     obtain ⟨ji31, hji31⟩ : ∃ j_ : Int, (mx (ji29) (ji27)) = j_ := ⟨_, rfl⟩
     replace H : (some (mn (ji28) (ji30), mx (ji28) (ji30), ji31)) = some (r1, r2, r3) := by first | (rw [hji31] at H; exact H) | (simp only [hji31] at H ⊢; exact H)
     (try rw [hji31] at A8)
     (try rw [hji31] at A9)
     (try rw [hji31] at A10)
     have hji31_ : (if (ji29) < (ji27) then (ji27) else (ji29)) = ji31 := hji31
     obtain ⟨ji32, hji32⟩ : ∃ j_ : Int, (mn (ji28) (ji30)) = j_ := ⟨_, rfl⟩
     replace H : (some (ji32, mx (ji28) (ji30), ji31)) = some (r1, r2, r3) := by first | (rw [hji32] at H; exact H) | (simp only [hji32] at H ⊢; exact H)
     (try rw [hji32] at A8)
     (try rw [hji32] at A9)
     (try rw [hji32] at A10)
     have hji32_ : (if (ji30) < (ji28) then (ji30) else (ji28)) = ji32 := hji32
     obtain ⟨ji33, hji33⟩ : ∃ j_ : Int, (mx (ji28) (ji30)) = j_ := ⟨_, rfl⟩
     replace H : (some (ji32, ji33, ji31)) = some (r1, r2, r3) := by first | (rw [hji33] at H; exact H) | (simp only [hji33] at H ⊢; exact H)
     (try rw [hji33] at A8)
     (try rw [hji33] at A9)
     (try rw [hji33] at A10)
     have hji33_ : (if (ji28) < (ji30) then (ji30) else (ji28)) = ji33 := hji33
     simp only [Option.some.injEq, Prod.mk.injEq] at H
     obtain ⟨rfl, rfl, rfl⟩ := H
     go_enter Try.func30, Try.ntmps30
     try go_wp2_with (first | ((with_reducible refine gate_dst (N := 4) rfl ?_); refine box_event ?hg (N := 4) ?hd (cs := #[.int .i64 0, .int .i64 0, .int .i64 0]) (t := 36) ?hr ?_; (case hd => rfl); (case hg => rfl); (case hr => first | (go_simp; done) | (go_simp; rfl)); intro gb104 hg w34 hbox hb; have n0_ := Aside0.mk (below_step (by repeat (first | (with_reducible first | exact HB.out | apply below_alloc | apply pw_below_drewN | apply below_drew1) | exact HB.out)) hb); have n1_ := Aside0.mk (hbox); have n2_ := Aside0.mk ((by rw [hg]; exact (below_size (by repeat (first | (with_reducible first | exact HB.out | apply below_alloc | apply pw_below_drewN | apply below_drew1) | exact HB.out))) : w.heap.size ≤ gb104)); have n3_ := Aside0.mk ((by rw [hg]; exact (below_size (by repeat (first | (with_reducible first | exact HB.out | apply below_alloc | apply pw_below_drewN | apply below_drew1) | exact HB.out))) : w.heap.size ≤ gb104)); clear HB; have HB := n0_; have BK104 := n1_; have GW104 := n2_; have GE104 := n3_; clear n0_ n1_ n2_ n3_; clear hb hbox hg))
     have n0_ := Aside0.mk (blk_drew BK104.out)
     have n1_ := Aside0.mk (below_drew1 HB.out)
     clear BK104
     clear HB
     have BK104 := n0_
     have HB := n1_
     clear n0_ n1_
     have p105 : 0 ≤ (a1 : Int) := of_decide_eq_true (by first | (with_reducible assumption) | assumption)
     have q105 : a1 < (l0.length : Int) := of_decide_eq_true (by first | (with_reducible assumption) | assumption)
     obtain ⟨ad105, e105, hx105_0, hx105_1, hx105_2⟩ := at_T161 HR0.out a1 p105 q105
     have hw105_2 := hx105_2
     have hw105_1 := hx105_1
     have hw105_0 := hx105_0
     cases e105
     replace hx105_0 := (HB.out.cell (World.block_lt_of_cell? w _ hx105_0)).trans hx105_0
     replace hx105_1 := (HB.out.cell (World.block_lt_of_cell? w _ hx105_1)).trans hx105_1
     replace hx105_2 := (HB.out.cell (World.block_lt_of_cell? w _ hx105_2)).trans hx105_2
     replace p105 := eq_true p105
     replace q105 := eq_true q105
     have p107 : 0 ≤ (a1 : Int) := of_decide_eq_true (by first | (with_reducible assumption) | assumption)
     have q107 : a1 < (l0.length : Int) := of_decide_eq_true (by first | (with_reducible assumption) | assumption)
     obtain ⟨ad107, e107, hx107_0, hx107_1, hx107_2⟩ := at_T161 HR0.out a1 p107 q107
     have hw107_2 := hx107_2
     have hw107_1 := hx107_1
     have hw107_0 := hx107_0
     obtain rfl : ad105 = ad107 := (by injection e107)
     replace hx107_0 := (HB.out.cell (World.block_lt_of_cell? w _ hx107_0)).trans hx107_0
     replace hx107_1 := (HB.out.cell (World.block_lt_of_cell? w _ hx107_1)).trans hx107_1
     replace hx107_2 := (HB.out.cell (World.block_lt_of_cell? w _ hx107_2)).trans hx107_2
     replace p107 := eq_true p107
     replace q107 := eq_true q107
     have p109 : 0 ≤ (a1 : Int) := of_decide_eq_true (by first | (with_reducible assumption) | assumption)
     have q109 : a1 < (l0.length : Int) := of_decide_eq_true (by first | (with_reducible assumption) | assumption)
     obtain ⟨ad109, e109, hx109_0, hx109_1, hx109_2⟩ := at_T161 HR0.out a1 p109 q109
     have hw109_2 := hx109_2
     have hw109_1 := hx109_1
     have hw109_0 := hx109_0
     obtain rfl : ad105 = ad109 := (by injection e109)
     replace hx109_0 := (HB.out.cell (World.block_lt_of_cell? w _ hx109_0)).trans hx109_0
     replace hx109_1 := (HB.out.cell (World.block_lt_of_cell? w _ hx109_1)).trans hx109_1
     replace hx109_2 := (HB.out.cell (World.block_lt_of_cell? w _ hx109_2)).trans hx109_2
     replace p109 := eq_true p109
     replace q109 := eq_true q109
     refine start_ (n := 21) (S := fun w' => w'.cell? (ad105.add ((a1).toNat * 3)) = some (.int .i16 ((rd_T161 l0 a1).f0)) ∧ w'.cell? ⟨(ad105.add ((a1).toNat * 3)).block, (ad105.add ((a1).toNat * 3)).off + 1, none⟩ = some (.int .i16 ((rd_T161 l0 a1).f1)) ∧ w'.cell? ⟨(ad105.add ((a1).toNat * 3)).block, (ad105.add ((a1).toNat * 3)).off + 2, none⟩ = some (.int .i16 ((rd_T161 l0 a1).f2)) ∧ w'.cell? (ad105.add ((a1).toNat * 3)) = some (.int .i16 ((rd_T161 l0 a1).f0)) ∧ w'.cell? ⟨(ad105.add ((a1).toNat * 3)).block, (ad105.add ((a1).toNat * 3)).off + 1, none⟩ = some (.int .i16 ((rd_T161 l0 a1).f1)) ∧ w'.cell? ⟨(ad105.add ((a1).toNat * 3)).block, (ad105.add ((a1).toNat * 3)).off + 2, none⟩ = some (.int .i16 ((rd_T161 l0 a1).f2)) ∧ w'.cell? (ad105.add ((a1).toNat * 3)) = some (.int .i16 ((rd_T161 l0 a1).f0)) ∧ w'.cell? ⟨(ad105.add ((a1).toNat * 3)).block, (ad105.add ((a1).toNat * 3)).off + 1, none⟩ = some (.int .i16 ((rd_T161 l0 a1).f1)) ∧ w'.cell? ⟨(ad105.add ((a1).toNat * 3)).block, (ad105.add ((a1).toNat * 3)).off + 2, none⟩ = some (.int .i16 ((rd_T161 l0 a1).f2))) (ds := []) #[ff,ff,ff,ff,ff,ff,ff,ff,ff,ff,ff,ff,ff,ff,ff,ff,ff,ff,ff,ff,ff] (by kernel_rfl) rfl rfl ⟨((HB.out.cell (World.block_lt_of_cell? w _ hw105_0)).trans hw105_0), ((HB.out.cell (World.block_lt_of_cell? w _ hw105_1)).trans hw105_1), ((HB.out.cell (World.block_lt_of_cell? w _ hw105_2)).trans hw105_2), ((HB.out.cell (World.block_lt_of_cell? w _ hw107_0)).trans hw107_0), ((HB.out.cell (World.block_lt_of_cell? w _ hw107_1)).trans hw107_1), ((HB.out.cell (World.block_lt_of_cell? w _ hw107_2)).trans hw107_2), ((HB.out.cell (World.block_lt_of_cell? w _ hw109_0)).trans hw109_0), ((HB.out.cell (World.block_lt_of_cell? w _ hw109_1)).trans hw109_1), ((HB.out.cell (World.block_lt_of_cell? w _ hw109_2)).trans hw109_2)⟩ (fun hHeld => ?_); refine with_tabW spec_RegionAxis.tab3 spec_RegionAxis.bits3 (fun HT_ HW_ => ?_)
     generalize w34.drew = w35 at BK104 HB hx105_0 hx105_1 hx105_2 hx107_0 hx107_1 hx107_2 hx109_0 hx109_1 hx109_2 hHeld ⊢
     refine pure_ (i := 0) (N := some 13) (v := ?_) (a' := ?_) #[tt,ff,ff,ff,ff,ff,ff,ff,ff,ff,ff,ff,ff,ff,ff,ff,ff,ff,ff,ff,ff] rfl rfl (any_of HT_.out (by kernel_rfl)) (fun _ _ _ h => h) (Or.inl ⟨by rfl, ?_⟩) ?_ ?_
     rotate_left
     ·intro w'
      go_simp
      with_reducible rfl
     rotate_left
     ·simp only [Act.put, L1_, L2_, L3_, i64_w, i32_w]
      rfl
     refine pure_ (i := 1) (N := some 14) (v := ?_) (a' := ?_) #[tt,tt,ff,ff,ff,ff,ff,ff,ff,ff,ff,ff,ff,ff,ff,ff,ff,ff,ff,ff,ff] rfl rfl (any_of HT_.out (by kernel_rfl)) (fun _ _ _ h => h) (Or.inl ⟨by rfl, ?_⟩) ?_ ?_
     rotate_left
     ·intro w'
      go_simp
      with_reducible rfl
     rotate_left
     ·simp only [Act.put, L1_, L2_, L3_, i64_w, i32_w]
      rfl
     refine pure_ (i := 2) (N := some 15) (v := ?_) (a' := ?_) #[tt,tt,tt,ff,ff,ff,ff,ff,ff,ff,ff,ff,ff,ff,ff,ff,ff,ff,ff,ff,ff] rfl rfl (any_of HT_.out (by kernel_rfl)) (fun _ _ _ h => h) (Or.inl ⟨by rfl, ?_⟩) ?_ ?_
     rotate_left
     ·intro w'
      go_simp
      with_reducible rfl
     rotate_left
     ·simp only [Act.put, L1_, L2_, L3_, i64_w, i32_w]
      rfl
     refine pure_ (i := 3) (N := some 16) (v := ?_) (a' := ?_) #[tt,tt,tt,tt,ff,ff,ff,ff,ff,ff,ff,ff,ff,ff,ff,ff,ff,ff,ff,ff,ff] rfl rfl (any_of HT_.out (by kernel_rfl)) (fun _ _ _ h => h) (Or.inl ⟨by rfl, ?_⟩) ?_ ?_
     rotate_left
     ·intro w'
      go_simp
      with_reducible rfl
     rotate_left
     ·simp only [Act.put, L1_, L2_, L3_, i64_w, i32_w]
      rfl
     refine pure_ (i := 6) (N := some 19) (v := ?_) (a' := ?_) #[tt,tt,tt,tt,ff,ff,tt,ff,ff,ff,ff,ff,ff,ff,ff,ff,ff,ff,ff,ff,ff] rfl rfl (any_of HT_.out (by kernel_rfl)) (fun _ _ _ h => h) (Or.inl ⟨by rfl, ?_⟩) ?_ ?_
     rotate_left
     ·intro w'
      go_simp
      with_reducible rfl
     rotate_left
     ·simp only [Act.put, L1_, L2_, L3_, i64_w, i32_w]
      rfl
     refine pure_ (i := 7) (N := some 20) (v := ?_) (a' := ?_) #[tt,tt,tt,tt,ff,ff,tt,tt,ff,ff,ff,ff,ff,ff,ff,ff,ff,ff,ff,ff,ff] rfl rfl (any_of HT_.out (by kernel_rfl)) (fun _ _ _ h => h) (Or.inl ⟨by rfl, ?_⟩) ?_ ?_
     rotate_left
     ·intro w'
      go_simp
      with_reducible rfl
     rotate_left
     ·simp only [Act.put, L1_, L2_, L3_, i64_w, i32_w]
      rfl
     refine pure_ (i := 8) (N := some 21) (v := ?_) (a' := ?_) #[tt,tt,tt,tt,ff,ff,tt,tt,tt,ff,ff,ff,ff,ff,ff,ff,ff,ff,ff,ff,ff] rfl rfl (any_of HT_.out (by kernel_rfl)) (fun _ _ _ h => h) (Or.inl ⟨by rfl, ?_⟩) ?_ ?_
     rotate_left
     ·intro w'
      go_simp
      with_reducible rfl
     rotate_left
     ·simp only [Act.put, L1_, L2_, L3_, i64_w, i32_w]
      rfl
     refine pure_ (i := 9) (N := some 22) (v := ?_) (a' := ?_) #[tt,tt,tt,tt,ff,ff,tt,tt,tt,tt,ff,ff,ff,ff,ff,ff,ff,ff,ff,ff,ff] rfl rfl (any_of HT_.out (by kernel_rfl)) (fun _ _ _ h => h) (Or.inl ⟨by rfl, ?_⟩) ?_ ?_
     rotate_left
     ·intro w'
      go_simp
      with_reducible rfl
     rotate_left
     ·simp only [Act.put, L1_, L2_, L3_, i64_w, i32_w]
      rfl
     refine pure_ (i := 12) (N := some 25) (v := ?_) (a' := ?_) #[tt,tt,tt,tt,ff,ff,tt,tt,tt,tt,ff,ff,tt,ff,ff,ff,ff,ff,ff,ff,ff] rfl rfl (any_of HT_.out (by kernel_rfl)) (fun _ _ _ h => h) (Or.inl ⟨by rfl, ?_⟩) ?_ ?_
     rotate_left
     ·intro w'
      go_simp
      with_reducible rfl
     rotate_left
     ·simp only [Act.put, L1_, L2_, L3_, i64_w, i32_w]
      rfl
     refine pure_ (i := 13) (N := some 26) (v := ?_) (a' := ?_) #[tt,tt,tt,tt,ff,ff,tt,tt,tt,tt,ff,ff,tt,tt,ff,ff,ff,ff,ff,ff,ff] rfl rfl (any_of HT_.out (by kernel_rfl)) (fun _ _ _ h => h) (Or.inl ⟨by rfl, ?_⟩) ?_ ?_
     rotate_left
     ·intro w'
      go_simp
      with_reducible rfl
     rotate_left
     ·simp only [Act.put, L1_, L2_, L3_, i64_w, i32_w]
      rfl
     refine pure_ (i := 14) (N := some 27) (v := ?_) (a' := ?_) #[tt,tt,tt,tt,ff,ff,tt,tt,tt,tt,ff,ff,tt,tt,tt,ff,ff,ff,ff,ff,ff] rfl rfl (any_of HT_.out (by kernel_rfl)) (fun _ _ _ h => h) (Or.inl ⟨by rfl, ?_⟩) ?_ ?_
     rotate_left
     ·intro w'
      go_simp
      with_reducible rfl
     rotate_left
     ·simp only [Act.put, L1_, L2_, L3_, i64_w, i32_w]
      rfl
     refine pure_ (i := 15) (N := some 28) (v := ?_) (a' := ?_) #[tt,tt,tt,tt,ff,ff,tt,tt,tt,tt,ff,ff,tt,tt,tt,tt,ff,ff,ff,ff,ff] rfl rfl (any_of HT_.out (by kernel_rfl)) (fun _ _ _ h => h) (Or.inl ⟨by rfl, ?_⟩) ?_ ?_
     rotate_left
     ·intro w'
      go_simp
      with_reducible rfl
     rotate_left
     ·simp only [Act.put, L1_, L2_, L3_, i64_w, i32_w]
      rfl
     refine take_ (i := 4) (N := some 17) (v := ?_) (a' := ?_) #[tt,tt,tt,tt,tt,ff,tt,tt,tt,tt,ff,ff,tt,tt,tt,tt,ff,ff,ff,ff,ff] rfl rfl (take_ofW HT_.out HW_.out (by kernel_rfl)) (fun _ _ _ h => h) (Or.inl ⟨by rfl, ?_⟩) hHeld ?_ ?_
     rotate_left
     ·rintro w' ⟨s0, s1, s2, s3, s4, s5, s6, s7, s8⟩
      go_simp
      with_reducible rfl
     rotate_left
     ·simp only [Act.put, L1_, L2_, L3_, i64_w, i32_w]
      rfl
     refine take_ (i := 10) (N := some 23) (v := ?_) (a' := ?_) #[tt,tt,tt,tt,tt,ff,tt,tt,tt,tt,tt,ff,tt,tt,tt,tt,ff,ff,ff,ff,ff] rfl rfl (take_ofW HT_.out HW_.out (by kernel_rfl)) (fun _ _ _ h => h) (Or.inl ⟨by rfl, ?_⟩) hHeld ?_ ?_
     rotate_left
     ·rintro w' ⟨s0, s1, s2, s3, s4, s5, s6, s7, s8⟩
      go_simp
      with_reducible rfl
     rotate_left
     ·simp only [Act.put, L1_, L2_, L3_, i64_w, i32_w]
      rfl
     refine take_ (i := 16) (N := some 29) (v := ?_) (a' := ?_) #[tt,tt,tt,tt,tt,ff,tt,tt,tt,tt,tt,ff,tt,tt,tt,tt,tt,ff,ff,ff,ff] rfl rfl (take_ofW HT_.out HW_.out (by kernel_rfl)) (fun _ _ _ h => h) (Or.inl ⟨by rfl, ?_⟩) hHeld ?_ ?_
     rotate_left
     ·rintro w' ⟨s0, s1, s2, s3, s4, s5, s6, s7, s8⟩
      go_simp
      with_reducible rfl
     rotate_left
     ·simp only [Act.put, L1_, L2_, L3_, i64_w, i32_w]
      rfl
     refine one_ (i := 5) (N := some 18) #[tt,tt,tt,tt,tt,tt,tt,tt,tt,tt,tt,ff,tt,tt,tt,tt,tt,ff,ff,ff,ff] rfl rfl (one_of HT_.out (by kernel_rfl)) (by decide) (fun K hK => ?_)
     refine goes_ Try.func32 (by kernel_rfl) rfl #[.int .i16 ((rd_T161 l0 a1).f0)] (by rfl) rfl rfl (by (try simp only [List.map_toArray, List.map_cons, List.map_nil]); first | done | rfl | (simp only [List.length_drop, List.length_take]; rfl)) ?_
     with_reducible refine (spec_Coord.calls ((rd_T161 l0 a1).f0) t106 _ A8.out).mono ?_
     rintro e w36 ⟨rfl, hb⟩
     refine ⟨_, rfl, ?_⟩
     have n0_ := Aside0.mk (blk_below (g := gb104) (o := .cells #[.int .i64 0, .int .i64 0, .int .i64 0] 36 (0, 0)) (by (with_reducible repeat (first | refine b1_ ?_ _ | refine b2_ ?_ | refine b3_ ?_ _)); exact BK104.out) hb)
     have n1_ := Aside0.mk (below_step (by repeat (first | (with_reducible first | exact HB.out | apply below_alloc | apply pw_below_drewN | apply below_drew1 | refine below_set ?_ GE104.out) | exact HB.out)) hb)
     clear BK104
     clear HB
     have BK104 := n0_
     have HB := n1_
     clear n0_ n1_
     (try clear hb)
     (try clear hb2)
     (try clear hk)
     (try clear hi)
     refine hK.out _ _ ⟨((HB.out.cell (World.block_lt_of_cell? w _ hw105_0)).trans hw105_0), ((HB.out.cell (World.block_lt_of_cell? w _ hw105_1)).trans hw105_1), ((HB.out.cell (World.block_lt_of_cell? w _ hw105_2)).trans hw105_2), ((HB.out.cell (World.block_lt_of_cell? w _ hw107_0)).trans hw107_0), ((HB.out.cell (World.block_lt_of_cell? w _ hw107_1)).trans hw107_1), ((HB.out.cell (World.block_lt_of_cell? w _ hw107_2)).trans hw107_2), ((HB.out.cell (World.block_lt_of_cell? w _ hw109_0)).trans hw109_0), ((HB.out.cell (World.block_lt_of_cell? w _ hw109_1)).trans hw109_1), ((HB.out.cell (World.block_lt_of_cell? w _ hw109_2)).trans hw109_2)⟩ (fun hHeld => ?_)
     clear hK K
     refine norm_ (a' := ?_) ?_ ?_
     rotate_left
     ·show Act.put _ (some 18) _ = _
      simp only [Act.put, L1_, L2_, L3_, i64_w, i32_w]
      rfl
     refine one_ (i := 11) (N := some 24) #[tt,tt,tt,tt,tt,tt,tt,tt,tt,tt,tt,tt,tt,tt,tt,tt,tt,ff,ff,ff,ff] rfl rfl (one_of HT_.out (by kernel_rfl)) (by decide) (fun K hK => ?_)
     refine goes_ Try.func32 (by kernel_rfl) rfl #[.int .i16 ((rd_T161 l0 a1).f1)] (by rfl) rfl rfl (by (try simp only [List.map_toArray, List.map_cons, List.map_nil]); first | done | rfl | (simp only [List.length_drop, List.length_take]; rfl)) ?_
     with_reducible refine (spec_Coord.calls ((rd_T161 l0 a1).f1) t108 _ A9.out).mono ?_
     rintro e w37 ⟨rfl, hb⟩
     refine ⟨_, rfl, ?_⟩
     have n0_ := Aside0.mk (blk_below (g := gb104) (o := .cells #[.int .i64 0, .int .i64 0, .int .i64 0] 36 (0, 0)) (by (with_reducible repeat (first | refine b1_ ?_ _ | refine b2_ ?_ | refine b3_ ?_ _)); exact BK104.out) hb)
     have n1_ := Aside0.mk (below_step (by repeat (first | (with_reducible first | exact HB.out | apply below_alloc | apply pw_below_drewN | apply below_drew1 | refine below_set ?_ GE104.out) | exact HB.out)) hb)
     clear BK104
     clear HB
     have BK104 := n0_
     have HB := n1_
     clear n0_ n1_
     (try clear hb)
     (try clear hb2)
     (try clear hk)
     (try clear hi)
     refine hK.out _ _ ⟨((HB.out.cell (World.block_lt_of_cell? w _ hw105_0)).trans hw105_0), ((HB.out.cell (World.block_lt_of_cell? w _ hw105_1)).trans hw105_1), ((HB.out.cell (World.block_lt_of_cell? w _ hw105_2)).trans hw105_2), ((HB.out.cell (World.block_lt_of_cell? w _ hw107_0)).trans hw107_0), ((HB.out.cell (World.block_lt_of_cell? w _ hw107_1)).trans hw107_1), ((HB.out.cell (World.block_lt_of_cell? w _ hw107_2)).trans hw107_2), ((HB.out.cell (World.block_lt_of_cell? w _ hw109_0)).trans hw109_0), ((HB.out.cell (World.block_lt_of_cell? w _ hw109_1)).trans hw109_1), ((HB.out.cell (World.block_lt_of_cell? w _ hw109_2)).trans hw109_2)⟩ (fun hHeld => ?_)
     clear hK K
     refine norm_ (a' := ?_) ?_ ?_
     rotate_left
     ·show Act.put _ (some 24) _ = _
      simp only [Act.put, L1_, L2_, L3_, i64_w, i32_w]
      rfl
     refine one_ (i := 17) (N := some 30) #[tt,tt,tt,tt,tt,tt,tt,tt,tt,tt,tt,tt,tt,tt,tt,tt,tt,tt,ff,ff,ff] rfl rfl (one_of HT_.out (by kernel_rfl)) (by decide) (fun K hK => ?_)
     refine goes_ Try.func32 (by kernel_rfl) rfl #[.int .i16 ((rd_T161 l0 a1).f2)] (by rfl) rfl rfl (by (try simp only [List.map_toArray, List.map_cons, List.map_nil]); first | done | rfl | (simp only [List.length_drop, List.length_take]; rfl)) ?_
     with_reducible refine (spec_Coord.calls ((rd_T161 l0 a1).f2) t110 _ A10.out).mono ?_
     rintro e w38 ⟨rfl, hb⟩
     refine ⟨_, rfl, ?_⟩
     have n0_ := Aside0.mk (blk_below (g := gb104) (o := .cells #[.int .i64 0, .int .i64 0, .int .i64 0] 36 (0, 0)) (by (with_reducible repeat (first | refine b1_ ?_ _ | refine b2_ ?_ | refine b3_ ?_ _)); exact BK104.out) hb)
     have n1_ := Aside0.mk (below_step (by repeat (first | (with_reducible first | exact HB.out | apply below_alloc | apply pw_below_drewN | apply below_drew1 | refine below_set ?_ GE104.out) | exact HB.out)) hb)
     clear BK104
     clear HB
     have BK104 := n0_
     have HB := n1_
     clear n0_ n1_
     (try clear hb)
     (try clear hb2)
     (try clear hk)
     (try clear hi)
     refine hK.out _ _ ⟨((HB.out.cell (World.block_lt_of_cell? w _ hw105_0)).trans hw105_0), ((HB.out.cell (World.block_lt_of_cell? w _ hw105_1)).trans hw105_1), ((HB.out.cell (World.block_lt_of_cell? w _ hw105_2)).trans hw105_2), ((HB.out.cell (World.block_lt_of_cell? w _ hw107_0)).trans hw107_0), ((HB.out.cell (World.block_lt_of_cell? w _ hw107_1)).trans hw107_1), ((HB.out.cell (World.block_lt_of_cell? w _ hw107_2)).trans hw107_2), ((HB.out.cell (World.block_lt_of_cell? w _ hw109_0)).trans hw109_0), ((HB.out.cell (World.block_lt_of_cell? w _ hw109_1)).trans hw109_1), ((HB.out.cell (World.block_lt_of_cell? w _ hw109_2)).trans hw109_2)⟩ (fun hHeld => ?_)
     clear hK K
     refine norm_ (a' := ?_) ?_ ?_
     rotate_left
     ·show Act.put _ (some 30) _ = _
      simp only [Act.put, L1_, L2_, L3_, i64_w, i32_w]
      rfl
     refine pure_ (i := 18) (N := some 5) (v := ?_) (a' := ?_) #[tt,tt,tt,tt,tt,tt,tt,tt,tt,tt,tt,tt,tt,tt,tt,tt,tt,tt,tt,ff,ff] rfl rfl (any_of HT_.out (by kernel_rfl)) (fun _ _ _ h => h) (Or.inl ⟨by rfl, ?_⟩) ?_ ?_
     rotate_left
     ·intro w'
      go_simp
      with_reducible rfl
     rotate_left
     ·simp only [Act.put, L1_, L2_, L3_, i64_w, i32_w]
      rfl
     refine pure_ (i := 19) (N := some 6) (v := ?_) (a' := ?_) #[tt,tt,tt,tt,tt,tt,tt,tt,tt,tt,tt,tt,tt,tt,tt,tt,tt,tt,tt,tt,ff] rfl rfl (any_of HT_.out (by kernel_rfl)) (fun _ _ _ h => h) (Or.inl ⟨by rfl, ?_⟩) ?_ ?_
     rotate_left
     ·intro w'
      go_simp
      with_reducible rfl
     rotate_left
     ·simp only [Act.put, L1_, L2_, L3_, i64_w, i32_w]
      rfl
     refine pure_ (i := 20) (N := some 7) (v := ?_) (a' := ?_) #[tt,tt,tt,tt,tt,tt,tt,tt,tt,tt,tt,tt,tt,tt,tt,tt,tt,tt,tt,tt,tt] rfl rfl (any_of HT_.out (by kernel_rfl)) (fun _ _ _ h => h) (Or.inl ⟨by rfl, ?_⟩) ?_ ?_
     rotate_left
     ·intro w'
      go_simp
      with_reducible rfl
     rotate_left
     ·simp only [Act.put, L1_, L2_, L3_, i64_w, i32_w]
      rfl
     refine done_ (done_of HT_.out (by kernel_rfl)) ?_
     have hcz39_0 : w38.cell? ⟨gb104, 0, none⟩ = some (.int .i64 0) := (blk_cell BK104.out 0).trans rfl
     have hcz39_1 : w38.cell? ⟨gb104, 1, none⟩ = some (.int .i64 0) := (blk_cell BK104.out 1).trans rfl
     have hcz39_2 : w38.cell? ⟨gb104, 2, none⟩ = some (.int .i64 0) := (blk_cell BK104.out 2).trans rfl
     have hfz39_0 := blk_frozen BK104.out 0
     have hfz39_1 := blk_frozen BK104.out 1
     have hfz39_2 := blk_frozen BK104.out 2
     try go_wp2
     refine bodyPost_ret (results_cell_row rfl _ _ gb104 36 #[.int .i64 ji32, .int .i64 ji33, .int .i64 ji31] (0, 0) _ rfl (by (with_reducible repeat (first | refine b1_ ?_ _ | refine b2_ ?_ | refine b3_ ?_ _)); refine blk_put (cs := #[.int .i64 ji32, .int .i64 ji33, .int .i64 0]) ?_ 2 _ rfl; (with_reducible repeat (first | refine b1_ ?_ _ | refine b2_ ?_ | refine b3_ ?_ _)); refine blk_put (cs := #[.int .i64 ji32, .int .i64 0, .int .i64 0]) ?_ 1 _ rfl; (with_reducible repeat (first | refine b1_ ?_ _ | refine b2_ ?_ | refine b3_ ?_ _)); refine blk_put (cs := #[.int .i64 0, .int .i64 0, .int .i64 0]) ?_ 0 _ rfl; (with_reducible repeat (first | refine b1_ ?_ _ | refine b2_ ?_ | refine b3_ ?_ _)); exact BK104.out) Try.underlying36 rfl (by kernel_rfl)) rfl ?_
     exact ⟨by first | rfl | (simp [errW_none, errW_some] <;> rfl) | (simp only [← hji26, ← hji27, ← hji28, ← hji29, ← hji30, ← hji31, ← hji32, ← hji33]; first | rfl | (simp [errW_none, errW_some] <;> rfl)) | (simp [*, errW_none, errW_some] <;> rfl), by repeat (first | (with_reducible first | exact HB.out | apply below_alloc | apply pw_below_drewN | apply below_drew1 | refine below_set ?_ GE104.out) | exact HB.out)⟩
   ·rw [if_neg c7] at H
    exact absurd H (by simp)
  ·rw [if_neg c6] at H
   exact absurd H (by simp)

/-! ### spec_Nth: function 31 -/
def spec_Nth.f (l0 : List Int) (a1 : Int) : Option (Int) := if (l0.length : Int) = 0 then (some 0) else (if 0 ≤ (Int.tmod a1 (l0.length : Int)) then (if (Int.tmod a1 (l0.length : Int)) < (l0.length : Int) then (some (wrap64 (rd l0 (Int.tmod a1 (l0.length : Int))))) else (none)) else (none))
set_option maxHeartbeats 8000000 in
set_option maxRecDepth 100000 in
theorem spec_Nth.calls (A0 : Option Addr) (c0 : Nat) (l0 : List Int) (a1 : Int) (r : Int) (w : World) (hr0 : Kd.C (Kd.int .i16) w A0 l0.length l0) (hc0 : l0.length ≤ c0) (h : spec_Nth.f l0 a1 = some r) :
  Calls Try.prog 31 #[.slice A0 l0.length c0, .int .i64 a1] w fun e w' => e = .returned (.int .i64 r) ∧ Drawn0 w w' := by
 have HR0 := Aside0.mk hr0
 have HC0 := Aside0.mk hc0
 clear hr0 hc0
 have H : (if (l0.length : Int) = 0 then (some 0) else (if 0 ≤ (Int.tmod a1 (l0.length : Int)) then (if (Int.tmod a1 (l0.length : Int)) < (l0.length : Int) then (some (wrap64 (rd l0 (Int.tmod a1 (l0.length : Int))))) else (none)) else (none))) = some r := h
 clear h
 by_cases c3 : (l0.length : Int) = 0
 ·rw [if_pos c3] at H
  have c3b0 : ((l0.length : Int) == 0) = true := beq_iff_eq.mpr c3
  have c3b1 : ((l0.length : Int) != 0) = false := bne_eq_false_iff_eq.mpr c3
  clear c3
  obtain rfl := Option.some.inj H
  go_enter Try.func31, Try.ntmps31
  go_wp2
  go_ret
  exact ⟨by first | rfl | (simp; done) | (simp [*]; done), by repeat (first | exact Drawn0.refl _ | apply Drawn0.step)⟩
 ·rw [if_neg c3] at H
  have c3b0 : ((l0.length : Int) == 0) = false := beq_eq_false_iff_ne.mpr c3
  have c3b1 : ((l0.length : Int) != 0) = true := bne_iff_ne.mpr c3
  have c3b2 : ¬ (l0 = []) := fun h_ => c3 (by rw [h_]; rfl)
  obtain ⟨ji4, hji4⟩ : ∃ j_ : Int, (Int.tmod a1 (l0.length : Int)) = j_ := ⟨_, rfl⟩
  replace H : (if 0 ≤ (ji4) then (if (ji4) < (l0.length : Int) then (some (wrap64 (rd l0 (ji4)))) else (none)) else (none)) = some r := by first | (rw [hji4] at H; exact H) | (simp only [hji4] at H ⊢; exact H)
  by_cases c5 : 0 ≤ (ji4)
  ·rw [if_pos c5] at H
   have c5b0 : decide (0 ≤ (ji4)) = true := decide_eq_true c5
   clear c5
   by_cases c6 : (ji4) < (l0.length : Int)
   ·rw [if_pos c6] at H
    have c6b0 : decide ((ji4) < (l0.length : Int)) = true := decide_eq_true c6
    clear c6
    obtain rfl := Option.some.inj H
    have p111 : 0 ≤ ((ji4) : Int) := of_decide_eq_true (by first | (with_reducible assumption) | assumption)
    have q111 : (ji4) < (l0.length : Int) := of_decide_eq_true (by first | (with_reducible assumption) | assumption)
    obtain ⟨ad111, e111, hx111_0⟩ := Kd.at_int HR0.out (ji4) p111 q111
    cases e111
    replace p111 := eq_true p111
    replace q111 := eq_true q111
    go_enter Try.func31, Try.ntmps31
    go_wp2
    go_ret
    exact ⟨by first | rfl | (simp; done) | (simp only [← hji4] <;> (first | rfl | simp)) | (simp [*]; done), by repeat (first | exact Drawn0.refl _ | apply Drawn0.step)⟩
   ·rw [if_neg c6] at H
    exact absurd H (by simp)
  ·rw [if_neg c5] at H
   exact absurd H (by simp)

end Go.Proofs.Ytlbmfnjhpojghaa.PFnAdvanceDelta
