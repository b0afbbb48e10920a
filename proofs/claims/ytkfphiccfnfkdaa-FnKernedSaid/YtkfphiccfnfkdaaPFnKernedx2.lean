-- Written by a program of this session (xprint) out of the translation; Lean checks it.
import Derived.Test.YtkfphiccfnfkdaaPFnKernedx0
import Derived.Test.YtkfphiccfnfkdaaPFnKernedx1
namespace Go.Proofs.Ytkfphiccfnfkdaa.PFnKerned
open Go.RowKit Go.Proofs.YtkfphiccfnfkdaaW.PrintWords Go.Proofs.YtkfphiccfnfkdaaW.PrintLast Go.Proofs.YtkfphiccfnfkdaaW.PrintMore
attribute [local go_sem] max2_int min2_int max_two min_two max_three min_three max_four min_four   -- for this text's walks alone
set_option linter.unusedVariables false
set_option linter.unusedSimpArgs false

/-! ### impl_Kerned: function 28 -/
mutual
def impl_Kerned.l0 : Nat → List (S52) → Int → Int → List (S102) → List (S52) → Int → Int → Int → Int → Bool → Option (Int)
  | 0, _, _, _, _, _, _, _, _, _, _ => none
  | k + 1, x0, x1, x2, x8, x15, x16, x17, x121000, x121001, x121002 => if x17 < x16 then (if 0 ≤ x17 then (if x17 < (x15.length : Int) then (if x17 = 0 then ((impl_builder_must.f x121000 x121001 x121002 true).bind fun bt123 => (impl_Kerned.j1 k x0 x1 x2 x8 x15 x16 x17 bt123.1 bt123.2.1 bt123.2.2 ((rd_T52 x15 x17).f0) ((rd_T52 x15 x17).f1) ((rd_T52 x15 x17).f2))) else (if 0 ≤ (wrap64 (x17 - 1)) then (if (wrap64 (x17 - 1)) < (x0.length : Int) then (if ((rd_T52 x15 x17).f0) > ((rd_T52 x0 (wrap64 (x17 - 1))).f0) then ((impl_builder_must.f x121000 x121001 x121002 true).bind fun bt127 => (impl_Kerned.j1 k x0 x1 x2 x8 x15 x16 x17 bt127.1 bt127.2.1 bt127.2.2 ((rd_T52 x15 x17).f0) ((rd_T52 x15 x17).f1) ((rd_T52 x15 x17).f2))) else (if ((rd_T52 x15 x17).f0) = ((rd_T52 x0 (wrap64 (x17 - 1))).f0) then ((impl_builder_must.f x121000 x121001 x121002 (decide (((rd_T52 x15 x17).f1) > ((rd_T52 x0 (wrap64 (x17 - 1))).f1)))).bind fun bt132 => (impl_Kerned.j1 k x0 x1 x2 x8 x15 x16 x17 bt132.1 bt132.2.1 bt132.2.2 ((rd_T52 x15 x17).f0) ((rd_T52 x15 x17).f1) ((rd_T52 x15 x17).f2))) else ((impl_builder_must.f x121000 x121001 x121002 false).bind fun bt135 => (impl_Kerned.j1 k x0 x1 x2 x8 x15 x16 x17 bt135.1 bt135.2.1 bt135.2.2 ((rd_T52 x15 x17).f0) ((rd_T52 x15 x17).f1) ((rd_T52 x15 x17).f2))))) else (none)) else (none))) else (none)) else (none)) else ((impl_builder_small.f x121000 x121001 x121002 x1).bind fun bt153 => ((impl_builder_small.f bt153.2.1 bt153.2.2.1 bt153.2.2.2 x2).bind fun bt157 => (if bt157.2.2.2 = true then (some 0) else ((font_Kern0_KernPair.f k x8 ((bt153.1) % 4294967296) ((bt157.1) % 4294967296)).bind fun t161 => (some (wrap64 (t161)))))))
def impl_Kerned.j1 : Nat → List (S52) → Int → Int → List (S102) → List (S52) → Int → Int → Int → Int → Bool → Int → Int → Int → Option (Int)
  | 0, _, _, _, _, _, _, _, _, _, _, _, _, _ => none
  | k + 1, x0, x1, x2, x8, x15, x16, x17, x121000, x121001, x121002, x123000, x123001, x123002 => (impl_builder_small.f x121000 x121001 x121002 x123000).bind fun bt138 => ((impl_builder_small.f bt138.2.1 bt138.2.2.1 bt138.2.2.2 x123001).bind fun bt142 => ((impl_builder_signed.f bt142.2.1 bt142.2.2.1 bt142.2.2.2 x123002).bind fun bt146 => (if x8.length < 23456248059221 then (impl_Kerned.l0 k x0 x1 x2 (x8 ++ [(⟨bt138.1, bt142.1, bt146.1⟩ : S102)]) x15 x16 (wrap64 (x17 + 1)) bt146.2.1 bt146.2.2.1 bt146.2.2.2) else (none))))
end
def impl_Kerned.f (k : Nat) (l0 : List (S52)) (a1 : Int) (a2 : Int) : Option (Int) := impl_Kerned.l0 k l0 a1 a2 ([] : List (S102)) l0 (l0.length : Int) 0 0 0 false
theorem impl_Kerned.mono_l : ∀ k, (∀ y0 y1 y2 y3 y4 y5 y6 y7 y8 y9, LeO (impl_Kerned.l0 k y0 y1 y2 y3 y4 y5 y6 y7 y8 y9) (impl_Kerned.l0 (k + 1) y0 y1 y2 y3 y4 y5 y6 y7 y8 y9)) ∧ (∀ y0 y1 y2 y3 y4 y5 y6 y7 y8 y9 y10 y11 y12, LeO (impl_Kerned.j1 k y0 y1 y2 y3 y4 y5 y6 y7 y8 y9 y10 y11 y12) (impl_Kerned.j1 (k + 1) y0 y1 y2 y3 y4 y5 y6 y7 y8 y9 y10 y11 y12))
  | 0 => ⟨fun _ _ _ _ _ _ _ _ _ _ r h => by simp [impl_Kerned.l0] at h, fun _ _ _ _ _ _ _ _ _ _ _ _ _ r h => by simp [impl_Kerned.j1] at h⟩
  | k + 1 => by
    obtain ⟨ih0, ih1⟩ := impl_Kerned.mono_l k
    refine ⟨?_, ?_⟩
    · intro y0 y1 y2 y3 y4 y5 y6 y7 y8 y9
      unfold impl_Kerned.l0
      repeat' first
      | (with_reducible exact ih0 _ _ _ _ _ _ _ _ _ _)
      | (with_reducible exact ih1 _ _ _ _ _ _ _ _ _ _ _ _ _)
      | (with_reducible exact font_Kern0_KernPair.mono _ _ _ _)
      | (with_reducible exact LeO.refl _)
      | (with_reducible exact LeO.none _)
      | (with_reducible refine LeO.ite ?_ ?_)
      | (with_reducible refine LeO.bind ?_ (fun _ => ?_))
      | exact ih0 _ _ _ _ _ _ _ _ _ _
      | exact ih1 _ _ _ _ _ _ _ _ _ _ _ _ _
      | exact font_Kern0_KernPair.mono _ _ _ _
      | exact LeO.none _
      | refine LeO.ite ?_ ?_
      | refine LeO.bind ?_ (fun _ => ?_)
    · intro y0 y1 y2 y3 y4 y5 y6 y7 y8 y9 y10 y11 y12
      unfold impl_Kerned.j1
      repeat' first
      | (with_reducible exact ih0 _ _ _ _ _ _ _ _ _ _)
      | (with_reducible exact ih1 _ _ _ _ _ _ _ _ _ _ _ _ _)
      | (with_reducible exact font_Kern0_KernPair.mono _ _ _ _)
      | (with_reducible exact LeO.refl _)
      | (with_reducible exact LeO.none _)
      | (with_reducible refine LeO.ite ?_ ?_)
      | (with_reducible refine LeO.bind ?_ (fun _ => ?_))
      | exact ih0 _ _ _ _ _ _ _ _ _ _
      | exact ih1 _ _ _ _ _ _ _ _ _ _ _ _ _
      | exact font_Kern0_KernPair.mono _ _ _ _
      | exact LeO.none _
      | refine LeO.ite ?_ ?_
      | refine LeO.bind ?_ (fun _ => ?_)
theorem impl_Kerned.mono : ∀ a0 a1 a2 k, LeO (impl_Kerned.f k a0 a1 a2) (impl_Kerned.f (k + 1) a0 a1 a2) := by
  intro a0 a1 a2 k
  obtain ⟨ih0, ih1⟩ := impl_Kerned.mono_l k
  unfold impl_Kerned.f
  repeat' first
      | (with_reducible exact ih0 _ _ _ _ _ _ _ _ _ _)
      | (with_reducible exact ih1 _ _ _ _ _ _ _ _ _ _ _ _ _)
      | (with_reducible exact font_Kern0_KernPair.mono _ _ _ _)
      | (with_reducible exact LeO.refl _)
      | (with_reducible exact LeO.none _)
      | (with_reducible refine LeO.ite ?_ ?_)
      | (with_reducible refine LeO.bind ?_ (fun _ => ?_))
      | exact ih0 _ _ _ _ _ _ _ _ _ _
      | exact ih1 _ _ _ _ _ _ _ _ _ _ _ _ _
      | exact font_Kern0_KernPair.mono _ _ _ _
      | exact LeO.none _
      | refine LeO.ite ?_ ?_
      | refine LeO.bind ?_ (fun _ => ?_)
def impl_Kerned.T6 : Bool × List (List Nat × List Nat) := (true, [([], []), ([], []), ([1], [1]), ([2], [2]), ([3], [3]), ([4, 3], [3, 4]), ([3], [3]), ([3], [3]), ([7, 3], [3, 7]), ([6, 8, 3], [3, 6, 8]), ([9, 3], [3, 9]), ([10, 3], [3, 10]), ([5, 11, 3], [3, 5, 11]), ([3, 12], [3, 12]), ([13, 3], [13]), ([14], [14]), ([15, 14], [14, 15]), ([14], [14]), ([14], [14]), ([18, 14], [14, 18]), ([17, 19, 14], [14, 17, 19]), ([20, 14], [14, 20]), ([21, 14], [14, 21]), ([16, 22, 14], [14, 16, 22]), ([23, 14, 14], [14, 23]), ([24], [24]), ([25, 24], [24, 25]), ([24], [24]), ([24], [24]), ([28, 24], [24, 28]), ([27, 29, 24], [24, 27, 29]), ([30, 24], [24, 30]), ([31, 24], [24, 31]), ([26, 32, 24], [24, 26, 32]), ([24, 33, 14], [14, 24, 33]), ([14, 34], [14, 34]), ([0, 35, 24], [0, 35])])
def impl_Kerned.B6 : List Nat := [0, 0, 2, 6, 14, 30, 14, 14, 142, 462, 974, 1998, 4094, 8190, 16382, 32766, 65534, 32766, 32766, 294910, 950270, 1998846, 4095998, 8388606, 16777214, 33554430, 67108862, 33554430, 33554430, 301989886, 973078526, 2046820350, 4194303998, 8589934590, 17179869182, 34359738366, 68719476735]
theorem impl_Kerned.tab6 : rtab .any (opsOf Try.f28 6) = impl_Kerned.T6 := by kernel_rfl
theorem impl_Kerned.bits6 : waitsOk impl_Kerned.T6.2 impl_Kerned.B6 = true := by kernel_rfl
def impl_Kerned.T7 : Bool × List (List Nat × List Nat) := (true, [([], []), ([], []), ([], []), ([2], [2]), ([1, 3], [1, 3]), ([], []), ([], []), ([6], [6]), ([5, 7, 4], [5, 7]), ([], []), ([], []), ([10], [10]), ([9, 11, 8], [9, 11]), ([4, 8, 12], [4, 8, 12]), ([13], [13]), ([0, 14, 12], [0, 14]), ([15, 15, 0, 1, 2, 3, 4, 5, 6, 7, 8, 9, 10, 11, 12, 13, 14, 15], [0, 15])])
def impl_Kerned.B7 : List Nat := [0, 0, 0, 4, 14, 0, 0, 64, 254, 0, 0, 1024, 4094, 8190, 16382, 32767, 65535]
theorem impl_Kerned.tab7 : rtab .any (opsOf Try.f28 7) = impl_Kerned.T7 := by kernel_rfl
theorem impl_Kerned.bits7 : waitsOk impl_Kerned.T7.2 impl_Kerned.B7 = true := by kernel_rfl
set_option maxHeartbeats 8000000 in
set_option maxRecDepth 100000 in
theorem impl_Kerned.calls (k : Nat) (A0 : Option Addr) (c0 : Nat) (l0 : List (S52)) (a1 : Int) (a2 : Int) (r : Int) (w : World) (hr0 : Kd.C k52 w A0 l0.length l0) (hc0 : l0.length ≤ c0) (h : impl_Kerned.f k l0 a1 a2 = some r) :
    Calls Try.prog 28 #[.slice A0 l0.length c0, .int .i64 a1, .int .i64 a2] w fun e w' => e = .returned (.int .i64 r) ∧ Below w.heap.size w w' := by
  have hu95 := Try.underlying95
  have hu52 := Try.underlying52
  have hu102 := Try.underlying102
  have HR0 := Aside0.mk hr0
  have HC0 := Aside0.mk hc0
  clear hr0 hc0
  have HB := Aside0.mk (Below.refl w.heap.size w)
  have H : (impl_Kerned.l0 k l0 a1 a2 ([] : List (S102)) l0 (l0.length : Int) 0 0 0 false) = some r := h
  clear h
  have H' := Aside0.mk H
  clear H
  go_enter Try.func28, Try.ntmps28
  go_wp2_with (first | ((with_reducible refine gate_dst (N := 14) rfl ?_); refine box_event ?hg (N := 14) ?hd (cs := #[.int .i64 0, .int .i64 0, .bool false]) (t := 95) ?hr ?_; (case hd => rfl); (case hg => rfl); (case hr => first | (go_simp; done) | (go_simp; rfl)); intro gb120 hg w4 hbox hb; have n0_ := Aside0.mk (below_step (by repeat (first | (with_reducible first | exact HB.out | apply below_alloc | apply pw_below_drewN | apply below_drew1) | exact HB.out)) hb); have n1_ := Aside0.mk (hbox); have n2_ := Aside0.mk ((by rw [hg]; exact (below_size (by repeat (first | (with_reducible first | exact HB.out | apply below_alloc | apply pw_below_drewN | apply below_drew1) | exact HB.out))) : w.heap.size ≤ gb120)); have n3_ := Aside0.mk ((by rw [hg]; exact (below_size (by repeat (first | (with_reducible first | exact HB.out | apply below_alloc | apply pw_below_drewN | apply below_drew1) | exact HB.out))) : w.heap.size ≤ gb120)); clear HB; have HB := n0_; have BK120 := n1_; have GW120 := n2_; have GE120 := n3_; clear n0_ n1_ n2_ n3_; clear hb hbox hg))
  go_loopg [8, 17] k (fun kq v8 v17 w' => ∃ (x8_1 : List (S102)) (x17_1 : Int) (x121000_1 : Int) (x121001_1 : Int) (x121002_1 : Bool), v17 = .int .i64 x17_1 ∧ Aside0 (impl_Kerned.l0 kq l0 a1 a2 x8_1 l0 (l0.length : Int) x17_1 x121000_1 x121001_1 x121002_1 = some r) ∧ Aside0 (kq ≤ k) ∧ Aside0 (Kd.R k102 102 w' w.heap.size (fun _ => True) v8 x8_1) ∧ Aside0 (w'.heap[gb120]? = some (.cells #[.int .i64 x121000_1, .int .i64 x121001_1, .bool x121002_1] 95 (0, 0))) ∧ Aside0 (Below w.heap.size w w'))
  case atStart => exact ⟨(([] : List (S102))), (0), (0), (0), (false), (by first | rfl | (simp; done) | (simp [*]; done)), H', ⟨Nat.le_refl _⟩, ⟨by first | exact Kd.R_nil _ _ _ _ _ | exact Kd.N_nil _ _ _ _ _ | exact Kd.V_nil _ _ _ _ _ | exact Kd.Q_nil _ _ _ _ _ | exact Kd.S_nil _ _ _ _ _⟩, ⟨by (with_reducible repeat (first | refine blk_drewN ?_ _ | refine blk_drew ?_ | refine blk_alloc ?_ _)); exact BK120.out⟩, ⟨by repeat (first | (with_reducible first | exact HB.out | apply below_alloc | apply pw_below_drewN | apply below_drew1 | refine below_set ?_ GE120.out) | exact HB.out)⟩⟩
  case round =>
    clear H'
    try clear c2
    try clear p2
    obtain ⟨x8_1, x17_1, x121000_1, x121001_1, x121002_1, rfl, HA, HK1, HO_8, BK120, HB⟩ := hrel
    cases gk with
    | zero => exact absurd HA.out (by simp [impl_Kerned.l0])
    | succ k1 =>
      have H := HA.out
      clear HA
      simp only [impl_Kerned.l0] at H
      by_cases c5 : x17_1 < (l0.length : Int)
      · rw [if_pos c5] at H
        have c5b0 : decide (x17_1 < (l0.length : Int)) = true := decide_eq_true c5
        clear c5
        by_cases c6 : 0 ≤ x17_1
        · rw [if_pos c6] at H
          have c6b0 : decide (0 ≤ x17_1) = true := decide_eq_true c6
          clear c6
          by_cases c7 : x17_1 < (l0.length : Int)
          · rw [if_pos c7] at H
            have c7b0 : decide (x17_1 < (l0.length : Int)) = true := decide_eq_true c7
            clear c7
            have HC8 := Aside0.mk H
            clear H
            have p121 : 0 ≤ (x17_1 : Int) := of_decide_eq_true (by first | (with_reducible assumption) | assumption)
            have q121 : x17_1 < (l0.length : Int) := of_decide_eq_true (by first | (with_reducible assumption) | assumption)
            obtain ⟨ad121, e121, hx121_0, hx121_1, hx121_2⟩ := at_T52 HR0.out x17_1 p121 q121
            cases e121
            replace hx121_0 := (HB.out.cell (World.block_lt_of_cell? w _ hx121_0)).trans hx121_0
            replace hx121_1 := (HB.out.cell (World.block_lt_of_cell? w _ hx121_1)).trans hx121_1
            replace hx121_2 := (HB.out.cell (World.block_lt_of_cell? w _ hx121_2)).trans hx121_2
            replace p121 := eq_true p121
            replace q121 := eq_true q121
            go_upto_region 6 with (first | ((with_reducible refine gate_dst (N := 10) rfl ?_); refine box_event ?hg (N := 10) ?hd (cs := #[.int .i64 0, .int .i64 0, .int .i64 0]) (t := 52) ?hr ?_; (case hd => rfl); (case hg => rfl); (case hr => first | (go_simp; done) | (go_simp; rfl)); intro gb122 hg w9 hbox hb; have n0_ := Aside0.mk (Kd.R_below (by (with_reducible repeat (first | apply Kd.R_alloc | apply Kd.R_drewN | apply Kd.R_drew)); exact HO_8.out) hb); have n1_ := Aside0.mk (blk_below (g := gb120) (o := .cells #[.int .i64 x121000_1, .int .i64 x121001_1, .bool x121002_1] 95 (0, 0)) (by (with_reducible repeat (first | refine blk_drewN ?_ _ | refine blk_drew ?_ | refine blk_alloc ?_ _)); exact BK120.out) hb); have n2_ := Aside0.mk (below_step (by repeat (first | (with_reducible first | exact HB.out | apply below_alloc | apply pw_below_drewN | apply below_drew1 | refine below_set ?_ GE120.out) | exact HB.out)) hb); have n3_ := Aside0.mk (hbox); have n4_ := Aside0.mk ((by rw [hg]; exact (below_size (by repeat (first | (with_reducible first | exact HB.out | apply below_alloc | apply pw_below_drewN | apply below_drew1 | refine below_set ?_ GE120.out) | exact HB.out))) : w.heap.size ≤ gb122)); have n5_ := Aside0.mk ((by rw [hg]; exact (below_size (by repeat (first | (with_reducible first | exact HB.out | apply below_alloc | apply pw_below_drewN | apply below_drew1 | refine below_set ?_ GE120.out) | exact HB.out))) : w.heap.size ≤ gb122)); have n6_ := Aside0.mk ((by rw [hg]; exact Nat.ne_of_lt (blk_lt (g := gb120) (o := .cells #[.int .i64 x121000_1, .int .i64 x121001_1, .bool x121002_1] 95 (0, 0)) (by (with_reducible repeat (first | refine blk_drewN ?_ _ | refine blk_drew ?_ | refine blk_alloc ?_ _)); exact BK120.out)) : gb120 ≠ gb122)); have n7_ := Aside0.mk ((by rw [hg]; exact Nat.ne_of_gt (blk_lt (g := gb120) (o := .cells #[.int .i64 x121000_1, .int .i64 x121001_1, .bool x121002_1] 95 (0, 0)) (by (with_reducible repeat (first | refine blk_drewN ?_ _ | refine blk_drew ?_ | refine blk_alloc ?_ _)); exact BK120.out)) : gb122 ≠ gb120)); clear HO_8; clear BK120; clear HB; have HO_8 := n0_; have BK120 := n1_; have HB := n2_; have BK122 := n3_; have GW122 := n4_; have GE122 := n5_; have NB120_122 := n6_; have NB122_120 := n7_; clear n0_ n1_ n2_ n3_ n4_ n5_ n6_ n7_; clear hb hbox hg; have hnb10 := NB122_120.out; have hnc10 := NB120_122.out; have hcz11_0 : w9.cell? ⟨gb122, 0, none⟩ = some (.int .i64 0) := (blk_cell BK122.out 0).trans rfl; have hcz11_1 : w9.cell? ⟨gb122, 1, none⟩ = some (.int .i64 0) := (blk_cell BK122.out 1).trans rfl; have hcz11_2 : w9.cell? ⟨gb122, 2, none⟩ = some (.int .i64 0) := (blk_cell BK122.out 2).trans rfl; have hfz11_0 := blk_frozen BK122.out 0; have hfz11_1 := blk_frozen BK122.out 1; have hfz11_2 := blk_frozen BK122.out 2))
            (try simp only [Act.put, List.setIfInBounds_toArray, List.set_cons_zero, List.set_cons_succ])
            go_cut [] (fun wc => ∃ (kq : Nat) (x121000_7 : Int) (x121001_7 : Int) (x121002_7 : Bool), Aside0 (impl_Kerned.j1 kq l0 a1 a2 x8_1 l0 (l0.length : Int) x17_1 x121000_7 x121001_7 x121002_7 ((rd_T52 l0 x17_1).f0) ((rd_T52 l0 x17_1).f1) ((rd_T52 l0 x17_1).f2) = some r) ∧ Aside0 (kq ≤ k1) ∧ Aside0 (Kd.R k102 102 wc w.heap.size (fun _ => True) u8 x8_1) ∧ Aside0 (wc.heap[gb120]? = some (.cells #[.int .i64 x121000_7, .int .i64 x121001_7, .bool x121002_7] 95 (0, 0))) ∧ Aside0 (wc.heap[gb122]? = some (.cells #[.int .i64 ((rd_T52 l0 x17_1).f0), .int .i64 ((rd_T52 l0 x17_1).f1), .int .i64 ((rd_T52 l0 x17_1).f2)] 52 (0, 0))) ∧ Aside0 (Below w.heap.size w wc))
            case first =>
              have H := HC8.out
              clear HC8
              by_cases c12 : x17_1 = 0
              · rw [if_pos c12] at H
                have c12b0 : (x17_1 == 0) = true := beq_iff_eq.mpr c12
                have c12b1 : (x17_1 != 0) = false := bne_eq_false_iff_eq.mpr c12
                clear c12
                (first | rw [c12b0] | (simp only [i64_w, i32_w]; rw [c12b0]) | skip)
                replace H := Option.bind_eq_some_iff.mp H
                obtain ⟨⟨t123, t124, t125⟩, A130, H⟩ := H
                replace H : (impl_Kerned.j1 k1 l0 a1 a2 x8_1 l0 (l0.length : Int) x17_1 t123 t124 t125 ((rd_T52 l0 x17_1).f0) ((rd_T52 l0 x17_1).f1) ((rd_T52 l0 x17_1).f2)) = some r := H
                have A13 := Aside0.mk A130
                clear A130
                have H' := Aside0.mk H
                clear H
                try go_wp2
                have n0_ : Aside0 (Kd.R k102 102 (((w9.setCell ⟨gb122, 0, none⟩ (.int .i64 ((rd_T52 l0 x17_1).f0))).setCell ⟨gb122, 1, none⟩ (.int .i64 ((rd_T52 l0 x17_1).f1))).setCell ⟨gb122, 2, none⟩ (.int .i64 ((rd_T52 l0 x17_1).f2))) w.heap.size (fun _ => True) u8 x8_1) := ⟨by (with_reducible repeat (first | apply Kd.R_alloc | apply Kd.R_drewN | apply Kd.R_drew)); exact Kd.R_mono (Kd.R_far (p := ⟨gb122, 2, none⟩) (Kd.R_far (p := ⟨gb122, 1, none⟩) (Kd.R_far (p := ⟨gb122, 0, none⟩) (Kd.R_types HO_8.out BK122.out (by decide)) (fun _ hk => hk.2) (.int .i64 ((rd_T52 l0 x17_1).f0))) (fun _ hk => hk.2) (.int .i64 ((rd_T52 l0 x17_1).f1))) (fun _ hk => hk.2) (.int .i64 ((rd_T52 l0 x17_1).f2))) (fun _ hk => trivial)⟩
                have n1_ : Aside0 ((((w9.setCell ⟨gb122, 0, none⟩ (.int .i64 ((rd_T52 l0 x17_1).f0))).setCell ⟨gb122, 1, none⟩ (.int .i64 ((rd_T52 l0 x17_1).f1))).setCell ⟨gb122, 2, none⟩ (.int .i64 ((rd_T52 l0 x17_1).f2))).heap[gb120]? = some (.cells #[.int .i64 x121000_1, .int .i64 x121001_1, .bool x121002_1] 95 (0, 0))) := ⟨by (with_reducible repeat (first | refine blk_drewN ?_ _ | refine blk_drew ?_ | refine blk_alloc ?_ _)); refine blk_far ?_ NB120_122.out _; (with_reducible repeat (first | refine blk_drewN ?_ _ | refine blk_drew ?_ | refine blk_alloc ?_ _)); refine blk_far ?_ NB120_122.out _; (with_reducible repeat (first | refine blk_drewN ?_ _ | refine blk_drew ?_ | refine blk_alloc ?_ _)); refine blk_far ?_ NB120_122.out _; (with_reducible repeat (first | refine blk_drewN ?_ _ | refine blk_drew ?_ | refine blk_alloc ?_ _)); exact BK120.out⟩
                have n2_ : Aside0 ((((w9.setCell ⟨gb122, 0, none⟩ (.int .i64 ((rd_T52 l0 x17_1).f0))).setCell ⟨gb122, 1, none⟩ (.int .i64 ((rd_T52 l0 x17_1).f1))).setCell ⟨gb122, 2, none⟩ (.int .i64 ((rd_T52 l0 x17_1).f2))).heap[gb122]? = some (.cells #[.int .i64 ((rd_T52 l0 x17_1).f0), .int .i64 ((rd_T52 l0 x17_1).f1), .int .i64 ((rd_T52 l0 x17_1).f2)] 52 (0, 0))) := ⟨by (with_reducible repeat (first | refine blk_drewN ?_ _ | refine blk_drew ?_ | refine blk_alloc ?_ _)); refine blk_put (cs := #[.int .i64 ((rd_T52 l0 x17_1).f0), .int .i64 ((rd_T52 l0 x17_1).f1), .int .i64 0]) ?_ 2 _ rfl; (with_reducible repeat (first | refine blk_drewN ?_ _ | refine blk_drew ?_ | refine blk_alloc ?_ _)); refine blk_put (cs := #[.int .i64 ((rd_T52 l0 x17_1).f0), .int .i64 0, .int .i64 0]) ?_ 1 _ rfl; (with_reducible repeat (first | refine blk_drewN ?_ _ | refine blk_drew ?_ | refine blk_alloc ?_ _)); refine blk_put (cs := #[.int .i64 0, .int .i64 0, .int .i64 0]) ?_ 0 _ rfl; (with_reducible repeat (first | refine blk_drewN ?_ _ | refine blk_drew ?_ | refine blk_alloc ?_ _)); exact BK122.out⟩
                have n3_ : Aside0 (Below w.heap.size w (((w9.setCell ⟨gb122, 0, none⟩ (.int .i64 ((rd_T52 l0 x17_1).f0))).setCell ⟨gb122, 1, none⟩ (.int .i64 ((rd_T52 l0 x17_1).f1))).setCell ⟨gb122, 2, none⟩ (.int .i64 ((rd_T52 l0 x17_1).f2)))) := ⟨by repeat (first | (with_reducible first | exact HB.out | apply below_alloc | apply pw_below_drewN | apply below_drew1 | refine below_set ?_ GE120.out | refine below_set ?_ GE122.out) | exact HB.out)⟩
                (try clear HO_8)
                (try clear BK120)
                (try clear BK122)
                (try clear HB)
                generalize (((w9.setCell ⟨gb122, 0, none⟩ (.int .i64 ((rd_T52 l0 x17_1).f0))).setCell ⟨gb122, 1, none⟩ (.int .i64 ((rd_T52 l0 x17_1).f1))).setCell ⟨gb122, 2, none⟩ (.int .i64 ((rd_T52 l0 x17_1).f2))) = w14 at n0_ n1_ n2_ n3_ ⊢
                have HO_8 := n0_
                have BK120 := n1_
                have BK122 := n2_
                have HB := n3_
                clear n0_ n1_ n2_ n3_
                have n0_ := Aside0.mk (Kd.R_drew HO_8.out)
                have n1_ := Aside0.mk (blk_drew BK120.out)
                have n2_ := Aside0.mk (blk_drew BK122.out)
                have n3_ := Aside0.mk (below_drew1 HB.out)
                clear HO_8
                clear BK120
                clear BK122
                clear HB
                have HO_8 := n0_
                have BK120 := n1_
                have BK122 := n2_
                have HB := n3_
                clear n0_ n1_ n2_ n3_
                refine start_ (n := 37) (S := fun w' => True) (ds := []) #[false, false, false, false, false, false, false, false, false, false, false, false, false, false, false, false, false, false, false, false, false, false, false, false, false, false, false, false, false, false, false, false, false, false, false, false, false] (by kernel_rfl) rfl rfl trivial (fun hHeld => ?_); refine with_tabW impl_Kerned.tab6 impl_Kerned.bits6 (fun HT_ HW_ => ?_)
                generalize w14.drew = w15 at HO_8 BK120 BK122 HB hHeld ⊢
                refine pure_ (i := 0) (N := some 22) (v := ?_) (a' := ?_) #[true, false, false, false, false, false, false, false, false, false, false, false, false, false, false, false, false, false, false, false, false, false, false, false, false, false, false, false, false, false, false, false, false, false, false, false, false] rfl rfl (any_of HT_.out (by kernel_rfl)) (fun _ _ _ h => h) (Or.inl ⟨by rfl, ?_⟩) ?_ ?_
                rotate_left
                · intro w'
                  go_simp
                  with_reducible rfl
                rotate_left
                · simp only [Act.put, List.setIfInBounds_toArray, List.set_cons_zero, List.set_cons_succ, i64_w, i32_w]
                  rfl
                refine pure_ (i := 1) (N := some 23) (v := ?_) (a' := ?_) #[true, true, false, false, false, false, false, false, false, false, false, false, false, false, false, false, false, false, false, false, false, false, false, false, false, false, false, false, false, false, false, false, false, false, false, false, false] rfl rfl (any_of HT_.out (by kernel_rfl)) (fun _ _ _ h => h) (Or.inl ⟨by rfl, ?_⟩) ?_ ?_
                rotate_left
                · intro w'
                  go_simp
                  with_reducible rfl
                rotate_left
                · simp only [Act.put, List.setIfInBounds_toArray, List.set_cons_zero, List.set_cons_succ, i64_w, i32_w]
                  rfl
                refine pure_ (i := 2) (N := some 24) (v := ?_) (a' := ?_) #[true, true, true, false, false, false, false, false, false, false, false, false, false, false, false, false, false, false, false, false, false, false, false, false, false, false, false, false, false, false, false, false, false, false, false, false, false] rfl rfl (any_of HT_.out (by kernel_rfl)) (fun _ _ _ h => h) (Or.inl ⟨by rfl, ?_⟩) ?_ ?_
                rotate_left
                · intro w'
                  go_simp
                  with_reducible rfl
                rotate_left
                · simp only [Act.put, List.setIfInBounds_toArray, List.set_cons_zero, List.set_cons_succ, i64_w, i32_w]
                  rfl
                refine pure_ (i := 3) (N := some 25) (v := ?_) (a' := ?_) #[true, true, true, true, false, false, false, false, false, false, false, false, false, false, false, false, false, false, false, false, false, false, false, false, false, false, false, false, false, false, false, false, false, false, false, false, false] rfl rfl (any_of HT_.out (by kernel_rfl)) (fun _ _ _ h => h) (Or.inl ⟨by rfl, ?_⟩) ?_ ?_
                rotate_left
                · intro w'
                  go_simp
                  with_reducible rfl
                rotate_left
                · simp only [Act.put, List.setIfInBounds_toArray, List.set_cons_zero, List.set_cons_succ, i64_w, i32_w]
                  rfl
                refine pure_ (i := 4) (N := some 26) (v := undef) (a' := ?_) #[true, true, true, true, true, false, false, false, false, false, false, false, false, false, false, false, false, false, false, false, false, false, false, false, false, false, false, false, false, false, false, false, false, false, false, false, false] rfl rfl (any_of HT_.out (by kernel_rfl)) (fun _ _ _ h => h) (Or.inr ⟨by rfl, rfl⟩) ?_ ?_
                rotate_left
                · simp only [Act.put, List.setIfInBounds_toArray, List.set_cons_zero, List.set_cons_succ, i64_w, i32_w]
                  rfl
                refine pure_ (i := 5) (N := some 27) (v := undef) (a' := ?_) #[true, true, true, true, true, true, false, false, false, false, false, false, false, false, false, false, false, false, false, false, false, false, false, false, false, false, false, false, false, false, false, false, false, false, false, false, false] rfl rfl (any_of HT_.out (by kernel_rfl)) (fun _ _ _ h => h) (Or.inr ⟨by rfl, rfl⟩) ?_ ?_
                rotate_left
                · simp only [Act.put, List.setIfInBounds_toArray, List.set_cons_zero, List.set_cons_succ, i64_w, i32_w]
                  rfl
                refine pure_ (i := 6) (N := some 28) (v := undef) (a' := ?_) #[true, true, true, true, true, true, true, false, false, false, false, false, false, false, false, false, false, false, false, false, false, false, false, false, false, false, false, false, false, false, false, false, false, false, false, false, false] rfl rfl (any_of HT_.out (by kernel_rfl)) (fun _ _ _ h => h) (Or.inr ⟨by rfl, rfl⟩) ?_ ?_
                rotate_left
                · simp only [Act.put, List.setIfInBounds_toArray, List.set_cons_zero, List.set_cons_succ, i64_w, i32_w]
                  rfl
                refine pure_ (i := 7) (N := some 29) (v := undef) (a' := ?_) #[true, true, true, true, true, true, true, true, false, false, false, false, false, false, false, false, false, false, false, false, false, false, false, false, false, false, false, false, false, false, false, false, false, false, false, false, false] rfl rfl (any_of HT_.out (by kernel_rfl)) (fun _ _ _ h => h) (Or.inr ⟨by rfl, rfl⟩) ?_ ?_
                rotate_left
                · simp only [Act.put, List.setIfInBounds_toArray, List.set_cons_zero, List.set_cons_succ, i64_w, i32_w]
                  rfl
                refine pure_ (i := 8) (N := some 30) (v := undef) (a' := ?_) #[true, true, true, true, true, true, true, true, true, false, false, false, false, false, false, false, false, false, false, false, false, false, false, false, false, false, false, false, false, false, false, false, false, false, false, false, false] rfl rfl (any_of HT_.out (by kernel_rfl)) (fun _ _ _ h => h) (Or.inr ⟨by rfl, rfl⟩) ?_ ?_
                rotate_left
                · simp only [Act.put, List.setIfInBounds_toArray, List.set_cons_zero, List.set_cons_succ, i64_w, i32_w]
                  rfl
                refine pure_ (i := 9) (N := some 31) (v := undef) (a' := ?_) #[true, true, true, true, true, true, true, true, true, true, false, false, false, false, false, false, false, false, false, false, false, false, false, false, false, false, false, false, false, false, false, false, false, false, false, false, false] rfl rfl (any_of HT_.out (by kernel_rfl)) (fun _ _ _ h => h) (Or.inr ⟨by rfl, rfl⟩) ?_ ?_
                rotate_left
                · simp only [Act.put, List.setIfInBounds_toArray, List.set_cons_zero, List.set_cons_succ, i64_w, i32_w]
                  rfl
                refine pure_ (i := 10) (N := some 32) (v := undef) (a' := ?_) #[true, true, true, true, true, true, true, true, true, true, true, false, false, false, false, false, false, false, false, false, false, false, false, false, false, false, false, false, false, false, false, false, false, false, false, false, false] rfl rfl (any_of HT_.out (by kernel_rfl)) (fun _ _ _ h => h) (Or.inr ⟨by rfl, rfl⟩) ?_ ?_
                rotate_left
                · simp only [Act.put, List.setIfInBounds_toArray, List.set_cons_zero, List.set_cons_succ, i64_w, i32_w]
                  rfl
                refine pure_ (i := 11) (N := some 33) (v := undef) (a' := ?_) #[true, true, true, true, true, true, true, true, true, true, true, true, false, false, false, false, false, false, false, false, false, false, false, false, false, false, false, false, false, false, false, false, false, false, false, false, false] rfl rfl (any_of HT_.out (by kernel_rfl)) (fun _ _ _ h => h) (Or.inr ⟨by rfl, rfl⟩) ?_ ?_
                rotate_left
                · simp only [Act.put, List.setIfInBounds_toArray, List.set_cons_zero, List.set_cons_succ, i64_w, i32_w]
                  rfl
                refine pure_ (i := 12) (N := some 34) (v := undef) (a' := ?_) #[true, true, true, true, true, true, true, true, true, true, true, true, true, false, false, false, false, false, false, false, false, false, false, false, false, false, false, false, false, false, false, false, false, false, false, false, false] rfl rfl (any_of HT_.out (by kernel_rfl)) (fun _ _ _ h => h) (Or.inr ⟨by rfl, rfl⟩) ?_ ?_
                rotate_left
                · simp only [Act.put, List.setIfInBounds_toArray, List.set_cons_zero, List.set_cons_succ, i64_w, i32_w]
                  rfl
                refine pure_ (i := 13) (N := some 35) (v := ?_) (a' := ?_) #[true, true, true, true, true, true, true, true, true, true, true, true, true, true, false, false, false, false, false, false, false, false, false, false, false, false, false, false, false, false, false, false, false, false, false, false, false] rfl rfl (any_of HT_.out (by kernel_rfl)) (fun _ _ _ h => h) (Or.inl ⟨by rfl, ?_⟩) ?_ ?_
                rotate_left
                · intro w'
                  go_simp
                  with_reducible rfl
                rotate_left
                · simp only [Act.put, List.setIfInBounds_toArray, List.set_cons_zero, List.set_cons_succ, i64_w, i32_w]
                  rfl
                refine pure_ (i := 14) (N := some 36) (v := ?_) (a' := ?_) #[true, true, true, true, true, true, true, true, true, true, true, true, true, true, true, false, false, false, false, false, false, false, false, false, false, false, false, false, false, false, false, false, false, false, false, false, false] rfl rfl (any_of HT_.out (by kernel_rfl)) (fun _ _ _ h => h) (Or.inl ⟨by rfl, ?_⟩) ?_ ?_
                rotate_left
                · intro w'
                  go_simp
                  with_reducible rfl
                rotate_left
                · simp only [Act.put, List.setIfInBounds_toArray, List.set_cons_zero, List.set_cons_succ, i64_w, i32_w]
                  rfl
                refine pure_ (i := 15) (N := some 37) (v := undef) (a' := ?_) #[true, true, true, true, true, true, true, true, true, true, true, true, true, true, true, true, false, false, false, false, false, false, false, false, false, false, false, false, false, false, false, false, false, false, false, false, false] rfl rfl (any_of HT_.out (by kernel_rfl)) (fun _ _ _ h => h) (Or.inr ⟨by rfl, rfl⟩) ?_ ?_
                rotate_left
                · simp only [Act.put, List.setIfInBounds_toArray, List.set_cons_zero, List.set_cons_succ, i64_w, i32_w]
                  rfl
                refine pure_ (i := 16) (N := some 38) (v := undef) (a' := ?_) #[true, true, true, true, true, true, true, true, true, true, true, true, true, true, true, true, true, false, false, false, false, false, false, false, false, false, false, false, false, false, false, false, false, false, false, false, false] rfl rfl (any_of HT_.out (by kernel_rfl)) (fun _ _ _ h => h) (Or.inr ⟨by rfl, rfl⟩) ?_ ?_
                rotate_left
                · simp only [Act.put, List.setIfInBounds_toArray, List.set_cons_zero, List.set_cons_succ, i64_w, i32_w]
                  rfl
                refine pure_ (i := 17) (N := some 39) (v := undef) (a' := ?_) #[true, true, true, true, true, true, true, true, true, true, true, true, true, true, true, true, true, true, false, false, false, false, false, false, false, false, false, false, false, false, false, false, false, false, false, false, false] rfl rfl (any_of HT_.out (by kernel_rfl)) (fun _ _ _ h => h) (Or.inr ⟨by rfl, rfl⟩) ?_ ?_
                rotate_left
                · simp only [Act.put, List.setIfInBounds_toArray, List.set_cons_zero, List.set_cons_succ, i64_w, i32_w]
                  rfl
                refine pure_ (i := 18) (N := some 40) (v := undef) (a' := ?_) #[true, true, true, true, true, true, true, true, true, true, true, true, true, true, true, true, true, true, true, false, false, false, false, false, false, false, false, false, false, false, false, false, false, false, false, false, false] rfl rfl (any_of HT_.out (by kernel_rfl)) (fun _ _ _ h => h) (Or.inr ⟨by rfl, rfl⟩) ?_ ?_
                rotate_left
                · simp only [Act.put, List.setIfInBounds_toArray, List.set_cons_zero, List.set_cons_succ, i64_w, i32_w]
                  rfl
                refine pure_ (i := 19) (N := some 41) (v := undef) (a' := ?_) #[true, true, true, true, true, true, true, true, true, true, true, true, true, true, true, true, true, true, true, true, false, false, false, false, false, false, false, false, false, false, false, false, false, false, false, false, false] rfl rfl (any_of HT_.out (by kernel_rfl)) (fun _ _ _ h => h) (Or.inr ⟨by rfl, rfl⟩) ?_ ?_
                rotate_left
                · simp only [Act.put, List.setIfInBounds_toArray, List.set_cons_zero, List.set_cons_succ, i64_w, i32_w]
                  rfl
                refine pure_ (i := 20) (N := some 42) (v := undef) (a' := ?_) #[true, true, true, true, true, true, true, true, true, true, true, true, true, true, true, true, true, true, true, true, true, false, false, false, false, false, false, false, false, false, false, false, false, false, false, false, false] rfl rfl (any_of HT_.out (by kernel_rfl)) (fun _ _ _ h => h) (Or.inr ⟨by rfl, rfl⟩) ?_ ?_
                rotate_left
                · simp only [Act.put, List.setIfInBounds_toArray, List.set_cons_zero, List.set_cons_succ, i64_w, i32_w]
                  rfl
                refine pure_ (i := 21) (N := some 43) (v := undef) (a' := ?_) #[true, true, true, true, true, true, true, true, true, true, true, true, true, true, true, true, true, true, true, true, true, true, false, false, false, false, false, false, false, false, false, false, false, false, false, false, false] rfl rfl (any_of HT_.out (by kernel_rfl)) (fun _ _ _ h => h) (Or.inr ⟨by rfl, rfl⟩) ?_ ?_
                rotate_left
                · simp only [Act.put, List.setIfInBounds_toArray, List.set_cons_zero, List.set_cons_succ, i64_w, i32_w]
                  rfl
                refine pure_ (i := 22) (N := some 44) (v := undef) (a' := ?_) #[true, true, true, true, true, true, true, true, true, true, true, true, true, true, true, true, true, true, true, true, true, true, true, false, false, false, false, false, false, false, false, false, false, false, false, false, false] rfl rfl (any_of HT_.out (by kernel_rfl)) (fun _ _ _ h => h) (Or.inr ⟨by rfl, rfl⟩) ?_ ?_
                rotate_left
                · simp only [Act.put, List.setIfInBounds_toArray, List.set_cons_zero, List.set_cons_succ, i64_w, i32_w]
                  rfl
                refine pure_ (i := 23) (N := some 45) (v := undef) (a' := ?_) #[true, true, true, true, true, true, true, true, true, true, true, true, true, true, true, true, true, true, true, true, true, true, true, true, false, false, false, false, false, false, false, false, false, false, false, false, false] rfl rfl (any_of HT_.out (by kernel_rfl)) (fun _ _ _ h => h) (Or.inr ⟨by rfl, rfl⟩) ?_ ?_
                rotate_left
                · simp only [Act.put, List.setIfInBounds_toArray, List.set_cons_zero, List.set_cons_succ, i64_w, i32_w]
                  rfl
                refine pure_ (i := 24) (N := some 46) (v := undef) (a' := ?_) #[true, true, true, true, true, true, true, true, true, true, true, true, true, true, true, true, true, true, true, true, true, true, true, true, true, false, false, false, false, false, false, false, false, false, false, false, false] rfl rfl (any_of HT_.out (by kernel_rfl)) (fun _ _ _ h => h) (Or.inr ⟨by rfl, rfl⟩) ?_ ?_
                rotate_left
                · simp only [Act.put, List.setIfInBounds_toArray, List.set_cons_zero, List.set_cons_succ, i64_w, i32_w]
                  rfl
                refine pure_ (i := 25) (N := some 47) (v := undef) (a' := ?_) #[true, true, true, true, true, true, true, true, true, true, true, true, true, true, true, true, true, true, true, true, true, true, true, true, true, true, false, false, false, false, false, false, false, false, false, false, false] rfl rfl (any_of HT_.out (by kernel_rfl)) (fun _ _ _ h => h) (Or.inr ⟨by rfl, rfl⟩) ?_ ?_
                rotate_left
                · simp only [Act.put, List.setIfInBounds_toArray, List.set_cons_zero, List.set_cons_succ, i64_w, i32_w]
                  rfl
                refine pure_ (i := 26) (N := some 48) (v := undef) (a' := ?_) #[true, true, true, true, true, true, true, true, true, true, true, true, true, true, true, true, true, true, true, true, true, true, true, true, true, true, true, false, false, false, false, false, false, false, false, false, false] rfl rfl (any_of HT_.out (by kernel_rfl)) (fun _ _ _ h => h) (Or.inr ⟨by rfl, rfl⟩) ?_ ?_
                rotate_left
                · simp only [Act.put, List.setIfInBounds_toArray, List.set_cons_zero, List.set_cons_succ, i64_w, i32_w]
                  rfl
                refine pure_ (i := 27) (N := some 49) (v := undef) (a' := ?_) #[true, true, true, true, true, true, true, true, true, true, true, true, true, true, true, true, true, true, true, true, true, true, true, true, true, true, true, true, false, false, false, false, false, false, false, false, false] rfl rfl (any_of HT_.out (by kernel_rfl)) (fun _ _ _ h => h) (Or.inr ⟨by rfl, rfl⟩) ?_ ?_
                rotate_left
                · simp only [Act.put, List.setIfInBounds_toArray, List.set_cons_zero, List.set_cons_succ, i64_w, i32_w]
                  rfl
                refine pure_ (i := 28) (N := some 50) (v := undef) (a' := ?_) #[true, true, true, true, true, true, true, true, true, true, true, true, true, true, true, true, true, true, true, true, true, true, true, true, true, true, true, true, true, false, false, false, false, false, false, false, false] rfl rfl (any_of HT_.out (by kernel_rfl)) (fun _ _ _ h => h) (Or.inr ⟨by rfl, rfl⟩) ?_ ?_
                rotate_left
                · simp only [Act.put, List.setIfInBounds_toArray, List.set_cons_zero, List.set_cons_succ, i64_w, i32_w]
                  rfl
                refine pure_ (i := 29) (N := some 51) (v := undef) (a' := ?_) #[true, true, true, true, true, true, true, true, true, true, true, true, true, true, true, true, true, true, true, true, true, true, true, true, true, true, true, true, true, true, false, false, false, false, false, false, false] rfl rfl (any_of HT_.out (by kernel_rfl)) (fun _ _ _ h => h) (Or.inr ⟨by rfl, rfl⟩) ?_ ?_
                rotate_left
                · simp only [Act.put, List.setIfInBounds_toArray, List.set_cons_zero, List.set_cons_succ, i64_w, i32_w]
                  rfl
                refine pure_ (i := 30) (N := some 52) (v := undef) (a' := ?_) #[true, true, true, true, true, true, true, true, true, true, true, true, true, true, true, true, true, true, true, true, true, true, true, true, true, true, true, true, true, true, true, false, false, false, false, false, false] rfl rfl (any_of HT_.out (by kernel_rfl)) (fun _ _ _ h => h) (Or.inr ⟨by rfl, rfl⟩) ?_ ?_
                rotate_left
                · simp only [Act.put, List.setIfInBounds_toArray, List.set_cons_zero, List.set_cons_succ, i64_w, i32_w]
                  rfl
                refine pure_ (i := 31) (N := some 53) (v := undef) (a' := ?_) #[true, true, true, true, true, true, true, true, true, true, true, true, true, true, true, true, true, true, true, true, true, true, true, true, true, true, true, true, true, true, true, true, false, false, false, false, false] rfl rfl (any_of HT_.out (by kernel_rfl)) (fun _ _ _ h => h) (Or.inr ⟨by rfl, rfl⟩) ?_ ?_
                rotate_left
                · simp only [Act.put, List.setIfInBounds_toArray, List.set_cons_zero, List.set_cons_succ, i64_w, i32_w]
                  rfl
                refine pure_ (i := 32) (N := some 54) (v := undef) (a' := ?_) #[true, true, true, true, true, true, true, true, true, true, true, true, true, true, true, true, true, true, true, true, true, true, true, true, true, true, true, true, true, true, true, true, true, false, false, false, false] rfl rfl (any_of HT_.out (by kernel_rfl)) (fun _ _ _ h => h) (Or.inr ⟨by rfl, rfl⟩) ?_ ?_
                rotate_left
                · simp only [Act.put, List.setIfInBounds_toArray, List.set_cons_zero, List.set_cons_succ, i64_w, i32_w]
                  rfl
                refine pure_ (i := 33) (N := some 55) (v := undef) (a' := ?_) #[true, true, true, true, true, true, true, true, true, true, true, true, true, true, true, true, true, true, true, true, true, true, true, true, true, true, true, true, true, true, true, true, true, true, false, false, false] rfl rfl (any_of HT_.out (by kernel_rfl)) (fun _ _ _ h => h) (Or.inr ⟨by rfl, rfl⟩) ?_ ?_
                rotate_left
                · simp only [Act.put, List.setIfInBounds_toArray, List.set_cons_zero, List.set_cons_succ, i64_w, i32_w]
                  rfl
                refine pure_ (i := 34) (N := some 56) (v := undef) (a' := ?_) #[true, true, true, true, true, true, true, true, true, true, true, true, true, true, true, true, true, true, true, true, true, true, true, true, true, true, true, true, true, true, true, true, true, true, true, false, false] rfl rfl (any_of HT_.out (by kernel_rfl)) (fun _ _ _ h => h) (Or.inr ⟨by rfl, rfl⟩) ?_ ?_
                rotate_left
                · simp only [Act.put, List.setIfInBounds_toArray, List.set_cons_zero, List.set_cons_succ, i64_w, i32_w]
                  rfl
                refine pure_ (i := 35) (N := some 57) (v := ?_) (a' := ?_) #[true, true, true, true, true, true, true, true, true, true, true, true, true, true, true, true, true, true, true, true, true, true, true, true, true, true, true, true, true, true, true, true, true, true, true, true, false] rfl rfl (any_of HT_.out (by kernel_rfl)) (fun _ _ _ h => h) (Or.inl ⟨by rfl, ?_⟩) ?_ ?_
                rotate_left
                · intro w'
                  go_simp
                  with_reducible rfl
                rotate_left
                · simp only [Act.put, List.setIfInBounds_toArray, List.set_cons_zero, List.set_cons_succ, i64_w, i32_w]
                  rfl
                refine one_ (i := 36) (N := some 58) #[true, true, true, true, true, true, true, true, true, true, true, true, true, true, true, true, true, true, true, true, true, true, true, true, true, true, true, true, true, true, true, true, true, true, true, true, true] rfl rfl (one_of HT_.out (by kernel_rfl)) (by decide) (fun K hK => ?_)
                refine goes_ Try.func52 (by kernel_rfl) rfl #[.pointer (some ⟨gb120, 0, none⟩), .bool true] (by rfl) rfl rfl (by (try simp only [List.map_toArray, List.map_cons, List.map_nil]); first | done | rfl | (simp only [List.length_drop, List.length_take]; rfl)) ?_
                with_reducible refine (impl_builder_must.calls gb120 x121000_1 x121001_1 x121002_1 true t123 t124 t125 w _ ?side1 ?side2 A13.out).mono ?_
                (case side1 => repeat (first | (with_reducible first | exact (Aside0.mk (IsS95.of BK120.out GE120.out)).out | apply IsS95.alloc | apply IsS95.drewN | apply IsS95.drew | apply IsS95.set_0 | apply IsS95.set_1 | apply IsS95.set_2 | refine IsS95.far ?_ NB120_122.out _) | exact (Aside0.mk (IsS95.of BK120.out GE120.out)).out))
                (case side2 => repeat (first | (with_reducible first | exact HB.out | apply below_alloc | apply pw_below_drewN | apply below_drew1 | refine below_set ?_ (IsS95.ge (Aside0.mk (IsS95.of BK120.out GE120.out)).out) | refine below_set ?_ GE122.out) | exact HB.out))
                rintro e w16 ⟨rfl, hi, hb, hk⟩
                refine ⟨_, rfl, ?_⟩
                have n0_ := Aside0.mk (Kd.R_mono (Kd.R_keep (IsS95.apart (show IsS95 w _ gb120 x121000_1 x121001_1 x121002_1 from by repeat (first | (with_reducible first | exact (Aside0.mk (IsS95.of BK120.out GE120.out)).out | apply IsS95.alloc | apply IsS95.drewN | apply IsS95.drew | apply IsS95.set_0 | apply IsS95.set_1 | apply IsS95.set_2 | refine IsS95.far ?_ NB120_122.out _) | exact (Aside0.mk (IsS95.of BK120.out GE120.out)).out)) (by (with_reducible repeat (first | apply Kd.R_alloc | apply Kd.R_drewN | apply Kd.R_drew)); exact HO_8.out) (by decide)) hk (fun _ h => h.2)) (fun _ h => h.1))
                have n1_ := Aside0.mk (KeepBut.blk hk (g' := gb122) (o := .cells #[.int .i64 ((rd_T52 l0 x17_1).f0), .int .i64 ((rd_T52 l0 x17_1).f1), .int .i64 ((rd_T52 l0 x17_1).f2)] 52 (0, 0)) (by (with_reducible repeat (first | refine blk_drewN ?_ _ | refine blk_drew ?_ | refine blk_alloc ?_ _)); exact BK122.out) NB122_120.out (by simp))
                have n2_ := Aside0.mk (hb)
                have n3_ := Aside0.mk (IsS95.cells hi)
                clear HO_8
                clear BK122
                clear HB
                clear BK120
                have HO_8 := n0_
                have BK122 := n1_
                have HB := n2_
                have BK120 := n3_
                clear n0_ n1_ n2_ n3_
                (try clear hb)
                (try clear hb2)
                (try clear hk)
                (try clear hi)
                refine hK.out _ _ trivial (fun hHeld => ?_)
                clear hK K
                refine norm_ (a' := ?_) ?_ ?_
                rotate_left
                · show Act.put _ (some 58) _ = _
                  simp only [Act.put, List.setIfInBounds_toArray, List.set_cons_zero, List.set_cons_succ, i64_w, i32_w]
                  rfl
                refine done_ (done_of HT_.out (by kernel_rfl)) ?_
                try go_wp2
                go_meet
                case rel => exact ⟨_, (t123), (t124), (t125), H', ⟨by have := HK1.out; first | omega | exact Nat.le_refl _⟩, ⟨by (with_reducible repeat (first | apply Kd.R_alloc | apply Kd.R_drewN | apply Kd.R_drew)); exact HO_8.out⟩, ⟨by (with_reducible repeat (first | refine blk_drewN ?_ _ | refine blk_drew ?_ | refine blk_alloc ?_ _)); exact BK120.out⟩, ⟨by (with_reducible repeat (first | refine blk_drewN ?_ _ | refine blk_drew ?_ | refine blk_alloc ?_ _)); exact BK122.out⟩, ⟨by repeat (first | (with_reducible first | exact HB.out | apply below_alloc | apply pw_below_drewN | apply below_drew1 | refine below_set ?_ GE120.out | refine below_set ?_ GE122.out) | exact HB.out)⟩⟩
              · rw [if_neg c12] at H
                have c12b0 : (x17_1 == 0) = false := beq_eq_false_iff_ne.mpr c12
                have c12b1 : (x17_1 != 0) = true := bne_iff_ne.mpr c12
                (first | rw [c12b0] | (simp only [i64_w, i32_w]; rw [c12b0]) | skip)
                obtain ⟨ji17, hji17⟩ : ∃ j_ : Int, (wrap64 (x17_1 - 1)) = j_ := ⟨_, rfl⟩
                replace H : (if 0 ≤ (ji17) then (if (ji17) < (l0.length : Int) then (if ((rd_T52 l0 x17_1).f0) > ((rd_T52 l0 (ji17)).f0) then ((impl_builder_must.f x121000_1 x121001_1 x121002_1 true).bind fun bt127 => (impl_Kerned.j1 k1 l0 a1 a2 x8_1 l0 (l0.length : Int) x17_1 bt127.1 bt127.2.1 bt127.2.2 ((rd_T52 l0 x17_1).f0) ((rd_T52 l0 x17_1).f1) ((rd_T52 l0 x17_1).f2))) else (if ((rd_T52 l0 x17_1).f0) = ((rd_T52 l0 (ji17)).f0) then ((impl_builder_must.f x121000_1 x121001_1 x121002_1 (decide (((rd_T52 l0 x17_1).f1) > ((rd_T52 l0 (ji17)).f1)))).bind fun bt132 => (impl_Kerned.j1 k1 l0 a1 a2 x8_1 l0 (l0.length : Int) x17_1 bt132.1 bt132.2.1 bt132.2.2 ((rd_T52 l0 x17_1).f0) ((rd_T52 l0 x17_1).f1) ((rd_T52 l0 x17_1).f2))) else ((impl_builder_must.f x121000_1 x121001_1 x121002_1 false).bind fun bt135 => (impl_Kerned.j1 k1 l0 a1 a2 x8_1 l0 (l0.length : Int) x17_1 bt135.1 bt135.2.1 bt135.2.2 ((rd_T52 l0 x17_1).f0) ((rd_T52 l0 x17_1).f1) ((rd_T52 l0 x17_1).f2))))) else (none)) else (none)) = some r := by first | (rw [hji17] at H; exact H) | (simp only [hji17] at H ⊢; exact H)
                have hji17w : (IntKind.i64.wrap (x17_1 - 1)) = ji17 := (i64_w _).trans hji17
                by_cases c18 : 0 ≤ (ji17)
                · rw [if_pos c18] at H
                  have c18b0 : decide (0 ≤ (ji17)) = true := decide_eq_true c18
                  clear c18
                  by_cases c19 : (ji17) < (l0.length : Int)
                  · rw [if_pos c19] at H
                    have c19b0 : decide ((ji17) < (l0.length : Int)) = true := decide_eq_true c19
                    clear c19
                    by_cases c20 : ((rd_T52 l0 x17_1).f0) > ((rd_T52 l0 (ji17)).f0)
                    · rw [if_pos c20] at H
                      have c20b0 : decide (((rd_T52 l0 (ji17)).f0) < ((rd_T52 l0 x17_1).f0)) = true := decide_eq_true c20
                      clear c20
                      replace H := Option.bind_eq_some_iff.mp H
                      obtain ⟨⟨t127, t128, t129⟩, A210, H⟩ := H
                      replace H : (impl_Kerned.j1 k1 l0 a1 a2 x8_1 l0 (l0.length : Int) x17_1 t127 t128 t129 ((rd_T52 l0 x17_1).f0) ((rd_T52 l0 x17_1).f1) ((rd_T52 l0 x17_1).f2)) = some r := H
                      have A21 := Aside0.mk A210
                      clear A210
                      have H' := Aside0.mk H
                      clear H
                      try go_wp2
                      have n0_ : Aside0 (Kd.R k102 102 (((w9.setCell ⟨gb122, 0, none⟩ (.int .i64 ((rd_T52 l0 x17_1).f0))).setCell ⟨gb122, 1, none⟩ (.int .i64 ((rd_T52 l0 x17_1).f1))).setCell ⟨gb122, 2, none⟩ (.int .i64 ((rd_T52 l0 x17_1).f2))) w.heap.size (fun _ => True) u8 x8_1) := ⟨by (with_reducible repeat (first | apply Kd.R_alloc | apply Kd.R_drewN | apply Kd.R_drew)); exact Kd.R_mono (Kd.R_far (p := ⟨gb122, 2, none⟩) (Kd.R_far (p := ⟨gb122, 1, none⟩) (Kd.R_far (p := ⟨gb122, 0, none⟩) (Kd.R_types HO_8.out BK122.out (by decide)) (fun _ hk => hk.2) (.int .i64 ((rd_T52 l0 x17_1).f0))) (fun _ hk => hk.2) (.int .i64 ((rd_T52 l0 x17_1).f1))) (fun _ hk => hk.2) (.int .i64 ((rd_T52 l0 x17_1).f2))) (fun _ hk => trivial)⟩
                      have n1_ : Aside0 ((((w9.setCell ⟨gb122, 0, none⟩ (.int .i64 ((rd_T52 l0 x17_1).f0))).setCell ⟨gb122, 1, none⟩ (.int .i64 ((rd_T52 l0 x17_1).f1))).setCell ⟨gb122, 2, none⟩ (.int .i64 ((rd_T52 l0 x17_1).f2))).heap[gb120]? = some (.cells #[.int .i64 x121000_1, .int .i64 x121001_1, .bool x121002_1] 95 (0, 0))) := ⟨by (with_reducible repeat (first | refine blk_drewN ?_ _ | refine blk_drew ?_ | refine blk_alloc ?_ _)); refine blk_far ?_ NB120_122.out _; (with_reducible repeat (first | refine blk_drewN ?_ _ | refine blk_drew ?_ | refine blk_alloc ?_ _)); refine blk_far ?_ NB120_122.out _; (with_reducible repeat (first | refine blk_drewN ?_ _ | refine blk_drew ?_ | refine blk_alloc ?_ _)); refine blk_far ?_ NB120_122.out _; (with_reducible repeat (first | refine blk_drewN ?_ _ | refine blk_drew ?_ | refine blk_alloc ?_ _)); exact BK120.out⟩
                      have n2_ : Aside0 ((((w9.setCell ⟨gb122, 0, none⟩ (.int .i64 ((rd_T52 l0 x17_1).f0))).setCell ⟨gb122, 1, none⟩ (.int .i64 ((rd_T52 l0 x17_1).f1))).setCell ⟨gb122, 2, none⟩ (.int .i64 ((rd_T52 l0 x17_1).f2))).heap[gb122]? = some (.cells #[.int .i64 ((rd_T52 l0 x17_1).f0), .int .i64 ((rd_T52 l0 x17_1).f1), .int .i64 ((rd_T52 l0 x17_1).f2)] 52 (0, 0))) := ⟨by (with_reducible repeat (first | refine blk_drewN ?_ _ | refine blk_drew ?_ | refine blk_alloc ?_ _)); refine blk_put (cs := #[.int .i64 ((rd_T52 l0 x17_1).f0), .int .i64 ((rd_T52 l0 x17_1).f1), .int .i64 0]) ?_ 2 _ rfl; (with_reducible repeat (first | refine blk_drewN ?_ _ | refine blk_drew ?_ | refine blk_alloc ?_ _)); refine blk_put (cs := #[.int .i64 ((rd_T52 l0 x17_1).f0), .int .i64 0, .int .i64 0]) ?_ 1 _ rfl; (with_reducible repeat (first | refine blk_drewN ?_ _ | refine blk_drew ?_ | refine blk_alloc ?_ _)); refine blk_put (cs := #[.int .i64 0, .int .i64 0, .int .i64 0]) ?_ 0 _ rfl; (with_reducible repeat (first | refine blk_drewN ?_ _ | refine blk_drew ?_ | refine blk_alloc ?_ _)); exact BK122.out⟩
                      have n3_ : Aside0 (Below w.heap.size w (((w9.setCell ⟨gb122, 0, none⟩ (.int .i64 ((rd_T52 l0 x17_1).f0))).setCell ⟨gb122, 1, none⟩ (.int .i64 ((rd_T52 l0 x17_1).f1))).setCell ⟨gb122, 2, none⟩ (.int .i64 ((rd_T52 l0 x17_1).f2)))) := ⟨by repeat (first | (with_reducible first | exact HB.out | apply below_alloc | apply pw_below_drewN | apply below_drew1 | refine below_set ?_ GE120.out | refine below_set ?_ GE122.out) | exact HB.out)⟩
                      (try clear HO_8)
                      (try clear BK120)
                      (try clear BK122)
                      (try clear HB)
                      generalize (((w9.setCell ⟨gb122, 0, none⟩ (.int .i64 ((rd_T52 l0 x17_1).f0))).setCell ⟨gb122, 1, none⟩ (.int .i64 ((rd_T52 l0 x17_1).f1))).setCell ⟨gb122, 2, none⟩ (.int .i64 ((rd_T52 l0 x17_1).f2))) = w22 at n0_ n1_ n2_ n3_ ⊢
                      have HO_8 := n0_
                      have BK120 := n1_
                      have BK122 := n2_
                      have HB := n3_
                      clear n0_ n1_ n2_ n3_
                      have n0_ := Aside0.mk (Kd.R_drew HO_8.out)
                      have n1_ := Aside0.mk (blk_drew BK120.out)
                      have n2_ := Aside0.mk (blk_drew BK122.out)
                      have n3_ := Aside0.mk (below_drew1 HB.out)
                      clear HO_8
                      clear BK120
                      clear BK122
                      clear HB
                      have HO_8 := n0_
                      have BK120 := n1_
                      have BK122 := n2_
                      have HB := n3_
                      clear n0_ n1_ n2_ n3_
                      have p126 : 0 ≤ ((ji17) : Int) := of_decide_eq_true (by first | (with_reducible assumption) | assumption)
                      have q126 : (ji17) < (l0.length : Int) := of_decide_eq_true (by first | (with_reducible assumption) | assumption)
                      obtain ⟨ad126, e126, hx126_0, hx126_1, hx126_2⟩ := at_T52 HR0.out (ji17) p126 q126
                      have hw126_2 := hx126_2
                      have hw126_1 := hx126_1
                      have hw126_0 := hx126_0
                      obtain rfl : ad121 = ad126 := (by injection e126)
                      replace hx126_0 := (HB.out.cell (World.block_lt_of_cell? w _ hx126_0)).trans hx126_0
                      replace hx126_1 := (HB.out.cell (World.block_lt_of_cell? w _ hx126_1)).trans hx126_1
                      replace hx126_2 := (HB.out.cell (World.block_lt_of_cell? w _ hx126_2)).trans hx126_2
                      replace p126 := eq_true p126
                      replace q126 := eq_true q126
                      refine start_ (n := 37) (S := fun w' => w'.cell? ⟨gb122, 0, none⟩ = some (.int .i64 ((rd_T52 l0 x17_1).f0)) ∧ w'.cell? ⟨gb122, 1, none⟩ = some (.int .i64 ((rd_T52 l0 x17_1).f1)) ∧ w'.cell? ⟨gb122, 2, none⟩ = some (.int .i64 ((rd_T52 l0 x17_1).f2)) ∧ w'.cell? (ad121.add (((ji17)).toNat * 3)) = some (.int .i64 ((rd_T52 l0 (ji17)).f0)) ∧ w'.cell? ⟨(ad121.add (((ji17)).toNat * 3)).block, (ad121.add (((ji17)).toNat * 3)).off + 1, none⟩ = some (.int .i64 ((rd_T52 l0 (ji17)).f1)) ∧ w'.cell? ⟨(ad121.add (((ji17)).toNat * 3)).block, (ad121.add (((ji17)).toNat * 3)).off + 2, none⟩ = some (.int .i64 ((rd_T52 l0 (ji17)).f2))) (ds := []) #[false, false, false, false, false, false, false, false, false, false, false, false, false, false, false, false, false, false, false, false, false, false, false, false, false, false, false, false, false, false, false, false, false, false, false, false, false] (by kernel_rfl) rfl rfl ⟨(blk_cell BK122.out 0).trans rfl, (blk_cell BK122.out 1).trans rfl, (blk_cell BK122.out 2).trans rfl, ((HB.out.cell (World.block_lt_of_cell? w _ hw126_0)).trans hw126_0), ((HB.out.cell (World.block_lt_of_cell? w _ hw126_1)).trans hw126_1), ((HB.out.cell (World.block_lt_of_cell? w _ hw126_2)).trans hw126_2)⟩ (fun hHeld => ?_); refine with_tabW impl_Kerned.tab6 impl_Kerned.bits6 (fun HT_ HW_ => ?_)
                      generalize w22.drew = w23 at HO_8 BK120 BK122 HB hx126_0 hx126_1 hx126_2 hHeld ⊢
                      refine pure_ (i := 0) (N := some 22) (v := ?_) (a' := ?_) #[true, false, false, false, false, false, false, false, false, false, false, false, false, false, false, false, false, false, false, false, false, false, false, false, false, false, false, false, false, false, false, false, false, false, false, false, false] rfl rfl (any_of HT_.out (by kernel_rfl)) (fun _ _ _ h => h) (Or.inl ⟨by rfl, ?_⟩) ?_ ?_
                      rotate_left
                      · intro w'
                        go_simp
                        with_reducible rfl
                      rotate_left
                      · simp only [Act.put, List.setIfInBounds_toArray, List.set_cons_zero, List.set_cons_succ, i64_w, i32_w]
                        rfl
                      refine pure_ (i := 1) (N := some 23) (v := ?_) (a' := ?_) #[true, true, false, false, false, false, false, false, false, false, false, false, false, false, false, false, false, false, false, false, false, false, false, false, false, false, false, false, false, false, false, false, false, false, false, false, false] rfl rfl (any_of HT_.out (by kernel_rfl)) (fun _ _ _ h => h) (Or.inl ⟨by rfl, ?_⟩) ?_ ?_
                      rotate_left
                      · intro w'
                        go_simp
                        with_reducible rfl
                      rotate_left
                      · simp only [Act.put, List.setIfInBounds_toArray, List.set_cons_zero, List.set_cons_succ, i64_w, i32_w]
                        rfl
                      refine pure_ (i := 2) (N := some 24) (v := ?_) (a' := ?_) #[true, true, true, false, false, false, false, false, false, false, false, false, false, false, false, false, false, false, false, false, false, false, false, false, false, false, false, false, false, false, false, false, false, false, false, false, false] rfl rfl (any_of HT_.out (by kernel_rfl)) (fun _ _ _ h => h) (Or.inl ⟨by rfl, ?_⟩) ?_ ?_
                      rotate_left
                      · intro w'
                        go_simp
                        with_reducible rfl
                      rotate_left
                      · simp only [Act.put, List.setIfInBounds_toArray, List.set_cons_zero, List.set_cons_succ, i64_w, i32_w]
                        rfl
                      refine pure_ (i := 3) (N := some 25) (v := ?_) (a' := ?_) #[true, true, true, true, false, false, false, false, false, false, false, false, false, false, false, false, false, false, false, false, false, false, false, false, false, false, false, false, false, false, false, false, false, false, false, false, false] rfl rfl (any_of HT_.out (by kernel_rfl)) (fun _ _ _ h => h) (Or.inl ⟨by rfl, ?_⟩) ?_ ?_
                      rotate_left
                      · intro w'
                        go_simp
                        with_reducible rfl
                      rotate_left
                      · simp only [Act.put, List.setIfInBounds_toArray, List.set_cons_zero, List.set_cons_succ, i64_w, i32_w]
                        rfl
                      refine pure_ (i := 4) (N := some 26) (v := ?_) (a' := ?_) #[true, true, true, true, true, false, false, false, false, false, false, false, false, false, false, false, false, false, false, false, false, false, false, false, false, false, false, false, false, false, false, false, false, false, false, false, false] rfl rfl (any_of HT_.out (by kernel_rfl)) (fun _ _ _ h => h) (Or.inl ⟨by rfl, ?_⟩) ?_ ?_
                      rotate_left
                      · intro w'
                        go_simp
                        with_reducible rfl
                      rotate_left
                      · simp only [Act.put, List.setIfInBounds_toArray, List.set_cons_zero, List.set_cons_succ, i64_w, i32_w]
                        rfl
                      refine pure_ (i := 6) (N := some 28) (v := ?_) (a' := ?_) #[true, true, true, true, true, false, true, false, false, false, false, false, false, false, false, false, false, false, false, false, false, false, false, false, false, false, false, false, false, false, false, false, false, false, false, false, false] rfl rfl (any_of HT_.out (by kernel_rfl)) (fun _ _ _ h => h) (Or.inl ⟨by rfl, ?_⟩) ?_ ?_
                      rotate_left
                      · intro w'
                        go_simp
                        with_reducible rfl
                      rotate_left
                      · simp only [Act.put, List.setIfInBounds_toArray, List.set_cons_zero, List.set_cons_succ, i64_w, i32_w]
                        rfl
                      refine pure_ (i := 7) (N := some 29) (v := ?_) (a' := ?_) #[true, true, true, true, true, false, true, true, false, false, false, false, false, false, false, false, false, false, false, false, false, false, false, false, false, false, false, false, false, false, false, false, false, false, false, false, false] rfl rfl (any_of HT_.out (by kernel_rfl)) (fun _ _ _ h => h) (Or.inl ⟨by rfl, ?_⟩) ?_ ?_
                      rotate_left
                      · intro w'
                        go_simp
                        with_reducible rfl
                      rotate_left
                      · simp only [Act.put, List.setIfInBounds_toArray, List.set_cons_zero, List.set_cons_succ, i64_w, i32_w]
                        rfl
                      refine pure_ (i := 8) (N := some 30) (v := ?_) (a' := ?_) #[true, true, true, true, true, false, true, true, true, false, false, false, false, false, false, false, false, false, false, false, false, false, false, false, false, false, false, false, false, false, false, false, false, false, false, false, false] rfl rfl (any_of HT_.out (by kernel_rfl)) (fun _ _ _ h => h) (Or.inl ⟨by rfl, ?_⟩) ?_ ?_
                      rotate_left
                      · intro w'
                        go_simp
                        with_reducible rfl
                      rotate_left
                      · simp only [Act.put, List.setIfInBounds_toArray, List.set_cons_zero, List.set_cons_succ, i64_w, i32_w]
                        rfl
                      refine pure_ (i := 9) (N := some 31) (v := ?_) (a' := ?_) #[true, true, true, true, true, false, true, true, true, true, false, false, false, false, false, false, false, false, false, false, false, false, false, false, false, false, false, false, false, false, false, false, false, false, false, false, false] rfl rfl (any_of HT_.out (by kernel_rfl)) (fun _ _ _ h => h) (Or.inl ⟨by rfl, ?_⟩) ?_ ?_
                      rotate_left
                      · intro w'
                        go_simp
                        with_reducible rfl
                      rotate_left
                      · simp only [Act.put, List.setIfInBounds_toArray, List.set_cons_zero, List.set_cons_succ, i64_w, i32_w]
                        rfl
                      refine pure_ (i := 10) (N := some 32) (v := ?_) (a' := ?_) #[true, true, true, true, true, false, true, true, true, true, true, false, false, false, false, false, false, false, false, false, false, false, false, false, false, false, false, false, false, false, false, false, false, false, false, false, false] rfl rfl (any_of HT_.out (by kernel_rfl)) (fun _ _ _ h => h) (Or.inl ⟨by rfl, ?_⟩) ?_ ?_
                      rotate_left
                      · intro w'
                        go_simp
                        with_reducible rfl
                      rotate_left
                      · simp only [Act.put, List.setIfInBounds_toArray, List.set_cons_zero, List.set_cons_succ, i64_w, i32_w]
                        rfl
                      refine take_ (i := 5) (N := some 27) (v := ?_) (a' := ?_) #[true, true, true, true, true, true, true, true, true, true, true, false, false, false, false, false, false, false, false, false, false, false, false, false, false, false, false, false, false, false, false, false, false, false, false, false, false] rfl rfl (take_ofW HT_.out HW_.out (by kernel_rfl)) (fun _ _ _ h => h) (Or.inl ⟨by rfl, ?_⟩) hHeld ?_ ?_
                      rotate_left
                      · rintro w' ⟨s0, s1, s2, s3, s4, s5⟩
                        go_simp
                        with_reducible rfl
                      rotate_left
                      · simp only [Act.put, List.setIfInBounds_toArray, List.set_cons_zero, List.set_cons_succ, i64_w, i32_w]
                        rfl
                      refine take_ (i := 11) (N := some 33) (v := ?_) (a' := ?_) #[true, true, true, true, true, true, true, true, true, true, true, true, false, false, false, false, false, false, false, false, false, false, false, false, false, false, false, false, false, false, false, false, false, false, false, false, false] rfl rfl (take_ofW HT_.out HW_.out (by kernel_rfl)) (fun _ _ _ h => h) (Or.inl ⟨by rfl, ?_⟩) hHeld ?_ ?_
                      rotate_left
                      · rintro w' ⟨s0, s1, s2, s3, s4, s5⟩
                        go_simp
                        with_reducible rfl
                      rotate_left
                      · simp only [Act.put, List.setIfInBounds_toArray, List.set_cons_zero, List.set_cons_succ, i64_w, i32_w]
                        rfl
                      refine pure_ (i := 12) (N := some 34) (v := ?_) (a' := ?_) #[true, true, true, true, true, true, true, true, true, true, true, true, true, false, false, false, false, false, false, false, false, false, false, false, false, false, false, false, false, false, false, false, false, false, false, false, false] rfl rfl (any_of HT_.out (by kernel_rfl)) (fun _ _ _ h => h) (Or.inl ⟨by rfl, ?_⟩) ?_ ?_
                      rotate_left
                      · intro w'
                        go_simp
                        with_reducible rfl
                      rotate_left
                      · simp only [Act.put, List.setIfInBounds_toArray, List.set_cons_zero, List.set_cons_succ, i64_w, i32_w]
                        rfl
                      refine pure_ (i := 13) (N := some 35) (v := ?_) (a' := ?_) #[true, true, true, true, true, true, true, true, true, true, true, true, true, true, false, false, false, false, false, false, false, false, false, false, false, false, false, false, false, false, false, false, false, false, false, false, false] rfl rfl (any_of HT_.out (by kernel_rfl)) (fun _ _ _ h => h) (Or.inl ⟨by rfl, ?_⟩) ?_ ?_
                      rotate_left
                      · intro w'
                        go_simp
                        with_reducible rfl
                      rotate_left
                      · simp only [Act.put, List.setIfInBounds_toArray, List.set_cons_zero, List.set_cons_succ, i64_w, i32_w]
                        rfl
                      refine pure_ (i := 14) (N := some 36) (v := ?_) (a' := ?_) #[true, true, true, true, true, true, true, true, true, true, true, true, true, true, true, false, false, false, false, false, false, false, false, false, false, false, false, false, false, false, false, false, false, false, false, false, false] rfl rfl (any_of HT_.out (by kernel_rfl)) (fun _ _ _ h => h) (Or.inl ⟨by rfl, ?_⟩) ?_ ?_
                      rotate_left
                      · intro w'
                        go_simp
                        with_reducible rfl
                      rotate_left
                      · simp only [Act.put, List.setIfInBounds_toArray, List.set_cons_zero, List.set_cons_succ, i64_w, i32_w]
                        rfl
                      refine pure_ (i := 15) (N := some 37) (v := undef) (a' := ?_) #[true, true, true, true, true, true, true, true, true, true, true, true, true, true, true, true, false, false, false, false, false, false, false, false, false, false, false, false, false, false, false, false, false, false, false, false, false] rfl rfl (any_of HT_.out (by kernel_rfl)) (fun _ _ _ h => h) (Or.inr ⟨by rfl, rfl⟩) ?_ ?_
                      rotate_left
                      · simp only [Act.put, List.setIfInBounds_toArray, List.set_cons_zero, List.set_cons_succ, i64_w, i32_w]
                        rfl
                      refine pure_ (i := 16) (N := some 38) (v := undef) (a' := ?_) #[true, true, true, true, true, true, true, true, true, true, true, true, true, true, true, true, true, false, false, false, false, false, false, false, false, false, false, false, false, false, false, false, false, false, false, false, false] rfl rfl (any_of HT_.out (by kernel_rfl)) (fun _ _ _ h => h) (Or.inr ⟨by rfl, rfl⟩) ?_ ?_
                      rotate_left
                      · simp only [Act.put, List.setIfInBounds_toArray, List.set_cons_zero, List.set_cons_succ, i64_w, i32_w]
                        rfl
                      refine pure_ (i := 17) (N := some 39) (v := undef) (a' := ?_) #[true, true, true, true, true, true, true, true, true, true, true, true, true, true, true, true, true, true, false, false, false, false, false, false, false, false, false, false, false, false, false, false, false, false, false, false, false] rfl rfl (any_of HT_.out (by kernel_rfl)) (fun _ _ _ h => h) (Or.inr ⟨by rfl, rfl⟩) ?_ ?_
                      rotate_left
                      · simp only [Act.put, List.setIfInBounds_toArray, List.set_cons_zero, List.set_cons_succ, i64_w, i32_w]
                        rfl
                      refine pure_ (i := 18) (N := some 40) (v := undef) (a' := ?_) #[true, true, true, true, true, true, true, true, true, true, true, true, true, true, true, true, true, true, true, false, false, false, false, false, false, false, false, false, false, false, false, false, false, false, false, false, false] rfl rfl (any_of HT_.out (by kernel_rfl)) (fun _ _ _ h => h) (Or.inr ⟨by rfl, rfl⟩) ?_ ?_
                      rotate_left
                      · simp only [Act.put, List.setIfInBounds_toArray, List.set_cons_zero, List.set_cons_succ, i64_w, i32_w]
                        rfl
                      refine pure_ (i := 19) (N := some 41) (v := undef) (a' := ?_) #[true, true, true, true, true, true, true, true, true, true, true, true, true, true, true, true, true, true, true, true, false, false, false, false, false, false, false, false, false, false, false, false, false, false, false, false, false] rfl rfl (any_of HT_.out (by kernel_rfl)) (fun _ _ _ h => h) (Or.inr ⟨by rfl, rfl⟩) ?_ ?_
                      rotate_left
                      · simp only [Act.put, List.setIfInBounds_toArray, List.set_cons_zero, List.set_cons_succ, i64_w, i32_w]
                        rfl
                      refine pure_ (i := 20) (N := some 42) (v := undef) (a' := ?_) #[true, true, true, true, true, true, true, true, true, true, true, true, true, true, true, true, true, true, true, true, true, false, false, false, false, false, false, false, false, false, false, false, false, false, false, false, false] rfl rfl (any_of HT_.out (by kernel_rfl)) (fun _ _ _ h => h) (Or.inr ⟨by rfl, rfl⟩) ?_ ?_
                      rotate_left
                      · simp only [Act.put, List.setIfInBounds_toArray, List.set_cons_zero, List.set_cons_succ, i64_w, i32_w]
                        rfl
                      refine pure_ (i := 21) (N := some 43) (v := undef) (a' := ?_) #[true, true, true, true, true, true, true, true, true, true, true, true, true, true, true, true, true, true, true, true, true, true, false, false, false, false, false, false, false, false, false, false, false, false, false, false, false] rfl rfl (any_of HT_.out (by kernel_rfl)) (fun _ _ _ h => h) (Or.inr ⟨by rfl, rfl⟩) ?_ ?_
                      rotate_left
                      · simp only [Act.put, List.setIfInBounds_toArray, List.set_cons_zero, List.set_cons_succ, i64_w, i32_w]
                        rfl
                      refine pure_ (i := 22) (N := some 44) (v := undef) (a' := ?_) #[true, true, true, true, true, true, true, true, true, true, true, true, true, true, true, true, true, true, true, true, true, true, true, false, false, false, false, false, false, false, false, false, false, false, false, false, false] rfl rfl (any_of HT_.out (by kernel_rfl)) (fun _ _ _ h => h) (Or.inr ⟨by rfl, rfl⟩) ?_ ?_
                      rotate_left
                      · simp only [Act.put, List.setIfInBounds_toArray, List.set_cons_zero, List.set_cons_succ, i64_w, i32_w]
                        rfl
                      refine pure_ (i := 23) (N := some 45) (v := undef) (a' := ?_) #[true, true, true, true, true, true, true, true, true, true, true, true, true, true, true, true, true, true, true, true, true, true, true, true, false, false, false, false, false, false, false, false, false, false, false, false, false] rfl rfl (any_of HT_.out (by kernel_rfl)) (fun _ _ _ h => h) (Or.inr ⟨by rfl, rfl⟩) ?_ ?_
                      rotate_left
                      · simp only [Act.put, List.setIfInBounds_toArray, List.set_cons_zero, List.set_cons_succ, i64_w, i32_w]
                        rfl
                      refine pure_ (i := 24) (N := some 46) (v := undef) (a' := ?_) #[true, true, true, true, true, true, true, true, true, true, true, true, true, true, true, true, true, true, true, true, true, true, true, true, true, false, false, false, false, false, false, false, false, false, false, false, false] rfl rfl (any_of HT_.out (by kernel_rfl)) (fun _ _ _ h => h) (Or.inr ⟨by rfl, rfl⟩) ?_ ?_
                      rotate_left
                      · simp only [Act.put, List.setIfInBounds_toArray, List.set_cons_zero, List.set_cons_succ, i64_w, i32_w]
                        rfl
                      refine pure_ (i := 25) (N := some 47) (v := undef) (a' := ?_) #[true, true, true, true, true, true, true, true, true, true, true, true, true, true, true, true, true, true, true, true, true, true, true, true, true, true, false, false, false, false, false, false, false, false, false, false, false] rfl rfl (any_of HT_.out (by kernel_rfl)) (fun _ _ _ h => h) (Or.inr ⟨by rfl, rfl⟩) ?_ ?_
                      rotate_left
                      · simp only [Act.put, List.setIfInBounds_toArray, List.set_cons_zero, List.set_cons_succ, i64_w, i32_w]
                        rfl
                      refine pure_ (i := 26) (N := some 48) (v := undef) (a' := ?_) #[true, true, true, true, true, true, true, true, true, true, true, true, true, true, true, true, true, true, true, true, true, true, true, true, true, true, true, false, false, false, false, false, false, false, false, false, false] rfl rfl (any_of HT_.out (by kernel_rfl)) (fun _ _ _ h => h) (Or.inr ⟨by rfl, rfl⟩) ?_ ?_
                      rotate_left
                      · simp only [Act.put, List.setIfInBounds_toArray, List.set_cons_zero, List.set_cons_succ, i64_w, i32_w]
                        rfl
                      refine pure_ (i := 27) (N := some 49) (v := undef) (a' := ?_) #[true, true, true, true, true, true, true, true, true, true, true, true, true, true, true, true, true, true, true, true, true, true, true, true, true, true, true, true, false, false, false, false, false, false, false, false, false] rfl rfl (any_of HT_.out (by kernel_rfl)) (fun _ _ _ h => h) (Or.inr ⟨by rfl, rfl⟩) ?_ ?_
                      rotate_left
                      · simp only [Act.put, List.setIfInBounds_toArray, List.set_cons_zero, List.set_cons_succ, i64_w, i32_w]
                        rfl
                      refine pure_ (i := 28) (N := some 50) (v := undef) (a' := ?_) #[true, true, true, true, true, true, true, true, true, true, true, true, true, true, true, true, true, true, true, true, true, true, true, true, true, true, true, true, true, false, false, false, false, false, false, false, false] rfl rfl (any_of HT_.out (by kernel_rfl)) (fun _ _ _ h => h) (Or.inr ⟨by rfl, rfl⟩) ?_ ?_
                      rotate_left
                      · simp only [Act.put, List.setIfInBounds_toArray, List.set_cons_zero, List.set_cons_succ, i64_w, i32_w]
                        rfl
                      refine pure_ (i := 29) (N := some 51) (v := undef) (a' := ?_) #[true, true, true, true, true, true, true, true, true, true, true, true, true, true, true, true, true, true, true, true, true, true, true, true, true, true, true, true, true, true, false, false, false, false, false, false, false] rfl rfl (any_of HT_.out (by kernel_rfl)) (fun _ _ _ h => h) (Or.inr ⟨by rfl, rfl⟩) ?_ ?_
                      rotate_left
                      · simp only [Act.put, List.setIfInBounds_toArray, List.set_cons_zero, List.set_cons_succ, i64_w, i32_w]
                        rfl
                      refine pure_ (i := 30) (N := some 52) (v := undef) (a' := ?_) #[true, true, true, true, true, true, true, true, true, true, true, true, true, true, true, true, true, true, true, true, true, true, true, true, true, true, true, true, true, true, true, false, false, false, false, false, false] rfl rfl (any_of HT_.out (by kernel_rfl)) (fun _ _ _ h => h) (Or.inr ⟨by rfl, rfl⟩) ?_ ?_
                      rotate_left
                      · simp only [Act.put, List.setIfInBounds_toArray, List.set_cons_zero, List.set_cons_succ, i64_w, i32_w]
                        rfl
                      refine pure_ (i := 31) (N := some 53) (v := undef) (a' := ?_) #[true, true, true, true, true, true, true, true, true, true, true, true, true, true, true, true, true, true, true, true, true, true, true, true, true, true, true, true, true, true, true, true, false, false, false, false, false] rfl rfl (any_of HT_.out (by kernel_rfl)) (fun _ _ _ h => h) (Or.inr ⟨by rfl, rfl⟩) ?_ ?_
                      rotate_left
                      · simp only [Act.put, List.setIfInBounds_toArray, List.set_cons_zero, List.set_cons_succ, i64_w, i32_w]
                        rfl
                      refine pure_ (i := 32) (N := some 54) (v := undef) (a' := ?_) #[true, true, true, true, true, true, true, true, true, true, true, true, true, true, true, true, true, true, true, true, true, true, true, true, true, true, true, true, true, true, true, true, true, false, false, false, false] rfl rfl (any_of HT_.out (by kernel_rfl)) (fun _ _ _ h => h) (Or.inr ⟨by rfl, rfl⟩) ?_ ?_
                      rotate_left
                      · simp only [Act.put, List.setIfInBounds_toArray, List.set_cons_zero, List.set_cons_succ, i64_w, i32_w]
                        rfl
                      refine pure_ (i := 33) (N := some 55) (v := undef) (a' := ?_) #[true, true, true, true, true, true, true, true, true, true, true, true, true, true, true, true, true, true, true, true, true, true, true, true, true, true, true, true, true, true, true, true, true, true, false, false, false] rfl rfl (any_of HT_.out (by kernel_rfl)) (fun _ _ _ h => h) (Or.inr ⟨by rfl, rfl⟩) ?_ ?_
                      rotate_left
                      · simp only [Act.put, List.setIfInBounds_toArray, List.set_cons_zero, List.set_cons_succ, i64_w, i32_w]
                        rfl
                      refine pure_ (i := 34) (N := some 56) (v := undef) (a' := ?_) #[true, true, true, true, true, true, true, true, true, true, true, true, true, true, true, true, true, true, true, true, true, true, true, true, true, true, true, true, true, true, true, true, true, true, true, false, false] rfl rfl (any_of HT_.out (by kernel_rfl)) (fun _ _ _ h => h) (Or.inr ⟨by rfl, rfl⟩) ?_ ?_
                      rotate_left
                      · simp only [Act.put, List.setIfInBounds_toArray, List.set_cons_zero, List.set_cons_succ, i64_w, i32_w]
                        rfl
                      refine pure_ (i := 35) (N := some 57) (v := ?_) (a' := ?_) #[true, true, true, true, true, true, true, true, true, true, true, true, true, true, true, true, true, true, true, true, true, true, true, true, true, true, true, true, true, true, true, true, true, true, true, true, false] rfl rfl (any_of HT_.out (by kernel_rfl)) (fun _ _ _ h => h) (Or.inl ⟨by rfl, ?_⟩) ?_ ?_
                      rotate_left
                      · intro w'
                        go_simp
                        with_reducible rfl
                      rotate_left
                      · simp only [Act.put, List.setIfInBounds_toArray, List.set_cons_zero, List.set_cons_succ, i64_w, i32_w]
                        rfl
                      refine one_ (i := 36) (N := some 58) #[true, true, true, true, true, true, true, true, true, true, true, true, true, true, true, true, true, true, true, true, true, true, true, true, true, true, true, true, true, true, true, true, true, true, true, true, true] rfl rfl (one_of HT_.out (by kernel_rfl)) (by decide) (fun K hK => ?_)
                      refine goes_ Try.func52 (by kernel_rfl) rfl #[.pointer (some ⟨gb120, 0, none⟩), .bool true] (by rfl) rfl rfl (by (try simp only [List.map_toArray, List.map_cons, List.map_nil]); first | done | rfl | (simp only [List.length_drop, List.length_take]; rfl)) ?_
                      with_reducible refine (impl_builder_must.calls gb120 x121000_1 x121001_1 x121002_1 true t127 t128 t129 w _ ?side1 ?side2 A21.out).mono ?_
                      (case side1 => repeat (first | (with_reducible first | exact (Aside0.mk (IsS95.of BK120.out GE120.out)).out | apply IsS95.alloc | apply IsS95.drewN | apply IsS95.drew | apply IsS95.set_0 | apply IsS95.set_1 | apply IsS95.set_2 | refine IsS95.far ?_ NB120_122.out _) | exact (Aside0.mk (IsS95.of BK120.out GE120.out)).out))
                      (case side2 => repeat (first | (with_reducible first | exact HB.out | apply below_alloc | apply pw_below_drewN | apply below_drew1 | refine below_set ?_ (IsS95.ge (Aside0.mk (IsS95.of BK120.out GE120.out)).out) | refine below_set ?_ GE122.out) | exact HB.out))
                      rintro e w24 ⟨rfl, hi, hb, hk⟩
                      refine ⟨_, rfl, ?_⟩
                      have n0_ := Aside0.mk (Kd.R_mono (Kd.R_keep (IsS95.apart (show IsS95 w _ gb120 x121000_1 x121001_1 x121002_1 from by repeat (first | (with_reducible first | exact (Aside0.mk (IsS95.of BK120.out GE120.out)).out | apply IsS95.alloc | apply IsS95.drewN | apply IsS95.drew | apply IsS95.set_0 | apply IsS95.set_1 | apply IsS95.set_2 | refine IsS95.far ?_ NB120_122.out _) | exact (Aside0.mk (IsS95.of BK120.out GE120.out)).out)) (by (with_reducible repeat (first | apply Kd.R_alloc | apply Kd.R_drewN | apply Kd.R_drew)); exact HO_8.out) (by decide)) hk (fun _ h => h.2)) (fun _ h => h.1))
                      have n1_ := Aside0.mk (KeepBut.blk hk (g' := gb122) (o := .cells #[.int .i64 ((rd_T52 l0 x17_1).f0), .int .i64 ((rd_T52 l0 x17_1).f1), .int .i64 ((rd_T52 l0 x17_1).f2)] 52 (0, 0)) (by (with_reducible repeat (first | refine blk_drewN ?_ _ | refine blk_drew ?_ | refine blk_alloc ?_ _)); exact BK122.out) NB122_120.out (by simp))
                      have n2_ := Aside0.mk (hb)
                      have n3_ := Aside0.mk (IsS95.cells hi)
                      clear HO_8
                      clear BK122
                      clear HB
                      clear BK120
                      have HO_8 := n0_
                      have BK122 := n1_
                      have HB := n2_
                      have BK120 := n3_
                      clear n0_ n1_ n2_ n3_
                      (try clear hb)
                      (try clear hb2)
                      (try clear hk)
                      (try clear hi)
                      refine hK.out _ _ ⟨(blk_cell BK122.out 0).trans rfl, (blk_cell BK122.out 1).trans rfl, (blk_cell BK122.out 2).trans rfl, ((HB.out.cell (World.block_lt_of_cell? w _ hw126_0)).trans hw126_0), ((HB.out.cell (World.block_lt_of_cell? w _ hw126_1)).trans hw126_1), ((HB.out.cell (World.block_lt_of_cell? w _ hw126_2)).trans hw126_2)⟩ (fun hHeld => ?_)
                      clear hK K
                      refine norm_ (a' := ?_) ?_ ?_
                      rotate_left
                      · show Act.put _ (some 58) _ = _
                        simp only [Act.put, List.setIfInBounds_toArray, List.set_cons_zero, List.set_cons_succ, i64_w, i32_w]
                        rfl
                      refine done_ (done_of HT_.out (by kernel_rfl)) ?_
                      try go_wp2
                      go_meet
                      case rel => exact ⟨_, (t127), (t128), (t129), H', ⟨by have := HK1.out; first | omega | exact Nat.le_refl _⟩, ⟨by (with_reducible repeat (first | apply Kd.R_alloc | apply Kd.R_drewN | apply Kd.R_drew)); exact HO_8.out⟩, ⟨by (with_reducible repeat (first | refine blk_drewN ?_ _ | refine blk_drew ?_ | refine blk_alloc ?_ _)); exact BK120.out⟩, ⟨by (with_reducible repeat (first | refine blk_drewN ?_ _ | refine blk_drew ?_ | refine blk_alloc ?_ _)); exact BK122.out⟩, ⟨by repeat (first | (with_reducible first | exact HB.out | apply below_alloc | apply pw_below_drewN | apply below_drew1 | refine below_set ?_ GE120.out | refine below_set ?_ GE122.out) | exact HB.out)⟩⟩
                    · rw [if_neg c20] at H
                      have c20b0 : decide (((rd_T52 l0 (ji17)).f0) < ((rd_T52 l0 x17_1).f0)) = false := decide_eq_false c20
                      clear c20
                      by_cases c25 : ((rd_T52 l0 x17_1).f0) = ((rd_T52 l0 (ji17)).f0)
                      · rw [if_pos c25] at H
                        have c25b0 : (((rd_T52 l0 x17_1).f0) == ((rd_T52 l0 (ji17)).f0)) = true := beq_iff_eq.mpr c25
                        have c25b1 : (((rd_T52 l0 x17_1).f0) != ((rd_T52 l0 (ji17)).f0)) = false := bne_eq_false_iff_eq.mpr c25
                        clear c25
                        replace H := Option.bind_eq_some_iff.mp H
                        obtain ⟨⟨t132, t133, t134⟩, A260, H⟩ := H
                        replace H : (impl_Kerned.j1 k1 l0 a1 a2 x8_1 l0 (l0.length : Int) x17_1 t132 t133 t134 ((rd_T52 l0 x17_1).f0) ((rd_T52 l0 x17_1).f1) ((rd_T52 l0 x17_1).f2)) = some r := H
                        have A26 := Aside0.mk A260
                        clear A260
                        have H' := Aside0.mk H
                        clear H
                        try go_wp2
                        have n0_ : Aside0 (Kd.R k102 102 (((w9.setCell ⟨gb122, 0, none⟩ (.int .i64 ((rd_T52 l0 x17_1).f0))).setCell ⟨gb122, 1, none⟩ (.int .i64 ((rd_T52 l0 x17_1).f1))).setCell ⟨gb122, 2, none⟩ (.int .i64 ((rd_T52 l0 x17_1).f2))) w.heap.size (fun _ => True) u8 x8_1) := ⟨by (with_reducible repeat (first | apply Kd.R_alloc | apply Kd.R_drewN | apply Kd.R_drew)); exact Kd.R_mono (Kd.R_far (p := ⟨gb122, 2, none⟩) (Kd.R_far (p := ⟨gb122, 1, none⟩) (Kd.R_far (p := ⟨gb122, 0, none⟩) (Kd.R_types HO_8.out BK122.out (by decide)) (fun _ hk => hk.2) (.int .i64 ((rd_T52 l0 x17_1).f0))) (fun _ hk => hk.2) (.int .i64 ((rd_T52 l0 x17_1).f1))) (fun _ hk => hk.2) (.int .i64 ((rd_T52 l0 x17_1).f2))) (fun _ hk => trivial)⟩
                        have n1_ : Aside0 ((((w9.setCell ⟨gb122, 0, none⟩ (.int .i64 ((rd_T52 l0 x17_1).f0))).setCell ⟨gb122, 1, none⟩ (.int .i64 ((rd_T52 l0 x17_1).f1))).setCell ⟨gb122, 2, none⟩ (.int .i64 ((rd_T52 l0 x17_1).f2))).heap[gb120]? = some (.cells #[.int .i64 x121000_1, .int .i64 x121001_1, .bool x121002_1] 95 (0, 0))) := ⟨by (with_reducible repeat (first | refine blk_drewN ?_ _ | refine blk_drew ?_ | refine blk_alloc ?_ _)); refine blk_far ?_ NB120_122.out _; (with_reducible repeat (first | refine blk_drewN ?_ _ | refine blk_drew ?_ | refine blk_alloc ?_ _)); refine blk_far ?_ NB120_122.out _; (with_reducible repeat (first | refine blk_drewN ?_ _ | refine blk_drew ?_ | refine blk_alloc ?_ _)); refine blk_far ?_ NB120_122.out _; (with_reducible repeat (first | refine blk_drewN ?_ _ | refine blk_drew ?_ | refine blk_alloc ?_ _)); exact BK120.out⟩
                        have n2_ : Aside0 ((((w9.setCell ⟨gb122, 0, none⟩ (.int .i64 ((rd_T52 l0 x17_1).f0))).setCell ⟨gb122, 1, none⟩ (.int .i64 ((rd_T52 l0 x17_1).f1))).setCell ⟨gb122, 2, none⟩ (.int .i64 ((rd_T52 l0 x17_1).f2))).heap[gb122]? = some (.cells #[.int .i64 ((rd_T52 l0 x17_1).f0), .int .i64 ((rd_T52 l0 x17_1).f1), .int .i64 ((rd_T52 l0 x17_1).f2)] 52 (0, 0))) := ⟨by (with_reducible repeat (first | refine blk_drewN ?_ _ | refine blk_drew ?_ | refine blk_alloc ?_ _)); refine blk_put (cs := #[.int .i64 ((rd_T52 l0 x17_1).f0), .int .i64 ((rd_T52 l0 x17_1).f1), .int .i64 0]) ?_ 2 _ rfl; (with_reducible repeat (first | refine blk_drewN ?_ _ | refine blk_drew ?_ | refine blk_alloc ?_ _)); refine blk_put (cs := #[.int .i64 ((rd_T52 l0 x17_1).f0), .int .i64 0, .int .i64 0]) ?_ 1 _ rfl; (with_reducible repeat (first | refine blk_drewN ?_ _ | refine blk_drew ?_ | refine blk_alloc ?_ _)); refine blk_put (cs := #[.int .i64 0, .int .i64 0, .int .i64 0]) ?_ 0 _ rfl; (with_reducible repeat (first | refine blk_drewN ?_ _ | refine blk_drew ?_ | refine blk_alloc ?_ _)); exact BK122.out⟩
                        have n3_ : Aside0 (Below w.heap.size w (((w9.setCell ⟨gb122, 0, none⟩ (.int .i64 ((rd_T52 l0 x17_1).f0))).setCell ⟨gb122, 1, none⟩ (.int .i64 ((rd_T52 l0 x17_1).f1))).setCell ⟨gb122, 2, none⟩ (.int .i64 ((rd_T52 l0 x17_1).f2)))) := ⟨by repeat (first | (with_reducible first | exact HB.out | apply below_alloc | apply pw_below_drewN | apply below_drew1 | refine below_set ?_ GE120.out | refine below_set ?_ GE122.out) | exact HB.out)⟩
                        (try clear HO_8)
                        (try clear BK120)
                        (try clear BK122)
                        (try clear HB)
                        generalize (((w9.setCell ⟨gb122, 0, none⟩ (.int .i64 ((rd_T52 l0 x17_1).f0))).setCell ⟨gb122, 1, none⟩ (.int .i64 ((rd_T52 l0 x17_1).f1))).setCell ⟨gb122, 2, none⟩ (.int .i64 ((rd_T52 l0 x17_1).f2))) = w27 at n0_ n1_ n2_ n3_ ⊢
                        have HO_8 := n0_
                        have BK120 := n1_
                        have BK122 := n2_
                        have HB := n3_
                        clear n0_ n1_ n2_ n3_
                        have n0_ := Aside0.mk (Kd.R_drew HO_8.out)
                        have n1_ := Aside0.mk (blk_drew BK120.out)
                        have n2_ := Aside0.mk (blk_drew BK122.out)
                        have n3_ := Aside0.mk (below_drew1 HB.out)
                        clear HO_8
                        clear BK120
                        clear BK122
                        clear HB
                        have HO_8 := n0_
                        have BK120 := n1_
                        have BK122 := n2_
                        have HB := n3_
                        clear n0_ n1_ n2_ n3_
                        have p126 : 0 ≤ ((ji17) : Int) := of_decide_eq_true (by first | (with_reducible assumption) | assumption)
                        have q126 : (ji17) < (l0.length : Int) := of_decide_eq_true (by first | (with_reducible assumption) | assumption)
                        obtain ⟨ad126, e126, hx126_0, hx126_1, hx126_2⟩ := at_T52 HR0.out (ji17) p126 q126
                        have hw126_2 := hx126_2
                        have hw126_1 := hx126_1
                        have hw126_0 := hx126_0
                        obtain rfl : ad121 = ad126 := (by injection e126)
                        replace hx126_0 := (HB.out.cell (World.block_lt_of_cell? w _ hx126_0)).trans hx126_0
                        replace hx126_1 := (HB.out.cell (World.block_lt_of_cell? w _ hx126_1)).trans hx126_1
                        replace hx126_2 := (HB.out.cell (World.block_lt_of_cell? w _ hx126_2)).trans hx126_2
                        replace p126 := eq_true p126
                        replace q126 := eq_true q126
                        have p130 : 0 ≤ ((ji17) : Int) := of_decide_eq_true (by first | (with_reducible assumption) | assumption)
                        have q130 : (ji17) < (l0.length : Int) := of_decide_eq_true (by first | (with_reducible assumption) | assumption)
                        obtain ⟨ad130, e130, hx130_0, hx130_1, hx130_2⟩ := at_T52 HR0.out (ji17) p130 q130
                        have hw130_2 := hx130_2
                        have hw130_1 := hx130_1
                        have hw130_0 := hx130_0
                        obtain rfl : ad121 = ad130 := (by injection e130)
                        replace hx130_0 := (HB.out.cell (World.block_lt_of_cell? w _ hx130_0)).trans hx130_0
                        replace hx130_1 := (HB.out.cell (World.block_lt_of_cell? w _ hx130_1)).trans hx130_1
                        replace hx130_2 := (HB.out.cell (World.block_lt_of_cell? w _ hx130_2)).trans hx130_2
                        replace p130 := eq_true p130
                        replace q130 := eq_true q130
                        have p131 : 0 ≤ ((ji17) : Int) := of_decide_eq_true (by first | (with_reducible assumption) | assumption)
                        have q131 : (ji17) < (l0.length : Int) := of_decide_eq_true (by first | (with_reducible assumption) | assumption)
                        obtain ⟨ad131, e131, hx131_0, hx131_1, hx131_2⟩ := at_T52 HR0.out (ji17) p131 q131
                        have hw131_2 := hx131_2
                        have hw131_1 := hx131_1
                        have hw131_0 := hx131_0
                        obtain rfl : ad121 = ad131 := (by injection e131)
                        replace hx131_0 := (HB.out.cell (World.block_lt_of_cell? w _ hx131_0)).trans hx131_0
                        replace hx131_1 := (HB.out.cell (World.block_lt_of_cell? w _ hx131_1)).trans hx131_1
                        replace hx131_2 := (HB.out.cell (World.block_lt_of_cell? w _ hx131_2)).trans hx131_2
                        replace p131 := eq_true p131
                        replace q131 := eq_true q131
                        refine start_ (n := 37) (S := fun w' => w'.cell? ⟨gb122, 0, none⟩ = some (.int .i64 ((rd_T52 l0 x17_1).f0)) ∧ w'.cell? ⟨gb122, 1, none⟩ = some (.int .i64 ((rd_T52 l0 x17_1).f1)) ∧ w'.cell? ⟨gb122, 2, none⟩ = some (.int .i64 ((rd_T52 l0 x17_1).f2)) ∧ w'.cell? (ad121.add (((ji17)).toNat * 3)) = some (.int .i64 ((rd_T52 l0 (ji17)).f0)) ∧ w'.cell? ⟨(ad121.add (((ji17)).toNat * 3)).block, (ad121.add (((ji17)).toNat * 3)).off + 1, none⟩ = some (.int .i64 ((rd_T52 l0 (ji17)).f1)) ∧ w'.cell? ⟨(ad121.add (((ji17)).toNat * 3)).block, (ad121.add (((ji17)).toNat * 3)).off + 2, none⟩ = some (.int .i64 ((rd_T52 l0 (ji17)).f2)) ∧ w'.cell? (ad121.add (((ji17)).toNat * 3)) = some (.int .i64 ((rd_T52 l0 (ji17)).f0)) ∧ w'.cell? ⟨(ad121.add (((ji17)).toNat * 3)).block, (ad121.add (((ji17)).toNat * 3)).off + 1, none⟩ = some (.int .i64 ((rd_T52 l0 (ji17)).f1)) ∧ w'.cell? ⟨(ad121.add (((ji17)).toNat * 3)).block, (ad121.add (((ji17)).toNat * 3)).off + 2, none⟩ = some (.int .i64 ((rd_T52 l0 (ji17)).f2)) ∧ w'.cell? (ad121.add (((ji17)).toNat * 3)) = some (.int .i64 ((rd_T52 l0 (ji17)).f0)) ∧ w'.cell? ⟨(ad121.add (((ji17)).toNat * 3)).block, (ad121.add (((ji17)).toNat * 3)).off + 1, none⟩ = some (.int .i64 ((rd_T52 l0 (ji17)).f1)) ∧ w'.cell? ⟨(ad121.add (((ji17)).toNat * 3)).block, (ad121.add (((ji17)).toNat * 3)).off + 2, none⟩ = some (.int .i64 ((rd_T52 l0 (ji17)).f2))) (ds := []) #[false, false, false, false, false, false, false, false, false, false, false, false, false, false, false, false, false, false, false, false, false, false, false, false, false, false, false, false, false, false, false, false, false, false, false, false, false] (by kernel_rfl) rfl rfl ⟨(blk_cell BK122.out 0).trans rfl, (blk_cell BK122.out 1).trans rfl, (blk_cell BK122.out 2).trans rfl, ((HB.out.cell (World.block_lt_of_cell? w _ hw126_0)).trans hw126_0), ((HB.out.cell (World.block_lt_of_cell? w _ hw126_1)).trans hw126_1), ((HB.out.cell (World.block_lt_of_cell? w _ hw126_2)).trans hw126_2), ((HB.out.cell (World.block_lt_of_cell? w _ hw130_0)).trans hw130_0), ((HB.out.cell (World.block_lt_of_cell? w _ hw130_1)).trans hw130_1), ((HB.out.cell (World.block_lt_of_cell? w _ hw130_2)).trans hw130_2), ((HB.out.cell (World.block_lt_of_cell? w _ hw131_0)).trans hw131_0), ((HB.out.cell (World.block_lt_of_cell? w _ hw131_1)).trans hw131_1), ((HB.out.cell (World.block_lt_of_cell? w _ hw131_2)).trans hw131_2)⟩ (fun hHeld => ?_); refine with_tabW impl_Kerned.tab6 impl_Kerned.bits6 (fun HT_ HW_ => ?_)
                        generalize w27.drew = w28 at HO_8 BK120 BK122 HB hx126_0 hx126_1 hx126_2 hx130_0 hx130_1 hx130_2 hx131_0 hx131_1 hx131_2 hHeld ⊢
                        refine pure_ (i := 0) (N := some 22) (v := ?_) (a' := ?_) #[true, false, false, false, false, false, false, false, false, false, false, false, false, false, false, false, false, false, false, false, false, false, false, false, false, false, false, false, false, false, false, false, false, false, false, false, false] rfl rfl (any_of HT_.out (by kernel_rfl)) (fun _ _ _ h => h) (Or.inl ⟨by rfl, ?_⟩) ?_ ?_
                        rotate_left
                        · intro w'
                          go_simp
                          with_reducible rfl
                        rotate_left
                        · simp only [Act.put, List.setIfInBounds_toArray, List.set_cons_zero, List.set_cons_succ, i64_w, i32_w]
                          rfl
                        refine pure_ (i := 1) (N := some 23) (v := ?_) (a' := ?_) #[true, true, false, false, false, false, false, false, false, false, false, false, false, false, false, false, false, false, false, false, false, false, false, false, false, false, false, false, false, false, false, false, false, false, false, false, false] rfl rfl (any_of HT_.out (by kernel_rfl)) (fun _ _ _ h => h) (Or.inl ⟨by rfl, ?_⟩) ?_ ?_
                        rotate_left
                        · intro w'
                          go_simp
                          with_reducible rfl
                        rotate_left
                        · simp only [Act.put, List.setIfInBounds_toArray, List.set_cons_zero, List.set_cons_succ, i64_w, i32_w]
                          rfl
                        refine pure_ (i := 2) (N := some 24) (v := ?_) (a' := ?_) #[true, true, true, false, false, false, false, false, false, false, false, false, false, false, false, false, false, false, false, false, false, false, false, false, false, false, false, false, false, false, false, false, false, false, false, false, false] rfl rfl (any_of HT_.out (by kernel_rfl)) (fun _ _ _ h => h) (Or.inl ⟨by rfl, ?_⟩) ?_ ?_
                        rotate_left
                        · intro w'
                          go_simp
                          with_reducible rfl
                        rotate_left
                        · simp only [Act.put, List.setIfInBounds_toArray, List.set_cons_zero, List.set_cons_succ, i64_w, i32_w]
                          rfl
                        refine pure_ (i := 3) (N := some 25) (v := ?_) (a' := ?_) #[true, true, true, true, false, false, false, false, false, false, false, false, false, false, false, false, false, false, false, false, false, false, false, false, false, false, false, false, false, false, false, false, false, false, false, false, false] rfl rfl (any_of HT_.out (by kernel_rfl)) (fun _ _ _ h => h) (Or.inl ⟨by rfl, ?_⟩) ?_ ?_
                        rotate_left
                        · intro w'
                          go_simp
                          with_reducible rfl
                        rotate_left
                        · simp only [Act.put, List.setIfInBounds_toArray, List.set_cons_zero, List.set_cons_succ, i64_w, i32_w]
                          rfl
                        refine pure_ (i := 4) (N := some 26) (v := ?_) (a' := ?_) #[true, true, true, true, true, false, false, false, false, false, false, false, false, false, false, false, false, false, false, false, false, false, false, false, false, false, false, false, false, false, false, false, false, false, false, false, false] rfl rfl (any_of HT_.out (by kernel_rfl)) (fun _ _ _ h => h) (Or.inl ⟨by rfl, ?_⟩) ?_ ?_
                        rotate_left
                        · intro w'
                          go_simp
                          with_reducible rfl
                        rotate_left
                        · simp only [Act.put, List.setIfInBounds_toArray, List.set_cons_zero, List.set_cons_succ, i64_w, i32_w]
                          rfl
                        refine pure_ (i := 6) (N := some 28) (v := ?_) (a' := ?_) #[true, true, true, true, true, false, true, false, false, false, false, false, false, false, false, false, false, false, false, false, false, false, false, false, false, false, false, false, false, false, false, false, false, false, false, false, false] rfl rfl (any_of HT_.out (by kernel_rfl)) (fun _ _ _ h => h) (Or.inl ⟨by rfl, ?_⟩) ?_ ?_
                        rotate_left
                        · intro w'
                          go_simp
                          with_reducible rfl
                        rotate_left
                        · simp only [Act.put, List.setIfInBounds_toArray, List.set_cons_zero, List.set_cons_succ, i64_w, i32_w]
                          rfl
                        refine pure_ (i := 7) (N := some 29) (v := ?_) (a' := ?_) #[true, true, true, true, true, false, true, true, false, false, false, false, false, false, false, false, false, false, false, false, false, false, false, false, false, false, false, false, false, false, false, false, false, false, false, false, false] rfl rfl (any_of HT_.out (by kernel_rfl)) (fun _ _ _ h => h) (Or.inl ⟨by rfl, ?_⟩) ?_ ?_
                        rotate_left
                        · intro w'
                          go_simp
                          with_reducible rfl
                        rotate_left
                        · simp only [Act.put, List.setIfInBounds_toArray, List.set_cons_zero, List.set_cons_succ, i64_w, i32_w]
                          rfl
                        refine pure_ (i := 8) (N := some 30) (v := ?_) (a' := ?_) #[true, true, true, true, true, false, true, true, true, false, false, false, false, false, false, false, false, false, false, false, false, false, false, false, false, false, false, false, false, false, false, false, false, false, false, false, false] rfl rfl (any_of HT_.out (by kernel_rfl)) (fun _ _ _ h => h) (Or.inl ⟨by rfl, ?_⟩) ?_ ?_
                        rotate_left
                        · intro w'
                          go_simp
                          with_reducible rfl
                        rotate_left
                        · simp only [Act.put, List.setIfInBounds_toArray, List.set_cons_zero, List.set_cons_succ, i64_w, i32_w]
                          rfl
                        refine pure_ (i := 9) (N := some 31) (v := ?_) (a' := ?_) #[true, true, true, true, true, false, true, true, true, true, false, false, false, false, false, false, false, false, false, false, false, false, false, false, false, false, false, false, false, false, false, false, false, false, false, false, false] rfl rfl (any_of HT_.out (by kernel_rfl)) (fun _ _ _ h => h) (Or.inl ⟨by rfl, ?_⟩) ?_ ?_
                        rotate_left
                        · intro w'
                          go_simp
                          with_reducible rfl
                        rotate_left
                        · simp only [Act.put, List.setIfInBounds_toArray, List.set_cons_zero, List.set_cons_succ, i64_w, i32_w]
                          rfl
                        refine pure_ (i := 10) (N := some 32) (v := ?_) (a' := ?_) #[true, true, true, true, true, false, true, true, true, true, true, false, false, false, false, false, false, false, false, false, false, false, false, false, false, false, false, false, false, false, false, false, false, false, false, false, false] rfl rfl (any_of HT_.out (by kernel_rfl)) (fun _ _ _ h => h) (Or.inl ⟨by rfl, ?_⟩) ?_ ?_
                        rotate_left
                        · intro w'
                          go_simp
                          with_reducible rfl
                        rotate_left
                        · simp only [Act.put, List.setIfInBounds_toArray, List.set_cons_zero, List.set_cons_succ, i64_w, i32_w]
                          rfl
                        refine take_ (i := 5) (N := some 27) (v := ?_) (a' := ?_) #[true, true, true, true, true, true, true, true, true, true, true, false, false, false, false, false, false, false, false, false, false, false, false, false, false, false, false, false, false, false, false, false, false, false, false, false, false] rfl rfl (take_ofW HT_.out HW_.out (by kernel_rfl)) (fun _ _ _ h => h) (Or.inl ⟨by rfl, ?_⟩) hHeld ?_ ?_
                        rotate_left
                        · rintro w' ⟨s0, s1, s2, s3, s4, s5, s6, s7, s8, s9, s10, s11⟩
                          go_simp
                          with_reducible rfl
                        rotate_left
                        · simp only [Act.put, List.setIfInBounds_toArray, List.set_cons_zero, List.set_cons_succ, i64_w, i32_w]
                          rfl
                        refine take_ (i := 11) (N := some 33) (v := ?_) (a' := ?_) #[true, true, true, true, true, true, true, true, true, true, true, true, false, false, false, false, false, false, false, false, false, false, false, false, false, false, false, false, false, false, false, false, false, false, false, false, false] rfl rfl (take_ofW HT_.out HW_.out (by kernel_rfl)) (fun _ _ _ h => h) (Or.inl ⟨by rfl, ?_⟩) hHeld ?_ ?_
                        rotate_left
                        · rintro w' ⟨s0, s1, s2, s3, s4, s5, s6, s7, s8, s9, s10, s11⟩
                          go_simp
                          with_reducible rfl
                        rotate_left
                        · simp only [Act.put, List.setIfInBounds_toArray, List.set_cons_zero, List.set_cons_succ, i64_w, i32_w]
                          rfl
                        refine pure_ (i := 12) (N := some 34) (v := ?_) (a' := ?_) #[true, true, true, true, true, true, true, true, true, true, true, true, true, false, false, false, false, false, false, false, false, false, false, false, false, false, false, false, false, false, false, false, false, false, false, false, false] rfl rfl (any_of HT_.out (by kernel_rfl)) (fun _ _ _ h => h) (Or.inl ⟨by rfl, ?_⟩) ?_ ?_
                        rotate_left
                        · intro w'
                          go_simp
                          with_reducible rfl
                        rotate_left
                        · simp only [Act.put, List.setIfInBounds_toArray, List.set_cons_zero, List.set_cons_succ, i64_w, i32_w]
                          rfl
                        refine pure_ (i := 13) (N := some 35) (v := ?_) (a' := ?_) #[true, true, true, true, true, true, true, true, true, true, true, true, true, true, false, false, false, false, false, false, false, false, false, false, false, false, false, false, false, false, false, false, false, false, false, false, false] rfl rfl (any_of HT_.out (by kernel_rfl)) (fun _ _ _ h => h) (Or.inl ⟨by rfl, ?_⟩) ?_ ?_
                        rotate_left
                        · intro w'
                          go_simp
                          with_reducible rfl
                        rotate_left
                        · simp only [Act.put, List.setIfInBounds_toArray, List.set_cons_zero, List.set_cons_succ, i64_w, i32_w]
                          rfl
                        refine pure_ (i := 14) (N := some 36) (v := ?_) (a' := ?_) #[true, true, true, true, true, true, true, true, true, true, true, true, true, true, true, false, false, false, false, false, false, false, false, false, false, false, false, false, false, false, false, false, false, false, false, false, false] rfl rfl (any_of HT_.out (by kernel_rfl)) (fun _ _ _ h => h) (Or.inl ⟨by rfl, ?_⟩) ?_ ?_
                        rotate_left
                        · intro w'
                          go_simp
                          with_reducible rfl
                        rotate_left
                        · simp only [Act.put, List.setIfInBounds_toArray, List.set_cons_zero, List.set_cons_succ, i64_w, i32_w]
                          rfl
                        refine pure_ (i := 15) (N := some 37) (v := ?_) (a' := ?_) #[true, true, true, true, true, true, true, true, true, true, true, true, true, true, true, true, false, false, false, false, false, false, false, false, false, false, false, false, false, false, false, false, false, false, false, false, false] rfl rfl (any_of HT_.out (by kernel_rfl)) (fun _ _ _ h => h) (Or.inl ⟨by rfl, ?_⟩) ?_ ?_
                        rotate_left
                        · intro w'
                          go_simp
                          with_reducible rfl
                        rotate_left
                        · simp only [Act.put, List.setIfInBounds_toArray, List.set_cons_zero, List.set_cons_succ, i64_w, i32_w]
                          rfl
                        refine pure_ (i := 17) (N := some 39) (v := ?_) (a' := ?_) #[true, true, true, true, true, true, true, true, true, true, true, true, true, true, true, true, false, true, false, false, false, false, false, false, false, false, false, false, false, false, false, false, false, false, false, false, false] rfl rfl (any_of HT_.out (by kernel_rfl)) (fun _ _ _ h => h) (Or.inl ⟨by rfl, ?_⟩) ?_ ?_
                        rotate_left
                        · intro w'
                          go_simp
                          with_reducible rfl
                        rotate_left
                        · simp only [Act.put, List.setIfInBounds_toArray, List.set_cons_zero, List.set_cons_succ, i64_w, i32_w]
                          rfl
                        refine pure_ (i := 18) (N := some 40) (v := ?_) (a' := ?_) #[true, true, true, true, true, true, true, true, true, true, true, true, true, true, true, true, false, true, true, false, false, false, false, false, false, false, false, false, false, false, false, false, false, false, false, false, false] rfl rfl (any_of HT_.out (by kernel_rfl)) (fun _ _ _ h => h) (Or.inl ⟨by rfl, ?_⟩) ?_ ?_
                        rotate_left
                        · intro w'
                          go_simp
                          with_reducible rfl
                        rotate_left
                        · simp only [Act.put, List.setIfInBounds_toArray, List.set_cons_zero, List.set_cons_succ, i64_w, i32_w]
                          rfl
                        refine pure_ (i := 19) (N := some 41) (v := ?_) (a' := ?_) #[true, true, true, true, true, true, true, true, true, true, true, true, true, true, true, true, false, true, true, true, false, false, false, false, false, false, false, false, false, false, false, false, false, false, false, false, false] rfl rfl (any_of HT_.out (by kernel_rfl)) (fun _ _ _ h => h) (Or.inl ⟨by rfl, ?_⟩) ?_ ?_
                        rotate_left
                        · intro w'
                          go_simp
                          with_reducible rfl
                        rotate_left
                        · simp only [Act.put, List.setIfInBounds_toArray, List.set_cons_zero, List.set_cons_succ, i64_w, i32_w]
                          rfl
                        refine pure_ (i := 20) (N := some 42) (v := ?_) (a' := ?_) #[true, true, true, true, true, true, true, true, true, true, true, true, true, true, true, true, false, true, true, true, true, false, false, false, false, false, false, false, false, false, false, false, false, false, false, false, false] rfl rfl (any_of HT_.out (by kernel_rfl)) (fun _ _ _ h => h) (Or.inl ⟨by rfl, ?_⟩) ?_ ?_
                        rotate_left
                        · intro w'
                          go_simp
                          with_reducible rfl
                        rotate_left
                        · simp only [Act.put, List.setIfInBounds_toArray, List.set_cons_zero, List.set_cons_succ, i64_w, i32_w]
                          rfl
                        refine pure_ (i := 21) (N := some 43) (v := ?_) (a' := ?_) #[true, true, true, true, true, true, true, true, true, true, true, true, true, true, true, true, false, true, true, true, true, true, false, false, false, false, false, false, false, false, false, false, false, false, false, false, false] rfl rfl (any_of HT_.out (by kernel_rfl)) (fun _ _ _ h => h) (Or.inl ⟨by rfl, ?_⟩) ?_ ?_
                        rotate_left
                        · intro w'
                          go_simp
                          with_reducible rfl
                        rotate_left
                        · simp only [Act.put, List.setIfInBounds_toArray, List.set_cons_zero, List.set_cons_succ, i64_w, i32_w]
                          rfl
                        refine take_ (i := 16) (N := some 38) (v := ?_) (a' := ?_) #[true, true, true, true, true, true, true, true, true, true, true, true, true, true, true, true, true, true, true, true, true, true, false, false, false, false, false, false, false, false, false, false, false, false, false, false, false] rfl rfl (take_ofW HT_.out HW_.out (by kernel_rfl)) (fun _ _ _ h => h) (Or.inl ⟨by rfl, ?_⟩) hHeld ?_ ?_
                        rotate_left
                        · rintro w' ⟨s0, s1, s2, s3, s4, s5, s6, s7, s8, s9, s10, s11⟩
                          go_simp
                          with_reducible rfl
                        rotate_left
                        · simp only [Act.put, List.setIfInBounds_toArray, List.set_cons_zero, List.set_cons_succ, i64_w, i32_w]
                          rfl
                        refine take_ (i := 22) (N := some 44) (v := ?_) (a' := ?_) #[true, true, true, true, true, true, true, true, true, true, true, true, true, true, true, true, true, true, true, true, true, true, true, false, false, false, false, false, false, false, false, false, false, false, false, false, false] rfl rfl (take_ofW HT_.out HW_.out (by kernel_rfl)) (fun _ _ _ h => h) (Or.inl ⟨by rfl, ?_⟩) hHeld ?_ ?_
                        rotate_left
                        · rintro w' ⟨s0, s1, s2, s3, s4, s5, s6, s7, s8, s9, s10, s11⟩
                          go_simp
                          with_reducible rfl
                        rotate_left
                        · simp only [Act.put, List.setIfInBounds_toArray, List.set_cons_zero, List.set_cons_succ, i64_w, i32_w]
                          rfl
                        refine pure_ (i := 23) (N := some 45) (v := ?_) (a' := ?_) #[true, true, true, true, true, true, true, true, true, true, true, true, true, true, true, true, true, true, true, true, true, true, true, true, false, false, false, false, false, false, false, false, false, false, false, false, false] rfl rfl (any_of HT_.out (by kernel_rfl)) (fun _ _ _ h => h) (Or.inl ⟨by rfl, ?_⟩) ?_ ?_
                        rotate_left
                        · intro w'
                          go_simp
                          with_reducible rfl
                        rotate_left
                        · simp only [Act.put, List.setIfInBounds_toArray, List.set_cons_zero, List.set_cons_succ, i64_w, i32_w]
                          rfl
                        refine pure_ (i := 24) (N := some 46) (v := ?_) (a' := ?_) #[true, true, true, true, true, true, true, true, true, true, true, true, true, true, true, true, true, true, true, true, true, true, true, true, true, false, false, false, false, false, false, false, false, false, false, false, false] rfl rfl (any_of HT_.out (by kernel_rfl)) (fun _ _ _ h => h) (Or.inl ⟨by rfl, ?_⟩) ?_ ?_
                        rotate_left
                        · intro w'
                          go_simp
                          with_reducible rfl
                        rotate_left
                        · simp only [Act.put, List.setIfInBounds_toArray, List.set_cons_zero, List.set_cons_succ, i64_w, i32_w]
                          rfl
                        refine pure_ (i := 25) (N := some 47) (v := ?_) (a' := ?_) #[true, true, true, true, true, true, true, true, true, true, true, true, true, true, true, true, true, true, true, true, true, true, true, true, true, true, false, false, false, false, false, false, false, false, false, false, false] rfl rfl (any_of HT_.out (by kernel_rfl)) (fun _ _ _ h => h) (Or.inl ⟨by rfl, ?_⟩) ?_ ?_
                        rotate_left
                        · intro w'
                          go_simp
                          with_reducible rfl
                        rotate_left
                        · simp only [Act.put, List.setIfInBounds_toArray, List.set_cons_zero, List.set_cons_succ, i64_w, i32_w]
                          rfl
                        refine pure_ (i := 27) (N := some 49) (v := ?_) (a' := ?_) #[true, true, true, true, true, true, true, true, true, true, true, true, true, true, true, true, true, true, true, true, true, true, true, true, true, true, false, true, false, false, false, false, false, false, false, false, false] rfl rfl (any_of HT_.out (by kernel_rfl)) (fun _ _ _ h => h) (Or.inl ⟨by rfl, ?_⟩) ?_ ?_
                        rotate_left
                        · intro w'
                          go_simp
                          with_reducible rfl
                        rotate_left
                        · simp only [Act.put, List.setIfInBounds_toArray, List.set_cons_zero, List.set_cons_succ, i64_w, i32_w]
                          rfl
                        refine pure_ (i := 28) (N := some 50) (v := ?_) (a' := ?_) #[true, true, true, true, true, true, true, true, true, true, true, true, true, true, true, true, true, true, true, true, true, true, true, true, true, true, false, true, true, false, false, false, false, false, false, false, false] rfl rfl (any_of HT_.out (by kernel_rfl)) (fun _ _ _ h => h) (Or.inl ⟨by rfl, ?_⟩) ?_ ?_
                        rotate_left
                        · intro w'
                          go_simp
                          with_reducible rfl
                        rotate_left
                        · simp only [Act.put, List.setIfInBounds_toArray, List.set_cons_zero, List.set_cons_succ, i64_w, i32_w]
                          rfl
                        refine pure_ (i := 29) (N := some 51) (v := ?_) (a' := ?_) #[true, true, true, true, true, true, true, true, true, true, true, true, true, true, true, true, true, true, true, true, true, true, true, true, true, true, false, true, true, true, false, false, false, false, false, false, false] rfl rfl (any_of HT_.out (by kernel_rfl)) (fun _ _ _ h => h) (Or.inl ⟨by rfl, ?_⟩) ?_ ?_
                        rotate_left
                        · intro w'
                          go_simp
                          with_reducible rfl
                        rotate_left
                        · simp only [Act.put, List.setIfInBounds_toArray, List.set_cons_zero, List.set_cons_succ, i64_w, i32_w]
                          rfl
                        refine pure_ (i := 30) (N := some 52) (v := ?_) (a' := ?_) #[true, true, true, true, true, true, true, true, true, true, true, true, true, true, true, true, true, true, true, true, true, true, true, true, true, true, false, true, true, true, true, false, false, false, false, false, false] rfl rfl (any_of HT_.out (by kernel_rfl)) (fun _ _ _ h => h) (Or.inl ⟨by rfl, ?_⟩) ?_ ?_
                        rotate_left
                        · intro w'
                          go_simp
                          with_reducible rfl
                        rotate_left
                        · simp only [Act.put, List.setIfInBounds_toArray, List.set_cons_zero, List.set_cons_succ, i64_w, i32_w]
                          rfl
                        refine pure_ (i := 31) (N := some 53) (v := ?_) (a' := ?_) #[true, true, true, true, true, true, true, true, true, true, true, true, true, true, true, true, true, true, true, true, true, true, true, true, true, true, false, true, true, true, true, true, false, false, false, false, false] rfl rfl (any_of HT_.out (by kernel_rfl)) (fun _ _ _ h => h) (Or.inl ⟨by rfl, ?_⟩) ?_ ?_
                        rotate_left
                        · intro w'
                          go_simp
                          with_reducible rfl
                        rotate_left
                        · simp only [Act.put, List.setIfInBounds_toArray, List.set_cons_zero, List.set_cons_succ, i64_w, i32_w]
                          rfl
                        refine take_ (i := 26) (N := some 48) (v := ?_) (a' := ?_) #[true, true, true, true, true, true, true, true, true, true, true, true, true, true, true, true, true, true, true, true, true, true, true, true, true, true, true, true, true, true, true, true, false, false, false, false, false] rfl rfl (take_ofW HT_.out HW_.out (by kernel_rfl)) (fun _ _ _ h => h) (Or.inl ⟨by rfl, ?_⟩) hHeld ?_ ?_
                        rotate_left
                        · rintro w' ⟨s0, s1, s2, s3, s4, s5, s6, s7, s8, s9, s10, s11⟩
                          go_simp
                          with_reducible rfl
                        rotate_left
                        · simp only [Act.put, List.setIfInBounds_toArray, List.set_cons_zero, List.set_cons_succ, i64_w, i32_w]
                          rfl
                        refine take_ (i := 32) (N := some 54) (v := ?_) (a' := ?_) #[true, true, true, true, true, true, true, true, true, true, true, true, true, true, true, true, true, true, true, true, true, true, true, true, true, true, true, true, true, true, true, true, true, false, false, false, false] rfl rfl (take_ofW HT_.out HW_.out (by kernel_rfl)) (fun _ _ _ h => h) (Or.inl ⟨by rfl, ?_⟩) hHeld ?_ ?_
                        rotate_left
                        · rintro w' ⟨s0, s1, s2, s3, s4, s5, s6, s7, s8, s9, s10, s11⟩
                          go_simp
                          with_reducible rfl
                        rotate_left
                        · simp only [Act.put, List.setIfInBounds_toArray, List.set_cons_zero, List.set_cons_succ, i64_w, i32_w]
                          rfl
                        refine pure_ (i := 33) (N := some 55) (v := ?_) (a' := ?_) #[true, true, true, true, true, true, true, true, true, true, true, true, true, true, true, true, true, true, true, true, true, true, true, true, true, true, true, true, true, true, true, true, true, true, false, false, false] rfl rfl (any_of HT_.out (by kernel_rfl)) (fun _ _ _ h => h) (Or.inl ⟨by rfl, ?_⟩) ?_ ?_
                        rotate_left
                        · intro w'
                          go_simp
                          with_reducible rfl
                        rotate_left
                        · simp only [Act.put, List.setIfInBounds_toArray, List.set_cons_zero, List.set_cons_succ, i64_w, i32_w]
                          rfl
                        refine pure_ (i := 34) (N := some 56) (v := ?_) (a' := ?_) #[true, true, true, true, true, true, true, true, true, true, true, true, true, true, true, true, true, true, true, true, true, true, true, true, true, true, true, true, true, true, true, true, true, true, true, false, false] rfl rfl (any_of HT_.out (by kernel_rfl)) (fun _ _ _ h => h) (Or.inl ⟨by rfl, ?_⟩) ?_ ?_
                        rotate_left
                        · intro w'
                          go_simp
                          with_reducible rfl
                        rotate_left
                        · simp only [Act.put, List.setIfInBounds_toArray, List.set_cons_zero, List.set_cons_succ, i64_w, i32_w]
                          rfl
                        refine pure_ (i := 35) (N := some 57) (v := ?_) (a' := ?_) #[true, true, true, true, true, true, true, true, true, true, true, true, true, true, true, true, true, true, true, true, true, true, true, true, true, true, true, true, true, true, true, true, true, true, true, true, false] rfl rfl (any_of HT_.out (by kernel_rfl)) (fun _ _ _ h => h) (Or.inl ⟨by rfl, ?_⟩) ?_ ?_
                        rotate_left
                        · intro w'
                          go_simp
                          with_reducible rfl
                        rotate_left
                        · simp only [Act.put, List.setIfInBounds_toArray, List.set_cons_zero, List.set_cons_succ, i64_w, i32_w]
                          rfl
                        refine one_ (i := 36) (N := some 58) #[true, true, true, true, true, true, true, true, true, true, true, true, true, true, true, true, true, true, true, true, true, true, true, true, true, true, true, true, true, true, true, true, true, true, true, true, true] rfl rfl (one_of HT_.out (by kernel_rfl)) (by decide) (fun K hK => ?_)
                        refine goes_ Try.func52 (by kernel_rfl) rfl #[.pointer (some ⟨gb120, 0, none⟩), .bool (decide (((rd_T52 l0 x17_1).f1) > ((rd_T52 l0 (ji17)).f1)))] (by rfl) rfl rfl (by (try simp only [List.map_toArray, List.map_cons, List.map_nil]); first | done | (simp only [hji17]; rfl) | rfl | (simp only [List.length_drop, List.length_take]; rfl)) ?_
                        with_reducible refine (impl_builder_must.calls gb120 x121000_1 x121001_1 x121002_1 (decide (((rd_T52 l0 x17_1).f1) > ((rd_T52 l0 (ji17)).f1))) t132 t133 t134 w _ ?side1 ?side2 A26.out).mono ?_
                        (case side1 => repeat (first | (with_reducible first | exact (Aside0.mk (IsS95.of BK120.out GE120.out)).out | apply IsS95.alloc | apply IsS95.drewN | apply IsS95.drew | apply IsS95.set_0 | apply IsS95.set_1 | apply IsS95.set_2 | refine IsS95.far ?_ NB120_122.out _) | exact (Aside0.mk (IsS95.of BK120.out GE120.out)).out))
                        (case side2 => repeat (first | (with_reducible first | exact HB.out | apply below_alloc | apply pw_below_drewN | apply below_drew1 | refine below_set ?_ (IsS95.ge (Aside0.mk (IsS95.of BK120.out GE120.out)).out) | refine below_set ?_ GE122.out) | exact HB.out))
                        rintro e w29 ⟨rfl, hi, hb, hk⟩
                        refine ⟨_, rfl, ?_⟩
                        have n0_ := Aside0.mk (Kd.R_mono (Kd.R_keep (IsS95.apart (show IsS95 w _ gb120 x121000_1 x121001_1 x121002_1 from by repeat (first | (with_reducible first | exact (Aside0.mk (IsS95.of BK120.out GE120.out)).out | apply IsS95.alloc | apply IsS95.drewN | apply IsS95.drew | apply IsS95.set_0 | apply IsS95.set_1 | apply IsS95.set_2 | refine IsS95.far ?_ NB120_122.out _) | exact (Aside0.mk (IsS95.of BK120.out GE120.out)).out)) (by (with_reducible repeat (first | apply Kd.R_alloc | apply Kd.R_drewN | apply Kd.R_drew)); exact HO_8.out) (by decide)) hk (fun _ h => h.2)) (fun _ h => h.1))
                        have n1_ := Aside0.mk (KeepBut.blk hk (g' := gb122) (o := .cells #[.int .i64 ((rd_T52 l0 x17_1).f0), .int .i64 ((rd_T52 l0 x17_1).f1), .int .i64 ((rd_T52 l0 x17_1).f2)] 52 (0, 0)) (by (with_reducible repeat (first | refine blk_drewN ?_ _ | refine blk_drew ?_ | refine blk_alloc ?_ _)); exact BK122.out) NB122_120.out (by simp))
                        have n2_ := Aside0.mk (hb)
                        have n3_ := Aside0.mk (IsS95.cells hi)
                        clear HO_8
                        clear BK122
                        clear HB
                        clear BK120
                        have HO_8 := n0_
                        have BK122 := n1_
                        have HB := n2_
                        have BK120 := n3_
                        clear n0_ n1_ n2_ n3_
                        (try clear hb)
                        (try clear hb2)
                        (try clear hk)
                        (try clear hi)
                        refine hK.out _ _ ⟨(blk_cell BK122.out 0).trans rfl, (blk_cell BK122.out 1).trans rfl, (blk_cell BK122.out 2).trans rfl, ((HB.out.cell (World.block_lt_of_cell? w _ hw126_0)).trans hw126_0), ((HB.out.cell (World.block_lt_of_cell? w _ hw126_1)).trans hw126_1), ((HB.out.cell (World.block_lt_of_cell? w _ hw126_2)).trans hw126_2), ((HB.out.cell (World.block_lt_of_cell? w _ hw130_0)).trans hw130_0), ((HB.out.cell (World.block_lt_of_cell? w _ hw130_1)).trans hw130_1), ((HB.out.cell (World.block_lt_of_cell? w _ hw130_2)).trans hw130_2), ((HB.out.cell (World.block_lt_of_cell? w _ hw131_0)).trans hw131_0), ((HB.out.cell (World.block_lt_of_cell? w _ hw131_1)).trans hw131_1), ((HB.out.cell (World.block_lt_of_cell? w _ hw131_2)).trans hw131_2)⟩ (fun hHeld => ?_)
                        clear hK K
                        refine norm_ (a' := ?_) ?_ ?_
                        rotate_left
                        · show Act.put _ (some 58) _ = _
                          simp only [Act.put, List.setIfInBounds_toArray, List.set_cons_zero, List.set_cons_succ, i64_w, i32_w]
                          rfl
                        refine done_ (done_of HT_.out (by kernel_rfl)) ?_
                        try go_wp2
                        go_meet
                        case rel => exact ⟨_, (t132), (t133), (t134), H', ⟨by have := HK1.out; first | omega | exact Nat.le_refl _⟩, ⟨by (with_reducible repeat (first | apply Kd.R_alloc | apply Kd.R_drewN | apply Kd.R_drew)); exact HO_8.out⟩, ⟨by (with_reducible repeat (first | refine blk_drewN ?_ _ | refine blk_drew ?_ | refine blk_alloc ?_ _)); exact BK120.out⟩, ⟨by (with_reducible repeat (first | refine blk_drewN ?_ _ | refine blk_drew ?_ | refine blk_alloc ?_ _)); exact BK122.out⟩, ⟨by repeat (first | (with_reducible first | exact HB.out | apply below_alloc | apply pw_below_drewN | apply below_drew1 | refine below_set ?_ GE120.out | refine below_set ?_ GE122.out) | exact HB.out)⟩⟩
                      · rw [if_neg c25] at H
                        have c25b0 : (((rd_T52 l0 x17_1).f0) == ((rd_T52 l0 (ji17)).f0)) = false := beq_eq_false_iff_ne.mpr c25
                        have c25b1 : (((rd_T52 l0 x17_1).f0) != ((rd_T52 l0 (ji17)).f0)) = true := bne_iff_ne.mpr c25
                        replace H := Option.bind_eq_some_iff.mp H
                        obtain ⟨⟨t135, t136, t137⟩, A300, H⟩ := H
                        replace H : (impl_Kerned.j1 k1 l0 a1 a2 x8_1 l0 (l0.length : Int) x17_1 t135 t136 t137 ((rd_T52 l0 x17_1).f0) ((rd_T52 l0 x17_1).f1) ((rd_T52 l0 x17_1).f2)) = some r := H
                        have A30 := Aside0.mk A300
                        clear A300
                        have H' := Aside0.mk H
                        clear H
                        try go_wp2
                        have n0_ : Aside0 (Kd.R k102 102 (((w9.setCell ⟨gb122, 0, none⟩ (.int .i64 ((rd_T52 l0 x17_1).f0))).setCell ⟨gb122, 1, none⟩ (.int .i64 ((rd_T52 l0 x17_1).f1))).setCell ⟨gb122, 2, none⟩ (.int .i64 ((rd_T52 l0 x17_1).f2))) w.heap.size (fun _ => True) u8 x8_1) := ⟨by (with_reducible repeat (first | apply Kd.R_alloc | apply Kd.R_drewN | apply Kd.R_drew)); exact Kd.R_mono (Kd.R_far (p := ⟨gb122, 2, none⟩) (Kd.R_far (p := ⟨gb122, 1, none⟩) (Kd.R_far (p := ⟨gb122, 0, none⟩) (Kd.R_types HO_8.out BK122.out (by decide)) (fun _ hk => hk.2) (.int .i64 ((rd_T52 l0 x17_1).f0))) (fun _ hk => hk.2) (.int .i64 ((rd_T52 l0 x17_1).f1))) (fun _ hk => hk.2) (.int .i64 ((rd_T52 l0 x17_1).f2))) (fun _ hk => trivial)⟩
                        have n1_ : Aside0 ((((w9.setCell ⟨gb122, 0, none⟩ (.int .i64 ((rd_T52 l0 x17_1).f0))).setCell ⟨gb122, 1, none⟩ (.int .i64 ((rd_T52 l0 x17_1).f1))).setCell ⟨gb122, 2, none⟩ (.int .i64 ((rd_T52 l0 x17_1).f2))).heap[gb120]? = some (.cells #[.int .i64 x121000_1, .int .i64 x121001_1, .bool x121002_1] 95 (0, 0))) := ⟨by (with_reducible repeat (first | refine blk_drewN ?_ _ | refine blk_drew ?_ | refine blk_alloc ?_ _)); refine blk_far ?_ NB120_122.out _; (with_reducible repeat (first | refine blk_drewN ?_ _ | refine blk_drew ?_ | refine blk_alloc ?_ _)); refine blk_far ?_ NB120_122.out _; (with_reducible repeat (first | refine blk_drewN ?_ _ | refine blk_drew ?_ | refine blk_alloc ?_ _)); refine blk_far ?_ NB120_122.out _; (with_reducible repeat (first | refine blk_drewN ?_ _ | refine blk_drew ?_ | refine blk_alloc ?_ _)); exact BK120.out⟩
                        have n2_ : Aside0 ((((w9.setCell ⟨gb122, 0, none⟩ (.int .i64 ((rd_T52 l0 x17_1).f0))).setCell ⟨gb122, 1, none⟩ (.int .i64 ((rd_T52 l0 x17_1).f1))).setCell ⟨gb122, 2, none⟩ (.int .i64 ((rd_T52 l0 x17_1).f2))).heap[gb122]? = some (.cells #[.int .i64 ((rd_T52 l0 x17_1).f0), .int .i64 ((rd_T52 l0 x17_1).f1), .int .i64 ((rd_T52 l0 x17_1).f2)] 52 (0, 0))) := ⟨by (with_reducible repeat (first | refine blk_drewN ?_ _ | refine blk_drew ?_ | refine blk_alloc ?_ _)); refine blk_put (cs := #[.int .i64 ((rd_T52 l0 x17_1).f0), .int .i64 ((rd_T52 l0 x17_1).f1), .int .i64 0]) ?_ 2 _ rfl; (with_reducible repeat (first | refine blk_drewN ?_ _ | refine blk_drew ?_ | refine blk_alloc ?_ _)); refine blk_put (cs := #[.int .i64 ((rd_T52 l0 x17_1).f0), .int .i64 0, .int .i64 0]) ?_ 1 _ rfl; (with_reducible repeat (first | refine blk_drewN ?_ _ | refine blk_drew ?_ | refine blk_alloc ?_ _)); refine blk_put (cs := #[.int .i64 0, .int .i64 0, .int .i64 0]) ?_ 0 _ rfl; (with_reducible repeat (first | refine blk_drewN ?_ _ | refine blk_drew ?_ | refine blk_alloc ?_ _)); exact BK122.out⟩
                        have n3_ : Aside0 (Below w.heap.size w (((w9.setCell ⟨gb122, 0, none⟩ (.int .i64 ((rd_T52 l0 x17_1).f0))).setCell ⟨gb122, 1, none⟩ (.int .i64 ((rd_T52 l0 x17_1).f1))).setCell ⟨gb122, 2, none⟩ (.int .i64 ((rd_T52 l0 x17_1).f2)))) := ⟨by repeat (first | (with_reducible first | exact HB.out | apply below_alloc | apply pw_below_drewN | apply below_drew1 | refine below_set ?_ GE120.out | refine below_set ?_ GE122.out) | exact HB.out)⟩
                        (try clear HO_8)
                        (try clear BK120)
                        (try clear BK122)
                        (try clear HB)
                        generalize (((w9.setCell ⟨gb122, 0, none⟩ (.int .i64 ((rd_T52 l0 x17_1).f0))).setCell ⟨gb122, 1, none⟩ (.int .i64 ((rd_T52 l0 x17_1).f1))).setCell ⟨gb122, 2, none⟩ (.int .i64 ((rd_T52 l0 x17_1).f2))) = w31 at n0_ n1_ n2_ n3_ ⊢
                        have HO_8 := n0_
                        have BK120 := n1_
                        have BK122 := n2_
                        have HB := n3_
                        clear n0_ n1_ n2_ n3_
                        have n0_ := Aside0.mk (Kd.R_drew HO_8.out)
                        have n1_ := Aside0.mk (blk_drew BK120.out)
                        have n2_ := Aside0.mk (blk_drew BK122.out)
                        have n3_ := Aside0.mk (below_drew1 HB.out)
                        clear HO_8
                        clear BK120
                        clear BK122
                        clear HB
                        have HO_8 := n0_
                        have BK120 := n1_
                        have BK122 := n2_
                        have HB := n3_
                        clear n0_ n1_ n2_ n3_
                        have p126 : 0 ≤ ((ji17) : Int) := of_decide_eq_true (by first | (with_reducible assumption) | assumption)
                        have q126 : (ji17) < (l0.length : Int) := of_decide_eq_true (by first | (with_reducible assumption) | assumption)
                        obtain ⟨ad126, e126, hx126_0, hx126_1, hx126_2⟩ := at_T52 HR0.out (ji17) p126 q126
                        have hw126_2 := hx126_2
                        have hw126_1 := hx126_1
                        have hw126_0 := hx126_0
                        obtain rfl : ad121 = ad126 := (by injection e126)
                        replace hx126_0 := (HB.out.cell (World.block_lt_of_cell? w _ hx126_0)).trans hx126_0
                        replace hx126_1 := (HB.out.cell (World.block_lt_of_cell? w _ hx126_1)).trans hx126_1
                        replace hx126_2 := (HB.out.cell (World.block_lt_of_cell? w _ hx126_2)).trans hx126_2
                        replace p126 := eq_true p126
                        replace q126 := eq_true q126
                        have p130 : 0 ≤ ((ji17) : Int) := of_decide_eq_true (by first | (with_reducible assumption) | assumption)
                        have q130 : (ji17) < (l0.length : Int) := of_decide_eq_true (by first | (with_reducible assumption) | assumption)
                        obtain ⟨ad130, e130, hx130_0, hx130_1, hx130_2⟩ := at_T52 HR0.out (ji17) p130 q130
                        have hw130_2 := hx130_2
                        have hw130_1 := hx130_1
                        have hw130_0 := hx130_0
                        obtain rfl : ad121 = ad130 := (by injection e130)
                        replace hx130_0 := (HB.out.cell (World.block_lt_of_cell? w _ hx130_0)).trans hx130_0
                        replace hx130_1 := (HB.out.cell (World.block_lt_of_cell? w _ hx130_1)).trans hx130_1
                        replace hx130_2 := (HB.out.cell (World.block_lt_of_cell? w _ hx130_2)).trans hx130_2
                        replace p130 := eq_true p130
                        replace q130 := eq_true q130
                        refine start_ (n := 37) (S := fun w' => w'.cell? ⟨gb122, 0, none⟩ = some (.int .i64 ((rd_T52 l0 x17_1).f0)) ∧ w'.cell? ⟨gb122, 1, none⟩ = some (.int .i64 ((rd_T52 l0 x17_1).f1)) ∧ w'.cell? ⟨gb122, 2, none⟩ = some (.int .i64 ((rd_T52 l0 x17_1).f2)) ∧ w'.cell? (ad121.add (((ji17)).toNat * 3)) = some (.int .i64 ((rd_T52 l0 (ji17)).f0)) ∧ w'.cell? ⟨(ad121.add (((ji17)).toNat * 3)).block, (ad121.add (((ji17)).toNat * 3)).off + 1, none⟩ = some (.int .i64 ((rd_T52 l0 (ji17)).f1)) ∧ w'.cell? ⟨(ad121.add (((ji17)).toNat * 3)).block, (ad121.add (((ji17)).toNat * 3)).off + 2, none⟩ = some (.int .i64 ((rd_T52 l0 (ji17)).f2)) ∧ w'.cell? (ad121.add (((ji17)).toNat * 3)) = some (.int .i64 ((rd_T52 l0 (ji17)).f0)) ∧ w'.cell? ⟨(ad121.add (((ji17)).toNat * 3)).block, (ad121.add (((ji17)).toNat * 3)).off + 1, none⟩ = some (.int .i64 ((rd_T52 l0 (ji17)).f1)) ∧ w'.cell? ⟨(ad121.add (((ji17)).toNat * 3)).block, (ad121.add (((ji17)).toNat * 3)).off + 2, none⟩ = some (.int .i64 ((rd_T52 l0 (ji17)).f2))) (ds := []) #[false, false, false, false, false, false, false, false, false, false, false, false, false, false, false, false, false, false, false, false, false, false, false, false, false, false, false, false, false, false, false, false, false, false, false, false, false] (by kernel_rfl) rfl rfl ⟨(blk_cell BK122.out 0).trans rfl, (blk_cell BK122.out 1).trans rfl, (blk_cell BK122.out 2).trans rfl, ((HB.out.cell (World.block_lt_of_cell? w _ hw126_0)).trans hw126_0), ((HB.out.cell (World.block_lt_of_cell? w _ hw126_1)).trans hw126_1), ((HB.out.cell (World.block_lt_of_cell? w _ hw126_2)).trans hw126_2), ((HB.out.cell (World.block_lt_of_cell? w _ hw130_0)).trans hw130_0), ((HB.out.cell (World.block_lt_of_cell? w _ hw130_1)).trans hw130_1), ((HB.out.cell (World.block_lt_of_cell? w _ hw130_2)).trans hw130_2)⟩ (fun hHeld => ?_); refine with_tabW impl_Kerned.tab6 impl_Kerned.bits6 (fun HT_ HW_ => ?_)
                        generalize w31.drew = w32 at HO_8 BK120 BK122 HB hx126_0 hx126_1 hx126_2 hx130_0 hx130_1 hx130_2 hHeld ⊢
                        refine pure_ (i := 0) (N := some 22) (v := ?_) (a' := ?_) #[true, false, false, false, false, false, false, false, false, false, false, false, false, false, false, false, false, false, false, false, false, false, false, false, false, false, false, false, false, false, false, false, false, false, false, false, false] rfl rfl (any_of HT_.out (by kernel_rfl)) (fun _ _ _ h => h) (Or.inl ⟨by rfl, ?_⟩) ?_ ?_
                        rotate_left
                        · intro w'
                          go_simp
                          with_reducible rfl
                        rotate_left
                        · simp only [Act.put, List.setIfInBounds_toArray, List.set_cons_zero, List.set_cons_succ, i64_w, i32_w]
                          rfl
                        refine pure_ (i := 1) (N := some 23) (v := ?_) (a' := ?_) #[true, true, false, false, false, false, false, false, false, false, false, false, false, false, false, false, false, false, false, false, false, false, false, false, false, false, false, false, false, false, false, false, false, false, false, false, false] rfl rfl (any_of HT_.out (by kernel_rfl)) (fun _ _ _ h => h) (Or.inl ⟨by rfl, ?_⟩) ?_ ?_
                        rotate_left
                        · intro w'
                          go_simp
                          with_reducible rfl
                        rotate_left
                        · simp only [Act.put, List.setIfInBounds_toArray, List.set_cons_zero, List.set_cons_succ, i64_w, i32_w]
                          rfl
                        refine pure_ (i := 2) (N := some 24) (v := ?_) (a' := ?_) #[true, true, true, false, false, false, false, false, false, false, false, false, false, false, false, false, false, false, false, false, false, false, false, false, false, false, false, false, false, false, false, false, false, false, false, false, false] rfl rfl (any_of HT_.out (by kernel_rfl)) (fun _ _ _ h => h) (Or.inl ⟨by rfl, ?_⟩) ?_ ?_
                        rotate_left
                        · intro w'
                          go_simp
                          with_reducible rfl
                        rotate_left
                        · simp only [Act.put, List.setIfInBounds_toArray, List.set_cons_zero, List.set_cons_succ, i64_w, i32_w]
                          rfl
                        refine pure_ (i := 3) (N := some 25) (v := ?_) (a' := ?_) #[true, true, true, true, false, false, false, false, false, false, false, false, false, false, false, false, false, false, false, false, false, false, false, false, false, false, false, false, false, false, false, false, false, false, false, false, false] rfl rfl (any_of HT_.out (by kernel_rfl)) (fun _ _ _ h => h) (Or.inl ⟨by rfl, ?_⟩) ?_ ?_
                        rotate_left
                        · intro w'
                          go_simp
                          with_reducible rfl
                        rotate_left
                        · simp only [Act.put, List.setIfInBounds_toArray, List.set_cons_zero, List.set_cons_succ, i64_w, i32_w]
                          rfl
                        refine pure_ (i := 4) (N := some 26) (v := ?_) (a' := ?_) #[true, true, true, true, true, false, false, false, false, false, false, false, false, false, false, false, false, false, false, false, false, false, false, false, false, false, false, false, false, false, false, false, false, false, false, false, false] rfl rfl (any_of HT_.out (by kernel_rfl)) (fun _ _ _ h => h) (Or.inl ⟨by rfl, ?_⟩) ?_ ?_
                        rotate_left
                        · intro w'
                          go_simp
                          with_reducible rfl
                        rotate_left
                        · simp only [Act.put, List.setIfInBounds_toArray, List.set_cons_zero, List.set_cons_succ, i64_w, i32_w]
                          rfl
                        refine pure_ (i := 6) (N := some 28) (v := ?_) (a' := ?_) #[true, true, true, true, true, false, true, false, false, false, false, false, false, false, false, false, false, false, false, false, false, false, false, false, false, false, false, false, false, false, false, false, false, false, false, false, false] rfl rfl (any_of HT_.out (by kernel_rfl)) (fun _ _ _ h => h) (Or.inl ⟨by rfl, ?_⟩) ?_ ?_
                        rotate_left
                        · intro w'
                          go_simp
                          with_reducible rfl
                        rotate_left
                        · simp only [Act.put, List.setIfInBounds_toArray, List.set_cons_zero, List.set_cons_succ, i64_w, i32_w]
                          rfl
                        refine pure_ (i := 7) (N := some 29) (v := ?_) (a' := ?_) #[true, true, true, true, true, false, true, true, false, false, false, false, false, false, false, false, false, false, false, false, false, false, false, false, false, false, false, false, false, false, false, false, false, false, false, false, false] rfl rfl (any_of HT_.out (by kernel_rfl)) (fun _ _ _ h => h) (Or.inl ⟨by rfl, ?_⟩) ?_ ?_
                        rotate_left
                        · intro w'
                          go_simp
                          with_reducible rfl
                        rotate_left
                        · simp only [Act.put, List.setIfInBounds_toArray, List.set_cons_zero, List.set_cons_succ, i64_w, i32_w]
                          rfl
                        refine pure_ (i := 8) (N := some 30) (v := ?_) (a' := ?_) #[true, true, true, true, true, false, true, true, true, false, false, false, false, false, false, false, false, false, false, false, false, false, false, false, false, false, false, false, false, false, false, false, false, false, false, false, false] rfl rfl (any_of HT_.out (by kernel_rfl)) (fun _ _ _ h => h) (Or.inl ⟨by rfl, ?_⟩) ?_ ?_
                        rotate_left
                        · intro w'
                          go_simp
                          with_reducible rfl
                        rotate_left
                        · simp only [Act.put, List.setIfInBounds_toArray, List.set_cons_zero, List.set_cons_succ, i64_w, i32_w]
                          rfl
                        refine pure_ (i := 9) (N := some 31) (v := ?_) (a' := ?_) #[true, true, true, true, true, false, true, true, true, true, false, false, false, false, false, false, false, false, false, false, false, false, false, false, false, false, false, false, false, false, false, false, false, false, false, false, false] rfl rfl (any_of HT_.out (by kernel_rfl)) (fun _ _ _ h => h) (Or.inl ⟨by rfl, ?_⟩) ?_ ?_
                        rotate_left
                        · intro w'
                          go_simp
                          with_reducible rfl
                        rotate_left
                        · simp only [Act.put, List.setIfInBounds_toArray, List.set_cons_zero, List.set_cons_succ, i64_w, i32_w]
                          rfl
                        refine pure_ (i := 10) (N := some 32) (v := ?_) (a' := ?_) #[true, true, true, true, true, false, true, true, true, true, true, false, false, false, false, false, false, false, false, false, false, false, false, false, false, false, false, false, false, false, false, false, false, false, false, false, false] rfl rfl (any_of HT_.out (by kernel_rfl)) (fun _ _ _ h => h) (Or.inl ⟨by rfl, ?_⟩) ?_ ?_
                        rotate_left
                        · intro w'
                          go_simp
                          with_reducible rfl
                        rotate_left
                        · simp only [Act.put, List.setIfInBounds_toArray, List.set_cons_zero, List.set_cons_succ, i64_w, i32_w]
                          rfl
                        refine take_ (i := 5) (N := some 27) (v := ?_) (a' := ?_) #[true, true, true, true, true, true, true, true, true, true, true, false, false, false, false, false, false, false, false, false, false, false, false, false, false, false, false, false, false, false, false, false, false, false, false, false, false] rfl rfl (take_ofW HT_.out HW_.out (by kernel_rfl)) (fun _ _ _ h => h) (Or.inl ⟨by rfl, ?_⟩) hHeld ?_ ?_
                        rotate_left
                        · rintro w' ⟨s0, s1, s2, s3, s4, s5, s6, s7, s8⟩
                          go_simp
                          with_reducible rfl
                        rotate_left
                        · simp only [Act.put, List.setIfInBounds_toArray, List.set_cons_zero, List.set_cons_succ, i64_w, i32_w]
                          rfl
                        refine take_ (i := 11) (N := some 33) (v := ?_) (a' := ?_) #[true, true, true, true, true, true, true, true, true, true, true, true, false, false, false, false, false, false, false, false, false, false, false, false, false, false, false, false, false, false, false, false, false, false, false, false, false] rfl rfl (take_ofW HT_.out HW_.out (by kernel_rfl)) (fun _ _ _ h => h) (Or.inl ⟨by rfl, ?_⟩) hHeld ?_ ?_
                        rotate_left
                        · rintro w' ⟨s0, s1, s2, s3, s4, s5, s6, s7, s8⟩
                          go_simp
                          with_reducible rfl
                        rotate_left
                        · simp only [Act.put, List.setIfInBounds_toArray, List.set_cons_zero, List.set_cons_succ, i64_w, i32_w]
                          rfl
                        refine pure_ (i := 12) (N := some 34) (v := ?_) (a' := ?_) #[true, true, true, true, true, true, true, true, true, true, true, true, true, false, false, false, false, false, false, false, false, false, false, false, false, false, false, false, false, false, false, false, false, false, false, false, false] rfl rfl (any_of HT_.out (by kernel_rfl)) (fun _ _ _ h => h) (Or.inl ⟨by rfl, ?_⟩) ?_ ?_
                        rotate_left
                        · intro w'
                          go_simp
                          with_reducible rfl
                        rotate_left
                        · simp only [Act.put, List.setIfInBounds_toArray, List.set_cons_zero, List.set_cons_succ, i64_w, i32_w]
                          rfl
                        refine pure_ (i := 13) (N := some 35) (v := ?_) (a' := ?_) #[true, true, true, true, true, true, true, true, true, true, true, true, true, true, false, false, false, false, false, false, false, false, false, false, false, false, false, false, false, false, false, false, false, false, false, false, false] rfl rfl (any_of HT_.out (by kernel_rfl)) (fun _ _ _ h => h) (Or.inl ⟨by rfl, ?_⟩) ?_ ?_
                        rotate_left
                        · intro w'
                          go_simp
                          with_reducible rfl
                        rotate_left
                        · simp only [Act.put, List.setIfInBounds_toArray, List.set_cons_zero, List.set_cons_succ, i64_w, i32_w]
                          rfl
                        refine pure_ (i := 14) (N := some 36) (v := ?_) (a' := ?_) #[true, true, true, true, true, true, true, true, true, true, true, true, true, true, true, false, false, false, false, false, false, false, false, false, false, false, false, false, false, false, false, false, false, false, false, false, false] rfl rfl (any_of HT_.out (by kernel_rfl)) (fun _ _ _ h => h) (Or.inl ⟨by rfl, ?_⟩) ?_ ?_
                        rotate_left
                        · intro w'
                          go_simp
                          with_reducible rfl
                        rotate_left
                        · simp only [Act.put, List.setIfInBounds_toArray, List.set_cons_zero, List.set_cons_succ, i64_w, i32_w]
                          rfl
                        refine pure_ (i := 15) (N := some 37) (v := ?_) (a' := ?_) #[true, true, true, true, true, true, true, true, true, true, true, true, true, true, true, true, false, false, false, false, false, false, false, false, false, false, false, false, false, false, false, false, false, false, false, false, false] rfl rfl (any_of HT_.out (by kernel_rfl)) (fun _ _ _ h => h) (Or.inl ⟨by rfl, ?_⟩) ?_ ?_
                        rotate_left
                        · intro w'
                          go_simp
                          with_reducible rfl
                        rotate_left
                        · simp only [Act.put, List.setIfInBounds_toArray, List.set_cons_zero, List.set_cons_succ, i64_w, i32_w]
                          rfl
                        refine pure_ (i := 17) (N := some 39) (v := ?_) (a' := ?_) #[true, true, true, true, true, true, true, true, true, true, true, true, true, true, true, true, false, true, false, false, false, false, false, false, false, false, false, false, false, false, false, false, false, false, false, false, false] rfl rfl (any_of HT_.out (by kernel_rfl)) (fun _ _ _ h => h) (Or.inl ⟨by rfl, ?_⟩) ?_ ?_
                        rotate_left
                        · intro w'
                          go_simp
                          with_reducible rfl
                        rotate_left
                        · simp only [Act.put, List.setIfInBounds_toArray, List.set_cons_zero, List.set_cons_succ, i64_w, i32_w]
                          rfl
                        refine pure_ (i := 18) (N := some 40) (v := ?_) (a' := ?_) #[true, true, true, true, true, true, true, true, true, true, true, true, true, true, true, true, false, true, true, false, false, false, false, false, false, false, false, false, false, false, false, false, false, false, false, false, false] rfl rfl (any_of HT_.out (by kernel_rfl)) (fun _ _ _ h => h) (Or.inl ⟨by rfl, ?_⟩) ?_ ?_
                        rotate_left
                        · intro w'
                          go_simp
                          with_reducible rfl
                        rotate_left
                        · simp only [Act.put, List.setIfInBounds_toArray, List.set_cons_zero, List.set_cons_succ, i64_w, i32_w]
                          rfl
                        refine pure_ (i := 19) (N := some 41) (v := ?_) (a' := ?_) #[true, true, true, true, true, true, true, true, true, true, true, true, true, true, true, true, false, true, true, true, false, false, false, false, false, false, false, false, false, false, false, false, false, false, false, false, false] rfl rfl (any_of HT_.out (by kernel_rfl)) (fun _ _ _ h => h) (Or.inl ⟨by rfl, ?_⟩) ?_ ?_
                        rotate_left
                        · intro w'
                          go_simp
                          with_reducible rfl
                        rotate_left
                        · simp only [Act.put, List.setIfInBounds_toArray, List.set_cons_zero, List.set_cons_succ, i64_w, i32_w]
                          rfl
                        refine pure_ (i := 20) (N := some 42) (v := ?_) (a' := ?_) #[true, true, true, true, true, true, true, true, true, true, true, true, true, true, true, true, false, true, true, true, true, false, false, false, false, false, false, false, false, false, false, false, false, false, false, false, false] rfl rfl (any_of HT_.out (by kernel_rfl)) (fun _ _ _ h => h) (Or.inl ⟨by rfl, ?_⟩) ?_ ?_
                        rotate_left
                        · intro w'
                          go_simp
                          with_reducible rfl
                        rotate_left
                        · simp only [Act.put, List.setIfInBounds_toArray, List.set_cons_zero, List.set_cons_succ, i64_w, i32_w]
                          rfl
                        refine pure_ (i := 21) (N := some 43) (v := ?_) (a' := ?_) #[true, true, true, true, true, true, true, true, true, true, true, true, true, true, true, true, false, true, true, true, true, true, false, false, false, false, false, false, false, false, false, false, false, false, false, false, false] rfl rfl (any_of HT_.out (by kernel_rfl)) (fun _ _ _ h => h) (Or.inl ⟨by rfl, ?_⟩) ?_ ?_
                        rotate_left
                        · intro w'
                          go_simp
                          with_reducible rfl
                        rotate_left
                        · simp only [Act.put, List.setIfInBounds_toArray, List.set_cons_zero, List.set_cons_succ, i64_w, i32_w]
                          rfl
                        refine take_ (i := 16) (N := some 38) (v := ?_) (a' := ?_) #[true, true, true, true, true, true, true, true, true, true, true, true, true, true, true, true, true, true, true, true, true, true, false, false, false, false, false, false, false, false, false, false, false, false, false, false, false] rfl rfl (take_ofW HT_.out HW_.out (by kernel_rfl)) (fun _ _ _ h => h) (Or.inl ⟨by rfl, ?_⟩) hHeld ?_ ?_
                        rotate_left
                        · rintro w' ⟨s0, s1, s2, s3, s4, s5, s6, s7, s8⟩
                          go_simp
                          with_reducible rfl
                        rotate_left
                        · simp only [Act.put, List.setIfInBounds_toArray, List.set_cons_zero, List.set_cons_succ, i64_w, i32_w]
                          rfl
                        refine take_ (i := 22) (N := some 44) (v := ?_) (a' := ?_) #[true, true, true, true, true, true, true, true, true, true, true, true, true, true, true, true, true, true, true, true, true, true, true, false, false, false, false, false, false, false, false, false, false, false, false, false, false] rfl rfl (take_ofW HT_.out HW_.out (by kernel_rfl)) (fun _ _ _ h => h) (Or.inl ⟨by rfl, ?_⟩) hHeld ?_ ?_
                        rotate_left
                        · rintro w' ⟨s0, s1, s2, s3, s4, s5, s6, s7, s8⟩
                          go_simp
                          with_reducible rfl
                        rotate_left
                        · simp only [Act.put, List.setIfInBounds_toArray, List.set_cons_zero, List.set_cons_succ, i64_w, i32_w]
                          rfl
                        refine pure_ (i := 23) (N := some 45) (v := ?_) (a' := ?_) #[true, true, true, true, true, true, true, true, true, true, true, true, true, true, true, true, true, true, true, true, true, true, true, true, false, false, false, false, false, false, false, false, false, false, false, false, false] rfl rfl (any_of HT_.out (by kernel_rfl)) (fun _ _ _ h => h) (Or.inl ⟨by rfl, ?_⟩) ?_ ?_
                        rotate_left
                        · intro w'
                          go_simp
                          with_reducible rfl
                        rotate_left
                        · simp only [Act.put, List.setIfInBounds_toArray, List.set_cons_zero, List.set_cons_succ, i64_w, i32_w]
                          rfl
                        refine pure_ (i := 24) (N := some 46) (v := ?_) (a' := ?_) #[true, true, true, true, true, true, true, true, true, true, true, true, true, true, true, true, true, true, true, true, true, true, true, true, true, false, false, false, false, false, false, false, false, false, false, false, false] rfl rfl (any_of HT_.out (by kernel_rfl)) (fun _ _ _ h => h) (Or.inl ⟨by rfl, ?_⟩) ?_ ?_
                        rotate_left
                        · intro w'
                          go_simp
                          with_reducible rfl
                        rotate_left
                        · simp only [Act.put, List.setIfInBounds_toArray, List.set_cons_zero, List.set_cons_succ, i64_w, i32_w]
                          rfl
                        refine pure_ (i := 25) (N := some 47) (v := undef) (a' := ?_) #[true, true, true, true, true, true, true, true, true, true, true, true, true, true, true, true, true, true, true, true, true, true, true, true, true, true, false, false, false, false, false, false, false, false, false, false, false] rfl rfl (any_of HT_.out (by kernel_rfl)) (fun _ _ _ h => h) (Or.inr ⟨by rfl, rfl⟩) ?_ ?_
                        rotate_left
                        · simp only [Act.put, List.setIfInBounds_toArray, List.set_cons_zero, List.set_cons_succ, i64_w, i32_w]
                          rfl
                        refine pure_ (i := 26) (N := some 48) (v := undef) (a' := ?_) #[true, true, true, true, true, true, true, true, true, true, true, true, true, true, true, true, true, true, true, true, true, true, true, true, true, true, true, false, false, false, false, false, false, false, false, false, false] rfl rfl (any_of HT_.out (by kernel_rfl)) (fun _ _ _ h => h) (Or.inr ⟨by rfl, rfl⟩) ?_ ?_
                        rotate_left
                        · simp only [Act.put, List.setIfInBounds_toArray, List.set_cons_zero, List.set_cons_succ, i64_w, i32_w]
                          rfl
                        refine pure_ (i := 27) (N := some 49) (v := undef) (a' := ?_) #[true, true, true, true, true, true, true, true, true, true, true, true, true, true, true, true, true, true, true, true, true, true, true, true, true, true, true, true, false, false, false, false, false, false, false, false, false] rfl rfl (any_of HT_.out (by kernel_rfl)) (fun _ _ _ h => h) (Or.inr ⟨by rfl, rfl⟩) ?_ ?_
                        rotate_left
                        · simp only [Act.put, List.setIfInBounds_toArray, List.set_cons_zero, List.set_cons_succ, i64_w, i32_w]
                          rfl
                        refine pure_ (i := 28) (N := some 50) (v := undef) (a' := ?_) #[true, true, true, true, true, true, true, true, true, true, true, true, true, true, true, true, true, true, true, true, true, true, true, true, true, true, true, true, true, false, false, false, false, false, false, false, false] rfl rfl (any_of HT_.out (by kernel_rfl)) (fun _ _ _ h => h) (Or.inr ⟨by rfl, rfl⟩) ?_ ?_
                        rotate_left
                        · simp only [Act.put, List.setIfInBounds_toArray, List.set_cons_zero, List.set_cons_succ, i64_w, i32_w]
                          rfl
                        refine pure_ (i := 29) (N := some 51) (v := undef) (a' := ?_) #[true, true, true, true, true, true, true, true, true, true, true, true, true, true, true, true, true, true, true, true, true, true, true, true, true, true, true, true, true, true, false, false, false, false, false, false, false] rfl rfl (any_of HT_.out (by kernel_rfl)) (fun _ _ _ h => h) (Or.inr ⟨by rfl, rfl⟩) ?_ ?_
                        rotate_left
                        · simp only [Act.put, List.setIfInBounds_toArray, List.set_cons_zero, List.set_cons_succ, i64_w, i32_w]
                          rfl
                        refine pure_ (i := 30) (N := some 52) (v := undef) (a' := ?_) #[true, true, true, true, true, true, true, true, true, true, true, true, true, true, true, true, true, true, true, true, true, true, true, true, true, true, true, true, true, true, true, false, false, false, false, false, false] rfl rfl (any_of HT_.out (by kernel_rfl)) (fun _ _ _ h => h) (Or.inr ⟨by rfl, rfl⟩) ?_ ?_
                        rotate_left
                        · simp only [Act.put, List.setIfInBounds_toArray, List.set_cons_zero, List.set_cons_succ, i64_w, i32_w]
                          rfl
                        refine pure_ (i := 31) (N := some 53) (v := undef) (a' := ?_) #[true, true, true, true, true, true, true, true, true, true, true, true, true, true, true, true, true, true, true, true, true, true, true, true, true, true, true, true, true, true, true, true, false, false, false, false, false] rfl rfl (any_of HT_.out (by kernel_rfl)) (fun _ _ _ h => h) (Or.inr ⟨by rfl, rfl⟩) ?_ ?_
                        rotate_left
                        · simp only [Act.put, List.setIfInBounds_toArray, List.set_cons_zero, List.set_cons_succ, i64_w, i32_w]
                          rfl
                        refine pure_ (i := 32) (N := some 54) (v := undef) (a' := ?_) #[true, true, true, true, true, true, true, true, true, true, true, true, true, true, true, true, true, true, true, true, true, true, true, true, true, true, true, true, true, true, true, true, true, false, false, false, false] rfl rfl (any_of HT_.out (by kernel_rfl)) (fun _ _ _ h => h) (Or.inr ⟨by rfl, rfl⟩) ?_ ?_
                        rotate_left
                        · simp only [Act.put, List.setIfInBounds_toArray, List.set_cons_zero, List.set_cons_succ, i64_w, i32_w]
                          rfl
                        refine pure_ (i := 33) (N := some 55) (v := undef) (a' := ?_) #[true, true, true, true, true, true, true, true, true, true, true, true, true, true, true, true, true, true, true, true, true, true, true, true, true, true, true, true, true, true, true, true, true, true, false, false, false] rfl rfl (any_of HT_.out (by kernel_rfl)) (fun _ _ _ h => h) (Or.inr ⟨by rfl, rfl⟩) ?_ ?_
                        rotate_left
                        · simp only [Act.put, List.setIfInBounds_toArray, List.set_cons_zero, List.set_cons_succ, i64_w, i32_w]
                          rfl
                        refine pure_ (i := 34) (N := some 56) (v := ?_) (a' := ?_) #[true, true, true, true, true, true, true, true, true, true, true, true, true, true, true, true, true, true, true, true, true, true, true, true, true, true, true, true, true, true, true, true, true, true, true, false, false] rfl rfl (any_of HT_.out (by kernel_rfl)) (fun _ _ _ h => h) (Or.inl ⟨by rfl, ?_⟩) ?_ ?_
                        rotate_left
                        · intro w'
                          go_simp
                          with_reducible rfl
                        rotate_left
                        · simp only [Act.put, List.setIfInBounds_toArray, List.set_cons_zero, List.set_cons_succ, i64_w, i32_w]
                          rfl
                        refine pure_ (i := 35) (N := some 57) (v := ?_) (a' := ?_) #[true, true, true, true, true, true, true, true, true, true, true, true, true, true, true, true, true, true, true, true, true, true, true, true, true, true, true, true, true, true, true, true, true, true, true, true, false] rfl rfl (any_of HT_.out (by kernel_rfl)) (fun _ _ _ h => h) (Or.inl ⟨by rfl, ?_⟩) ?_ ?_
                        rotate_left
                        · intro w'
                          go_simp
                          with_reducible rfl
                        rotate_left
                        · simp only [Act.put, List.setIfInBounds_toArray, List.set_cons_zero, List.set_cons_succ, i64_w, i32_w]
                          rfl
                        refine one_ (i := 36) (N := some 58) #[true, true, true, true, true, true, true, true, true, true, true, true, true, true, true, true, true, true, true, true, true, true, true, true, true, true, true, true, true, true, true, true, true, true, true, true, true] rfl rfl (one_of HT_.out (by kernel_rfl)) (by decide) (fun K hK => ?_)
                        refine goes_ Try.func52 (by kernel_rfl) rfl #[.pointer (some ⟨gb120, 0, none⟩), .bool false] (by rfl) rfl rfl (by (try simp only [List.map_toArray, List.map_cons, List.map_nil]); first | done | rfl | (simp only [List.length_drop, List.length_take]; rfl)) ?_
                        with_reducible refine (impl_builder_must.calls gb120 x121000_1 x121001_1 x121002_1 false t135 t136 t137 w _ ?side1 ?side2 A30.out).mono ?_
                        (case side1 => repeat (first | (with_reducible first | exact (Aside0.mk (IsS95.of BK120.out GE120.out)).out | apply IsS95.alloc | apply IsS95.drewN | apply IsS95.drew | apply IsS95.set_0 | apply IsS95.set_1 | apply IsS95.set_2 | refine IsS95.far ?_ NB120_122.out _) | exact (Aside0.mk (IsS95.of BK120.out GE120.out)).out))
                        (case side2 => repeat (first | (with_reducible first | exact HB.out | apply below_alloc | apply pw_below_drewN | apply below_drew1 | refine below_set ?_ (IsS95.ge (Aside0.mk (IsS95.of BK120.out GE120.out)).out) | refine below_set ?_ GE122.out) | exact HB.out))
                        rintro e w33 ⟨rfl, hi, hb, hk⟩
                        refine ⟨_, rfl, ?_⟩
                        have n0_ := Aside0.mk (Kd.R_mono (Kd.R_keep (IsS95.apart (show IsS95 w _ gb120 x121000_1 x121001_1 x121002_1 from by repeat (first | (with_reducible first | exact (Aside0.mk (IsS95.of BK120.out GE120.out)).out | apply IsS95.alloc | apply IsS95.drewN | apply IsS95.drew | apply IsS95.set_0 | apply IsS95.set_1 | apply IsS95.set_2 | refine IsS95.far ?_ NB120_122.out _) | exact (Aside0.mk (IsS95.of BK120.out GE120.out)).out)) (by (with_reducible repeat (first | apply Kd.R_alloc | apply Kd.R_drewN | apply Kd.R_drew)); exact HO_8.out) (by decide)) hk (fun _ h => h.2)) (fun _ h => h.1))
                        have n1_ := Aside0.mk (KeepBut.blk hk (g' := gb122) (o := .cells #[.int .i64 ((rd_T52 l0 x17_1).f0), .int .i64 ((rd_T52 l0 x17_1).f1), .int .i64 ((rd_T52 l0 x17_1).f2)] 52 (0, 0)) (by (with_reducible repeat (first | refine blk_drewN ?_ _ | refine blk_drew ?_ | refine blk_alloc ?_ _)); exact BK122.out) NB122_120.out (by simp))
                        have n2_ := Aside0.mk (hb)
                        have n3_ := Aside0.mk (IsS95.cells hi)
                        clear HO_8
                        clear BK122
                        clear HB
                        clear BK120
                        have HO_8 := n0_
                        have BK122 := n1_
                        have HB := n2_
                        have BK120 := n3_
                        clear n0_ n1_ n2_ n3_
                        (try clear hb)
                        (try clear hb2)
                        (try clear hk)
                        (try clear hi)
                        refine hK.out _ _ ⟨(blk_cell BK122.out 0).trans rfl, (blk_cell BK122.out 1).trans rfl, (blk_cell BK122.out 2).trans rfl, ((HB.out.cell (World.block_lt_of_cell? w _ hw126_0)).trans hw126_0), ((HB.out.cell (World.block_lt_of_cell? w _ hw126_1)).trans hw126_1), ((HB.out.cell (World.block_lt_of_cell? w _ hw126_2)).trans hw126_2), ((HB.out.cell (World.block_lt_of_cell? w _ hw130_0)).trans hw130_0), ((HB.out.cell (World.block_lt_of_cell? w _ hw130_1)).trans hw130_1), ((HB.out.cell (World.block_lt_of_cell? w _ hw130_2)).trans hw130_2)⟩ (fun hHeld => ?_)
                        clear hK K
                        refine norm_ (a' := ?_) ?_ ?_
                        rotate_left
                        · show Act.put _ (some 58) _ = _
                          simp only [Act.put, List.setIfInBounds_toArray, List.set_cons_zero, List.set_cons_succ, i64_w, i32_w]
                          rfl
                        refine done_ (done_of HT_.out (by kernel_rfl)) ?_
                        try go_wp2
                        go_meet
                        case rel => exact ⟨_, (t135), (t136), (t137), H', ⟨by have := HK1.out; first | omega | exact Nat.le_refl _⟩, ⟨by (with_reducible repeat (first | apply Kd.R_alloc | apply Kd.R_drewN | apply Kd.R_drew)); exact HO_8.out⟩, ⟨by (with_reducible repeat (first | refine blk_drewN ?_ _ | refine blk_drew ?_ | refine blk_alloc ?_ _)); exact BK120.out⟩, ⟨by (with_reducible repeat (first | refine blk_drewN ?_ _ | refine blk_drew ?_ | refine blk_alloc ?_ _)); exact BK122.out⟩, ⟨by repeat (first | (with_reducible first | exact HB.out | apply below_alloc | apply pw_below_drewN | apply below_drew1 | refine below_set ?_ GE120.out | refine below_set ?_ GE122.out) | exact HB.out)⟩⟩
                  · rw [if_neg c19] at H
                    exact absurd H (by simp)
                · rw [if_neg c18] at H
                  exact absurd H (by simp)
            case rest =>
              clear HC8
              try clear c1
              try clear p1
              try clear q1
              try clear hx1
              try clear c2
              try clear p2
              try clear c5
              try clear p12
              try clear q12
              try clear hx12
              try clear p13
              try clear q13
              try clear hx13
              try clear c18
              try clear c19
              try clear c25
              try clear c25b0
              try clear c25b1
              try clear hx126_0
              try clear hx126_1
              try clear hx126_2
              try clear hx130_0
              try clear hx130_1
              try clear hx130_2
              try clear p126
              try clear p130
              try clear q126
              try clear q130
              obtain ⟨kq, x121000_7, x121001_7, x121002_7, HA, HJ7, HO_8, BK120, BK122, HB⟩ := hcut
              cases kq with
              | zero => exact absurd HA.out (by simp [impl_Kerned.j1])
              | succ kj7 =>
                have H := HA.out
                clear HA
                simp only [impl_Kerned.j1] at H
                replace H := Option.bind_eq_some_iff.mp H
                obtain ⟨⟨t138, t139, t140, t141⟩, A340, H⟩ := H
                replace H : ((impl_builder_small.f t139 t140 t141 ((rd_T52 l0 x17_1).f1)).bind fun bt142 => ((impl_builder_signed.f bt142.2.1 bt142.2.2.1 bt142.2.2.2 ((rd_T52 l0 x17_1).f2)).bind fun bt146 => (if x8_1.length < 23456248059221 then (impl_Kerned.l0 kj7 l0 a1 a2 (x8_1 ++ [(⟨t138, bt142.1, bt146.1⟩ : S102)]) l0 (l0.length : Int) (wrap64 (x17_1 + 1)) bt146.2.1 bt146.2.2.1 bt146.2.2.2) else (none)))) = some r := H
                have A34 := Aside0.mk A340
                clear A340
                replace H := Option.bind_eq_some_iff.mp H
                obtain ⟨⟨t142, t143, t144, t145⟩, A350, H⟩ := H
                replace H : ((impl_builder_signed.f t143 t144 t145 ((rd_T52 l0 x17_1).f2)).bind fun bt146 => (if x8_1.length < 23456248059221 then (impl_Kerned.l0 kj7 l0 a1 a2 (x8_1 ++ [(⟨t138, t142, bt146.1⟩ : S102)]) l0 (l0.length : Int) (wrap64 (x17_1 + 1)) bt146.2.1 bt146.2.2.1 bt146.2.2.2) else (none))) = some r := H
                have A35 := Aside0.mk A350
                clear A350
                replace H := Option.bind_eq_some_iff.mp H
                obtain ⟨⟨t146, t147, t148, t149⟩, A360, H⟩ := H
                replace H : (if x8_1.length < 23456248059221 then (impl_Kerned.l0 kj7 l0 a1 a2 (x8_1 ++ [(⟨t138, t142, t146⟩ : S102)]) l0 (l0.length : Int) (wrap64 (x17_1 + 1)) t147 t148 t149) else (none)) = some r := H
                have A36 := Aside0.mk A360
                clear A360
                by_cases c37 : x8_1.length < 23456248059221
                · rw [if_pos c37] at H
                  have LMc37 := Aside0.mk c37
                  clear c37
                  obtain ⟨y150, hy150⟩ : ∃ y_ : List (S102), y_ = (x8_1 ++ [(⟨t138, t142, t146⟩ : S102)]) := ⟨_, rfl⟩
                  replace H : (impl_Kerned.l0 kj7 l0 a1 a2 y150 l0 (l0.length : Int) (wrap64 (x17_1 + 1)) t147 t148 t149) = some r := by first | (rw [hy150]; with_reducible exact H) | (have H2_ := (Option.bind_some _ _).symm.trans H; rw [hy150]; with_reducible exact H2_) | (have H2_ := (Option.bind_some _ _).symm.trans H; with_reducible exact H2_) | with_reducible exact H | (rw [hy150]; exact H) | exact H
                  have Ny150 := Aside0.mk hy150
                  clear hy150
                  have H' := Aside0.mk H
                  clear H
                  try go_wp2
                  have n0_ := Aside0.mk (Kd.R_drew HO_8.out)
                  have n1_ := Aside0.mk (blk_drew BK120.out)
                  have n2_ := Aside0.mk (blk_drew BK122.out)
                  have n3_ := Aside0.mk (below_drew1 HB.out)
                  clear HO_8
                  clear BK120
                  clear BK122
                  clear HB
                  have HO_8 := n0_
                  have BK120 := n1_
                  have BK122 := n2_
                  have HB := n3_
                  clear n0_ n1_ n2_ n3_
                  refine start_ (n := 17) (S := fun w' => w'.cell? ⟨gb122, 0, none⟩ = some (.int .i64 ((rd_T52 l0 x17_1).f0)) ∧ w'.cell? ⟨gb122, 1, none⟩ = some (.int .i64 ((rd_T52 l0 x17_1).f1)) ∧ w'.cell? ⟨gb122, 2, none⟩ = some (.int .i64 ((rd_T52 l0 x17_1).f2))) (ds := []) #[false, false, false, false, false, false, false, false, false, false, false, false, false, false, false, false, false] (by kernel_rfl) rfl rfl ⟨(blk_cell BK122.out 0).trans rfl, (blk_cell BK122.out 1).trans rfl, (blk_cell BK122.out 2).trans rfl⟩ (fun hHeld => ?_); refine with_tabW impl_Kerned.tab7 impl_Kerned.bits7 (fun HT_ HW_ => ?_)
                  generalize wc.drew = w38 at HO_8 BK120 BK122 HB hHeld ⊢
                  refine pure_ (i := 0) (N := some 59) (v := ?_) (a' := ?_) #[true, false, false, false, false, false, false, false, false, false, false, false, false, false, false, false, false] rfl rfl (any_of HT_.out (by kernel_rfl)) (fun _ _ _ h => h) (Or.inl ⟨by rfl, ?_⟩) ?_ ?_
                  rotate_left
                  · intro w'
                    go_simp
                    with_reducible rfl
                  rotate_left
                  · simp only [Act.put, List.setIfInBounds_toArray, List.set_cons_zero, List.set_cons_succ, i64_w, i32_w]
                    rfl
                  refine pure_ (i := 1) (N := some 60) (v := ?_) (a' := ?_) #[true, true, false, false, false, false, false, false, false, false, false, false, false, false, false, false, false] rfl rfl (any_of HT_.out (by kernel_rfl)) (fun _ _ _ h => h) (Or.inl ⟨by rfl, ?_⟩) ?_ ?_
                  rotate_left
                  · intro w'
                    go_simp
                    with_reducible rfl
                  rotate_left
                  · simp only [Act.put, List.setIfInBounds_toArray, List.set_cons_zero, List.set_cons_succ, i64_w, i32_w]
                    rfl
                  refine pure_ (i := 2) (N := some 61) (v := ?_) (a' := ?_) #[true, true, true, false, false, false, false, false, false, false, false, false, false, false, false, false, false] rfl rfl (any_of HT_.out (by kernel_rfl)) (fun _ _ _ h => h) (Or.inl ⟨by rfl, ?_⟩) ?_ ?_
                  rotate_left
                  · intro w'
                    go_simp
                    with_reducible rfl
                  rotate_left
                  · simp only [Act.put, List.setIfInBounds_toArray, List.set_cons_zero, List.set_cons_succ, i64_w, i32_w]
                    rfl
                  refine pure_ (i := 5) (N := some 64) (v := ?_) (a' := ?_) #[true, true, true, false, false, true, false, false, false, false, false, false, false, false, false, false, false] rfl rfl (any_of HT_.out (by kernel_rfl)) (fun _ _ _ h => h) (Or.inl ⟨by rfl, ?_⟩) ?_ ?_
                  rotate_left
                  · intro w'
                    go_simp
                    with_reducible rfl
                  rotate_left
                  · simp only [Act.put, List.setIfInBounds_toArray, List.set_cons_zero, List.set_cons_succ, i64_w, i32_w]
                    rfl
                  refine pure_ (i := 6) (N := some 65) (v := ?_) (a' := ?_) #[true, true, true, false, false, true, true, false, false, false, false, false, false, false, false, false, false] rfl rfl (any_of HT_.out (by kernel_rfl)) (fun _ _ _ h => h) (Or.inl ⟨by rfl, ?_⟩) ?_ ?_
                  rotate_left
                  · intro w'
                    go_simp
                    with_reducible rfl
                  rotate_left
                  · simp only [Act.put, List.setIfInBounds_toArray, List.set_cons_zero, List.set_cons_succ, i64_w, i32_w]
                    rfl
                  refine pure_ (i := 9) (N := some 68) (v := ?_) (a' := ?_) #[true, true, true, false, false, true, true, false, false, true, false, false, false, false, false, false, false] rfl rfl (any_of HT_.out (by kernel_rfl)) (fun _ _ _ h => h) (Or.inl ⟨by rfl, ?_⟩) ?_ ?_
                  rotate_left
                  · intro w'
                    go_simp
                    with_reducible rfl
                  rotate_left
                  · simp only [Act.put, List.setIfInBounds_toArray, List.set_cons_zero, List.set_cons_succ, i64_w, i32_w]
                    rfl
                  refine pure_ (i := 10) (N := some 69) (v := ?_) (a' := ?_) #[true, true, true, false, false, true, true, false, false, true, true, false, false, false, false, false, false] rfl rfl (any_of HT_.out (by kernel_rfl)) (fun _ _ _ h => h) (Or.inl ⟨by rfl, ?_⟩) ?_ ?_
                  rotate_left
                  · intro w'
                    go_simp
                    with_reducible rfl
                  rotate_left
                  · simp only [Act.put, List.setIfInBounds_toArray, List.set_cons_zero, List.set_cons_succ, i64_w, i32_w]
                    rfl
                  refine take_ (i := 3) (N := some 62) (v := ?_) (a' := ?_) #[true, true, true, true, false, true, true, false, false, true, true, false, false, false, false, false, false] rfl rfl (take_ofW HT_.out HW_.out (by kernel_rfl)) (fun _ _ _ h => h) (Or.inl ⟨by rfl, ?_⟩) hHeld ?_ ?_
                  rotate_left
                  · rintro w' ⟨s0, s1, s2⟩
                    go_simp
                    with_reducible rfl
                  rotate_left
                  · simp only [Act.put, List.setIfInBounds_toArray, List.set_cons_zero, List.set_cons_succ, i64_w, i32_w]
                    rfl
                  refine take_ (i := 7) (N := some 66) (v := ?_) (a' := ?_) #[true, true, true, true, false, true, true, true, false, true, true, false, false, false, false, false, false] rfl rfl (take_ofW HT_.out HW_.out (by kernel_rfl)) (fun _ _ _ h => h) (Or.inl ⟨by rfl, ?_⟩) hHeld ?_ ?_
                  rotate_left
                  · rintro w' ⟨s0, s1, s2⟩
                    go_simp
                    with_reducible rfl
                  rotate_left
                  · simp only [Act.put, List.setIfInBounds_toArray, List.set_cons_zero, List.set_cons_succ, i64_w, i32_w]
                    rfl
                  refine take_ (i := 11) (N := some 70) (v := ?_) (a' := ?_) #[true, true, true, true, false, true, true, true, false, true, true, true, false, false, false, false, false] rfl rfl (take_ofW HT_.out HW_.out (by kernel_rfl)) (fun _ _ _ h => h) (Or.inl ⟨by rfl, ?_⟩) hHeld ?_ ?_
                  rotate_left
                  · rintro w' ⟨s0, s1, s2⟩
                    go_simp
                    with_reducible rfl
                  rotate_left
                  · simp only [Act.put, List.setIfInBounds_toArray, List.set_cons_zero, List.set_cons_succ, i64_w, i32_w]
                    rfl
                  refine one_ (i := 4) (N := some 63) #[true, true, true, true, true, true, true, true, false, true, true, true, false, false, false, false, false] rfl rfl (one_of HT_.out (by kernel_rfl)) (by decide) (fun K hK => ?_)
                  refine goes_ Try.func53 (by kernel_rfl) rfl #[.pointer (some ⟨gb120, 0, none⟩), .int .i64 ((rd_T52 l0 x17_1).f0)] (by rfl) rfl rfl (by (try simp only [List.map_toArray, List.map_cons, List.map_nil]); first | done | rfl | (simp only [List.length_drop, List.length_take]; rfl)) ?_
                  with_reducible refine (impl_builder_small.calls gb120 x121000_7 x121001_7 x121002_7 ((rd_T52 l0 x17_1).f0) t138 t139 t140 t141 w _ ?side1 ?side2 A34.out).mono ?_
                  (case side1 => repeat (first | (with_reducible first | exact (Aside0.mk (IsS95.of BK120.out GE120.out)).out | apply IsS95.alloc | apply IsS95.drewN | apply IsS95.drew | apply IsS95.set_0 | apply IsS95.set_1 | apply IsS95.set_2 | refine IsS95.far ?_ NB120_122.out _) | exact (Aside0.mk (IsS95.of BK120.out GE120.out)).out))
                  (case side2 => repeat (first | (with_reducible first | exact HB.out | apply below_alloc | apply pw_below_drewN | apply below_drew1 | refine below_set ?_ (IsS95.ge (Aside0.mk (IsS95.of BK120.out GE120.out)).out) | refine below_set ?_ GE122.out) | exact HB.out))
                  rintro e w39 ⟨rfl, hi, hb, hk⟩
                  refine ⟨_, rfl, ?_⟩
                  have n0_ := Aside0.mk (Kd.R_mono (Kd.R_keep (IsS95.apart (show IsS95 w _ gb120 x121000_7 x121001_7 x121002_7 from by repeat (first | (with_reducible first | exact (Aside0.mk (IsS95.of BK120.out GE120.out)).out | apply IsS95.alloc | apply IsS95.drewN | apply IsS95.drew | apply IsS95.set_0 | apply IsS95.set_1 | apply IsS95.set_2 | refine IsS95.far ?_ NB120_122.out _) | exact (Aside0.mk (IsS95.of BK120.out GE120.out)).out)) (by (with_reducible repeat (first | apply Kd.R_alloc | apply Kd.R_drewN | apply Kd.R_drew)); exact HO_8.out) (by decide)) hk (fun _ h => h.2)) (fun _ h => h.1))
                  have n1_ := Aside0.mk (KeepBut.blk hk (g' := gb122) (o := .cells #[.int .i64 ((rd_T52 l0 x17_1).f0), .int .i64 ((rd_T52 l0 x17_1).f1), .int .i64 ((rd_T52 l0 x17_1).f2)] 52 (0, 0)) (by (with_reducible repeat (first | refine blk_drewN ?_ _ | refine blk_drew ?_ | refine blk_alloc ?_ _)); exact BK122.out) NB122_120.out (by simp))
                  have n2_ := Aside0.mk (hb)
                  have n3_ := Aside0.mk (IsS95.cells hi)
                  clear HO_8
                  clear BK122
                  clear HB
                  clear BK120
                  have HO_8 := n0_
                  have BK122 := n1_
                  have HB := n2_
                  have BK120 := n3_
                  clear n0_ n1_ n2_ n3_
                  (try clear hb)
                  (try clear hb2)
                  (try clear hk)
                  (try clear hi)
                  refine hK.out _ _ ⟨(blk_cell BK122.out 0).trans rfl, (blk_cell BK122.out 1).trans rfl, (blk_cell BK122.out 2).trans rfl⟩ (fun hHeld => ?_)
                  clear hK K
                  refine norm_ (a' := ?_) ?_ ?_
                  rotate_left
                  · show Act.put _ (some 63) _ = _
                    simp only [Act.put, List.setIfInBounds_toArray, List.set_cons_zero, List.set_cons_succ, i64_w, i32_w]
                    rfl
                  refine one_ (i := 8) (N := some 67) #[true, true, true, true, true, true, true, true, true, true, true, true, false, false, false, false, false] rfl rfl (one_of HT_.out (by kernel_rfl)) (by decide) (fun K hK => ?_)
                  refine goes_ Try.func53 (by kernel_rfl) rfl #[.pointer (some ⟨gb120, 0, none⟩), .int .i64 ((rd_T52 l0 x17_1).f1)] (by rfl) rfl rfl (by (try simp only [List.map_toArray, List.map_cons, List.map_nil]); first | done | rfl | (simp only [List.length_drop, List.length_take]; rfl)) ?_
                  with_reducible refine (impl_builder_small.calls gb120 t139 t140 t141 ((rd_T52 l0 x17_1).f1) t142 t143 t144 t145 w _ ?side1 ?side2 A35.out).mono ?_
                  (case side1 => repeat (first | (with_reducible first | exact (Aside0.mk (IsS95.of BK120.out GE120.out)).out | apply IsS95.alloc | apply IsS95.drewN | apply IsS95.drew | apply IsS95.set_0 | apply IsS95.set_1 | apply IsS95.set_2 | refine IsS95.far ?_ NB120_122.out _) | exact (Aside0.mk (IsS95.of BK120.out GE120.out)).out))
                  (case side2 => repeat (first | (with_reducible first | exact HB.out | apply below_alloc | apply pw_below_drewN | apply below_drew1 | refine below_set ?_ (IsS95.ge (Aside0.mk (IsS95.of BK120.out GE120.out)).out) | refine below_set ?_ GE122.out) | exact HB.out))
                  rintro e w40 ⟨rfl, hi, hb, hk⟩
                  refine ⟨_, rfl, ?_⟩
                  have n0_ := Aside0.mk (Kd.R_mono (Kd.R_keep (IsS95.apart (show IsS95 w _ gb120 t139 t140 t141 from by repeat (first | (with_reducible first | exact (Aside0.mk (IsS95.of BK120.out GE120.out)).out | apply IsS95.alloc | apply IsS95.drewN | apply IsS95.drew | apply IsS95.set_0 | apply IsS95.set_1 | apply IsS95.set_2 | refine IsS95.far ?_ NB120_122.out _) | exact (Aside0.mk (IsS95.of BK120.out GE120.out)).out)) (by (with_reducible repeat (first | apply Kd.R_alloc | apply Kd.R_drewN | apply Kd.R_drew)); exact HO_8.out) (by decide)) hk (fun _ h => h.2)) (fun _ h => h.1))
                  have n1_ := Aside0.mk (KeepBut.blk hk (g' := gb122) (o := .cells #[.int .i64 ((rd_T52 l0 x17_1).f0), .int .i64 ((rd_T52 l0 x17_1).f1), .int .i64 ((rd_T52 l0 x17_1).f2)] 52 (0, 0)) (by (with_reducible repeat (first | refine blk_drewN ?_ _ | refine blk_drew ?_ | refine blk_alloc ?_ _)); exact BK122.out) NB122_120.out (by simp))
                  have n2_ := Aside0.mk (hb)
                  have n3_ := Aside0.mk (IsS95.cells hi)
                  clear HO_8
                  clear BK122
                  clear HB
                  clear BK120
                  have HO_8 := n0_
                  have BK122 := n1_
                  have HB := n2_
                  have BK120 := n3_
                  clear n0_ n1_ n2_ n3_
                  (try clear hb)
                  (try clear hb2)
                  (try clear hk)
                  (try clear hi)
                  refine hK.out _ _ ⟨(blk_cell BK122.out 0).trans rfl, (blk_cell BK122.out 1).trans rfl, (blk_cell BK122.out 2).trans rfl⟩ (fun hHeld => ?_)
                  clear hK K
                  refine norm_ (a' := ?_) ?_ ?_
                  rotate_left
                  · show Act.put _ (some 67) _ = _
                    simp only [Act.put, List.setIfInBounds_toArray, List.set_cons_zero, List.set_cons_succ, i64_w, i32_w]
                    rfl
                  refine one_ (i := 12) (N := some 71) #[true, true, true, true, true, true, true, true, true, true, true, true, true, false, false, false, false] rfl rfl (one_of HT_.out (by kernel_rfl)) (by decide) (fun K hK => ?_)
                  refine goes_ Try.func54 (by kernel_rfl) rfl #[.pointer (some ⟨gb120, 0, none⟩), .int .i64 ((rd_T52 l0 x17_1).f2)] (by rfl) rfl rfl (by (try simp only [List.map_toArray, List.map_cons, List.map_nil]); first | done | rfl | (simp only [List.length_drop, List.length_take]; rfl)) ?_
                  with_reducible refine (impl_builder_signed.calls gb120 t143 t144 t145 ((rd_T52 l0 x17_1).f2) t146 t147 t148 t149 w _ ?side1 ?side2 A36.out).mono ?_
                  (case side1 => repeat (first | (with_reducible first | exact (Aside0.mk (IsS95.of BK120.out GE120.out)).out | apply IsS95.alloc | apply IsS95.drewN | apply IsS95.drew | apply IsS95.set_0 | apply IsS95.set_1 | apply IsS95.set_2 | refine IsS95.far ?_ NB120_122.out _) | exact (Aside0.mk (IsS95.of BK120.out GE120.out)).out))
                  (case side2 => repeat (first | (with_reducible first | exact HB.out | apply below_alloc | apply pw_below_drewN | apply below_drew1 | refine below_set ?_ (IsS95.ge (Aside0.mk (IsS95.of BK120.out GE120.out)).out) | refine below_set ?_ GE122.out) | exact HB.out))
                  rintro e w41 ⟨rfl, hi, hb, hk⟩
                  refine ⟨_, rfl, ?_⟩
                  have n0_ := Aside0.mk (Kd.R_mono (Kd.R_keep (IsS95.apart (show IsS95 w _ gb120 t143 t144 t145 from by repeat (first | (with_reducible first | exact (Aside0.mk (IsS95.of BK120.out GE120.out)).out | apply IsS95.alloc | apply IsS95.drewN | apply IsS95.drew | apply IsS95.set_0 | apply IsS95.set_1 | apply IsS95.set_2 | refine IsS95.far ?_ NB120_122.out _) | exact (Aside0.mk (IsS95.of BK120.out GE120.out)).out)) (by (with_reducible repeat (first | apply Kd.R_alloc | apply Kd.R_drewN | apply Kd.R_drew)); exact HO_8.out) (by decide)) hk (fun _ h => h.2)) (fun _ h => h.1))
                  have n1_ := Aside0.mk (KeepBut.blk hk (g' := gb122) (o := .cells #[.int .i64 ((rd_T52 l0 x17_1).f0), .int .i64 ((rd_T52 l0 x17_1).f1), .int .i64 ((rd_T52 l0 x17_1).f2)] 52 (0, 0)) (by (with_reducible repeat (first | refine blk_drewN ?_ _ | refine blk_drew ?_ | refine blk_alloc ?_ _)); exact BK122.out) NB122_120.out (by simp))
                  have n2_ := Aside0.mk (hb)
                  have n3_ := Aside0.mk (IsS95.cells hi)
                  clear HO_8
                  clear BK122
                  clear HB
                  clear BK120
                  have HO_8 := n0_
                  have BK122 := n1_
                  have HB := n2_
                  have BK120 := n3_
                  clear n0_ n1_ n2_ n3_
                  (try clear hb)
                  (try clear hb2)
                  (try clear hk)
                  (try clear hi)
                  refine hK.out _ _ ⟨(blk_cell BK122.out 0).trans rfl, (blk_cell BK122.out 1).trans rfl, (blk_cell BK122.out 2).trans rfl⟩ (fun hHeld => ?_)
                  clear hK K
                  refine norm_ (a' := ?_) ?_ ?_
                  rotate_left
                  · show Act.put _ (some 71) _ = _
                    simp only [Act.put, List.setIfInBounds_toArray, List.set_cons_zero, List.set_cons_succ, i64_w, i32_w]
                    rfl
                  refine pure_ (i := 13) (N := some 72) (v := ?_) (a' := ?_) #[true, true, true, true, true, true, true, true, true, true, true, true, true, true, false, false, false] rfl rfl (any_of HT_.out (by kernel_rfl)) (fun _ _ _ h => h) (Or.inl ⟨by rfl, ?_⟩) ?_ ?_
                  rotate_left
                  · intro w'
                    go_simp
                    with_reducible rfl
                  rotate_left
                  · simp only [Act.put, List.setIfInBounds_toArray, List.set_cons_zero, List.set_cons_succ, i64_w, i32_w]
                    rfl
                  refine one_ (i := 14) (N := some 73) #[true, true, true, true, true, true, true, true, true, true, true, true, true, true, true, false, false] rfl rfl (one_of HT_.out (by kernel_rfl)) (by decide) (fun K hK => ?_)
                  refine value_ (w1 := ?_) (v := ?_) (by rfl) rfl ?_ ?_
                  rotate_left 2
                  · go_simp
                    constructor
                    · rfl
                    · rfl
                  refine hK.out _ _ ⟨(blk_cell (blk_alloc BK122.out _) 0).trans rfl, (blk_cell (blk_alloc BK122.out _) 1).trans rfl, (blk_cell (blk_alloc BK122.out _) 2).trans rfl⟩ (fun hHeld => ?_)
                  clear hK K
                  refine norm_ (a' := ?_) ?_ ?_
                  rotate_left
                  · show Act.put _ (some 73) _ = _
                    simp only [Act.put, List.setIfInBounds_toArray, List.set_cons_zero, List.set_cons_succ, i64_w, i32_w]
                    rfl
                  refine one_ (i := 15) (N := some 74) #[true, true, true, true, true, true, true, true, true, true, true, true, true, true, true, true, false] rfl rfl (one_of HT_.out (by kernel_rfl)) (by decide) (fun K hK => ?_)
                  refine Kd.R_append_step k102 (w0 := w) w.heap.size (by rfl) (.tmp 59) (.tmp 73) 97 102 (.agg #[(.int .u16 0), (.int .u16 0), (.int .i16 0)]) 6 rfl Try.underlying97 info102 rfl (by decide) (by omega) u8 x8_1 (⟨t138, t142, t146⟩ : S102) [.int .u16 t138, .int .u16 t142, .int .i16 t146] (fun _ => True) (fun _ => False) rfl rfl ?aP (fun _ hk => hk.elim) ?aF ?aO ?aB ?aS ?aL ?_
                  (case aP => exact k102_mkM _ _ _ (⟨t138, t142, t146⟩ : S102))
                  (case aB => exact (by repeat (first | (with_reducible first | exact HB.out | apply below_alloc | apply pw_below_drewN | apply below_drew1 | refine below_set ?_ GE120.out | refine below_set ?_ GE122.out) | exact HB.out)))
                  (case aF => exact (fun _ _ => trivial))
                  (case aO => exact (by (with_reducible repeat (first | apply Kd.R_alloc | apply Kd.R_drewN | apply Kd.R_drew)); exact HO_8.out))
                  (case aS => exact (below_size (by repeat (first | (with_reducible first | exact HB.out | apply below_alloc | apply pw_below_drewN | apply below_drew1 | refine below_set ?_ GE120.out | refine below_set ?_ GE122.out) | exact HB.out))))
                  (case aL => have := LMc37.out; omega)
                  intro v151 w42 ho hb hg hat
                  rw [← Ny150.out] at ho
                  have n0_ := Aside0.mk (blk_grown (g := gb120) (o := .cells #[.int .i64 t147, .int .i64 t148, .bool t149] 95 (0, 0)) (by (with_reducible repeat (first | refine blk_drewN ?_ _ | refine blk_drew ?_ | refine blk_alloc ?_ _)); exact BK120.out) hg (Kd.R_ne HO_8.out BK120.out (by decide)))
                  have n1_ := Aside0.mk (blk_grown (g := gb122) (o := .cells #[.int .i64 ((rd_T52 l0 x17_1).f0), .int .i64 ((rd_T52 l0 x17_1).f1), .int .i64 ((rd_T52 l0 x17_1).f2)] 52 (0, 0)) (by (with_reducible repeat (first | refine blk_drewN ?_ _ | refine blk_drew ?_ | refine blk_alloc ?_ _)); exact BK122.out) hg (Kd.R_ne HO_8.out BK122.out (by decide)))
                  have n2_ := Aside0.mk (hb)
                  have n3_ := Aside0.mk (ho)
                  clear BK120
                  clear BK122
                  clear HB
                  clear HO_8
                  have BK120 := n0_
                  have BK122 := n1_
                  have HB := n2_
                  have HO152 := n3_
                  clear n0_ n1_ n2_ n3_
                  clear ho hb hg hat
                  refine hK.out _ _ ⟨(blk_cell BK122.out 0).trans rfl, (blk_cell BK122.out 1).trans rfl, (blk_cell BK122.out 2).trans rfl⟩ (fun hHeld => ?_)
                  clear hK K
                  refine norm_ (a' := ?_) ?_ ?_
                  rotate_left
                  · show Act.put _ (some 74) _ = _
                    simp only [Act.put, List.setIfInBounds_toArray, List.set_cons_zero, List.set_cons_succ, i64_w, i32_w]
                    rfl
                  refine pure_ (i := 16) (N := some 8) (v := ?_) (a' := ?_) #[true, true, true, true, true, true, true, true, true, true, true, true, true, true, true, true, true] rfl rfl (any_of HT_.out (by kernel_rfl)) (fun _ _ _ h => h) (Or.inl ⟨by rfl, ?_⟩) ?_ ?_
                  rotate_left
                  · intro w'
                    go_simp
                    with_reducible rfl
                  rotate_left
                  · simp only [Act.put, List.setIfInBounds_toArray, List.set_cons_zero, List.set_cons_succ, i64_w, i32_w]
                    rfl
                  refine done_ (done_of HT_.out (by kernel_rfl)) ?_
                  try go_wp2
                  go_roundg kj7
                  case measure => have := HK1.out; have := HJ7.out; omega
                  case rel => exact ⟨(y150), (wrap64 (x17_1 + 1)), (t147), (t148), (t149), (by first | rfl | (simp; done) | (simp [*]; done)), H', ⟨by have := HK1.out; have := HJ7.out; omega⟩, ⟨by (with_reducible repeat (first | apply Kd.R_alloc | apply Kd.R_drewN | apply Kd.R_drew)); exact HO152.out⟩, ⟨by (with_reducible repeat (first | refine blk_drewN ?_ _ | refine blk_drew ?_ | refine blk_alloc ?_ _)); exact BK120.out⟩, ⟨by repeat (first | (with_reducible first | exact HB.out | apply below_alloc | apply pw_below_drewN | apply below_drew1 | refine below_set ?_ GE120.out | refine below_set ?_ GE122.out) | exact HB.out)⟩⟩
                · rw [if_neg c37] at H
                  exact absurd H (by simp)
          · rw [if_neg c7] at H
            exact absurd H (by simp)
        · rw [if_neg c6] at H
          exact absurd H (by simp)
      · rw [if_neg c5] at H
        have c5b0 : decide (x17_1 < (l0.length : Int)) = false := decide_eq_false c5
        clear c5
        replace H := Option.bind_eq_some_iff.mp H
        obtain ⟨⟨t153, t154, t155, t156⟩, A430, H⟩ := H
        replace H : ((impl_builder_small.f t154 t155 t156 a2).bind fun bt157 => (if bt157.2.2.2 = true then (some 0) else ((font_Kern0_KernPair.f k1 x8_1 ((t153) % 4294967296) ((bt157.1) % 4294967296)).bind fun t161 => (some (wrap64 (t161)))))) = some r := H
        have A43 := Aside0.mk A430
        clear A430
        replace H := Option.bind_eq_some_iff.mp H
        obtain ⟨⟨t157, t158, t159, t160⟩, A440, H⟩ := H
        replace H : (if t160 = true then (some 0) else ((font_Kern0_KernPair.f k1 x8_1 ((t153) % 4294967296) ((t157) % 4294967296)).bind fun t161 => (some (wrap64 (t161))))) = some r := H
        have A44 := Aside0.mk A440
        clear A440
        by_cases c45 : t160 = true
        · subst c45
          have H1 : (some 0) = some r := by rw [if_pos rfl] at H; exact H
          clear H
          have H := H1
          clear H1
          obtain rfl := Option.some.inj H
          go_wp2_with (first | ((with_reducible refine gate_callee (f := 53) rfl ?_); refine goesL_ (some 78) rfl rfl Try.func53 (by kernel_rfl) rfl #[.pointer (some ⟨gb120, 0, none⟩), .int .i64 a1] rfl (by (try simp only [List.map_toArray, List.map_cons, List.map_nil]); first | done | rfl | (simp only [List.length_drop, List.length_take]; rfl)) ?_; (with_reducible refine (impl_builder_small.calls gb120 x121000_1 x121001_1 x121002_1 a1 t153 t154 t155 t156 w _ ?side1 ?side2 A43.out).mono ?_); (case side1 => repeat (first | (with_reducible first | exact (Aside0.mk (IsS95.of BK120.out GE120.out)).out | apply IsS95.alloc | apply IsS95.drewN | apply IsS95.drew | apply IsS95.set_0 | apply IsS95.set_1 | apply IsS95.set_2) | exact (Aside0.mk (IsS95.of BK120.out GE120.out)).out)); (case side2 => repeat (first | (with_reducible first | exact HB.out | apply below_alloc | apply pw_below_drewN | apply below_drew1 | refine below_set ?_ (IsS95.ge (Aside0.mk (IsS95.of BK120.out GE120.out)).out)) | exact HB.out)); rintro e w46 ⟨rfl, hi, hb, hk⟩; refine ⟨_, rfl, ?_⟩; have n0_ := Aside0.mk (Kd.R_mono (Kd.R_keep (IsS95.apart (show IsS95 w _ gb120 x121000_1 x121001_1 x121002_1 from by repeat (first | (with_reducible first | exact (Aside0.mk (IsS95.of BK120.out GE120.out)).out | apply IsS95.alloc | apply IsS95.drewN | apply IsS95.drew | apply IsS95.set_0 | apply IsS95.set_1 | apply IsS95.set_2) | exact (Aside0.mk (IsS95.of BK120.out GE120.out)).out)) (by (with_reducible repeat (first | apply Kd.R_alloc | apply Kd.R_drewN | apply Kd.R_drew)); exact HO_8.out) (by decide)) hk (fun _ h => h.2)) (fun _ h => h.1)); have n1_ := Aside0.mk (hb); have n2_ := Aside0.mk (IsS95.cells hi); clear HO_8; clear HB; clear BK120; have HO_8 := n0_; have HB := n1_; have BK120 := n2_; clear n0_ n1_ n2_; (try clear hb); (try clear hb2); (try clear hk); (try clear hi)) | ((with_reducible refine gate_callee (f := 53) rfl ?_); refine goesL_ (some 81) rfl rfl Try.func53 (by kernel_rfl) rfl #[.pointer (some ⟨gb120, 0, none⟩), .int .i64 a2] rfl (by (try simp only [List.map_toArray, List.map_cons, List.map_nil]); first | done | rfl | (simp only [List.length_drop, List.length_take]; rfl)) ?_; (with_reducible refine (impl_builder_small.calls gb120 t154 t155 t156 a2 t157 t158 t159 true w _ ?side1 ?side2 A44.out).mono ?_); (case side1 => repeat (first | (with_reducible first | exact (Aside0.mk (IsS95.of BK120.out GE120.out)).out | apply IsS95.alloc | apply IsS95.drewN | apply IsS95.drew | apply IsS95.set_0 | apply IsS95.set_1 | apply IsS95.set_2) | exact (Aside0.mk (IsS95.of BK120.out GE120.out)).out)); (case side2 => repeat (first | (with_reducible first | exact HB.out | apply below_alloc | apply pw_below_drewN | apply below_drew1 | refine below_set ?_ (IsS95.ge (Aside0.mk (IsS95.of BK120.out GE120.out)).out)) | exact HB.out)); rintro e w47 ⟨rfl, hi, hb, hk⟩; refine ⟨_, rfl, ?_⟩; have n0_ := Aside0.mk (Kd.R_mono (Kd.R_keep (IsS95.apart (show IsS95 w _ gb120 t154 t155 t156 from by repeat (first | (with_reducible first | exact (Aside0.mk (IsS95.of BK120.out GE120.out)).out | apply IsS95.alloc | apply IsS95.drewN | apply IsS95.drew | apply IsS95.set_0 | apply IsS95.set_1 | apply IsS95.set_2) | exact (Aside0.mk (IsS95.of BK120.out GE120.out)).out)) (by (with_reducible repeat (first | apply Kd.R_alloc | apply Kd.R_drewN | apply Kd.R_drew)); exact HO_8.out) (by decide)) hk (fun _ h => h.2)) (fun _ h => h.1)); have n1_ := Aside0.mk (hb); have n2_ := Aside0.mk (IsS95.cells hi); clear HO_8; clear HB; clear BK120; have HO_8 := n0_; have HB := n1_; have BK120 := n2_; clear n0_ n1_ n2_; (try clear hb); (try clear hb2); (try clear hk); (try clear hi); have hcz48_0 : w47.cell? ⟨gb120, 0, none⟩ = some (.int .i64 t158) := (blk_cell BK120.out 0).trans rfl; have hcz48_1 : w47.cell? ⟨gb120, 1, none⟩ = some (.int .i64 t159) := (blk_cell BK120.out 1).trans rfl; have hcz48_2 : w47.cell? ⟨gb120, 2, none⟩ = some (.bool true) := (blk_cell BK120.out 2).trans rfl; have hfz48_0 := blk_frozen BK120.out 0; have hfz48_1 := blk_frozen BK120.out 1; have hfz48_2 := blk_frozen BK120.out 2))
          go_ret
          exact ⟨by first | rfl | (simp [errW_none, errW_some] <;> rfl) | (simp [*, errW_none, errW_some] <;> rfl), by repeat (first | (with_reducible first | exact HB.out | apply below_alloc | apply pw_below_drewN | apply below_drew1 | refine below_set ?_ GE120.out) | exact HB.out)⟩
        · replace c45 := Bool.eq_false_iff.mpr c45
          subst c45
          have H1 : ((font_Kern0_KernPair.f k1 x8_1 ((t153) % 4294967296) ((t157) % 4294967296)).bind fun t161 => (some (wrap64 (t161)))) = some r := by rw [if_neg (show ¬ (false = true) by decide)] at H; exact H
          clear H
          have H := H1
          clear H1
          replace H := Option.bind_eq_some_iff.mp H
          obtain ⟨t161, A490, H⟩ := H
          replace H : (some (wrap64 (t161))) = some r := H
          have A49 := Aside0.mk A490
          clear A490
          obtain rfl := Option.some.inj H
          go_wp2_with (first | ((with_reducible refine gate_callee (f := 53) rfl ?_); refine goesL_ (some 78) rfl rfl Try.func53 (by kernel_rfl) rfl #[.pointer (some ⟨gb120, 0, none⟩), .int .i64 a1] rfl (by (try simp only [List.map_toArray, List.map_cons, List.map_nil]); first | done | rfl | (simp only [List.length_drop, List.length_take]; rfl)) ?_; (with_reducible refine (impl_builder_small.calls gb120 x121000_1 x121001_1 x121002_1 a1 t153 t154 t155 t156 w _ ?side1 ?side2 A43.out).mono ?_); (case side1 => repeat (first | (with_reducible first | exact (Aside0.mk (IsS95.of BK120.out GE120.out)).out | apply IsS95.alloc | apply IsS95.drewN | apply IsS95.drew | apply IsS95.set_0 | apply IsS95.set_1 | apply IsS95.set_2) | exact (Aside0.mk (IsS95.of BK120.out GE120.out)).out)); (case side2 => repeat (first | (with_reducible first | exact HB.out | apply below_alloc | apply pw_below_drewN | apply below_drew1 | refine below_set ?_ (IsS95.ge (Aside0.mk (IsS95.of BK120.out GE120.out)).out)) | exact HB.out)); rintro e w50 ⟨rfl, hi, hb, hk⟩; refine ⟨_, rfl, ?_⟩; have n0_ := Aside0.mk (Kd.R_mono (Kd.R_keep (IsS95.apart (show IsS95 w _ gb120 x121000_1 x121001_1 x121002_1 from by repeat (first | (with_reducible first | exact (Aside0.mk (IsS95.of BK120.out GE120.out)).out | apply IsS95.alloc | apply IsS95.drewN | apply IsS95.drew | apply IsS95.set_0 | apply IsS95.set_1 | apply IsS95.set_2) | exact (Aside0.mk (IsS95.of BK120.out GE120.out)).out)) (by (with_reducible repeat (first | apply Kd.R_alloc | apply Kd.R_drewN | apply Kd.R_drew)); exact HO_8.out) (by decide)) hk (fun _ h => h.2)) (fun _ h => h.1)); have n1_ := Aside0.mk (hb); have n2_ := Aside0.mk (IsS95.cells hi); clear HO_8; clear HB; clear BK120; have HO_8 := n0_; have HB := n1_; have BK120 := n2_; clear n0_ n1_ n2_; (try clear hb); (try clear hb2); (try clear hk); (try clear hi)) | ((with_reducible refine gate_callee (f := 53) rfl ?_); refine goesL_ (some 81) rfl rfl Try.func53 (by kernel_rfl) rfl #[.pointer (some ⟨gb120, 0, none⟩), .int .i64 a2] rfl (by (try simp only [List.map_toArray, List.map_cons, List.map_nil]); first | done | rfl | (simp only [List.length_drop, List.length_take]; rfl)) ?_; (with_reducible refine (impl_builder_small.calls gb120 t154 t155 t156 a2 t157 t158 t159 false w _ ?side1 ?side2 A44.out).mono ?_); (case side1 => repeat (first | (with_reducible first | exact (Aside0.mk (IsS95.of BK120.out GE120.out)).out | apply IsS95.alloc | apply IsS95.drewN | apply IsS95.drew | apply IsS95.set_0 | apply IsS95.set_1 | apply IsS95.set_2) | exact (Aside0.mk (IsS95.of BK120.out GE120.out)).out)); (case side2 => repeat (first | (with_reducible first | exact HB.out | apply below_alloc | apply pw_below_drewN | apply below_drew1 | refine below_set ?_ (IsS95.ge (Aside0.mk (IsS95.of BK120.out GE120.out)).out)) | exact HB.out)); rintro e w51 ⟨rfl, hi, hb, hk⟩; refine ⟨_, rfl, ?_⟩; have n0_ := Aside0.mk (Kd.R_mono (Kd.R_keep (IsS95.apart (show IsS95 w _ gb120 t154 t155 t156 from by repeat (first | (with_reducible first | exact (Aside0.mk (IsS95.of BK120.out GE120.out)).out | apply IsS95.alloc | apply IsS95.drewN | apply IsS95.drew | apply IsS95.set_0 | apply IsS95.set_1 | apply IsS95.set_2) | exact (Aside0.mk (IsS95.of BK120.out GE120.out)).out)) (by (with_reducible repeat (first | apply Kd.R_alloc | apply Kd.R_drewN | apply Kd.R_drew)); exact HO_8.out) (by decide)) hk (fun _ h => h.2)) (fun _ h => h.1)); have n1_ := Aside0.mk (hb); have n2_ := Aside0.mk (IsS95.cells hi); clear HO_8; clear HB; clear BK120; have HO_8 := n0_; have HB := n1_; have BK120 := n2_; clear n0_ n1_ n2_; (try clear hb); (try clear hb2); (try clear hk); (try clear hi); have hcz52_0 : w51.cell? ⟨gb120, 0, none⟩ = some (.int .i64 t158) := (blk_cell BK120.out 0).trans rfl; have hcz52_1 : w51.cell? ⟨gb120, 1, none⟩ = some (.int .i64 t159) := (blk_cell BK120.out 1).trans rfl; have hcz52_2 : w51.cell? ⟨gb120, 2, none⟩ = some (.bool false) := (blk_cell BK120.out 2).trans rfl; have hfz52_0 := blk_frozen BK120.out 0; have hfz52_1 := blk_frozen BK120.out 1; have hfz52_2 := blk_frozen BK120.out 2; obtain ⟨Ao53, co53, eo53⟩ := Kd.R_slice HO_8.out; subst eo53) | ((with_reducible refine gate_callee (f := 55) rfl ?_); refine goesL_ (some 91) rfl rfl Try.func55 (by kernel_rfl) rfl #[.slice Ao53 x8_1.length co53, .int .u32 ((t153) % 4294967296), .int .u32 ((t157) % 4294967296)] rfl (by (try simp only [List.map_toArray, List.map_cons, List.map_nil]); first | done | rfl | (simp only [List.length_drop, List.length_take]; rfl)) ?_; (with_reducible refine (font_Kern0_KernPair.calls k1 _ _ x8_1 ((t153) % 4294967296) ((t157) % 4294967296) t161 _ ?side1 ?side2 A49.out).mono ?_); (case side1 => repeat (first | exact (Kd.R_reads' HO_8.out).2.2 | (with_reducible refine Kd.C_alloc ?_ _) | (with_reducible refine Kd.C_drewN ?_ _) | (with_reducible refine Kd.C_drew ?_))); (case side2 => exact (Kd.R_reads' HO_8.out).2.1); rintro e w54 ⟨rfl, hb⟩; refine ⟨_, rfl, ?_⟩; have n0_ := Aside0.mk (Kd.R_below (by (with_reducible repeat (first | apply Kd.R_alloc | apply Kd.R_drewN | apply Kd.R_drew)); exact HO_8.out) hb); have n1_ := Aside0.mk (blk_below (g := gb120) (o := .cells #[.int .i64 t158, .int .i64 t159, .bool false] 95 (0, 0)) (by (with_reducible repeat (first | refine blk_drewN ?_ _ | refine blk_drew ?_ | refine blk_alloc ?_ _)); exact BK120.out) hb); have n2_ := Aside0.mk (below_step (by repeat (first | (with_reducible first | exact HB.out | apply below_alloc | apply pw_below_drewN | apply below_drew1 | refine below_set ?_ GE120.out) | exact HB.out)) hb); clear HO_8; clear BK120; clear HB; have HO_8 := n0_; have BK120 := n1_; have HB := n2_; clear n0_ n1_ n2_; (try clear hb); (try clear hb2); (try clear hk); (try clear hi)))
          go_ret
          exact ⟨by first | rfl | (simp [errW_none, errW_some] <;> rfl) | (simp [*, errW_none, errW_some] <;> rfl), by repeat (first | (with_reducible first | exact HB.out | apply below_alloc | apply pw_below_drewN | apply below_drew1 | refine below_set ?_ GE120.out) | exact HB.out)⟩

end Go.Proofs.Ytkfphiccfnfkdaa.PFnKerned
