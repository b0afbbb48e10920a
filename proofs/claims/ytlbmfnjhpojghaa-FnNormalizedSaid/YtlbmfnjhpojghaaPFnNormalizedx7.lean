-- Written by a program of this session (xprint) out of the translation; Lean checks it.
import Derived.Test.YtlbmfnjhpojghaaPFnNormalizedx0
import Derived.Test.YtlbmfnjhpojghaaPFnNormalizedx6
namespace Go.Proofs.Ytlbmfnjhpojghaa.PFnNormalized
open Go.RowKit Go.Proofs.YtlbmfnjhpojghaaW.PrintWords Go.Proofs.YtlbmfnjhpojghaaW.PrintLast Go.Proofs.YtlbmfnjhpojghaaW.PrintMore
attribute [local go_sem] max2_int min2_int max_two min_two max_three min_three max_four min_four   -- for this text's walks alone
set_option linter.unusedVariables false
set_option linter.unusedSimpArgs false

attribute [local go_sem] f_add f_sub f_mul f_quo f_conv f_same f_int f_max f_min f_neg f_store
/-! ### font_fvar_normalizeCoordinates: function 88 -/
mutual
def font_fvar_normalizeCoordinates.l0 : Nat → List Nat → List Int → List (S170) → Int → Int → Option (List Int)
 | 0, _, _, _, _, _ => none
 | k + 1, x1, x5, x12, x13, x14 => if x14 < x13 then (if 0 ≤ x14 then (if x14 < (x12.length : Int) then (if x14 < (x1.length : Int) then (if (FloatKind.f32.format.order (rdOf (0 : Nat) x1 x14) ((rd_T170 x12 x14).f3) == some .gt) = true then (font_fvar_normalizeCoordinates.j1 k x1 x5 x14 ((rd_T170 x12 x14).f3) x12 x13 x14 ((rd_T170 x12 x14).f0) ((rd_T170 x12 x14).f1) ((rd_T170 x12 x14).f2) ((rd_T170 x12 x14).f3) ((rd_T170 x12 x14).f4) ((rd_T170 x12 x14).f5)) else (if (FloatKind.f32.format.order (rdOf (0 : Nat) x1 x14) ((rd_T170 x12 x14).f1) == some .lt) = true then (font_fvar_normalizeCoordinates.j1 k x1 x5 x14 ((rd_T170 x12 x14).f1) x12 x13 x14 ((rd_T170 x12 x14).f0) ((rd_T170 x12 x14).f1) ((rd_T170 x12 x14).f2) ((rd_T170 x12 x14).f3) ((rd_T170 x12 x14).f4) ((rd_T170 x12 x14).f5)) else (font_fvar_normalizeCoordinates.j1 k x1 x5 x14 (rdOf (0 : Nat) x1 x14) x12 x13 x14 ((rd_T170 x12 x14).f0) ((rd_T170 x12 x14).f1) ((rd_T170 x12 x14).f2) ((rd_T170 x12 x14).f3) ((rd_T170 x12 x14).f4) ((rd_T170 x12 x14).f5)))) else (none)) else (none)) else (none)) else (some x5)
def font_fvar_normalizeCoordinates.j1 : Nat → List Nat → List Int → Int → Nat → List (S170) → Int → Int → Int → Nat → Nat → Nat → Int → Int → Option (List Int)
 | 0, _, _, _, _, _, _, _, _, _, _, _, _, _ => none
 | k + 1, x1, x5, x6, x8, x12, x13, x14, x187000, x187001, x187002, x187003, x187004, x187005 => if (FloatKind.f32.format.order x8 x187002 == some .lt) = true then (if fok .sub .f32 x8 x187002 = true then (if fok .sub .f32 x187001 x187002 = true then (if fok .quo .f32 (Go.Op.negFloat .f32 (fv .sub .f32 x8 x187002)) (fv .sub .f32 x187001 x187002) = true then (if fok .mul .f32 (fv .quo .f32 (Go.Op.negFloat .f32 (fv .sub .f32 x8 x187002)) (fv .sub .f32 x187001 x187002)) 1182793728 = true then (if fcok .f32 (fv .mul .f32 (fv .quo .f32 (Go.Op.negFloat .f32 (fv .sub .f32 x8 x187002)) (fv .sub .f32 x187001 x187002)) 1182793728) .f64 = true then ((math_Round.f (fc .f32 (fv .mul .f32 (fv .quo .f32 (Go.Op.negFloat .f32 (fv .sub .f32 x8 x187002)) (fv .sub .f32 x187001 x187002)) 1182793728) .f64)).bind fun t188 => (if fiok .f64 t188 .i16 = true then (if 0 ≤ x6 then (if x6 < (x5.length : Int) then (font_fvar_normalizeCoordinates.l0 k x1 (x5.set (x6 : Int).toNat (fi .f64 t188 .i16)) x12 x13 (wrap64 (x14 + 1))) else (none)) else (none)) else (none))) else (none)) else (none)) else (none)) else (none)) else (none)) else (if (FloatKind.f32.format.order x8 x187002 == some .gt) = true then (if fok .sub .f32 x8 x187002 = true then (if fok .sub .f32 x187003 x187002 = true then (if fok .quo .f32 (fv .sub .f32 x8 x187002) (fv .sub .f32 x187003 x187002) = true then (if fok .mul .f32 (fv .quo .f32 (fv .sub .f32 x8 x187002) (fv .sub .f32 x187003 x187002)) 1182793728 = true then (if fcok .f32 (fv .mul .f32 (fv .quo .f32 (fv .sub .f32 x8 x187002) (fv .sub .f32 x187003 x187002)) 1182793728) .f64 = true then ((math_Round.f (fc .f32 (fv .mul .f32 (fv .quo .f32 (fv .sub .f32 x8 x187002) (fv .sub .f32 x187003 x187002)) 1182793728) .f64)).bind fun t190 => (if fiok .f64 t190 .i16 = true then (if 0 ≤ x6 then (if x6 < (x5.length : Int) then (font_fvar_normalizeCoordinates.l0 k x1 (x5.set (x6 : Int).toNat (fi .f64 t190 .i16)) x12 x13 (wrap64 (x14 + 1))) else (none)) else (none)) else (none))) else (none)) else (none)) else (none)) else (none)) else (none)) else (if fok .mul .f32 0 1182793728 = true then (if fcok .f32 (fv .mul .f32 0 1182793728) .f64 = true then ((math_Round.f (fc .f32 (fv .mul .f32 0 1182793728) .f64)).bind fun t192 => (if fiok .f64 t192 .i16 = true then (if 0 ≤ x6 then (if x6 < (x5.length : Int) then (font_fvar_normalizeCoordinates.l0 k x1 (x5.set (x6 : Int).toNat (fi .f64 t192 .i16)) x12 x13 (wrap64 (x14 + 1))) else (none)) else (none)) else (none))) else (none)) else (none)))
end
def font_fvar_normalizeCoordinates.f (k : Nat) (l0 : List (S170)) (l1 : List Nat) : Option (List Int) := if 0 ≤ (l1.length : Int) then (if ((l1.length : Int) : Int).toNat ≤ 140737488355328 then (font_fvar_normalizeCoordinates.l0 k l1 (List.replicate ((l1.length : Int) : Int).toNat 0) l0 (l0.length : Int) 0) else (none)) else (none)
theorem font_fvar_normalizeCoordinates.mono_l : ∀ k, (∀ y0 y1 y2 y3 y4, LeO (font_fvar_normalizeCoordinates.l0 k y0 y1 y2 y3 y4) (font_fvar_normalizeCoordinates.l0 (k + 1) y0 y1 y2 y3 y4)) ∧ (∀ y0 y1 y2 y3 y4 y5 y6 y7 y8 y9 y10 y11 y12, LeO (font_fvar_normalizeCoordinates.j1 k y0 y1 y2 y3 y4 y5 y6 y7 y8 y9 y10 y11 y12) (font_fvar_normalizeCoordinates.j1 (k + 1) y0 y1 y2 y3 y4 y5 y6 y7 y8 y9 y10 y11 y12))
 | 0 => ⟨fun _ _ _ _ _ r h => by simp [font_fvar_normalizeCoordinates.l0] at h, fun _ _ _ _ _ _ _ _ _ _ _ _ _ r h => by simp [font_fvar_normalizeCoordinates.j1] at h⟩
 | k + 1 => by
  obtain ⟨ih0, ih1⟩ := font_fvar_normalizeCoordinates.mono_l k
  refine ⟨?_, ?_⟩
  ·intro y0 y1 y2 y3 y4
   unfold font_fvar_normalizeCoordinates.l0
   repeat' first
   | (with_reducible exact ih0 _ _ _ _ _)
   | (with_reducible exact ih1 _ _ _ _ _ _ _ _ _ _ _ _ _)
   | (with_reducible exact LeO.refl _)
   | (with_reducible exact LeO.none _)
   | (with_reducible refine LeO.ite ?_ ?_)
   | (with_reducible refine LeO.bind ?_ (fun _ => ?_))
   | exact ih0 _ _ _ _ _
   | exact ih1 _ _ _ _ _ _ _ _ _ _ _ _ _
   | exact LeO.none _
   | refine LeO.ite ?_ ?_
   | refine LeO.bind ?_ (fun _ => ?_)
  ·intro y0 y1 y2 y3 y4 y5 y6 y7 y8 y9 y10 y11 y12
   unfold font_fvar_normalizeCoordinates.j1
   repeat' first
   | (with_reducible exact ih0 _ _ _ _ _)
   | (with_reducible exact ih1 _ _ _ _ _ _ _ _ _ _ _ _ _)
   | (with_reducible exact LeO.refl _)
   | (with_reducible exact LeO.none _)
   | (with_reducible refine LeO.ite ?_ ?_)
   | (with_reducible refine LeO.bind ?_ (fun _ => ?_))
   | exact ih0 _ _ _ _ _
   | exact ih1 _ _ _ _ _ _ _ _ _ _ _ _ _
   | exact LeO.none _
   | refine LeO.ite ?_ ?_
   | refine LeO.bind ?_ (fun _ => ?_)
theorem font_fvar_normalizeCoordinates.mono : ∀ a0 a1 k, LeO (font_fvar_normalizeCoordinates.f k a0 a1) (font_fvar_normalizeCoordinates.f (k + 1) a0 a1) := by
 intro a0 a1 k
 obtain ⟨ih0, ih1⟩ := font_fvar_normalizeCoordinates.mono_l k
 unfold font_fvar_normalizeCoordinates.f
 repeat' first
   | (with_reducible exact ih0 _ _ _ _ _)
   | (with_reducible exact ih1 _ _ _ _ _ _ _ _ _ _ _ _ _)
   | (with_reducible exact LeO.refl _)
   | (with_reducible exact LeO.none _)
   | (with_reducible refine LeO.ite ?_ ?_)
   | (with_reducible refine LeO.bind ?_ (fun _ => ?_))
   | exact ih0 _ _ _ _ _
   | exact ih1 _ _ _ _ _ _ _ _ _ _ _ _ _
   | exact LeO.none _
   | refine LeO.ite ?_ ?_
   | refine LeO.bind ?_ (fun _ => ?_)
set_option maxHeartbeats 8000000 in
set_option maxRecDepth 100000 in
theorem font_fvar_normalizeCoordinates.calls (k : Nat) (A0 : Option Addr) (c0 : Nat) (l0 : List (S170)) (A1 : Option Addr) (c1 : Nat) (l1 : List Nat) (r : List Int) (w : World) (hr0 : Kd.C k170 w A0 l0.length l0) (hc0 : l0.length ≤ c0) (hr1 : Kd.C (kflt .f32) w A1 l1.length l1) (hc1 : l1.length ≤ c1) (h : font_fvar_normalizeCoordinates.f k l0 l1 = some r) :
  Calls Try.prog 88 #[.slice A0 l0.length c0, .slice A1 l1.length c1] w fun e w' => ∃ v0_ : Value, e = .returned (v0_) ∧ Kd.R (Kd.int .i16) 175 w' w.heap.size (fun _ => True) v0_ r ∧ Below w.heap.size w w' := by
 have hu170 := Try.underlying170
 have HR0 := Aside0.mk hr0
 have HC0 := Aside0.mk hc0
 clear hr0 hc0
 have HR1 := Aside0.mk hr1
 have HC1 := Aside0.mk hc1
 clear hr1 hc1
 have HB := Aside0.mk (Below.refl w.heap.size w)
 have H : (if 0 ≤ (l1.length : Int) then (if ((l1.length : Int) : Int).toNat ≤ 140737488355328 then (font_fvar_normalizeCoordinates.l0 k l1 (List.replicate ((l1.length : Int) : Int).toNat 0) l0 (l0.length : Int) 0) else (none)) else (none)) = some r := h
 clear h
 by_cases c3 : 0 ≤ (l1.length : Int)
 ·rw [if_pos c3] at H
  have c3b0 := eq_true c3
  have c3b1 : decide (0 ≤ (l1.length : Int)) = true := decide_eq_true c3
  clear c3
  by_cases c4 : ((l1.length : Int) : Int).toNat ≤ 140737488355328
  ·rw [if_pos c4] at H
   have c4b0 := eq_true c4
   have c4b1 : decide (((l1.length : Int) : Int).toNat ≤ 140737488355328) = true := decide_eq_true c4
   clear c4
   obtain ⟨y182, hy182⟩ : ∃ y_ : List Int, y_ = (List.replicate ((l1.length : Int) : Int).toNat 0) := ⟨_, rfl⟩
   replace H : (font_fvar_normalizeCoordinates.l0 k l1 y182 l0 (l0.length : Int) 0) = some r := by first | (rw [hy182]; with_reducible exact H) | (have H2_ := (Option.bind_some _ _).symm.trans H; rw [hy182]; with_reducible exact H2_) | (have H2_ := (Option.bind_some _ _).symm.trans H; with_reducible exact H2_) | with_reducible exact H | (rw [hy182]; exact H) | exact H
   have Ny182 := Aside0.mk hy182
   clear hy182
   have H' := Aside0.mk H
   clear H
   go_enter Try.func88, Try.ntmps88
   go_wp2_with (first | ((with_reducible refine gate_dst (N := 11) rfl ?_); refine Kd.R_make (Kd.int .i16) _ 175 rfl (N := 11) rfl 111 _ _ rfl (l1.length : Int) rfl rfl Try.underlying111 (.int .i16 0) 2 info175 rfl (by decide) (by omega) 0 (ok := fun _ => True) (okp := fun _ => True) rfl (fun _ hk => hk) trivial (of_decide_eq_true (by first | (with_reducible assumption) | assumption)) (Nat.le_trans (Nat.mul_le_mul_right _ (of_decide_eq_true (by first | (with_reducible assumption) | assumption) : (l1.length : Int).toNat ≤ 140737488355328)) (by omega)) (Below.refl _ _) (Nat.le_refl _) ?_; intro v183 w5 ho6 hb hg_ hnew_; clear hg_ hnew_; (first | rw [← Ny182.out] at ho6 | (simp only [Int.reduceToNat] at ho6; rw [← Ny182.out] at ho6)); have n0_ := Aside0.mk (Kd.R_lower ho6 (below_size (by repeat (first | (with_reducible first | exact HB.out | apply below_alloc | apply pw_below_drewN | apply below_drew1) | exact HB.out)))); have n1_ := Aside0.mk (below_step (by repeat (first | (with_reducible first | exact HB.out | apply below_alloc | apply pw_below_drewN | apply below_drew1) | exact HB.out)) hb); clear HB; have HO184 := n0_; have HB := n1_; clear n0_ n1_; clear hb ho6))
   go_loopg [14] k (fun kq v14 w' => ∃ (x5_1 : List Int) (x14_1 : Int), v14 = .int .i64 x14_1 ∧ Aside0 (font_fvar_normalizeCoordinates.l0 kq l1 x5_1 l0 (l0.length : Int) x14_1 = some r) ∧ Aside0 (kq ≤ k) ∧ Aside0 (Kd.R (Kd.int .i16) 175 w' w.heap.size (fun _ => True) v183 x5_1) ∧ Aside0 (Below w.heap.size w w'))
   case atStart => exact ⟨(y182), (0), (by first | rfl | (simp; done) | (simp [*]; done)), H', ⟨Nat.le_refl _⟩, ⟨by (with_reducible repeat (first | apply Kd.R_alloc | apply Kd.R_drewN | apply Kd.R_drew)); exact HO184.out⟩, ⟨by repeat (first | (with_reducible first | exact HB.out | apply below_alloc | apply pw_below_drewN | apply below_drew1) | exact HB.out)⟩⟩
   case round =>
    clear H'
    try clear c1
    try clear p2
    try clear c3
    try clear c3b0
    try clear c3b1
    try clear c4
    try clear c4b0
    try clear c4b1
    obtain ⟨x5_1, x14_1, rfl, HA, HK1, HO_5, HB⟩ := hrel
    cases gk with
    | zero => exact absurd HA.out (by simp [font_fvar_normalizeCoordinates.l0])
    | succ k1 =>
     have H := HA.out
     clear HA
     simp only [font_fvar_normalizeCoordinates.l0] at H
     by_cases c7 : x14_1 < (l0.length : Int)
     ·rw [if_pos c7] at H
      have c7b0 : decide (x14_1 < (l0.length : Int)) = true := decide_eq_true c7
      clear c7
      by_cases c8 : 0 ≤ x14_1
      ·rw [if_pos c8] at H
       have c8b0 : decide (0 ≤ x14_1) = true := decide_eq_true c8
       clear c8
       by_cases c9 : x14_1 < (l0.length : Int)
       ·rw [if_pos c9] at H
        have c9b0 : decide (x14_1 < (l0.length : Int)) = true := decide_eq_true c9
        clear c9
        by_cases c10 : x14_1 < (l1.length : Int)
        ·rw [if_pos c10] at H
         have c10b0 : decide (x14_1 < (l1.length : Int)) = true := decide_eq_true c10
         clear c10
         have HC11 := Aside0.mk H
         clear H
         have p185 : 0 ≤ (x14_1 : Int) := of_decide_eq_true (by first | (with_reducible assumption) | assumption)
         have q185 : x14_1 < (l0.length : Int) := of_decide_eq_true (by first | (with_reducible assumption) | assumption)
         obtain ⟨ad185, e185, hx185_0, hx185_1, hx185_2, hx185_3, hx185_4, hx185_5⟩ := at_T170 HR0.out x14_1 p185 q185
         cases e185
         replace hx185_0 := (HB.out.cell (World.block_lt_of_cell? w _ hx185_0)).trans hx185_0
         replace hx185_1 := (HB.out.cell (World.block_lt_of_cell? w _ hx185_1)).trans hx185_1
         replace hx185_2 := (HB.out.cell (World.block_lt_of_cell? w _ hx185_2)).trans hx185_2
         replace hx185_3 := (HB.out.cell (World.block_lt_of_cell? w _ hx185_3)).trans hx185_3
         replace hx185_4 := (HB.out.cell (World.block_lt_of_cell? w _ hx185_4)).trans hx185_4
         replace hx185_5 := (HB.out.cell (World.block_lt_of_cell? w _ hx185_5)).trans hx185_5
         replace p185 := eq_true p185
         replace q185 := eq_true q185
         go_upto_if 26 with (first | ((with_reducible refine gate_dst (N := 7) rfl ?_); refine box_event ?hg (N := 7) ?hd (cs := #[.int .u32 0, .float .f32 0, .float .f32 0, .float .f32 0, .int .u16 0, .int .u16 0]) (t := 170) ?hr ?_; (case hd => rfl); (case hg => rfl); (case hr => first | (go_simp; done) | (go_simp; rfl)); intro gb186 hg w12 hbox hb; have n0_ := Aside0.mk (Kd.R_below (by (with_reducible repeat (first | apply Kd.R_alloc | apply Kd.R_drewN | apply Kd.R_drew)); exact HO_5.out) hb); have n1_ := Aside0.mk (below_step (by repeat (first | (with_reducible first | exact HB.out | apply below_alloc | apply pw_below_drewN | apply below_drew1) | exact HB.out)) hb); have n2_ := Aside0.mk (hbox); have n3_ := Aside0.mk ((by rw [hg]; exact (below_size (by repeat (first | (with_reducible first | exact HB.out | apply below_alloc | apply pw_below_drewN | apply below_drew1) | exact HB.out))) : w.heap.size ≤ gb186)); have n4_ := Aside0.mk ((by rw [hg]; exact (below_size (by repeat (first | (with_reducible first | exact HB.out | apply below_alloc | apply pw_below_drewN | apply below_drew1) | exact HB.out))) : w.heap.size ≤ gb186)); clear HO_5; clear HB; have HO_5 := n0_; have HB := n1_; have BK186 := n2_; have GW186 := n3_; have GE186 := n4_; clear n0_ n1_ n2_ n3_ n4_; clear hb hbox hg; have hcz13_0 : w12.cell? ⟨gb186, 0, none⟩ = some (.int .u32 0) := (blk_cell BK186.out 0).trans rfl; have hcz13_1 : w12.cell? ⟨gb186, 1, none⟩ = some (.float .f32 0) := (blk_cell BK186.out 1).trans rfl; have hcz13_2 : w12.cell? ⟨gb186, 2, none⟩ = some (.float .f32 0) := (blk_cell BK186.out 2).trans rfl; have hcz13_3 : w12.cell? ⟨gb186, 3, none⟩ = some (.float .f32 0) := (blk_cell BK186.out 3).trans rfl; have hcz13_4 : w12.cell? ⟨gb186, 4, none⟩ = some (.int .u16 0) := (blk_cell BK186.out 4).trans rfl; have hcz13_5 : w12.cell? ⟨gb186, 5, none⟩ = some (.int .u16 0) := (blk_cell BK186.out 5).trans rfl; have hfz13_0 := blk_frozen BK186.out 0; have hfz13_1 := blk_frozen BK186.out 1; have hfz13_2 := blk_frozen BK186.out 2; have hfz13_3 := blk_frozen BK186.out 3; have hfz13_4 := blk_frozen BK186.out 4; have hfz13_5 := blk_frozen BK186.out 5; have p187 : 0 ≤ (x14_1 : Int) := of_decide_eq_true (by first | (with_reducible assumption) | assumption); have q187 : x14_1 < (l1.length : Int) := of_decide_eq_true (by first | (with_reducible assumption) | assumption); obtain ⟨ad187, e187, hx187_0⟩ := at_flt HR1.out x14_1 p187 q187; cases e187; have hn187_0 : ad187.block ≠ gb186 := Nat.ne_of_lt (Nat.lt_of_lt_of_le (by have := World.block_lt_of_cell? _ _ hx187_0; first | rwa [add_block] at this | exact this) GW186.out); have hn187_1 : ad187.block ≠ gb186 := Nat.ne_of_lt (Nat.lt_of_lt_of_le (by have := World.block_lt_of_cell? _ _ hx187_0; first | rwa [add_block] at this | exact this) GW186.out); have hn187_2 : ad187.block ≠ gb186 := Nat.ne_of_lt (Nat.lt_of_lt_of_le (by have := World.block_lt_of_cell? _ _ hx187_0; first | rwa [add_block] at this | exact this) GW186.out); have hn187_3 : ad187.block ≠ gb186 := Nat.ne_of_lt (Nat.lt_of_lt_of_le (by have := World.block_lt_of_cell? _ _ hx187_0; first | rwa [add_block] at this | exact this) GW186.out); have hn187_4 : ad187.block ≠ gb186 := Nat.ne_of_lt (Nat.lt_of_lt_of_le (by have := World.block_lt_of_cell? _ _ hx187_0; first | rwa [add_block] at this | exact this) GW186.out); have hn187_5 : ad187.block ≠ gb186 := Nat.ne_of_lt (Nat.lt_of_lt_of_le (by have := World.block_lt_of_cell? _ _ hx187_0; first | rwa [add_block] at this | exact this) GW186.out); replace hx187_0 := (HB.out.cell (World.block_lt_of_cell? w _ hx187_0)).trans hx187_0; replace hx187_0 := (cell_far (p := ⟨gb186, 0, none⟩) (by first | (rw [add_block]; exact hn187_0) | (show (Addr.add _ _).block ≠ _; rw [add_block]; exact hn187_0) | exact hn187_0) (.int .u32 ((rd_T170 l0 x14_1).f0))).trans hx187_0; replace hx187_0 := (cell_far (p := ⟨gb186, 1, none⟩) (by first | (rw [add_block]; exact hn187_1) | (show (Addr.add _ _).block ≠ _; rw [add_block]; exact hn187_1) | exact hn187_1) (.float .f32 ((rd_T170 l0 x14_1).f1))).trans hx187_0; replace hx187_0 := (cell_far (p := ⟨gb186, 2, none⟩) (by first | (rw [add_block]; exact hn187_2) | (show (Addr.add _ _).block ≠ _; rw [add_block]; exact hn187_2) | exact hn187_2) (.float .f32 ((rd_T170 l0 x14_1).f2))).trans hx187_0; replace hx187_0 := (cell_far (p := ⟨gb186, 3, none⟩) (by first | (rw [add_block]; exact hn187_3) | (show (Addr.add _ _).block ≠ _; rw [add_block]; exact hn187_3) | exact hn187_3) (.float .f32 ((rd_T170 l0 x14_1).f3))).trans hx187_0; replace hx187_0 := (cell_far (p := ⟨gb186, 4, none⟩) (by first | (rw [add_block]; exact hn187_4) | (show (Addr.add _ _).block ≠ _; rw [add_block]; exact hn187_4) | exact hn187_4) (.int .u16 ((rd_T170 l0 x14_1).f4))).trans hx187_0; replace hx187_0 := (cell_far (p := ⟨gb186, 5, none⟩) (by first | (rw [add_block]; exact hn187_5) | (show (Addr.add _ _).block ≠ _; rw [add_block]; exact hn187_5) | exact hn187_5) (.int .u16 ((rd_T170 l0 x14_1).f5))).trans hx187_0; clear hn187_0; clear hn187_1; clear hn187_2; clear hn187_3; clear hn187_4; clear hn187_5; replace p187 := eq_true p187; replace q187 := eq_true q187))
         (try simp only [Act.put, L1_, L2_, L3_])
         go_cut [8] (fun v8 wc => ∃ (kq : Nat) (x8_10 : Nat), v8 = .float .f32 x8_10 ∧ Aside0 (font_fvar_normalizeCoordinates.j1 kq l1 x5_1 x14_1 x8_10 l0 (l0.length : Int) x14_1 ((rd_T170 l0 x14_1).f0) ((rd_T170 l0 x14_1).f1) ((rd_T170 l0 x14_1).f2) ((rd_T170 l0 x14_1).f3) ((rd_T170 l0 x14_1).f4) ((rd_T170 l0 x14_1).f5) = some r) ∧ Aside0 (kq ≤ k1) ∧ Aside0 (Kd.R (Kd.int .i16) 175 wc w.heap.size (fun _ => True) v183 x5_1) ∧ Aside0 (wc.heap[gb186]? = some (.cells #[.int .u32 ((rd_T170 l0 x14_1).f0), .float .f32 ((rd_T170 l0 x14_1).f1), .float .f32 ((rd_T170 l0 x14_1).f2), .float .f32 ((rd_T170 l0 x14_1).f3), .int .u16 ((rd_T170 l0 x14_1).f4), .int .u16 ((rd_T170 l0 x14_1).f5)] 170 (0, 0))) ∧ Aside0 (Below w.heap.size w wc))
         case first =>
          have H := HC11.out
          clear HC11
          by_cases c14 : (FloatKind.f32.format.order (rdOf (0 : Nat) l1 x14_1) ((rd_T170 l0 x14_1).f3) == some .gt) = true
          ·rw [if_pos c14] at H
           have c14b0 : (FloatKind.f32.format.order (rdOf (0 : Nat) l1 x14_1) ((rd_T170 l0 x14_1).f3) == some .gt) = true := c14
           (try (have c14b1 : decide (FloatKind.f32.format.order (rdOf (0 : Nat) l1 x14_1) ((rd_T170 l0 x14_1).f3) = some .gt) = true := by simpa using c14))
           (try (have c14b2 : (FloatKind.f32.format.order (rdOf (0 : Nat) l1 x14_1) ((rd_T170 l0 x14_1).f3) == some .gt) = true := by simpa using c14))
           clear c14
           (first | rw [c14b0] | (simp only [i64_w, i32_w]; rw [c14b0]) | skip)
           have H' := Aside0.mk H
           clear H
           have hcz15_0 : w12.cell? ⟨gb186, 0, none⟩ = some (.int .u32 0) := (blk_cell BK186.out 0).trans rfl
           have hcz15_1 : w12.cell? ⟨gb186, 1, none⟩ = some (.float .f32 0) := (blk_cell BK186.out 1).trans rfl
           have hcz15_2 : w12.cell? ⟨gb186, 2, none⟩ = some (.float .f32 0) := (blk_cell BK186.out 2).trans rfl
           have hcz15_3 : w12.cell? ⟨gb186, 3, none⟩ = some (.float .f32 0) := (blk_cell BK186.out 3).trans rfl
           have hcz15_4 : w12.cell? ⟨gb186, 4, none⟩ = some (.int .u16 0) := (blk_cell BK186.out 4).trans rfl
           have hcz15_5 : w12.cell? ⟨gb186, 5, none⟩ = some (.int .u16 0) := (blk_cell BK186.out 5).trans rfl
           have hfz15_0 := blk_frozen BK186.out 0
           have hfz15_1 := blk_frozen BK186.out 1
           have hfz15_2 := blk_frozen BK186.out 2
           have hfz15_3 := blk_frozen BK186.out 3
           have hfz15_4 := blk_frozen BK186.out 4
           have hfz15_5 := blk_frozen BK186.out 5
           go_wp2
           go_meet
           case rel => exact ⟨_, ((rd_T170 l0 x14_1).f3), (by first | rfl | (simp; done) | (simp [*]; done)), H', ⟨by have := HK1.out; first | omega | exact Nat.le_refl _⟩, ⟨by (with_reducible repeat (first | apply Kd.R_alloc | apply Kd.R_drewN | apply Kd.R_drew)); exact Kd.R_mono (Kd.R_far (p := ⟨gb186, 5, none⟩) (Kd.R_far (p := ⟨gb186, 4, none⟩) (Kd.R_far (p := ⟨gb186, 3, none⟩) (Kd.R_far (p := ⟨gb186, 2, none⟩) (Kd.R_far (p := ⟨gb186, 1, none⟩) (Kd.R_far (p := ⟨gb186, 0, none⟩) (Kd.R_types HO_5.out BK186.out (by decide)) (fun _ hk => hk.2) (.int .u32 ((rd_T170 l0 x14_1).f0))) (fun _ hk => hk.2) (.float .f32 ((rd_T170 l0 x14_1).f1))) (fun _ hk => hk.2) (.float .f32 ((rd_T170 l0 x14_1).f2))) (fun _ hk => hk.2) (.float .f32 ((rd_T170 l0 x14_1).f3))) (fun _ hk => hk.2) (.int .u16 ((rd_T170 l0 x14_1).f4))) (fun _ hk => hk.2) (.int .u16 ((rd_T170 l0 x14_1).f5))) (fun _ hk => trivial)⟩, ⟨by (with_reducible repeat (first | refine b1_ ?_ _ | refine b2_ ?_ | refine b3_ ?_ _)); refine blk_put (cs := #[.int .u32 ((rd_T170 l0 x14_1).f0), .float .f32 ((rd_T170 l0 x14_1).f1), .float .f32 ((rd_T170 l0 x14_1).f2), .float .f32 ((rd_T170 l0 x14_1).f3), .int .u16 ((rd_T170 l0 x14_1).f4), .int .u16 0]) ?_ 5 _ rfl; (with_reducible repeat (first | refine b1_ ?_ _ | refine b2_ ?_ | refine b3_ ?_ _)); refine blk_put (cs := #[.int .u32 ((rd_T170 l0 x14_1).f0), .float .f32 ((rd_T170 l0 x14_1).f1), .float .f32 ((rd_T170 l0 x14_1).f2), .float .f32 ((rd_T170 l0 x14_1).f3), .int .u16 0, .int .u16 0]) ?_ 4 _ rfl; (with_reducible repeat (first | refine b1_ ?_ _ | refine b2_ ?_ | refine b3_ ?_ _)); refine blk_put (cs := #[.int .u32 ((rd_T170 l0 x14_1).f0), .float .f32 ((rd_T170 l0 x14_1).f1), .float .f32 ((rd_T170 l0 x14_1).f2), .float .f32 0, .int .u16 0, .int .u16 0]) ?_ 3 _ rfl; (with_reducible repeat (first | refine b1_ ?_ _ | refine b2_ ?_ | refine b3_ ?_ _)); refine blk_put (cs := #[.int .u32 ((rd_T170 l0 x14_1).f0), .float .f32 ((rd_T170 l0 x14_1).f1), .float .f32 0, .float .f32 0, .int .u16 0, .int .u16 0]) ?_ 2 _ rfl; (with_reducible repeat (first | refine b1_ ?_ _ | refine b2_ ?_ | refine b3_ ?_ _)); refine blk_put (cs := #[.int .u32 ((rd_T170 l0 x14_1).f0), .float .f32 0, .float .f32 0, .float .f32 0, .int .u16 0, .int .u16 0]) ?_ 1 _ rfl; (with_reducible repeat (first | refine b1_ ?_ _ | refine b2_ ?_ | refine b3_ ?_ _)); refine blk_put (cs := #[.int .u32 0, .float .f32 0, .float .f32 0, .float .f32 0, .int .u16 0, .int .u16 0]) ?_ 0 _ rfl; (with_reducible repeat (first | refine b1_ ?_ _ | refine b2_ ?_ | refine b3_ ?_ _)); exact BK186.out⟩, ⟨by repeat (first | (with_reducible first | exact HB.out | apply below_alloc | apply pw_below_drewN | apply below_drew1 | refine below_set ?_ GE186.out) | exact HB.out)⟩⟩
          ·rw [if_neg c14] at H
           have c14b0 : (FloatKind.f32.format.order (rdOf (0 : Nat) l1 x14_1) ((rd_T170 l0 x14_1).f3) == some .gt) = false := by simpa using c14
           (try (have c14b1 : decide (FloatKind.f32.format.order (rdOf (0 : Nat) l1 x14_1) ((rd_T170 l0 x14_1).f3) = some .gt) = false := by simpa using c14))
           (try (have c14b2 : (FloatKind.f32.format.order (rdOf (0 : Nat) l1 x14_1) ((rd_T170 l0 x14_1).f3) == some .gt) = false := by simpa using c14))
           (try (have c14b3 : ¬ (FloatKind.f32.format.order (rdOf (0 : Nat) l1 x14_1) ((rd_T170 l0 x14_1).f3) = some .gt) := by simpa using c14))
           clear c14
           (first | rw [c14b0] | (simp only [i64_w, i32_w]; rw [c14b0]) | skip)
           by_cases c16 : (FloatKind.f32.format.order (rdOf (0 : Nat) l1 x14_1) ((rd_T170 l0 x14_1).f1) == some .lt) = true
           ·rw [if_pos c16] at H
            have c16b0 : (FloatKind.f32.format.order (rdOf (0 : Nat) l1 x14_1) ((rd_T170 l0 x14_1).f1) == some .lt) = true := c16
            (try (have c16b1 : decide (FloatKind.f32.format.order (rdOf (0 : Nat) l1 x14_1) ((rd_T170 l0 x14_1).f1) = some .lt) = true := by simpa using c16))
            (try (have c16b2 : (FloatKind.f32.format.order (rdOf (0 : Nat) l1 x14_1) ((rd_T170 l0 x14_1).f1) == some .lt) = true := by simpa using c16))
            clear c16
            have H' := Aside0.mk H
            clear H
            have hcz17_0 : w12.cell? ⟨gb186, 0, none⟩ = some (.int .u32 0) := (blk_cell BK186.out 0).trans rfl
            have hcz17_1 : w12.cell? ⟨gb186, 1, none⟩ = some (.float .f32 0) := (blk_cell BK186.out 1).trans rfl
            have hcz17_2 : w12.cell? ⟨gb186, 2, none⟩ = some (.float .f32 0) := (blk_cell BK186.out 2).trans rfl
            have hcz17_3 : w12.cell? ⟨gb186, 3, none⟩ = some (.float .f32 0) := (blk_cell BK186.out 3).trans rfl
            have hcz17_4 : w12.cell? ⟨gb186, 4, none⟩ = some (.int .u16 0) := (blk_cell BK186.out 4).trans rfl
            have hcz17_5 : w12.cell? ⟨gb186, 5, none⟩ = some (.int .u16 0) := (blk_cell BK186.out 5).trans rfl
            have hfz17_0 := blk_frozen BK186.out 0
            have hfz17_1 := blk_frozen BK186.out 1
            have hfz17_2 := blk_frozen BK186.out 2
            have hfz17_3 := blk_frozen BK186.out 3
            have hfz17_4 := blk_frozen BK186.out 4
            have hfz17_5 := blk_frozen BK186.out 5
            go_wp2
            go_meet
            case rel => exact ⟨_, ((rd_T170 l0 x14_1).f1), (by first | rfl | (simp; done) | (simp [*]; done)), H', ⟨by have := HK1.out; first | omega | exact Nat.le_refl _⟩, ⟨by (with_reducible repeat (first | apply Kd.R_alloc | apply Kd.R_drewN | apply Kd.R_drew)); exact Kd.R_mono (Kd.R_far (p := ⟨gb186, 5, none⟩) (Kd.R_far (p := ⟨gb186, 4, none⟩) (Kd.R_far (p := ⟨gb186, 3, none⟩) (Kd.R_far (p := ⟨gb186, 2, none⟩) (Kd.R_far (p := ⟨gb186, 1, none⟩) (Kd.R_far (p := ⟨gb186, 0, none⟩) (Kd.R_types HO_5.out BK186.out (by decide)) (fun _ hk => hk.2) (.int .u32 ((rd_T170 l0 x14_1).f0))) (fun _ hk => hk.2) (.float .f32 ((rd_T170 l0 x14_1).f1))) (fun _ hk => hk.2) (.float .f32 ((rd_T170 l0 x14_1).f2))) (fun _ hk => hk.2) (.float .f32 ((rd_T170 l0 x14_1).f3))) (fun _ hk => hk.2) (.int .u16 ((rd_T170 l0 x14_1).f4))) (fun _ hk => hk.2) (.int .u16 ((rd_T170 l0 x14_1).f5))) (fun _ hk => trivial)⟩, ⟨by (with_reducible repeat (first | refine b1_ ?_ _ | refine b2_ ?_ | refine b3_ ?_ _)); refine blk_put (cs := #[.int .u32 ((rd_T170 l0 x14_1).f0), .float .f32 ((rd_T170 l0 x14_1).f1), .float .f32 ((rd_T170 l0 x14_1).f2), .float .f32 ((rd_T170 l0 x14_1).f3), .int .u16 ((rd_T170 l0 x14_1).f4), .int .u16 0]) ?_ 5 _ rfl; (with_reducible repeat (first | refine b1_ ?_ _ | refine b2_ ?_ | refine b3_ ?_ _)); refine blk_put (cs := #[.int .u32 ((rd_T170 l0 x14_1).f0), .float .f32 ((rd_T170 l0 x14_1).f1), .float .f32 ((rd_T170 l0 x14_1).f2), .float .f32 ((rd_T170 l0 x14_1).f3), .int .u16 0, .int .u16 0]) ?_ 4 _ rfl; (with_reducible repeat (first | refine b1_ ?_ _ | refine b2_ ?_ | refine b3_ ?_ _)); refine blk_put (cs := #[.int .u32 ((rd_T170 l0 x14_1).f0), .float .f32 ((rd_T170 l0 x14_1).f1), .float .f32 ((rd_T170 l0 x14_1).f2), .float .f32 0, .int .u16 0, .int .u16 0]) ?_ 3 _ rfl; (with_reducible repeat (first | refine b1_ ?_ _ | refine b2_ ?_ | refine b3_ ?_ _)); refine blk_put (cs := #[.int .u32 ((rd_T170 l0 x14_1).f0), .float .f32 ((rd_T170 l0 x14_1).f1), .float .f32 0, .float .f32 0, .int .u16 0, .int .u16 0]) ?_ 2 _ rfl; (with_reducible repeat (first | refine b1_ ?_ _ | refine b2_ ?_ | refine b3_ ?_ _)); refine blk_put (cs := #[.int .u32 ((rd_T170 l0 x14_1).f0), .float .f32 0, .float .f32 0, .float .f32 0, .int .u16 0, .int .u16 0]) ?_ 1 _ rfl; (with_reducible repeat (first | refine b1_ ?_ _ | refine b2_ ?_ | refine b3_ ?_ _)); refine blk_put (cs := #[.int .u32 0, .float .f32 0, .float .f32 0, .float .f32 0, .int .u16 0, .int .u16 0]) ?_ 0 _ rfl; (with_reducible repeat (first | refine b1_ ?_ _ | refine b2_ ?_ | refine b3_ ?_ _)); exact BK186.out⟩, ⟨by repeat (first | (with_reducible first | exact HB.out | apply below_alloc | apply pw_below_drewN | apply below_drew1 | refine below_set ?_ GE186.out) | exact HB.out)⟩⟩
           ·rw [if_neg c16] at H
            have c16b0 : (FloatKind.f32.format.order (rdOf (0 : Nat) l1 x14_1) ((rd_T170 l0 x14_1).f1) == some .lt) = false := by simpa using c16
            (try (have c16b1 : decide (FloatKind.f32.format.order (rdOf (0 : Nat) l1 x14_1) ((rd_T170 l0 x14_1).f1) = some .lt) = false := by simpa using c16))
            (try (have c16b2 : (FloatKind.f32.format.order (rdOf (0 : Nat) l1 x14_1) ((rd_T170 l0 x14_1).f1) == some .lt) = false := by simpa using c16))
            (try (have c16b3 : ¬ (FloatKind.f32.format.order (rdOf (0 : Nat) l1 x14_1) ((rd_T170 l0 x14_1).f1) = some .lt) := by simpa using c16))
            clear c16
            have H' := Aside0.mk H
            clear H
            have hcz18_0 : w12.cell? ⟨gb186, 0, none⟩ = some (.int .u32 0) := (blk_cell BK186.out 0).trans rfl
            have hcz18_1 : w12.cell? ⟨gb186, 1, none⟩ = some (.float .f32 0) := (blk_cell BK186.out 1).trans rfl
            have hcz18_2 : w12.cell? ⟨gb186, 2, none⟩ = some (.float .f32 0) := (blk_cell BK186.out 2).trans rfl
            have hcz18_3 : w12.cell? ⟨gb186, 3, none⟩ = some (.float .f32 0) := (blk_cell BK186.out 3).trans rfl
            have hcz18_4 : w12.cell? ⟨gb186, 4, none⟩ = some (.int .u16 0) := (blk_cell BK186.out 4).trans rfl
            have hcz18_5 : w12.cell? ⟨gb186, 5, none⟩ = some (.int .u16 0) := (blk_cell BK186.out 5).trans rfl
            have hfz18_0 := blk_frozen BK186.out 0
            have hfz18_1 := blk_frozen BK186.out 1
            have hfz18_2 := blk_frozen BK186.out 2
            have hfz18_3 := blk_frozen BK186.out 3
            have hfz18_4 := blk_frozen BK186.out 4
            have hfz18_5 := blk_frozen BK186.out 5
            go_wp2
            go_meet
            case rel => exact ⟨_, (rdOf (0 : Nat) l1 x14_1), (by first | rfl | (simp; done) | (simp [*]; done)), H', ⟨by have := HK1.out; first | omega | exact Nat.le_refl _⟩, ⟨by (with_reducible repeat (first | apply Kd.R_alloc | apply Kd.R_drewN | apply Kd.R_drew)); exact Kd.R_mono (Kd.R_far (p := ⟨gb186, 5, none⟩) (Kd.R_far (p := ⟨gb186, 4, none⟩) (Kd.R_far (p := ⟨gb186, 3, none⟩) (Kd.R_far (p := ⟨gb186, 2, none⟩) (Kd.R_far (p := ⟨gb186, 1, none⟩) (Kd.R_far (p := ⟨gb186, 0, none⟩) (Kd.R_types HO_5.out BK186.out (by decide)) (fun _ hk => hk.2) (.int .u32 ((rd_T170 l0 x14_1).f0))) (fun _ hk => hk.2) (.float .f32 ((rd_T170 l0 x14_1).f1))) (fun _ hk => hk.2) (.float .f32 ((rd_T170 l0 x14_1).f2))) (fun _ hk => hk.2) (.float .f32 ((rd_T170 l0 x14_1).f3))) (fun _ hk => hk.2) (.int .u16 ((rd_T170 l0 x14_1).f4))) (fun _ hk => hk.2) (.int .u16 ((rd_T170 l0 x14_1).f5))) (fun _ hk => trivial)⟩, ⟨by (with_reducible repeat (first | refine b1_ ?_ _ | refine b2_ ?_ | refine b3_ ?_ _)); refine blk_put (cs := #[.int .u32 ((rd_T170 l0 x14_1).f0), .float .f32 ((rd_T170 l0 x14_1).f1), .float .f32 ((rd_T170 l0 x14_1).f2), .float .f32 ((rd_T170 l0 x14_1).f3), .int .u16 ((rd_T170 l0 x14_1).f4), .int .u16 0]) ?_ 5 _ rfl; (with_reducible repeat (first | refine b1_ ?_ _ | refine b2_ ?_ | refine b3_ ?_ _)); refine blk_put (cs := #[.int .u32 ((rd_T170 l0 x14_1).f0), .float .f32 ((rd_T170 l0 x14_1).f1), .float .f32 ((rd_T170 l0 x14_1).f2), .float .f32 ((rd_T170 l0 x14_1).f3), .int .u16 0, .int .u16 0]) ?_ 4 _ rfl; (with_reducible repeat (first | refine b1_ ?_ _ | refine b2_ ?_ | refine b3_ ?_ _)); refine blk_put (cs := #[.int .u32 ((rd_T170 l0 x14_1).f0), .float .f32 ((rd_T170 l0 x14_1).f1), .float .f32 ((rd_T170 l0 x14_1).f2), .float .f32 0, .int .u16 0, .int .u16 0]) ?_ 3 _ rfl; (with_reducible repeat (first | refine b1_ ?_ _ | refine b2_ ?_ | refine b3_ ?_ _)); refine blk_put (cs := #[.int .u32 ((rd_T170 l0 x14_1).f0), .float .f32 ((rd_T170 l0 x14_1).f1), .float .f32 0, .float .f32 0, .int .u16 0, .int .u16 0]) ?_ 2 _ rfl; (with_reducible repeat (first | refine b1_ ?_ _ | refine b2_ ?_ | refine b3_ ?_ _)); refine blk_put (cs := #[.int .u32 ((rd_T170 l0 x14_1).f0), .float .f32 0, .float .f32 0, .float .f32 0, .int .u16 0, .int .u16 0]) ?_ 1 _ rfl; (with_reducible repeat (first | refine b1_ ?_ _ | refine b2_ ?_ | refine b3_ ?_ _)); refine blk_put (cs := #[.int .u32 0, .float .f32 0, .float .f32 0, .float .f32 0, .int .u16 0, .int .u16 0]) ?_ 0 _ rfl; (with_reducible repeat (first | refine b1_ ?_ _ | refine b2_ ?_ | refine b3_ ?_ _)); exact BK186.out⟩, ⟨by repeat (first | (with_reducible first | exact HB.out | apply below_alloc | apply pw_below_drewN | apply below_drew1 | refine below_set ?_ GE186.out) | exact HB.out)⟩⟩
         case rest =>
          clear HC11
          try clear c1
          try clear p1
          try clear q1
          try clear hx1
          try clear p2
          try clear c3
          try clear c3b0
          try clear c3b1
          try clear c4
          try clear c4b0
          try clear c4b1
          try clear c7
          try clear c7b0
          try clear c8
          try clear c8b0
          try clear c9
          try clear c9b0
          try clear c10
          try clear c10b0
          try clear c14
          try clear c14b0
          try clear c14b1
          try clear c14b2
          try clear c16
          try clear c16b0
          try clear c16b1
          try clear c16b2
          try clear p18
          try clear q18
          try clear hx18
          try clear hcz13_0
          try clear hcz13_1
          try clear hcz13_2
          try clear hcz13_3
          try clear hcz13_4
          try clear hcz13_5
          try clear hcz15_0
          try clear hcz15_1
          try clear hcz15_2
          try clear hcz15_3
          try clear hcz15_4
          try clear hcz15_5
          try clear hcz17_0
          try clear hcz17_1
          try clear hcz17_2
          try clear hcz17_3
          try clear hcz17_4
          try clear hcz17_5
          try clear hcz18_0
          try clear hcz18_1
          try clear hcz18_2
          try clear hcz18_3
          try clear hcz18_4
          try clear hcz18_5
          try clear hfz13_0
          try clear hfz13_1
          try clear hfz13_2
          try clear hfz13_3
          try clear hfz13_4
          try clear hfz13_5
          try clear hfz15_0
          try clear hfz15_1
          try clear hfz15_2
          try clear hfz15_3
          try clear hfz15_4
          try clear hfz15_5
          try clear hfz17_0
          try clear hfz17_1
          try clear hfz17_2
          try clear hfz17_3
          try clear hfz17_4
          try clear hfz17_5
          try clear hfz18_0
          try clear hfz18_1
          try clear hfz18_2
          try clear hfz18_3
          try clear hfz18_4
          try clear hfz18_5
          try clear hx185_0
          try clear hx185_1
          try clear hx185_2
          try clear hx185_3
          try clear hx185_4
          try clear hx185_5
          try clear hx187_0
          try clear p185
          try clear p187
          try clear p2
          try clear q185
          try clear q187
          obtain ⟨kq, x8_10, rfl, HA, HJ10, HO_5, BK186, HB⟩ := hcut
          cases kq with
          | zero => exact absurd HA.out (by simp [font_fvar_normalizeCoordinates.j1])
          | succ kj10 =>
           have H := HA.out
           clear HA
           simp only [font_fvar_normalizeCoordinates.j1] at H
           by_cases c19 : (FloatKind.f32.format.order x8_10 ((rd_T170 l0 x14_1).f2) == some .lt) = true
           ·rw [if_pos c19] at H
            have c19b0 : (FloatKind.f32.format.order x8_10 ((rd_T170 l0 x14_1).f2) == some .lt) = true := c19
            (try (have c19b1 : decide (FloatKind.f32.format.order x8_10 ((rd_T170 l0 x14_1).f2) = some .lt) = true := by simpa using c19))
            (try (have c19b2 : (FloatKind.f32.format.order x8_10 ((rd_T170 l0 x14_1).f2) == some .lt) = true := by simpa using c19))
            clear c19
            by_cases c20 : fok .sub .f32 x8_10 ((rd_T170 l0 x14_1).f2) = true
            ·rw [if_pos c20] at H
             have c20b0 := eq_true c20
             have c20b1 : decide (fok .sub .f32 x8_10 ((rd_T170 l0 x14_1).f2) = true) = true := decide_eq_true c20
             clear c20
             by_cases c21 : fok .sub .f32 ((rd_T170 l0 x14_1).f1) ((rd_T170 l0 x14_1).f2) = true
             ·rw [if_pos c21] at H
              have c21b0 := eq_true c21
              have c21b1 : decide (fok .sub .f32 ((rd_T170 l0 x14_1).f1) ((rd_T170 l0 x14_1).f2) = true) = true := decide_eq_true c21
              clear c21
              by_cases c22 : fok .quo .f32 (Go.Op.negFloat .f32 (fv .sub .f32 x8_10 ((rd_T170 l0 x14_1).f2))) (fv .sub .f32 ((rd_T170 l0 x14_1).f1) ((rd_T170 l0 x14_1).f2)) = true
              ·rw [if_pos c22] at H
               have c22b0 := eq_true c22
               have c22b1 : decide (fok .quo .f32 (Go.Op.negFloat .f32 (fv .sub .f32 x8_10 ((rd_T170 l0 x14_1).f2))) (fv .sub .f32 ((rd_T170 l0 x14_1).f1) ((rd_T170 l0 x14_1).f2)) = true) = true := decide_eq_true c22
               clear c22
               by_cases c23 : fok .mul .f32 (fv .quo .f32 (Go.Op.negFloat .f32 (fv .sub .f32 x8_10 ((rd_T170 l0 x14_1).f2))) (fv .sub .f32 ((rd_T170 l0 x14_1).f1) ((rd_T170 l0 x14_1).f2))) 1182793728 = true
               ·rw [if_pos c23] at H
                have c23b0 := eq_true c23
                have c23b1 : decide (fok .mul .f32 (fv .quo .f32 (Go.Op.negFloat .f32 (fv .sub .f32 x8_10 ((rd_T170 l0 x14_1).f2))) (fv .sub .f32 ((rd_T170 l0 x14_1).f1) ((rd_T170 l0 x14_1).f2))) 1182793728 = true) = true := decide_eq_true c23
                clear c23
                by_cases c24 : fcok .f32 (fv .mul .f32 (fv .quo .f32 (Go.Op.negFloat .f32 (fv .sub .f32 x8_10 ((rd_T170 l0 x14_1).f2))) (fv .sub .f32 ((rd_T170 l0 x14_1).f1) ((rd_T170 l0 x14_1).f2))) 1182793728) .f64 = true
                ·rw [if_pos c24] at H
                 have c24b0 := eq_true c24
                 have c24b1 : decide (fcok .f32 (fv .mul .f32 (fv .quo .f32 (Go.Op.negFloat .f32 (fv .sub .f32 x8_10 ((rd_T170 l0 x14_1).f2))) (fv .sub .f32 ((rd_T170 l0 x14_1).f1) ((rd_T170 l0 x14_1).f2))) 1182793728) .f64 = true) = true := decide_eq_true c24
                 clear c24
                 replace H := Option.bind_eq_some_iff.mp H
                 obtain ⟨t188, A250, H⟩ := H
                 replace H : (if fiok .f64 t188 .i16 = true then (if 0 ≤ x14_1 then (if x14_1 < (x5_1.length : Int) then (font_fvar_normalizeCoordinates.l0 kj10 l1 (x5_1.set (x14_1 : Int).toNat (fi .f64 t188 .i16)) l0 (l0.length : Int) (wrap64 (x14_1 + 1))) else (none)) else (none)) else (none)) = some r := H
                 have A25 := Aside0.mk A250
                 clear A250
                 by_cases c26 : fiok .f64 t188 .i16 = true
                 ·rw [if_pos c26] at H
                  have c26b0 := eq_true c26
                  have c26b1 : decide (fiok .f64 t188 .i16 = true) = true := decide_eq_true c26
                  clear c26
                  by_cases c27 : 0 ≤ x14_1
                  ·rw [if_pos c27] at H
                   have c27b0 : decide (0 ≤ x14_1) = true := decide_eq_true c27
                   clear c27
                   by_cases c28 : x14_1 < (x5_1.length : Int)
                   ·rw [if_pos c28] at H
                    have c28b0 : decide (x14_1 < (x5_1.length : Int)) = true := decide_eq_true c28
                    clear c28
                    obtain ⟨y189, hy189⟩ : ∃ y_ : List Int, y_ = (x5_1.set (x14_1 : Int).toNat (fi .f64 t188 .i16)) := ⟨_, rfl⟩
                    replace H : (font_fvar_normalizeCoordinates.l0 kj10 l1 y189 l0 (l0.length : Int) (wrap64 (x14_1 + 1))) = some r := by first | (rw [hy189]; with_reducible exact H) | (have H2_ := (Option.bind_some _ _).symm.trans H; rw [hy189]; with_reducible exact H2_) | (have H2_ := (Option.bind_some _ _).symm.trans H; with_reducible exact H2_) | with_reducible exact H | (rw [hy189]; exact H) | exact H
                    have Ny189 := Aside0.mk hy189
                    clear hy189
                    have H' := Aside0.mk H
                    clear H
                    have hcz30_0 : wc.cell? ⟨gb186, 0, none⟩ = some (.int .u32 ((rd_T170 l0 x14_1).f0)) := (blk_cell BK186.out 0).trans rfl
                    have hcz30_1 : wc.cell? ⟨gb186, 1, none⟩ = some (.float .f32 ((rd_T170 l0 x14_1).f1)) := (blk_cell BK186.out 1).trans rfl
                    have hcz30_2 : wc.cell? ⟨gb186, 2, none⟩ = some (.float .f32 ((rd_T170 l0 x14_1).f2)) := (blk_cell BK186.out 2).trans rfl
                    have hcz30_3 : wc.cell? ⟨gb186, 3, none⟩ = some (.float .f32 ((rd_T170 l0 x14_1).f3)) := (blk_cell BK186.out 3).trans rfl
                    have hcz30_4 : wc.cell? ⟨gb186, 4, none⟩ = some (.int .u16 ((rd_T170 l0 x14_1).f4)) := (blk_cell BK186.out 4).trans rfl
                    have hcz30_5 : wc.cell? ⟨gb186, 5, none⟩ = some (.int .u16 ((rd_T170 l0 x14_1).f5)) := (blk_cell BK186.out 5).trans rfl
                    have hfz30_0 := blk_frozen BK186.out 0
                    have hfz30_1 := blk_frozen BK186.out 1
                    have hfz30_2 := blk_frozen BK186.out 2
                    have hfz30_3 := blk_frozen BK186.out 3
                    have hfz30_4 := blk_frozen BK186.out 4
                    have hfz30_5 := blk_frozen BK186.out 5
                    go_wp2_with (first | ((with_reducible refine gate_callee (f := 102) rfl ?_); refine goesL_ (some 69) rfl rfl Try.func102 (by kernel_rfl) rfl #[.float .f64 (fc .f32 (fv .mul .f32 (fv .quo .f32 (Go.Op.negFloat .f32 (fv .sub .f32 x8_10 ((rd_T170 l0 x14_1).f2))) (fv .sub .f32 ((rd_T170 l0 x14_1).f1) ((rd_T170 l0 x14_1).f2))) 1182793728) .f64)] rfl (by (try simp only [List.map_toArray, List.map_cons, List.map_nil]); first | done | rfl | (simp only [List.length_drop, List.length_take]; rfl)) ?_; (with_reducible refine (math_Round.calls (fc .f32 (fv .mul .f32 (fv .quo .f32 (Go.Op.negFloat .f32 (fv .sub .f32 x8_10 ((rd_T170 l0 x14_1).f2))) (fv .sub .f32 ((rd_T170 l0 x14_1).f1) ((rd_T170 l0 x14_1).f2))) 1182793728) .f64) t188 _ A25.out).mono ?_); rintro e w' ⟨rfl, ⟨nd, rfl⟩⟩; refine ⟨_, rfl, ?_⟩; (try (rw [drewN_self wc]; generalize hq_ : World.drewN wc _ = wc; have n0_ : Aside0 (Kd.R (Kd.int .i16) 175 wc w.heap.size (fun _ => True) v183 x5_1) := ⟨by rw [← hq_]; exact (by (with_reducible repeat (first | apply Kd.R_alloc | apply Kd.R_drewN | apply Kd.R_drew)); exact HO_5.out)⟩; have n1_ : Aside0 (wc.heap[gb186]? = some (.cells #[.int .u32 ((rd_T170 l0 x14_1).f0), .float .f32 ((rd_T170 l0 x14_1).f1), .float .f32 ((rd_T170 l0 x14_1).f2), .float .f32 ((rd_T170 l0 x14_1).f3), .int .u16 ((rd_T170 l0 x14_1).f4), .int .u16 ((rd_T170 l0 x14_1).f5)] 170 (0, 0))) := ⟨by rw [← hq_]; exact (by (with_reducible repeat (first | refine b1_ ?_ _ | refine b2_ ?_ | refine b3_ ?_ _)); exact BK186.out)⟩; have n2_ : Aside0 (Below w.heap.size w wc) := ⟨by rw [← hq_]; exact (by repeat (first | (with_reducible first | exact HB.out | apply below_alloc | apply pw_below_drewN | apply below_drew1 | refine below_set ?_ GE186.out) | exact HB.out))⟩; clear HO_5 BK186 HB hq_; have HO_5 := n0_; have BK186 := n1_; have HB := n2_; clear n0_ n1_ n2_)); have p29 : 0 ≤ (x14_1 : Int) := of_decide_eq_true (by first | (with_reducible assumption) | assumption); have q29 : (x14_1 : Int) < ((x5_1.length : Int) : Int) := of_decide_eq_true (by first | (with_reducible assumption) | assumption); obtain ⟨go29, co29, eo29, gb29, gl29, cl29, HG29⟩ := Kd.R_form HO_5.out (by omega); (first | cases eo29 | (injection eo29 with ea_ en_ ec_; (first | subst ea_ | (injection ea_ with ea_; subst ea_)); subst ec_; clear en_)); have GB29 := Aside0.mk gb29; have GG29 := Aside0.mk HG29; clear gb29 gl29 HG29; obtain ⟨hx29_0, hf29_0⟩ := Kd.R_celln 0 HO_5.out (x14_1 : Int) p29 q29; replace p29 := eq_true p29; replace q29 := eq_true q29; obtain ⟨hy31_, hz31_⟩ := Kd.R_celln 0 HO_5.out (x14_1 : Int) (of_decide_eq_true (by first | (with_reducible assumption) | assumption)) (of_decide_eq_true (by first | (with_reducible assumption) | assumption)); have HP31 := Kd.R_putg HO_5.out (x14_1 : Int) (fi .f64 t188 .i16)) | ((with_reducible refine gate_store (t := 175) (p := 71) rfl ?_); refine store_event (t := 175) (p := 71) (v := ?vo_w32) (w1 := (wc.setCell ⟨go29, (x14_1 : Int).toNat, none⟩ (.int .i16 (fi .f64 t188 .i16)))) ?hg ?ho ?hn ?hr ?_; (case ho => rfl); (case hg => rfl); (case hn => rfl); (case hr => first | (go_simp; done) | (go_simp; rfl)); intro w32 hw; have hg : wc.grownBy w32 (some go29) := (by rw [hw]; exact HP31.2); have hp_ : Kd.R (Kd.int .i16) 175 w32 w.heap.size (fun _ => True) (.slice (some ⟨go29, 0, none⟩) x5_1.length co29) y189 := (by rw [hw, Ny189.out]; exact HP31.1); clear HP31; have n0_ := Aside0.mk (hp_); have n1_ := Aside0.mk (blk_grown (g := gb186) (o := .cells #[.int .u32 ((rd_T170 l0 x14_1).f0), .float .f32 ((rd_T170 l0 x14_1).f1), .float .f32 ((rd_T170 l0 x14_1).f2), .float .f32 ((rd_T170 l0 x14_1).f3), .int .u16 ((rd_T170 l0 x14_1).f4), .int .u16 ((rd_T170 l0 x14_1).f5)] 170 (0, 0)) (by (with_reducible repeat (first | refine b1_ ?_ _ | refine b2_ ?_ | refine b3_ ?_ _)); exact BK186.out) hg (Kd.R_ne HO_5.out BK186.out (by decide))); have n2_ := Aside0.mk ((by rw [hw]; exact below_set (HB.out) GB29.out : Below w.heap.size w w32)); clear HO_5; clear BK186; clear HB; have HO_5 := n0_; have BK186 := n1_; have HB := n2_; clear n0_ n1_ n2_; clear hg hw hp_))
                    go_roundg kj10
                    case measure => have := HK1.out; have := HJ10.out; omega
                    case rel => exact ⟨(y189), (wrap64 (x14_1 + 1)), (by first | rfl | (simp; done) | (simp [*]; done)), H', ⟨by have := HK1.out; have := HJ10.out; omega⟩, ⟨by (with_reducible repeat (first | apply Kd.R_alloc | apply Kd.R_drewN | apply Kd.R_drew)); exact HO_5.out⟩, ⟨by repeat (first | (with_reducible first | exact HB.out | apply below_alloc | apply pw_below_drewN | apply below_drew1 | refine below_set ?_ GE186.out) | exact HB.out)⟩⟩
                   ·rw [if_neg c28] at H
                    exact absurd H (by simp)
                  ·rw [if_neg c27] at H
                   exact absurd H (by simp)
                 ·rw [if_neg c26] at H
                  exact absurd H (by simp)
                ·rw [if_neg c24] at H
                 exact absurd H (by simp)
               ·rw [if_neg c23] at H
                exact absurd H (by simp)
              ·rw [if_neg c22] at H
               exact absurd H (by simp)
             ·rw [if_neg c21] at H
              exact absurd H (by simp)
            ·rw [if_neg c20] at H
             exact absurd H (by simp)
           ·rw [if_neg c19] at H
            have c19b0 : (FloatKind.f32.format.order x8_10 ((rd_T170 l0 x14_1).f2) == some .lt) = false := by simpa using c19
            (try (have c19b1 : decide (FloatKind.f32.format.order x8_10 ((rd_T170 l0 x14_1).f2) = some .lt) = false := by simpa using c19))
            (try (have c19b2 : (FloatKind.f32.format.order x8_10 ((rd_T170 l0 x14_1).f2) == some .lt) = false := by simpa using c19))
            (try (have c19b3 : ¬ (FloatKind.f32.format.order x8_10 ((rd_T170 l0 x14_1).f2) = some .lt) := by simpa using c19))
            clear c19
            by_cases c33 : (FloatKind.f32.format.order x8_10 ((rd_T170 l0 x14_1).f2) == some .gt) = true
            ·rw [if_pos c33] at H
             have c33b0 : (FloatKind.f32.format.order x8_10 ((rd_T170 l0 x14_1).f2) == some .gt) = true := c33
             (try (have c33b1 : decide (FloatKind.f32.format.order x8_10 ((rd_T170 l0 x14_1).f2) = some .gt) = true := by simpa using c33))
             (try (have c33b2 : (FloatKind.f32.format.order x8_10 ((rd_T170 l0 x14_1).f2) == some .gt) = true := by simpa using c33))
             clear c33
             by_cases c34 : fok .sub .f32 x8_10 ((rd_T170 l0 x14_1).f2) = true
             ·rw [if_pos c34] at H
              have c34b0 := eq_true c34
              have c34b1 : decide (fok .sub .f32 x8_10 ((rd_T170 l0 x14_1).f2) = true) = true := decide_eq_true c34
              clear c34
              by_cases c35 : fok .sub .f32 ((rd_T170 l0 x14_1).f3) ((rd_T170 l0 x14_1).f2) = true
              ·rw [if_pos c35] at H
               have c35b0 := eq_true c35
               have c35b1 : decide (fok .sub .f32 ((rd_T170 l0 x14_1).f3) ((rd_T170 l0 x14_1).f2) = true) = true := decide_eq_true c35
               clear c35
               by_cases c36 : fok .quo .f32 (fv .sub .f32 x8_10 ((rd_T170 l0 x14_1).f2)) (fv .sub .f32 ((rd_T170 l0 x14_1).f3) ((rd_T170 l0 x14_1).f2)) = true
               ·rw [if_pos c36] at H
                have c36b0 := eq_true c36
                have c36b1 : decide (fok .quo .f32 (fv .sub .f32 x8_10 ((rd_T170 l0 x14_1).f2)) (fv .sub .f32 ((rd_T170 l0 x14_1).f3) ((rd_T170 l0 x14_1).f2)) = true) = true := decide_eq_true c36
                clear c36
                by_cases c37 : fok .mul .f32 (fv .quo .f32 (fv .sub .f32 x8_10 ((rd_T170 l0 x14_1).f2)) (fv .sub .f32 ((rd_T170 l0 x14_1).f3) ((rd_T170 l0 x14_1).f2))) 1182793728 = true
                ·rw [if_pos c37] at H
                 have c37b0 := eq_true c37
                 have c37b1 : decide (fok .mul .f32 (fv .quo .f32 (fv .sub .f32 x8_10 ((rd_T170 l0 x14_1).f2)) (fv .sub .f32 ((rd_T170 l0 x14_1).f3) ((rd_T170 l0 x14_1).f2))) 1182793728 = true) = true := decide_eq_true c37
                 clear c37
                 by_cases c38 : fcok .f32 (fv .mul .f32 (fv .quo .f32 (fv .sub .f32 x8_10 ((rd_T170 l0 x14_1).f2)) (fv .sub .f32 ((rd_T170 l0 x14_1).f3) ((rd_T170 l0 x14_1).f2))) 1182793728) .f64 = true
                 ·rw [if_pos c38] at H
                  have c38b0 := eq_true c38
                  have c38b1 : decide (fcok .f32 (fv .mul .f32 (fv .quo .f32 (fv .sub .f32 x8_10 ((rd_T170 l0 x14_1).f2)) (fv .sub .f32 ((rd_T170 l0 x14_1).f3) ((rd_T170 l0 x14_1).f2))) 1182793728) .f64 = true) = true := decide_eq_true c38
                  clear c38
                  replace H := Option.bind_eq_some_iff.mp H
                  obtain ⟨t190, A390, H⟩ := H
                  replace H : (if fiok .f64 t190 .i16 = true then (if 0 ≤ x14_1 then (if x14_1 < (x5_1.length : Int) then (font_fvar_normalizeCoordinates.l0 kj10 l1 (x5_1.set (x14_1 : Int).toNat (fi .f64 t190 .i16)) l0 (l0.length : Int) (wrap64 (x14_1 + 1))) else (none)) else (none)) else (none)) = some r := H
                  have A39 := Aside0.mk A390
                  clear A390
                  by_cases c40 : fiok .f64 t190 .i16 = true
                  ·rw [if_pos c40] at H
                   have c40b0 := eq_true c40
                   have c40b1 : decide (fiok .f64 t190 .i16 = true) = true := decide_eq_true c40
                   clear c40
                   by_cases c41 : 0 ≤ x14_1
                   ·rw [if_pos c41] at H
                    have c41b0 : decide (0 ≤ x14_1) = true := decide_eq_true c41
                    clear c41
                    by_cases c42 : x14_1 < (x5_1.length : Int)
                    ·rw [if_pos c42] at H
                     have c42b0 : decide (x14_1 < (x5_1.length : Int)) = true := decide_eq_true c42
                     clear c42
                     obtain ⟨y191, hy191⟩ : ∃ y_ : List Int, y_ = (x5_1.set (x14_1 : Int).toNat (fi .f64 t190 .i16)) := ⟨_, rfl⟩
                     replace H : (font_fvar_normalizeCoordinates.l0 kj10 l1 y191 l0 (l0.length : Int) (wrap64 (x14_1 + 1))) = some r := by first | (rw [hy191]; with_reducible exact H) | (have H2_ := (Option.bind_some _ _).symm.trans H; rw [hy191]; with_reducible exact H2_) | (have H2_ := (Option.bind_some _ _).symm.trans H; with_reducible exact H2_) | with_reducible exact H | (rw [hy191]; exact H) | exact H
                     have Ny191 := Aside0.mk hy191
                     clear hy191
                     have H' := Aside0.mk H
                     clear H
                     have hcz44_0 : wc.cell? ⟨gb186, 0, none⟩ = some (.int .u32 ((rd_T170 l0 x14_1).f0)) := (blk_cell BK186.out 0).trans rfl
                     have hcz44_1 : wc.cell? ⟨gb186, 1, none⟩ = some (.float .f32 ((rd_T170 l0 x14_1).f1)) := (blk_cell BK186.out 1).trans rfl
                     have hcz44_2 : wc.cell? ⟨gb186, 2, none⟩ = some (.float .f32 ((rd_T170 l0 x14_1).f2)) := (blk_cell BK186.out 2).trans rfl
                     have hcz44_3 : wc.cell? ⟨gb186, 3, none⟩ = some (.float .f32 ((rd_T170 l0 x14_1).f3)) := (blk_cell BK186.out 3).trans rfl
                     have hcz44_4 : wc.cell? ⟨gb186, 4, none⟩ = some (.int .u16 ((rd_T170 l0 x14_1).f4)) := (blk_cell BK186.out 4).trans rfl
                     have hcz44_5 : wc.cell? ⟨gb186, 5, none⟩ = some (.int .u16 ((rd_T170 l0 x14_1).f5)) := (blk_cell BK186.out 5).trans rfl
                     have hfz44_0 := blk_frozen BK186.out 0
                     have hfz44_1 := blk_frozen BK186.out 1
                     have hfz44_2 := blk_frozen BK186.out 2
                     have hfz44_3 := blk_frozen BK186.out 3
                     have hfz44_4 := blk_frozen BK186.out 4
                     have hfz44_5 := blk_frozen BK186.out 5
                     go_wp2_with (first | ((with_reducible refine gate_callee (f := 102) rfl ?_); refine goesL_ (some 69) rfl rfl Try.func102 (by kernel_rfl) rfl #[.float .f64 (fc .f32 (fv .mul .f32 (fv .quo .f32 (fv .sub .f32 x8_10 ((rd_T170 l0 x14_1).f2)) (fv .sub .f32 ((rd_T170 l0 x14_1).f3) ((rd_T170 l0 x14_1).f2))) 1182793728) .f64)] rfl (by (try simp only [List.map_toArray, List.map_cons, List.map_nil]); first | done | rfl | (simp only [List.length_drop, List.length_take]; rfl)) ?_; (with_reducible refine (math_Round.calls (fc .f32 (fv .mul .f32 (fv .quo .f32 (fv .sub .f32 x8_10 ((rd_T170 l0 x14_1).f2)) (fv .sub .f32 ((rd_T170 l0 x14_1).f3) ((rd_T170 l0 x14_1).f2))) 1182793728) .f64) t190 _ A39.out).mono ?_); rintro e w' ⟨rfl, ⟨nd, rfl⟩⟩; refine ⟨_, rfl, ?_⟩; (try (rw [drewN_self wc]; generalize hq_ : World.drewN wc _ = wc; have n0_ : Aside0 (Kd.R (Kd.int .i16) 175 wc w.heap.size (fun _ => True) v183 x5_1) := ⟨by rw [← hq_]; exact (by (with_reducible repeat (first | apply Kd.R_alloc | apply Kd.R_drewN | apply Kd.R_drew)); exact HO_5.out)⟩; have n1_ : Aside0 (wc.heap[gb186]? = some (.cells #[.int .u32 ((rd_T170 l0 x14_1).f0), .float .f32 ((rd_T170 l0 x14_1).f1), .float .f32 ((rd_T170 l0 x14_1).f2), .float .f32 ((rd_T170 l0 x14_1).f3), .int .u16 ((rd_T170 l0 x14_1).f4), .int .u16 ((rd_T170 l0 x14_1).f5)] 170 (0, 0))) := ⟨by rw [← hq_]; exact (by (with_reducible repeat (first | refine b1_ ?_ _ | refine b2_ ?_ | refine b3_ ?_ _)); exact BK186.out)⟩; have n2_ : Aside0 (Below w.heap.size w wc) := ⟨by rw [← hq_]; exact (by repeat (first | (with_reducible first | exact HB.out | apply below_alloc | apply pw_below_drewN | apply below_drew1 | refine below_set ?_ GE186.out) | exact HB.out))⟩; clear HO_5 BK186 HB hq_; have HO_5 := n0_; have BK186 := n1_; have HB := n2_; clear n0_ n1_ n2_)); have p43 : 0 ≤ (x14_1 : Int) := of_decide_eq_true (by first | (with_reducible assumption) | assumption); have q43 : (x14_1 : Int) < ((x5_1.length : Int) : Int) := of_decide_eq_true (by first | (with_reducible assumption) | assumption); obtain ⟨go43, co43, eo43, gb43, gl43, cl43, HG43⟩ := Kd.R_form HO_5.out (by omega); (first | cases eo43 | (injection eo43 with ea_ en_ ec_; (first | subst ea_ | (injection ea_ with ea_; subst ea_)); subst ec_; clear en_)); have GB43 := Aside0.mk gb43; have GG43 := Aside0.mk HG43; clear gb43 gl43 HG43; obtain ⟨hx43_0, hf43_0⟩ := Kd.R_celln 0 HO_5.out (x14_1 : Int) p43 q43; replace p43 := eq_true p43; replace q43 := eq_true q43; obtain ⟨hy45_, hz45_⟩ := Kd.R_celln 0 HO_5.out (x14_1 : Int) (of_decide_eq_true (by first | (with_reducible assumption) | assumption)) (of_decide_eq_true (by first | (with_reducible assumption) | assumption)); have HP45 := Kd.R_putg HO_5.out (x14_1 : Int) (fi .f64 t190 .i16)) | ((with_reducible refine gate_store (t := 175) (p := 71) rfl ?_); refine store_event (t := 175) (p := 71) (v := ?vo_w46) (w1 := (wc.setCell ⟨go43, (x14_1 : Int).toNat, none⟩ (.int .i16 (fi .f64 t190 .i16)))) ?hg ?ho ?hn ?hr ?_; (case ho => rfl); (case hg => rfl); (case hn => rfl); (case hr => first | (go_simp; done) | (go_simp; rfl)); intro w46 hw; have hg : wc.grownBy w46 (some go43) := (by rw [hw]; exact HP45.2); have hp_ : Kd.R (Kd.int .i16) 175 w46 w.heap.size (fun _ => True) (.slice (some ⟨go43, 0, none⟩) x5_1.length co43) y191 := (by rw [hw, Ny191.out]; exact HP45.1); clear HP45; have n0_ := Aside0.mk (hp_); have n1_ := Aside0.mk (blk_grown (g := gb186) (o := .cells #[.int .u32 ((rd_T170 l0 x14_1).f0), .float .f32 ((rd_T170 l0 x14_1).f1), .float .f32 ((rd_T170 l0 x14_1).f2), .float .f32 ((rd_T170 l0 x14_1).f3), .int .u16 ((rd_T170 l0 x14_1).f4), .int .u16 ((rd_T170 l0 x14_1).f5)] 170 (0, 0)) (by (with_reducible repeat (first | refine b1_ ?_ _ | refine b2_ ?_ | refine b3_ ?_ _)); exact BK186.out) hg (Kd.R_ne HO_5.out BK186.out (by decide))); have n2_ := Aside0.mk ((by rw [hw]; exact below_set (HB.out) GB43.out : Below w.heap.size w w46)); clear HO_5; clear BK186; clear HB; have HO_5 := n0_; have BK186 := n1_; have HB := n2_; clear n0_ n1_ n2_; clear hg hw hp_))
                     go_roundg kj10
                     case measure => have := HK1.out; have := HJ10.out; omega
                     case rel => exact ⟨(y191), (wrap64 (x14_1 + 1)), (by first | rfl | (simp; done) | (simp [*]; done)), H', ⟨by have := HK1.out; have := HJ10.out; omega⟩, ⟨by (with_reducible repeat (first | apply Kd.R_alloc | apply Kd.R_drewN | apply Kd.R_drew)); exact HO_5.out⟩, ⟨by repeat (first | (with_reducible first | exact HB.out | apply below_alloc | apply pw_below_drewN | apply below_drew1 | refine below_set ?_ GE186.out) | exact HB.out)⟩⟩
                    ·rw [if_neg c42] at H
                     exact absurd H (by simp)
                   ·rw [if_neg c41] at H
                    exact absurd H (by simp)
                  ·rw [if_neg c40] at H
                   exact absurd H (by simp)
                 ·rw [if_neg c38] at H
                  exact absurd H (by simp)
                ·rw [if_neg c37] at H
                 exact absurd H (by simp)
               ·rw [if_neg c36] at H
                exact absurd H (by simp)
              ·rw [if_neg c35] at H
               exact absurd H (by simp)
             ·rw [if_neg c34] at H
              exact absurd H (by simp)
            ·rw [if_neg c33] at H
             have c33b0 : (FloatKind.f32.format.order x8_10 ((rd_T170 l0 x14_1).f2) == some .gt) = false := by simpa using c33
             (try (have c33b1 : decide (FloatKind.f32.format.order x8_10 ((rd_T170 l0 x14_1).f2) = some .gt) = false := by simpa using c33))
             (try (have c33b2 : (FloatKind.f32.format.order x8_10 ((rd_T170 l0 x14_1).f2) == some .gt) = false := by simpa using c33))
             (try (have c33b3 : ¬ (FloatKind.f32.format.order x8_10 ((rd_T170 l0 x14_1).f2) = some .gt) := by simpa using c33))
             clear c33
             by_cases c47 : fok .mul .f32 0 1182793728 = true
             ·rw [if_pos c47] at H
              have c47b0 := eq_true c47
              have c47b1 : decide (fok .mul .f32 0 1182793728 = true) = true := decide_eq_true c47
              clear c47
              by_cases c48 : fcok .f32 (fv .mul .f32 0 1182793728) .f64 = true
              ·rw [if_pos c48] at H
               have c48b0 := eq_true c48
               have c48b1 : decide (fcok .f32 (fv .mul .f32 0 1182793728) .f64 = true) = true := decide_eq_true c48
               clear c48
               replace H := Option.bind_eq_some_iff.mp H
               obtain ⟨t192, A490, H⟩ := H
               replace H : (if fiok .f64 t192 .i16 = true then (if 0 ≤ x14_1 then (if x14_1 < (x5_1.length : Int) then (font_fvar_normalizeCoordinates.l0 kj10 l1 (x5_1.set (x14_1 : Int).toNat (fi .f64 t192 .i16)) l0 (l0.length : Int) (wrap64 (x14_1 + 1))) else (none)) else (none)) else (none)) = some r := H
               have A49 := Aside0.mk A490
               clear A490
               by_cases c50 : fiok .f64 t192 .i16 = true
               ·rw [if_pos c50] at H
                have c50b0 := eq_true c50
                have c50b1 : decide (fiok .f64 t192 .i16 = true) = true := decide_eq_true c50
                clear c50
                by_cases c51 : 0 ≤ x14_1
                ·rw [if_pos c51] at H
                 have c51b0 : decide (0 ≤ x14_1) = true := decide_eq_true c51
                 clear c51
                 by_cases c52 : x14_1 < (x5_1.length : Int)
                 ·rw [if_pos c52] at H
                  have c52b0 : decide (x14_1 < (x5_1.length : Int)) = true := decide_eq_true c52
                  clear c52
                  obtain ⟨y193, hy193⟩ : ∃ y_ : List Int, y_ = (x5_1.set (x14_1 : Int).toNat (fi .f64 t192 .i16)) := ⟨_, rfl⟩
                  replace H : (font_fvar_normalizeCoordinates.l0 kj10 l1 y193 l0 (l0.length : Int) (wrap64 (x14_1 + 1))) = some r := by first | (rw [hy193]; with_reducible exact H) | (have H2_ := (Option.bind_some _ _).symm.trans H; rw [hy193]; with_reducible exact H2_) | (have H2_ := (Option.bind_some _ _).symm.trans H; with_reducible exact H2_) | with_reducible exact H | (rw [hy193]; exact H) | exact H
                  have Ny193 := Aside0.mk hy193
                  clear hy193
                  have H' := Aside0.mk H
                  clear H
                  have hcz54_0 : wc.cell? ⟨gb186, 0, none⟩ = some (.int .u32 ((rd_T170 l0 x14_1).f0)) := (blk_cell BK186.out 0).trans rfl
                  have hcz54_1 : wc.cell? ⟨gb186, 1, none⟩ = some (.float .f32 ((rd_T170 l0 x14_1).f1)) := (blk_cell BK186.out 1).trans rfl
                  have hcz54_2 : wc.cell? ⟨gb186, 2, none⟩ = some (.float .f32 ((rd_T170 l0 x14_1).f2)) := (blk_cell BK186.out 2).trans rfl
                  have hcz54_3 : wc.cell? ⟨gb186, 3, none⟩ = some (.float .f32 ((rd_T170 l0 x14_1).f3)) := (blk_cell BK186.out 3).trans rfl
                  have hcz54_4 : wc.cell? ⟨gb186, 4, none⟩ = some (.int .u16 ((rd_T170 l0 x14_1).f4)) := (blk_cell BK186.out 4).trans rfl
                  have hcz54_5 : wc.cell? ⟨gb186, 5, none⟩ = some (.int .u16 ((rd_T170 l0 x14_1).f5)) := (blk_cell BK186.out 5).trans rfl
                  have hfz54_0 := blk_frozen BK186.out 0
                  have hfz54_1 := blk_frozen BK186.out 1
                  have hfz54_2 := blk_frozen BK186.out 2
                  have hfz54_3 := blk_frozen BK186.out 3
                  have hfz54_4 := blk_frozen BK186.out 4
                  have hfz54_5 := blk_frozen BK186.out 5
                  go_wp2_with (first | ((with_reducible refine gate_callee (f := 102) rfl ?_); refine goesL_ (some 69) rfl rfl Try.func102 (by kernel_rfl) rfl #[.float .f64 (fc .f32 (fv .mul .f32 0 1182793728) .f64)] rfl (by (try simp only [List.map_toArray, List.map_cons, List.map_nil]); first | done | rfl | (simp only [List.length_drop, List.length_take]; rfl)) ?_; (with_reducible refine (math_Round.calls (fc .f32 (fv .mul .f32 0 1182793728) .f64) t192 _ A49.out).mono ?_); rintro e w' ⟨rfl, ⟨nd, rfl⟩⟩; refine ⟨_, rfl, ?_⟩; (try (rw [drewN_self wc]; generalize hq_ : World.drewN wc _ = wc; have n0_ : Aside0 (Kd.R (Kd.int .i16) 175 wc w.heap.size (fun _ => True) v183 x5_1) := ⟨by rw [← hq_]; exact (by (with_reducible repeat (first | apply Kd.R_alloc | apply Kd.R_drewN | apply Kd.R_drew)); exact HO_5.out)⟩; have n1_ : Aside0 (wc.heap[gb186]? = some (.cells #[.int .u32 ((rd_T170 l0 x14_1).f0), .float .f32 ((rd_T170 l0 x14_1).f1), .float .f32 ((rd_T170 l0 x14_1).f2), .float .f32 ((rd_T170 l0 x14_1).f3), .int .u16 ((rd_T170 l0 x14_1).f4), .int .u16 ((rd_T170 l0 x14_1).f5)] 170 (0, 0))) := ⟨by rw [← hq_]; exact (by (with_reducible repeat (first | refine b1_ ?_ _ | refine b2_ ?_ | refine b3_ ?_ _)); exact BK186.out)⟩; have n2_ : Aside0 (Below w.heap.size w wc) := ⟨by rw [← hq_]; exact (by repeat (first | (with_reducible first | exact HB.out | apply below_alloc | apply pw_below_drewN | apply below_drew1 | refine below_set ?_ GE186.out) | exact HB.out))⟩; clear HO_5 BK186 HB hq_; have HO_5 := n0_; have BK186 := n1_; have HB := n2_; clear n0_ n1_ n2_)); have p53 : 0 ≤ (x14_1 : Int) := of_decide_eq_true (by first | (with_reducible assumption) | assumption); have q53 : (x14_1 : Int) < ((x5_1.length : Int) : Int) := of_decide_eq_true (by first | (with_reducible assumption) | assumption); obtain ⟨go53, co53, eo53, gb53, gl53, cl53, HG53⟩ := Kd.R_form HO_5.out (by omega); (first | cases eo53 | (injection eo53 with ea_ en_ ec_; (first | subst ea_ | (injection ea_ with ea_; subst ea_)); subst ec_; clear en_)); have GB53 := Aside0.mk gb53; have GG53 := Aside0.mk HG53; clear gb53 gl53 HG53; obtain ⟨hx53_0, hf53_0⟩ := Kd.R_celln 0 HO_5.out (x14_1 : Int) p53 q53; replace p53 := eq_true p53; replace q53 := eq_true q53; obtain ⟨hy55_, hz55_⟩ := Kd.R_celln 0 HO_5.out (x14_1 : Int) (of_decide_eq_true (by first | (with_reducible assumption) | assumption)) (of_decide_eq_true (by first | (with_reducible assumption) | assumption)); have HP55 := Kd.R_putg HO_5.out (x14_1 : Int) (fi .f64 t192 .i16)) | ((with_reducible refine gate_store (t := 175) (p := 71) rfl ?_); refine store_event (t := 175) (p := 71) (v := ?vo_w56) (w1 := (wc.setCell ⟨go53, (x14_1 : Int).toNat, none⟩ (.int .i16 (fi .f64 t192 .i16)))) ?hg ?ho ?hn ?hr ?_; (case ho => rfl); (case hg => rfl); (case hn => rfl); (case hr => first | (go_simp; done) | (go_simp; rfl)); intro w56 hw; have hg : wc.grownBy w56 (some go53) := (by rw [hw]; exact HP55.2); have hp_ : Kd.R (Kd.int .i16) 175 w56 w.heap.size (fun _ => True) (.slice (some ⟨go53, 0, none⟩) x5_1.length co53) y193 := (by rw [hw, Ny193.out]; exact HP55.1); clear HP55; have n0_ := Aside0.mk (hp_); have n1_ := Aside0.mk (blk_grown (g := gb186) (o := .cells #[.int .u32 ((rd_T170 l0 x14_1).f0), .float .f32 ((rd_T170 l0 x14_1).f1), .float .f32 ((rd_T170 l0 x14_1).f2), .float .f32 ((rd_T170 l0 x14_1).f3), .int .u16 ((rd_T170 l0 x14_1).f4), .int .u16 ((rd_T170 l0 x14_1).f5)] 170 (0, 0)) (by (with_reducible repeat (first | refine b1_ ?_ _ | refine b2_ ?_ | refine b3_ ?_ _)); exact BK186.out) hg (Kd.R_ne HO_5.out BK186.out (by decide))); have n2_ := Aside0.mk ((by rw [hw]; exact below_set (HB.out) GB53.out : Below w.heap.size w w56)); clear HO_5; clear BK186; clear HB; have HO_5 := n0_; have BK186 := n1_; have HB := n2_; clear n0_ n1_ n2_; clear hg hw hp_))
                  go_roundg kj10
                  case measure => have := HK1.out; have := HJ10.out; omega
                  case rel => exact ⟨(y193), (wrap64 (x14_1 + 1)), (by first | rfl | (simp; done) | (simp [*]; done)), H', ⟨by have := HK1.out; have := HJ10.out; omega⟩, ⟨by (with_reducible repeat (first | apply Kd.R_alloc | apply Kd.R_drewN | apply Kd.R_drew)); exact HO_5.out⟩, ⟨by repeat (first | (with_reducible first | exact HB.out | apply below_alloc | apply pw_below_drewN | apply below_drew1 | refine below_set ?_ GE186.out) | exact HB.out)⟩⟩
                 ·rw [if_neg c52] at H
                  exact absurd H (by simp)
                ·rw [if_neg c51] at H
                 exact absurd H (by simp)
               ·rw [if_neg c50] at H
                exact absurd H (by simp)
              ·rw [if_neg c48] at H
               exact absurd H (by simp)
             ·rw [if_neg c47] at H
              exact absurd H (by simp)
        ·rw [if_neg c10] at H
         exact absurd H (by simp)
       ·rw [if_neg c9] at H
        exact absurd H (by simp)
      ·rw [if_neg c8] at H
       exact absurd H (by simp)
     ·rw [if_neg c7] at H
      have c7b0 : decide (x14_1 < (l0.length : Int)) = false := decide_eq_false c7
      clear c7
      obtain rfl := Option.some.inj H
      go_wp2
      go_ret
      exact ⟨_, by first | rfl | (simp [errW_none, errW_some] <;> rfl) | (simp [*, errW_none, errW_some] <;> rfl), by (with_reducible repeat (first | apply Kd.R_alloc | apply Kd.R_drewN | apply Kd.R_drew)); exact HO_5.out, by repeat (first | (with_reducible first | exact HB.out | apply below_alloc | apply pw_below_drewN | apply below_drew1) | exact HB.out)⟩
  ·rw [if_neg c4] at H
   exact absurd H (by simp)
 ·rw [if_neg c3] at H
  exact absurd H (by simp)

/-! ### tables_abs: function 103 -/
def tables_abs.f (a0 : Int) : Option (Int) := if a0 < 0 then (some (IntKind.i16.wrap (-a0))) else (some a0)
set_option maxHeartbeats 8000000 in
set_option maxRecDepth 100000 in
theorem tables_abs.calls (a0 : Int) (r : Int) (w : World) (h : tables_abs.f a0 = some r) :
  Calls Try.prog 103 #[.int .i16 a0] w fun e w' => e = .returned (.int .i16 r) ∧ Drawn0 w w' := by
 have H : (if a0 < 0 then (some (IntKind.i16.wrap (-a0))) else (some a0)) = some r := h
 clear h
 by_cases c2 : a0 < 0
 ·rw [if_pos c2] at H
  have c2b0 : decide (a0 < 0) = true := decide_eq_true c2
  clear c2
  obtain rfl := Option.some.inj H
  go_enter Try.func103, Try.ntmps103
  go_wp2
  go_ret
  exact ⟨by first | rfl | (simp; done) | (simp [*]; done), by repeat (first | exact Drawn0.refl _ | apply Drawn0.step)⟩
 ·rw [if_neg c2] at H
  have c2b0 : decide (a0 < 0) = false := decide_eq_false c2
  clear c2
  obtain rfl := Option.some.inj H
  go_enter Try.func103, Try.ntmps103
  go_wp2
  go_ret
  exact ⟨by first | rfl | (simp; done) | (simp [*]; done), by repeat (first | exact Drawn0.refl _ | apply Drawn0.step)⟩

end Go.Proofs.Ytlbmfnjhpojghaa.PFnNormalized
