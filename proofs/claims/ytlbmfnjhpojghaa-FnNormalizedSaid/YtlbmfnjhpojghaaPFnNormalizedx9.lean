-- Written by a program of this session (xprint) out of the translation; Lean checks it.
import Derived.Test.YtlbmfnjhpojghaaPFnNormalizedx0
import Derived.Test.YtlbmfnjhpojghaaPFnNormalizedx7
import Derived.Test.YtlbmfnjhpojghaaPFnNormalizedx8
namespace Go.Proofs.Ytlbmfnjhpojghaa.PFnNormalized
open Go.RowKit Go.Proofs.YtlbmfnjhpojghaaW.PrintWords Go.Proofs.YtlbmfnjhpojghaaW.PrintLast Go.Proofs.YtlbmfnjhpojghaaW.PrintMore
attribute [local go_sem] max2_int min2_int max_two min_two max_three min_three max_four min_four   -- for this text's walks alone
set_option linter.unusedVariables false
set_option linter.unusedSimpArgs false

attribute [local go_sem] f_add f_sub f_mul f_quo f_conv f_same f_int f_max f_min f_neg f_store
/-! ### font_Font_NormalizeVariations: function 68 -/
def font_Font_NormalizeVariations.l0 : Nat → List Int → List (S174) → Int → Int → Option (List Int)
 | 0, _, _, _, _ => none
 | k + 1, x5, x18, x19, x20 => if x20 < x19 then (if 0 ≤ x20 then (if x20 < (x18.length : Int) then (if x20 < (x5.length : Int) then ((tables_SegmentMaps_Map.f k ((rd_T174 x18 x20).f0) (rd x5 x20)).bind fun t231 => (font_Font_NormalizeVariations.l0 k (x5.set (x20 : Int).toNat t231) x18 x19 (wrap64 (x20 + 1)))) else (none)) else (none)) else (none)) else (some x5)
def font_Font_NormalizeVariations.f (k : Nat) (l0 : List (S170)) (l1 : List Nat) (l2 : List (S174)) : Option (List Int) := (font_fvar_normalizeCoordinates.f k l0 l1).bind fun t225 => (font_Font_NormalizeVariations.l0 k t225 l2 (l2.length : Int) 0)
theorem font_Font_NormalizeVariations.mono_l : ∀ k, (∀ y0 y1 y2 y3, LeO (font_Font_NormalizeVariations.l0 k y0 y1 y2 y3) (font_Font_NormalizeVariations.l0 (k + 1) y0 y1 y2 y3))
 | 0 => fun _ _ _ _ r h => by simp [font_Font_NormalizeVariations.l0] at h
 | k + 1 => by
  have ih0 := font_Font_NormalizeVariations.mono_l k
  ·intro y0 y1 y2 y3
   unfold font_Font_NormalizeVariations.l0
   repeat' first
   | (with_reducible exact ih0 _ _ _ _)
   | (with_reducible exact font_fvar_normalizeCoordinates.mono _ _ _)
   | (with_reducible exact tables_SegmentMaps_Map.mono _ _ _)
   | (with_reducible exact LeO.refl _)
   | (with_reducible exact LeO.none _)
   | (with_reducible refine LeO.ite ?_ ?_)
   | (with_reducible refine LeO.bind ?_ (fun _ => ?_))
   | exact ih0 _ _ _ _
   | exact font_fvar_normalizeCoordinates.mono _ _ _
   | exact tables_SegmentMaps_Map.mono _ _ _
   | exact LeO.none _
   | refine LeO.ite ?_ ?_
   | refine LeO.bind ?_ (fun _ => ?_)
theorem font_Font_NormalizeVariations.mono : ∀ a0 a1 a2 k, LeO (font_Font_NormalizeVariations.f k a0 a1 a2) (font_Font_NormalizeVariations.f (k + 1) a0 a1 a2) := by
 intro a0 a1 a2 k
 have ih0 := font_Font_NormalizeVariations.mono_l k
 unfold font_Font_NormalizeVariations.f
 repeat' first
   | (with_reducible exact ih0 _ _ _ _)
   | (with_reducible exact font_fvar_normalizeCoordinates.mono _ _ _)
   | (with_reducible exact tables_SegmentMaps_Map.mono _ _ _)
   | (with_reducible exact LeO.refl _)
   | (with_reducible exact LeO.none _)
   | (with_reducible refine LeO.ite ?_ ?_)
   | (with_reducible refine LeO.bind ?_ (fun _ => ?_))
   | exact ih0 _ _ _ _
   | exact font_fvar_normalizeCoordinates.mono _ _ _
   | exact tables_SegmentMaps_Map.mono _ _ _
   | exact LeO.none _
   | refine LeO.ite ?_ ?_
   | refine LeO.bind ?_ (fun _ => ?_)
def font_Font_NormalizeVariations.T5 : Bool × List (List Nat × List Nat) := (true, [([], []), ([], []), ([], []), ([], []), ([], []), ([3, 4], [3, 4]), ([5], [5]), ([2, 6], [2, 6]), ([0, 1, 0, 1, 2, 3, 4, 5, 6, 7], [0, 1]), ([8, 7, 7, 0, 1, 2, 3, 4, 5, 6, 7], [7, 8])])
def font_Font_NormalizeVariations.B5 : List Nat := [0, 0, 0, 0, 0, 24, 56, 124, 255, 511]
theorem font_Font_NormalizeVariations.tab5 : rtab .any (opsOf Try.f68 5) = font_Font_NormalizeVariations.T5 := by kernel_rfl
theorem font_Font_NormalizeVariations.bits5 : waitsOk font_Font_NormalizeVariations.T5.2 font_Font_NormalizeVariations.B5 = true := by kernel_rfl
set_option maxHeartbeats 8000000 in
set_option maxRecDepth 100000 in
theorem font_Font_NormalizeVariations.calls (k : Nat) (A0 : Option Addr) (c0 : Nat) (l0 : List (S170)) (A1 : Option Addr) (c1 : Nat) (l1 : List Nat) (A2 : Option Addr) (c2 : Nat) (l2 : List (S174)) (r : List Int) (gf : Nat) (w : World) (hF0 : w.cell? ⟨gf, 63, none⟩ = some (.slice A0 l0.length c0)) (hF1 : w.cell? ⟨gf, 69, none⟩ = some (.slice A2 l2.length c2)) (hr0 : Kd.C k170 w A0 l0.length l0) (hc0 : l0.length ≤ c0) (hr1 : Kd.C (kflt .f32) w A1 l1.length l1) (hc1 : l1.length ≤ c1) (hr2 : Kd.C k174 w A2 l2.length l2) (hc2 : l2.length ≤ c2) (h : font_Font_NormalizeVariations.f k l0 l1 l2 = some r) :
  Calls Try.prog 68 #[.pointer (some ⟨gf, 0, none⟩), .slice A1 l1.length c1] w fun e w' => ∃ v0_ : Value, e = .returned (v0_) ∧ Kd.R (Kd.int .i16) 175 w' w.heap.size (fun _ => True) v0_ r ∧ Below w.heap.size w w' := by
 have hu174 := Try.underlying174
 have hu310 := Try.underlying310
 have hu222 := Try.underlying222
 have hu259 := Try.underlying259
 have hu171 := Try.underlying171
 have HR0 := Aside0.mk hr0
 have HC0 := Aside0.mk hc0
 clear hr0 hc0
 have HR1 := Aside0.mk hr1
 have HC1 := Aside0.mk hc1
 clear hr1 hc1
 have HR2 := Aside0.mk hr2
 have HC2 := Aside0.mk hc2
 clear hr2 hc2
 have HB := Aside0.mk (Below.refl w.heap.size w)
 have H : ((font_fvar_normalizeCoordinates.f k l0 l1).bind fun t225 => (font_Font_NormalizeVariations.l0 k t225 l2 (l2.length : Int) 0)) = some r := h
 clear h
 replace H := Option.bind_eq_some_iff.mp H
 obtain ⟨t225, A40, H⟩ := H
 replace H : (font_Font_NormalizeVariations.l0 k t225 l2 (l2.length : Int) 0) = some r := H
 have A4 := Aside0.mk A40
 clear A40
 have H' := Aside0.mk H
 clear H
 go_enter Try.func68, Try.ntmps68
 go_wp2_with (first | ((with_reducible refine gate_callee (f := 88) rfl ?_); refine goesL_ (some 13) rfl rfl Try.func88 (by kernel_rfl) rfl #[.slice A0 l0.length c0, .slice A1 l1.length c1] rfl (by (try simp only [List.map_toArray, List.map_cons, List.map_nil]); first | done | rfl | (simp only [List.length_drop, List.length_take]; rfl)) ?_; (with_reducible refine (font_fvar_normalizeCoordinates.calls k _ _ l0 _ _ l1 t225 _ ?side1 ?side2 ?side3 ?side4 A4.out).mono ?_); (case side1 => repeat (first | exact HR0.out | (with_reducible refine Kd.C_alloc ?_ _) | (with_reducible refine Kd.C_drewN ?_ _) | (with_reducible refine Kd.C_drew ?_))); (case side2 => exact HC0.out); (case side3 => repeat (first | exact HR1.out | (with_reducible refine Kd.C_alloc ?_ _) | (with_reducible refine Kd.C_drewN ?_ _) | (with_reducible refine Kd.C_drew ?_))); (case side4 => exact HC1.out); rintro e w5 ⟨v226, rfl, ho0, hb⟩; refine ⟨_, rfl, ?_⟩; have n0_ := Aside0.mk (Kd.R_lower ho0 (below_size (by repeat (first | (with_reducible first | exact HB.out | apply below_alloc | apply pw_below_drewN | apply below_drew1) | exact HB.out)))); have n1_ := Aside0.mk (below_step (by repeat (first | (with_reducible first | exact HB.out | apply below_alloc | apply pw_below_drewN | apply below_drew1) | exact HB.out)) hb); clear HB; have HO227 := n0_; have HB := n1_; clear n0_ n1_; have hF1_ := (HB.out.cell (World.block_lt_of_cell? w _ hF1)).trans hF1; (try clear hb); (try clear hb2); (try clear hk); (try clear hi); (try clear ho0)))
 go_loopg [20] k (fun kq v20 w' => ∃ (x5_1 : List Int) (x20_1 : Int), v20 = .int .i64 x20_1 ∧ Aside0 (font_Font_NormalizeVariations.l0 kq x5_1 l2 (l2.length : Int) x20_1 = some r) ∧ Aside0 (kq ≤ k) ∧ Aside0 (Kd.R (Kd.int .i16) 175 w' w.heap.size (fun _ => True) v226 x5_1) ∧ Aside0 (Below w.heap.size w w'))
 case atStart => exact ⟨(t225), (0), (by first | rfl | (simp; done) | (simp [*]; done)), H', ⟨Nat.le_refl _⟩, ⟨by (with_reducible repeat (first | apply Kd.R_alloc | apply Kd.R_drewN | apply Kd.R_drew)); exact HO227.out⟩, ⟨by repeat (first | (with_reducible first | exact HB.out | apply below_alloc | apply pw_below_drewN | apply below_drew1) | exact HB.out)⟩⟩
 case round =>
  clear H'
  try clear c1
  try clear c2
  try clear p2
  obtain ⟨x5_1, x20_1, rfl, HA, HK1, HO_5, HB⟩ := hrel
  cases gk with
  | zero => exact absurd HA.out (by simp [font_Font_NormalizeVariations.l0])
  | succ k1 =>
   have H := HA.out
   clear HA
   simp only [font_Font_NormalizeVariations.l0] at H
   by_cases c6 : x20_1 < (l2.length : Int)
   ·rw [if_pos c6] at H
    have c6b0 : decide (x20_1 < (l2.length : Int)) = true := decide_eq_true c6
    clear c6
    by_cases c7 : 0 ≤ x20_1
    ·rw [if_pos c7] at H
     have c7b0 : decide (0 ≤ x20_1) = true := decide_eq_true c7
     clear c7
     by_cases c8 : x20_1 < (l2.length : Int)
     ·rw [if_pos c8] at H
      have c8b0 : decide (x20_1 < (l2.length : Int)) = true := decide_eq_true c8
      clear c8
      by_cases c9 : x20_1 < (x5_1.length : Int)
      ·rw [if_pos c9] at H
       have c9b0 : decide (x20_1 < (x5_1.length : Int)) = true := decide_eq_true c9
       clear c9
       replace H := Option.bind_eq_some_iff.mp H
       obtain ⟨t231, A100, H⟩ := H
       replace H : (font_Font_NormalizeVariations.l0 k1 (x5_1.set (x20_1 : Int).toNat t231) l2 (l2.length : Int) (wrap64 (x20_1 + 1))) = some r := H
       have A10 := Aside0.mk A100
       clear A100
       obtain ⟨y232, hy232⟩ : ∃ y_ : List Int, y_ = (x5_1.set (x20_1 : Int).toNat t231) := ⟨_, rfl⟩
       replace H : (font_Font_NormalizeVariations.l0 k1 y232 l2 (l2.length : Int) (wrap64 (x20_1 + 1))) = some r := by first | (rw [hy232]; with_reducible exact H) | (have H2_ := (Option.bind_some _ _).symm.trans H; rw [hy232]; with_reducible exact H2_) | (have H2_ := (Option.bind_some _ _).symm.trans H; with_reducible exact H2_) | with_reducible exact H | (rw [hy232]; exact H) | exact H
       have Ny232 := Aside0.mk hy232
       clear hy232
       have H' := Aside0.mk H
       clear H
       have p228 : 0 ≤ (x20_1 : Int) := of_decide_eq_true (by first | (with_reducible assumption) | assumption)
       have q228 : x20_1 < (l2.length : Int) := of_decide_eq_true (by first | (with_reducible assumption) | assumption)
       obtain ⟨ad228, A228_0, c228_0, e228, hx228_0, hl228_0, hi228_0⟩ := at_T174 HR2.out x20_1 p228 q228
       cases e228
       replace hx228_0 := (HB.out.cell (World.block_lt_of_cell? w _ hx228_0)).trans hx228_0
       have HR228_0 := Aside0.mk hi228_0
       have HC228_0 := Aside0.mk hl228_0
       clear hi228_0 hl228_0
       replace p228 := eq_true p228
       replace q228 := eq_true q228
       try go_wp2_with (first | ((with_reducible refine gate_dst (N := 7) rfl ?_); refine box_event ?hg (N := 7) ?hd (cs := #[.slice none 0 0]) (t := 174) ?hr ?_; (case hd => rfl); (case hg => rfl); (case hr => first | (go_simp; done) | (go_simp; rfl)); intro gb229 hg w12 hbox hb; have n0_ := Aside0.mk (Kd.R_below (by (with_reducible repeat (first | apply Kd.R_alloc | apply Kd.R_drewN | apply Kd.R_drew)); exact HO_5.out) hb); have n1_ := Aside0.mk (below_step (by repeat (first | (with_reducible first | exact HB.out | apply below_alloc | apply pw_below_drewN | apply below_drew1) | exact HB.out)) hb); have n2_ := Aside0.mk (hbox); have n3_ := Aside0.mk ((by rw [hg]; exact (below_size (by repeat (first | (with_reducible first | exact HB.out | apply below_alloc | apply pw_below_drewN | apply below_drew1) | exact HB.out))) : w.heap.size ≤ gb229)); have n4_ := Aside0.mk ((by rw [hg]; exact (below_size (by repeat (first | (with_reducible first | exact HB.out | apply below_alloc | apply pw_below_drewN | apply below_drew1) | exact HB.out))) : w.heap.size ≤ gb229)); clear HO_5; clear HB; have HO_5 := n0_; have HB := n1_; have BK229 := n2_; have GW229 := n3_; have GE229 := n4_; clear n0_ n1_ n2_ n3_ n4_; clear hb hbox hg; have hcz13_0 : w12.cell? ⟨gb229, 0, none⟩ = some (.slice none 0 0) := (blk_cell BK229.out 0).trans rfl; have hfz13_0 := blk_frozen BK229.out 0))
       have n0_ : Aside0 (Kd.R (Kd.int .i16) 175 (w12.setCell ⟨gb229, 0, none⟩ (.slice A228_0 ((rd_T174 l2 x20_1).f0).length c228_0)) w.heap.size (fun _ => True) v226 x5_1) := ⟨by (with_reducible repeat (first | apply Kd.R_alloc | apply Kd.R_drewN | apply Kd.R_drew)); exact Kd.R_mono (Kd.R_far (p := ⟨gb229, 0, none⟩) (Kd.R_types HO_5.out BK229.out (by decide)) (fun _ hk => hk.2) (.slice A228_0 ((rd_T174 l2 x20_1).f0).length c228_0)) (fun _ hk => trivial)⟩
       have n1_ : Aside0 ((w12.setCell ⟨gb229, 0, none⟩ (.slice A228_0 ((rd_T174 l2 x20_1).f0).length c228_0)).heap[gb229]? = some (.cells #[.slice A228_0 ((rd_T174 l2 x20_1).f0).length c228_0] 174 (0, 0))) := ⟨by (with_reducible repeat (first | refine b1_ ?_ _ | refine b2_ ?_ | refine b3_ ?_ _)); refine blk_put (cs := #[.slice none 0 0]) ?_ 0 _ rfl; (with_reducible repeat (first | refine b1_ ?_ _ | refine b2_ ?_ | refine b3_ ?_ _)); exact BK229.out⟩
       have n2_ : Aside0 (Below w.heap.size w (w12.setCell ⟨gb229, 0, none⟩ (.slice A228_0 ((rd_T174 l2 x20_1).f0).length c228_0))) := ⟨by repeat (first | (with_reducible first | exact HB.out | apply below_alloc | apply pw_below_drewN | apply below_drew1 | refine below_set ?_ GE229.out) | exact HB.out)⟩
       (try clear HO_5)
       (try clear BK229)
       (try clear HB)
       generalize (w12.setCell ⟨gb229, 0, none⟩ (.slice A228_0 ((rd_T174 l2 x20_1).f0).length c228_0)) = w14 at n0_ n1_ n2_ ⊢
       have HO_5 := n0_
       have BK229 := n1_
       have HB := n2_
       clear n0_ n1_ n2_
       have n0_ := Aside0.mk (Kd.R_drew HO_5.out)
       have n1_ := Aside0.mk (blk_drew BK229.out)
       have n2_ := Aside0.mk (below_drew1 HB.out)
       clear HO_5
       clear BK229
       clear HB
       have HO_5 := n0_
       have BK229 := n1_
       have HB := n2_
       clear n0_ n1_ n2_
       obtain ⟨Ao16, co16, eo16⟩ := Kd.R_slice HO_5.out
       (first | subst eo16 | (injection eo16 with f1_ f2_ f3_; have f4_ := f1_.symm; have f5_ := f3_.symm; clear f1_ f2_ f3_; subst f4_; subst f5_))
       have p230 : 0 ≤ (x20_1 : Int) := of_decide_eq_true (by first | (with_reducible assumption) | assumption)
       have q230 : x20_1 < (x5_1.length : Int) := of_decide_eq_true (by first | (with_reducible assumption) | assumption)
       obtain ⟨ad230, e230, hx230_0⟩ := Kd.at_int (Kd.R_reads' HO_5.out).2.2 x20_1 p230 q230
       cases e230
       replace p230 := eq_true p230
       replace q230 := eq_true q230
       refine start_ (n := 10) (S := fun w' => w'.cell? ⟨gb229, 0, none⟩ = some (.slice A228_0 ((rd_T174 l2 x20_1).f0).length c228_0) ∧ w'.cell? (ad230.add (x20_1).toNat) = some (.int .i16 (rd x5_1 x20_1))) (ds := [9]) #[ff,ff,ff,ff,ff,ff,ff,ff,ff,ff] (by kernel_rfl) rfl rfl ⟨(blk_cell BK229.out 0).trans rfl, hx230_0⟩ (fun hHeld => ?_); refine with_tabW font_Font_NormalizeVariations.tab5 font_Font_NormalizeVariations.bits5 (fun HT_ HW_ => ?_)
       generalize w14.drew = w15 at HO_5 BK229 HB hx230_0 hHeld ⊢
       refine pure_ (i := 0) (N := some 25) (v := ?_) (a' := ?_) #[tt,ff,ff,ff,ff,ff,ff,ff,ff,ff] rfl rfl (any_of HT_.out (by kernel_rfl)) (fun _ _ _ h => h) (Or.inl ⟨by rfl, ?_⟩) ?_ ?_
       rotate_left
       ·intro w'
        go_simp
        with_reducible rfl
       rotate_left
       ·simp only [Act.put, L1_, L2_, L3_, i64_w, i32_w]
        rfl
       refine pure_ (i := 1) (N := some 26) (v := ?_) (a' := ?_) #[tt,tt,ff,ff,ff,ff,ff,ff,ff,ff] rfl rfl (any_of HT_.out (by kernel_rfl)) (fun _ _ _ h => h) (Or.inl ⟨by rfl, ?_⟩) ?_ ?_
       rotate_left
       ·intro w'
        go_simp
        with_reducible rfl
       rotate_left
       ·simp only [Act.put, L1_, L2_, L3_, i64_w, i32_w]
        rfl
       refine pure_ (i := 3) (N := some 28) (v := ?_) (a' := ?_) #[tt,tt,ff,tt,ff,ff,ff,ff,ff,ff] rfl rfl (any_of HT_.out (by kernel_rfl)) (fun _ _ _ h => h) (Or.inl ⟨by rfl, ?_⟩) ?_ ?_
       rotate_left
       ·intro w'
        go_simp
        with_reducible rfl
       rotate_left
       ·simp only [Act.put, L1_, L2_, L3_, i64_w, i32_w]
        rfl
       refine pure_ (i := 4) (N := some 29) (v := ?_) (a' := ?_) #[tt,tt,ff,tt,tt,ff,ff,ff,ff,ff] rfl rfl (any_of HT_.out (by kernel_rfl)) (fun _ _ _ h => h) (Or.inl ⟨by rfl, ?_⟩) ?_ ?_
       rotate_left
       ·intro w'
        go_simp
        with_reducible rfl
       rotate_left
       ·simp only [Act.put, L1_, L2_, L3_, i64_w, i32_w]
        rfl
       refine pure_ (i := 5) (N := some 30) (v := ?_) (a' := ?_) #[tt,tt,ff,tt,tt,tt,ff,ff,ff,ff] rfl rfl (any_of HT_.out (by kernel_rfl)) (fun _ _ _ h => h) (Or.inl ⟨by rfl, ?_⟩) ?_ ?_
       rotate_left
       ·intro w'
        go_simp
        with_reducible rfl
       rotate_left
       ·simp only [Act.put, L1_, L2_, L3_, i64_w, i32_w]
        rfl
       refine take_ (i := 2) (N := some 27) (v := ?_) (a' := ?_) #[tt,tt,tt,tt,tt,tt,ff,ff,ff,ff] rfl rfl (take_ofW HT_.out HW_.out (by kernel_rfl)) (fun _ _ _ h => h) (Or.inl ⟨by rfl, ?_⟩) hHeld ?_ ?_
       rotate_left
       ·rintro w' ⟨s0, s1⟩
        go_simp
        with_reducible rfl
       rotate_left
       ·simp only [Act.put, L1_, L2_, L3_, i64_w, i32_w]
        rfl
       refine take_ (i := 6) (N := some 31) (v := ?_) (a' := ?_) #[tt,tt,tt,tt,tt,tt,tt,ff,ff,ff] rfl rfl (take_ofW HT_.out HW_.out (by kernel_rfl)) (fun _ _ _ h => h) (Or.inl ⟨by rfl, ?_⟩) hHeld ?_ ?_
       rotate_left
       ·rintro w' ⟨s0, s1⟩
        go_simp
        with_reducible rfl
       rotate_left
       ·simp only [Act.put, L1_, L2_, L3_, i64_w, i32_w]
        rfl
       refine one_ (i := 7) (N := some 32) #[true, true, true, true, true, true, true, true, false, false] rfl rfl (one_of HT_.out (by kernel_rfl)) (by decide) (fun K hK => ?_)
       refine goes_ Try.func89 (by kernel_rfl) rfl #[.agg #[.slice A228_0 ((rd_T174 l2 x20_1).f0).length c228_0], .int .i16 (rd x5_1 x20_1)] (by rfl) rfl rfl (by (try simp only [List.map_toArray, List.map_cons, List.map_nil]); first | done | rfl | (simp only [List.length_drop, List.length_take]; rfl)) ?_
       with_reducible refine (tables_SegmentMaps_Map.calls k1 _ _ ((rd_T174 l2 x20_1).f0) (rd x5_1 x20_1) t231 _ ?side1 ?side2 A10.out).mono ?_
       (case side1 => repeat (first | exact (Kd.C_below HR228_0.out HB.out) | (with_reducible refine Kd.C_alloc ?_ _) | (with_reducible refine Kd.C_drewN ?_ _) | (with_reducible refine Kd.C_drew ?_)))
       (case side2 => exact HC228_0.out)
       rintro e w17 ⟨rfl, hb⟩
       have HS1_ := (hb.cell (World.block_lt_of_cell? _ _ (hHeld.2))).trans (hHeld.2)
       refine ⟨_, rfl, ?_⟩
       have n0_ := Aside0.mk (Kd.R_below (by (with_reducible repeat (first | apply Kd.R_alloc | apply Kd.R_drewN | apply Kd.R_drew)); exact HO_5.out) hb)
       have n1_ := Aside0.mk (blk_below (g := gb229) (o := .cells #[.slice A228_0 ((rd_T174 l2 x20_1).f0).length c228_0] 174 (0, 0)) (by (with_reducible repeat (first | refine b1_ ?_ _ | refine b2_ ?_ | refine b3_ ?_ _)); exact BK229.out) hb)
       have n2_ := Aside0.mk (below_step (by repeat (first | (with_reducible first | exact HB.out | apply below_alloc | apply pw_below_drewN | apply below_drew1 | refine below_set ?_ GE229.out) | exact HB.out)) hb)
       clear HO_5
       clear BK229
       clear HB
       have HO_5 := n0_
       have BK229 := n1_
       have HB := n2_
       clear n0_ n1_ n2_
       (try clear hb)
       (try clear hb2)
       (try clear hk)
       (try clear hi)
       have p11 : 0 ≤ (x20_1 : Int) := of_decide_eq_true (by first | (with_reducible assumption) | assumption)
       have q11 : (x20_1 : Int) < ((x5_1.length : Int) : Int) := of_decide_eq_true (by first | (with_reducible assumption) | assumption)
       obtain ⟨go11, co11, eo11, gb11, gl11, cl11, HG11⟩ := Kd.R_form HO_5.out (by omega)
       (first | cases eo11 | (injection eo11 with ea_ en_ ec_; (first | subst ea_ | (injection ea_ with ea_; subst ea_)); subst ec_; clear en_))
       have GB11 := Aside0.mk gb11
       have GG11 := Aside0.mk HG11
       clear gb11 gl11 HG11
       (first | simp only [add_plain] at hx230_0 | skip)
       obtain ⟨hx11_0, hf11_0⟩ := Kd.R_celln 0 HO_5.out (x20_1 : Int) p11 q11
       replace p11 := eq_true p11
       replace q11 := eq_true q11
       have HP18 := Kd.R_putn HO_5.out (x20_1 : Int) t231
       rw [← Ny232.out] at HP18
       have HQ18 := Aside0.mk HP18
       clear HP18
       refine hK.out _ _ ⟨(blk_cell BK229.out 0).trans rfl, HS1_⟩ (fun hHeld => ?_)
       clear hK K
       refine norm_ (a' := ?_) ?_ ?_
       rotate_left
       ·show Act.put _ (some 32) _ = _
        simp only [Act.put, L1_, L2_, L3_, i64_w, i32_w]
        rfl
       refine pure_ (i := 8) (N := some 33) (v := ?_) (a' := ?_) #[true, true, true, true, true, true, true, true, true, false] rfl rfl (any_of HT_.out (by kernel_rfl)) (fun _ _ _ h => h) (Or.inl ⟨by rfl, ?_⟩) ?_ ?_
       rotate_left
       ·intro w'
        go_simp
        with_reducible rfl
       rotate_left
       ·simp only [Act.put, L1_, L2_, L3_, i64_w, i32_w]
        rfl
       refine last_ (i := 9) (N := none) #[true, true, true, true, true, true, true, true, true, true] rfl rfl (one_of HT_.out (by kernel_rfl)) (by decide) (fun K hK => ?_)
       refine skip_ (w1 := ?_) (by rfl) rfl ?_ ?_
       rotate_left
       ·go_simp
        rfl
       refine hK.out _ _ ?_
       clear hK K
       refine done_ (done_of HT_.out (by kernel_rfl)) ?_
       try go_wp2
       go_roundg k1
       case measure => have := HK1.out; omega
       case rel => exact ⟨(y232), (wrap64 (x20_1 + 1)), (by first | rfl | (simp; done) | (simp [*]; done)), H', ⟨by have := HK1.out; omega⟩, ⟨by (with_reducible repeat (first | apply Kd.R_alloc | apply Kd.R_drewN | apply Kd.R_drew)); exact HQ18.out⟩, ⟨by repeat (first | (with_reducible first | exact HB.out | apply below_alloc | apply pw_below_drewN | apply below_drew1 | refine below_set ?_ GB11.out | refine below_set ?_ GE229.out) | exact HB.out)⟩⟩
      ·rw [if_neg c9] at H
       exact absurd H (by simp)
     ·rw [if_neg c8] at H
      exact absurd H (by simp)
    ·rw [if_neg c7] at H
     exact absurd H (by simp)
   ·rw [if_neg c6] at H
    have c6b0 : decide (x20_1 < (l2.length : Int)) = false := decide_eq_false c6
    clear c6
    obtain rfl := Option.some.inj H
    go_wp2
    go_ret
    exact ⟨_, by first | rfl | (simp [errW_none, errW_some] <;> rfl) | (simp [*, errW_none, errW_some] <;> rfl), by (with_reducible repeat (first | apply Kd.R_alloc | apply Kd.R_drewN | apply Kd.R_drew)); exact HO_5.out, by repeat (first | (with_reducible first | exact HB.out | apply below_alloc | apply pw_below_drewN | apply below_drew1) | exact HB.out)⟩

/-! ### font_ZzNormalize: function 57 -/
def font_ZzNormalize.f (k : Nat) (l0 : List S170) (l1 : List S174) (l2 : List Nat) : Option (List Int) := font_Font_NormalizeVariations.f k l0 l2 l1
theorem font_ZzNormalize.mono : ∀ a0 a1 a2 k, LeO (font_ZzNormalize.f k a0 a1 a2) (font_ZzNormalize.f (k + 1) a0 a1 a2) := fun a0 a1 a2 k => font_Font_NormalizeVariations.mono a0 a2 a1 k
theorem font_ZzNormalize.wpb {P : Program} {o : Oper} {a : Act} {w : World} {K : Act → World → Prop} {Q : Exit → Act → World → Prop} (t : TypeId) (parts : Array (Nat × Operand)) (ho : o.op = .build t parts) (vs : List (Nat × Value)) (hv : (parts.map fun (i, x) => (i, a.eval x)).toList = vs) (cells : Array Value) (hc : P.built t vs = some cells)
    (h : K (a.put o.dst (.agg cells)) w) : o.wp P a w K Q := by
  refine wp_build t parts ho (by rw [hv, hc]; rfl) ?_
  rw [hv, hc]
  exact h
theorem font_ZzNormalize.cells (A0 : Option Addr) (n0 c0 : Nat) (A1 : Option Addr) (n1 c1 : Nat) : ∃ cells : Array Value, Try.prog.built 310 [(21, .slice A0 n0 c0), (24, .agg #[.int .u16 0, .int .u16 0, .int .u16 0, .slice A1 n1 c1])] = some cells ∧ cells[63]? = some (.slice A0 n0 c0) ∧ cells[69]? = some (.slice A1 n1 c1) ∧ cells.size = 130 := by
  have h1 : (Try.prog.built 310 [(21, .slice A0 n0 c0), (24, .agg #[.int .u16 0, .int .u16 0, .int .u16 0, .slice A1 n1 c1])]).isSome = true := by kernel_rfl
  have h2 : ((Try.prog.built 310 [(21, .slice A0 n0 c0), (24, .agg #[.int .u16 0, .int .u16 0, .int .u16 0, .slice A1 n1 c1])]).getD #[])[63]? = some (.slice A0 n0 c0) := by kernel_rfl
  have h3 : ((Try.prog.built 310 [(21, .slice A0 n0 c0), (24, .agg #[.int .u16 0, .int .u16 0, .int .u16 0, .slice A1 n1 c1])]).getD #[])[69]? = some (.slice A1 n1 c1) := by kernel_rfl
  have h4 : ((Try.prog.built 310 [(21, .slice A0 n0 c0), (24, .agg #[.int .u16 0, .int .u16 0, .int .u16 0, .slice A1 n1 c1])]).getD #[]).size = 130 := by kernel_rfl
  obtain ⟨cells, hc⟩ := Option.isSome_iff_exists.1 h1
  rw [hc] at h2 h3 h4
  exact ⟨cells, hc, h2, h3, h4⟩
set_option maxHeartbeats 8000000 in
set_option maxRecDepth 1000000 in
theorem font_ZzNormalize.calls (k : Nat) (A0 : Option Addr) (c0 : Nat) (l0 : List (S170)) (A1 : Option Addr) (c1 : Nat) (l1 : List (S174)) (A2 : Option Addr) (c2 : Nat) (l2 : List Nat) (r : List Int) (w : World) (hr0 : Kd.C k170 w A0 l0.length l0) (hc0 : l0.length ≤ c0) (hr1 : Kd.C k174 w A1 l1.length l1) (hc1 : l1.length ≤ c1) (hr2 : Kd.C (kflt .f32) w A2 l2.length l2) (hc2 : l2.length ≤ c2) (h : font_ZzNormalize.f k l0 l1 l2 = some r) :
    Calls Try.prog 57 #[.slice A0 l0.length c0, .slice A1 l1.length c1, .slice A2 l2.length c2] w fun e w' => ∃ v0_ : Value, e = .returned (v0_) ∧ Kd.R (Kd.int .i16) 175 w' w.heap.size (fun _ => True) v0_ r ∧ Below w.heap.size w w' := by
  obtain ⟨cells, hcells, h63, h69, hsz⟩ := font_ZzNormalize.cells A0 l0.length c0 A1 l1.length c1
  have hF0 : (w.alloc (.cells cells 310)).cell? ⟨w.heap.size, 63, none⟩ = some (.slice A0 l0.length c0) := (World.cell?_alloc_at (w := w) cells _ w.heap.size 63 rfl).trans h63
  have hF1 : (w.alloc (.cells cells 310)).cell? ⟨w.heap.size, 69, none⟩ = some (.slice A1 l1.length c1) := (World.cell?_alloc_at (w := w) cells _ w.heap.size 69 rfl).trans h69
  have hcall := font_Font_NormalizeVariations.calls k A0 c0 l0 A2 c2 l2 A1 c1 l1 r w.heap.size (w.alloc (.cells cells 310)) hF0 hF1 (Kd.C_alloc hr0 _) hc0 (Kd.C_alloc hr2 _) hc2 (Kd.C_alloc hr1 _) hc1 h
  go_enter Try.func57, Try.ntmps57
  go_wp2
  refine font_ZzNormalize.wpb 310 #[(21, .tmp 8), (24, .tmp 10)] rfl [(21, .slice A0 l0.length c0), (24, .agg #[.int .u16 0, .int .u16 0, .int .u16 0, .slice A1 l1.length c1])] (by first | rfl | simp [Act.eval]) cells hcells ?_
  go_wp2_with (go_at_call 68; refine hcall.mono ?_; rintro e w' ⟨v0, rfl, hR, hb⟩)
  go_ret
  exact ⟨_, rfl, Kd.R_lower hR (by show w.heap.size ≤ (w.heap.push _).size; rw [Array.size_push]; omega), below_step (below_alloc (Below.refl _ _) _) hb⟩

end Go.Proofs.Ytlbmfnjhpojghaa.PFnNormalized
