-- Written by a program of this session (xprint) out of the translation; Lean checks it.
import Derived.Test.YtchkmmbedgolbaaPFnGlyphSpotsx0
import Derived.Test.YtchkmmbedgolbaaPFnGlyphSpotsx2
namespace Go.Proofs.Ytchkmmbedgolbaa.PFnGlyphSpots
open Go.RowKit Go.Proofs.YtchkmmbedgolbaaW.PrintWords Go.Proofs.YtchkmmbedgolbaaW.PrintLast Go.Proofs.YtchkmmbedgolbaaW.PrintMore
attribute [local go_sem] max2_int min2_int max_two min_two max_three min_three max_four min_four   -- for this text's walks alone
set_option linter.unusedVariables false
set_option linter.unusedSimpArgs false

/-! ### tables_readContourPoint: function 97 -/
def tables_readContourPoint.f (a0 : Int) (l1 : List Int) (a2 : Int) (a3 : Int) (a4 : Int) : Option (Int × Int) := if (Go.bits .and .u8 a0 a3) = 0 then (if (Go.bits .and .u8 a0 a4) = 0 then (if 0 ≤ a2 then (if a2 ≤ (l1.length : Int) then ((binary_bigEndian_Uint16.f (l1.drop (a2 : Int).toNat)).bind fun t114 => (some (wrap64 (a2 + 2), IntKind.i16.wrap (0 + (IntKind.i16.wrap (t114)))))) else (none)) else (none)) else (some (a2, 0))) else (if 0 ≤ a2 then (if a2 < (l1.length : Int) then (if (Go.bits .and .u8 a0 a4) = 0 then (some (wrap64 (a2 + 1), IntKind.i16.wrap (-(IntKind.i16.wrap (rd l1 a2))))) else (some (wrap64 (a2 + 1), IntKind.i16.wrap (0 + (IntKind.i16.wrap (rd l1 a2)))))) else (none)) else (none))
set_option maxHeartbeats 8000000 in
set_option maxRecDepth 100000 in
theorem tables_readContourPoint.calls (a0 : Int) (A1 : Option Addr) (c1 : Nat) (l1 : List Int) (a2 : Int) (a3 : Int) (a4 : Int) (r1 : Int) (r2 : Int) (w : World) (hr1 : Kd.C (Kd.int .u8) w A1 l1.length l1) (hc1 : l1.length ≤ c1) (h : tables_readContourPoint.f a0 l1 a2 a3 a4 = some (r1, r2)) :
  Calls Try.prog 97 #[.int .u8 a0, .slice A1 l1.length c1, .int .i64 a2, .int .u8 a3, .int .u8 a4] w fun e w' => e = .returned (.tuple #[.int .i64 r1, .int .i16 r2]) ∧ Below w.heap.size w w' := by
 have HR1 := Aside0.mk hr1
 have HC1 := Aside0.mk hc1
 clear hr1 hc1
 have HB := Aside0.mk (Below.refl w.heap.size w)
 have H : (if (Go.bits .and .u8 a0 a3) = 0 then (if (Go.bits .and .u8 a0 a4) = 0 then (if 0 ≤ a2 then (if a2 ≤ (l1.length : Int) then ((binary_bigEndian_Uint16.f (l1.drop (a2 : Int).toNat)).bind fun t114 => (some (wrap64 (a2 + 2), IntKind.i16.wrap (0 + (IntKind.i16.wrap (t114)))))) else (none)) else (none)) else (some (a2, 0))) else (if 0 ≤ a2 then (if a2 < (l1.length : Int) then (if (Go.bits .and .u8 a0 a4) = 0 then (some (wrap64 (a2 + 1), IntKind.i16.wrap (-(IntKind.i16.wrap (rd l1 a2))))) else (some (wrap64 (a2 + 1), IntKind.i16.wrap (0 + (IntKind.i16.wrap (rd l1 a2)))))) else (none)) else (none))) = some (r1, r2) := h
 clear h
 by_cases c6 : (Go.bits .and .u8 a0 a3) = 0
 ·rw [if_pos c6] at H
  have c6b0 : ((Go.bits .and .u8 a0 a3) == 0) = true := beq_iff_eq.mpr c6
  have c6b1 : ((Go.bits .and .u8 a0 a3) != 0) = false := bne_eq_false_iff_eq.mpr c6
  clear c6
  by_cases c7 : (Go.bits .and .u8 a0 a4) = 0
  ·rw [if_pos c7] at H
   have c7b0 : ((Go.bits .and .u8 a0 a4) == 0) = true := beq_iff_eq.mpr c7
   have c7b1 : ((Go.bits .and .u8 a0 a4) != 0) = false := bne_eq_false_iff_eq.mpr c7
   clear c7
   by_cases c8 : 0 ≤ a2
   ·rw [if_pos c8] at H
    have c8b0 := eq_true c8
    have c8b1 : decide (0 ≤ a2) = true := decide_eq_true c8
    clear c8
    by_cases c9 : a2 ≤ (l1.length : Int)
    ·rw [if_pos c9] at H
     have c9b0 := eq_true c9
     have c9b1 : decide (a2 ≤ (l1.length : Int)) = true := decide_eq_true c9
     clear c9
     replace H := Option.bind_eq_some_iff.mp H
     obtain ⟨t114, A100, H⟩ := H
     replace H : (some (wrap64 (a2 + 2), IntKind.i16.wrap (0 + (IntKind.i16.wrap (t114))))) = some (r1, r2) := H
     have A10 := Aside0.mk A100
     clear A100
     simp only [Option.some.injEq, Prod.mk.injEq] at H
     obtain ⟨rfl, rfl⟩ := H
     go_enter Try.func97, Try.ntmps97
     try go_wp2
     have n0_ := Aside0.mk (below_drew1 HB.out)
     clear HB
     have HB := n0_
     clear n0_
     obtain ⟨i012, hi012, _, hsz12, _⟩ := info_parts info5
     obtain ⟨A12, hcut12, hA12, hC12⟩ := print_drop_of (P := Try.prog) (Value.int .u8) 0 22 5 .i64 Try.underlying22 hi012 hsz12 A1 c1 l1 a2 (of_decide_eq_true (by first | (with_reducible assumption) | assumption)) (of_decide_eq_true (by first | (with_reducible assumption) | assumption)) HC1.out
     have HR113 := Aside0.mk (Kd.C_of_reads (h1 := fun _ => rfl) (hA12 _ (Kd.reads_of_C HR1.out)))
     have HC113 := Aside0.mk hC12
     clear hA12 hC12 hi012 hsz12
     refine start_ (n := 6) (S := fun w' => True) (ds := []) #[false, false, false, false, false, false] (by kernel_rfl) rfl rfl trivial (fun hHeld => ?_)
     generalize w.drew = w11 at HB HR113 hHeld ⊢
     refine pure_ (i := 0) (N := some 41) (v := ?_) (a' := ?_) #[true, false, false, false, false, false] rfl rfl (by kernel_rfl) (fun _ _ _ h => h) (Or.inl ⟨by rfl, ?_⟩) ?_ ?_
     rotate_left
     ·intro w'
      go_simp
      with_reducible rfl
     rotate_left
     ·simp only [Act.put, L1_, L2_, L3_, i64_w, i32_w]
      rfl
     refine pure_ (i := 1) (N := some 42) (v := ?_) (a' := ?_) #[true, true, false, false, false, false] rfl rfl (by kernel_rfl) (fun _ _ _ h => h) (Or.inl ⟨by rfl, ?_⟩) ?_ ?_
     rotate_left
     ·intro w'
      go_simp
      with_reducible rfl
     rotate_left
     ·simp only [Act.put, L1_, L2_, L3_, i64_w, i32_w]
      rfl
     refine pure_ (i := 2) (N := some 43) (v := ?_) (a' := ?_) #[true, true, true, false, false, false] rfl rfl (by kernel_rfl) (fun _ _ _ h => h) (Or.inl ⟨by rfl, ?_⟩) ?_ ?_
     rotate_left
     ·intro w'
      go_simp
      with_reducible rfl
     rotate_left
     ·simp only [Act.put, L1_, L2_, L3_, i64_w, i32_w]
      rfl
     refine pure_ (i := 3) (N := some 44) (v := ?_) (a' := ?_) #[true, true, true, true, false, false] rfl rfl (by kernel_rfl) (fun _ _ _ h => h) (Or.inl ⟨by rfl, ?_⟩) ?_ ?_
     rotate_left
     ·intro w'
      go_simp
      with_reducible rfl
     rotate_left
     ·simp only [Act.put, L1_, L2_, L3_, i64_w, i32_w]
      rfl
     refine one_ (i := 4) (N := some 45) #[true, true, true, true, true, false] rfl rfl (by kernel_rfl) (by decide) (fun K hK => ?_)
     refine goes_ Try.func57 (by kernel_rfl) rfl #[.agg #[], .slice A12 (l1.drop (a2 : Int).toNat).length (c1 - a2.toNat)] (by rfl) rfl rfl (by (try simp only [List.map_toArray, List.map_cons, List.map_nil]); first | done | (rw [show (l1.drop (a2 : Int).toNat).length = (l1.length - a2.toNat) from List.length_drop] <;> rfl) | rfl | (simp only [List.length_drop, List.length_take]; rfl)) ?_
     with_reducible refine (binary_bigEndian_Uint16.calls _ _ (l1.drop (a2 : Int).toNat) t114 _ ?side1 ?side2 A10.out).mono ?_
     (case side1 => repeat (first | exact (Kd.C_below HR113.out HB.out) | (with_reducible refine Kd.C_alloc ?_ _) | (with_reducible refine Kd.C_drewN ?_ _) | (with_reducible refine Kd.C_drew ?_)))
     (case side2 => exact HC113.out)
     rintro e w13 ⟨rfl, hb⟩
     refine ⟨_, rfl, ?_⟩
     have n0_ := Aside0.mk (below_step (by repeat (first | (with_reducible first | exact HB.out | apply below_alloc | apply pw_below_drewN | apply below_drew1) | exact HB.out)) hb)
     clear HB
     have HB := n0_
     clear n0_
     (try clear hb)
     (try clear hb2)
     (try clear hk)
     (try clear hi)
     refine hK.out _ _ trivial (fun hHeld => ?_)
     clear hK K
     refine norm_ (a' := ?_) ?_ ?_
     rotate_left
     ·show Act.put _ (some 45) _ = _
      simp only [Act.put, L1_, L2_, L3_, i64_w, i32_w]
      rfl
     refine pure_ (i := 5) (N := some 14) (v := ?_) (a' := ?_) #[true, true, true, true, true, true] rfl rfl (by kernel_rfl) (fun _ _ _ h => h) (Or.inl ⟨by rfl, ?_⟩) ?_ ?_
     rotate_left
     ·intro w'
      go_simp
      with_reducible rfl
     rotate_left
     ·simp only [Act.put, L1_, L2_, L3_, i64_w, i32_w]
      rfl
     refine done_ (by kernel_rfl) ?_
     try go_wp2
     go_ret2
     exact ⟨by first | rfl | (simp [errW_none, errW_some] <;> rfl) | (simp [*, errW_none, errW_some] <;> rfl), by repeat (first | (with_reducible first | exact HB.out | apply below_alloc | apply pw_below_drewN | apply below_drew1) | exact HB.out)⟩
    ·rw [if_neg c9] at H
     exact absurd H (by simp)
   ·rw [if_neg c8] at H
    exact absurd H (by simp)
  ·rw [if_neg c7] at H
   have c7b0 : ((Go.bits .and .u8 a0 a4) == 0) = false := beq_eq_false_iff_ne.mpr c7
   have c7b1 : ((Go.bits .and .u8 a0 a4) != 0) = true := bne_iff_ne.mpr c7
   simp only [Option.some.injEq, Prod.mk.injEq] at H
   obtain ⟨rfl, rfl⟩ := H
   go_enter Try.func97, Try.ntmps97
   go_wp2
   go_ret2
   exact ⟨by first | rfl | (simp [errW_none, errW_some] <;> rfl) | (simp [*, errW_none, errW_some] <;> rfl), by repeat (first | (with_reducible first | exact HB.out | apply below_alloc | apply pw_below_drewN | apply below_drew1) | exact HB.out)⟩
 ·rw [if_neg c6] at H
  have c6b0 : ((Go.bits .and .u8 a0 a3) == 0) = false := beq_eq_false_iff_ne.mpr c6
  have c6b1 : ((Go.bits .and .u8 a0 a3) != 0) = true := bne_iff_ne.mpr c6
  by_cases c14 : 0 ≤ a2
  ·rw [if_pos c14] at H
   have c14b0 : decide (0 ≤ a2) = true := decide_eq_true c14
   clear c14
   by_cases c15 : a2 < (l1.length : Int)
   ·rw [if_pos c15] at H
    have c15b0 : decide (a2 < (l1.length : Int)) = true := decide_eq_true c15
    clear c15
    by_cases c16 : (Go.bits .and .u8 a0 a4) = 0
    ·rw [if_pos c16] at H
     have c16b0 : ((Go.bits .and .u8 a0 a4) == 0) = true := beq_iff_eq.mpr c16
     have c16b1 : ((Go.bits .and .u8 a0 a4) != 0) = false := bne_eq_false_iff_eq.mpr c16
     clear c16
     simp only [Option.some.injEq, Prod.mk.injEq] at H
     obtain ⟨rfl, rfl⟩ := H
     have p115 : 0 ≤ (a2 : Int) := of_decide_eq_true (by first | (with_reducible assumption) | assumption)
     have q115 : a2 < (l1.length : Int) := of_decide_eq_true (by first | (with_reducible assumption) | assumption)
     obtain ⟨ad115, e115, hx115_0⟩ := Kd.at_int HR1.out a2 p115 q115
     cases e115
     replace p115 := eq_true p115
     replace q115 := eq_true q115
     go_enter Try.func97, Try.ntmps97
     go_wp2
     go_ret2
     exact ⟨by first | rfl | (simp [errW_none, errW_some] <;> rfl) | (simp [*, errW_none, errW_some] <;> rfl), by repeat (first | (with_reducible first | exact HB.out | apply below_alloc | apply pw_below_drewN | apply below_drew1) | exact HB.out)⟩
    ·rw [if_neg c16] at H
     have c16b0 : ((Go.bits .and .u8 a0 a4) == 0) = false := beq_eq_false_iff_ne.mpr c16
     have c16b1 : ((Go.bits .and .u8 a0 a4) != 0) = true := bne_iff_ne.mpr c16
     simp only [Option.some.injEq, Prod.mk.injEq] at H
     obtain ⟨rfl, rfl⟩ := H
     have p115 : 0 ≤ (a2 : Int) := of_decide_eq_true (by first | (with_reducible assumption) | assumption)
     have q115 : a2 < (l1.length : Int) := of_decide_eq_true (by first | (with_reducible assumption) | assumption)
     obtain ⟨ad115, e115, hx115_0⟩ := Kd.at_int HR1.out a2 p115 q115
     cases e115
     replace p115 := eq_true p115
     replace q115 := eq_true q115
     go_enter Try.func97, Try.ntmps97
     go_wp2
     go_ret2
     exact ⟨by first | rfl | (simp [errW_none, errW_some] <;> rfl) | (simp [*, errW_none, errW_some] <;> rfl), by repeat (first | (with_reducible first | exact HB.out | apply below_alloc | apply pw_below_drewN | apply below_drew1) | exact HB.out)⟩
   ·rw [if_neg c15] at H
    exact absurd H (by simp)
  ·rw [if_neg c14] at H
   exact absurd H (by simp)

/-! ### tables_parseGlyphContourPoints: function 94 -/
def tables_parseGlyphContourPoints.l0 : Nat → List Int → List Int → List (S123) → Int → Int → Int → Int → Int → Int → Option ((List (S123)))
 | 0, _, _, _, _, _, _, _, _, _ => none
 | k + 1, x0, x1, x2, x6, x7, x8, x10, x15, x16 => if x16 < x15 then (if 0 ≤ x16 then (if x16 < (x2.length : Int) then ((tables_readContourPoint.f ((rd_T123 x2 x16).f0) x0 x6 2 16).bind fun bt118 => ((some (x2.set (x16 : Int).toNat (⟨(rd_T123 x2 x16).f0, IntKind.i16.wrap (x8 + bt118.2), (rd_T123 x2 x16).f2⟩ : S123) : List (S123))).bind fun y120 => ((tables_readContourPoint.f ((rd_T123 x2 x16).f0) x1 x7 4 32).bind fun bt121 => (tables_parseGlyphContourPoints.l0 k x0 x1 (y120.set (x16 : Int).toNat (⟨(rd_T123 y120 x16).f0, (rd_T123 y120 x16).f1, IntKind.i16.wrap (x10 + bt121.2)⟩ : S123)) bt118.1 bt121.1 (IntKind.i16.wrap (x8 + bt118.2)) (IntKind.i16.wrap (x10 + bt121.2)) x15 (wrap64 (x16 + 1)))))) else (none)) else (none)) else (some x2)
def tables_parseGlyphContourPoints.f (k : Nat) (l0 : List Int) (l1 : List Int) (l2 : List (S123)) : Option ((List (S123))) := tables_parseGlyphContourPoints.l0 k l0 l1 l2 0 0 0 0 (l2.length : Int) 0
theorem tables_parseGlyphContourPoints.mono_l : ∀ k, (∀ y0 y1 y2 y3 y4 y5 y6 y7 y8, LeO (tables_parseGlyphContourPoints.l0 k y0 y1 y2 y3 y4 y5 y6 y7 y8) (tables_parseGlyphContourPoints.l0 (k + 1) y0 y1 y2 y3 y4 y5 y6 y7 y8))
 | 0 => fun _ _ _ _ _ _ _ _ _ r h => by simp [tables_parseGlyphContourPoints.l0] at h
 | k + 1 => by
  have ih0 := tables_parseGlyphContourPoints.mono_l k
  ·intro y0 y1 y2 y3 y4 y5 y6 y7 y8
   unfold tables_parseGlyphContourPoints.l0
   repeat' first
   | (with_reducible exact ih0 _ _ _ _ _ _ _ _ _)
   | (with_reducible exact LeO.refl _)
   | (with_reducible exact LeO.none _)
   | (with_reducible refine LeO.ite ?_ ?_)
   | (with_reducible refine LeO.bind ?_ (fun _ => ?_))
   | exact ih0 _ _ _ _ _ _ _ _ _
   | exact LeO.none _
   | refine LeO.ite ?_ ?_
   | refine LeO.bind ?_ (fun _ => ?_)
theorem tables_parseGlyphContourPoints.mono : ∀ a0 a1 a2 k, LeO (tables_parseGlyphContourPoints.f k a0 a1 a2) (tables_parseGlyphContourPoints.f (k + 1) a0 a1 a2) := by
 intro a0 a1 a2 k
 have ih0 := tables_parseGlyphContourPoints.mono_l k
 unfold tables_parseGlyphContourPoints.f
 repeat' first
   | (with_reducible exact ih0 _ _ _ _ _ _ _ _ _)
   | (with_reducible exact LeO.refl _)
   | (with_reducible exact LeO.none _)
   | (with_reducible refine LeO.ite ?_ ?_)
   | (with_reducible refine LeO.bind ?_ (fun _ => ?_))
   | exact ih0 _ _ _ _ _ _ _ _ _
   | exact LeO.none _
   | refine LeO.ite ?_ ?_
   | refine LeO.bind ?_ (fun _ => ?_)
set_option maxHeartbeats 8000000 in
set_option maxRecDepth 100000 in
theorem tables_parseGlyphContourPoints.calls (k : Nat) (A0 : Option Addr) (c0 : Nat) (l0 : List Int) (A1 : Option Addr) (c1 : Nat) (l1 : List Int) (P2_ : Nat → Prop) (u9000_ : Value) (l2 : List (S123)) (r : List (S123)) (w0 w : World) (hB : Below w0.heap.size w0 w) (hr0 : ∀ W_, Kept w W_ (fun k_ => P2_ k_) → Kd.C (Kd.int .u8) W_ A0 l0.length l0) (hc0 : l0.length ≤ c0) (hr1 : ∀ W_, Kept w W_ (fun k_ => P2_ k_) → Kd.C (Kd.int .u8) W_ A1 l1.length l1) (hc1 : l1.length ≤ c1) (ho2 : Kd.R k123 123 w w0.heap.size P2_ u9000_ l2) (h : tables_parseGlyphContourPoints.f k l0 l1 l2 = some r) :
  Calls Try.prog 94 #[.slice A0 l0.length c0, .slice A1 l1.length c1, u9000_] w fun e w' => e = .returned (.tuple #[]) ∧ Kd.R k123 123 w' w0.heap.size (fun k_ => (P2_ k_ ∨ w.heap.size ≤ k_)) u9000_ r ∧ Below w0.heap.size w0 w' ∧ Kept w w' (fun k_ => P2_ k_) := by
 have hu123 := Try.underlying123
 have HR0 := Aside0.mk hr0
 have HC0 := Aside0.mk hc0
 clear hr0 hc0
 have HR1 := Aside0.mk hr1
 have HC1 := Aside0.mk hc1
 clear hr1 hc1
 have HO2 := Aside0.mk (show Kd.R k123 123 w w0.heap.size (fun k_ => (P2_ k_ ∨ w.heap.size ≤ k_)) u9000_ l2 from Kd.R_mono ho2 (fun k_ hk => (.inl hk)))
 have HK := Aside0.mk (Kept.refl w (fun k_ => P2_ k_))
 have HW0 := Aside0.mk hB.size
 have HB := Aside0.mk hB
 clear hB
 have H : (tables_parseGlyphContourPoints.l0 k l0 l1 l2 0 0 0 0 (l2.length : Int) 0) = some r := h
 clear h
 have H' := Aside0.mk H
 clear H
 obtain ⟨Ao4, co4, eo4⟩ := Kd.R_slice HO2.out
 subst eo4
 go_enter Try.func94, Try.ntmps94
 go_wp2
 go_loopg [6, 7, 8, 10, 16] k (fun kq v6 v7 v8 v10 v16 w' => ∃ (x2_1 : List (S123)) (x6_1 : Int) (x7_1 : Int) (x8_1 : Int) (x10_1 : Int) (x16_1 : Int), v6 = .int .i64 x6_1 ∧ v7 = .int .i64 x7_1 ∧ v8 = .int .i16 x8_1 ∧ v10 = .int .i16 x10_1 ∧ v16 = .int .i64 x16_1 ∧ Aside0 (tables_parseGlyphContourPoints.l0 kq l0 l1 x2_1 x6_1 x7_1 x8_1 x10_1 (l2.length : Int) x16_1 = some r) ∧ Aside0 (kq ≤ k) ∧ Aside0 (Kd.R k123 123 w' w0.heap.size (fun k_ => (P2_ k_ ∨ w.heap.size ≤ k_)) (.slice Ao4 l2.length co4) x2_1) ∧ Aside0 (Kept w w' (fun k_ => P2_ k_)) ∧ Aside0 (Below w0.heap.size w0 w'))
 case atStart => exact ⟨(l2), (0), (0), (0), (0), (0), (by first | rfl | (simp; done) | (simp [*]; done)), (by first | rfl | (simp; done) | (simp [*]; done)), (by first | rfl | (simp; done) | (simp [*]; done)), (by first | rfl | (simp; done) | (simp [*]; done)), (by first | rfl | (simp; done) | (simp [*]; done)), H', ⟨Nat.le_refl _⟩, ⟨by (with_reducible repeat (first | apply Kd.R_alloc | apply Kd.R_drewN | apply Kd.R_drew)); exact HO2.out⟩, ⟨by repeat (first | (with_reducible first | exact HK.out | apply Kept.alloc | apply Kept.drewN | apply Kept.drew) | exact HK.out)⟩, ⟨by repeat (first | (with_reducible first | exact HB.out | apply below_alloc | apply pw_below_drewN | apply below_drew1) | exact HB.out)⟩⟩
 case round =>
  clear H'
  try clear c1
  try clear p2
  obtain ⟨x2_1, x6_1, x7_1, x8_1, x10_1, x16_1, rfl, rfl, rfl, rfl, rfl, HA, HK1, HO_2, HK, HB⟩ := hrel
  have hl2_1 := (Kd.R_reads' HO_2.out).1
  rw [hl2_1] at HO_2
  (try simp only [hl2_1])
  cases gk with
  | zero => exact absurd HA.out (by simp [tables_parseGlyphContourPoints.l0])
  | succ k1 =>
   have H := HA.out
   clear HA
   simp only [tables_parseGlyphContourPoints.l0] at H
   by_cases c5 : x16_1 < (l2.length : Int)
   ·rw [if_pos c5] at H
    have c5b0 : decide (x16_1 < (l2.length : Int)) = true := decide_eq_true c5
    (try simp only [hl2_1] at c5b0)
    clear c5
    by_cases c6 : 0 ≤ x16_1
    ·rw [if_pos c6] at H
     have c6b0 : decide (0 ≤ x16_1) = true := decide_eq_true c6
     clear c6
     by_cases c7 : x16_1 < (x2_1.length : Int)
     ·rw [if_pos c7] at H
      have c7b0 : decide (x16_1 < (x2_1.length : Int)) = true := decide_eq_true c7
      (try simp only [hl2_1] at c7b0)
      clear c7
      replace H := Option.bind_eq_some_iff.mp H
      obtain ⟨⟨t118, t119⟩, A80, H⟩ := H
      replace H : ((some (x2_1.set (x16_1 : Int).toNat (⟨(rd_T123 x2_1 x16_1).f0, IntKind.i16.wrap (x8_1 + t119), (rd_T123 x2_1 x16_1).f2⟩ : S123) : List (S123))).bind fun y120 => ((tables_readContourPoint.f ((rd_T123 x2_1 x16_1).f0) l1 x7_1 4 32).bind fun bt121 => (tables_parseGlyphContourPoints.l0 k1 l0 l1 (y120.set (x16_1 : Int).toNat (⟨(rd_T123 y120 x16_1).f0, (rd_T123 y120 x16_1).f1, IntKind.i16.wrap (x10_1 + bt121.2)⟩ : S123)) t118 bt121.1 (IntKind.i16.wrap (x8_1 + t119)) (IntKind.i16.wrap (x10_1 + bt121.2)) (l2.length : Int) (wrap64 (x16_1 + 1))))) = some r := H
      have A8 := Aside0.mk A80
      clear A80
      obtain ⟨y120, hy120⟩ : ∃ y_ : List (S123), y_ = (x2_1.set (x16_1 : Int).toNat (⟨(rd_T123 x2_1 x16_1).f0, IntKind.i16.wrap (x8_1 + t119), (rd_T123 x2_1 x16_1).f2⟩ : S123)) := ⟨_, rfl⟩
      replace H : ((tables_readContourPoint.f ((rd_T123 x2_1 x16_1).f0) l1 x7_1 4 32).bind fun bt121 => (tables_parseGlyphContourPoints.l0 k1 l0 l1 (y120.set (x16_1 : Int).toNat (⟨(rd_T123 y120 x16_1).f0, (rd_T123 y120 x16_1).f1, IntKind.i16.wrap (x10_1 + bt121.2)⟩ : S123)) t118 bt121.1 (IntKind.i16.wrap (x8_1 + t119)) (IntKind.i16.wrap (x10_1 + bt121.2)) (l2.length : Int) (wrap64 (x16_1 + 1)))) = some r := by first | (rw [hy120]; with_reducible exact H) | (have H2_ := (Option.bind_some _ _).symm.trans H; rw [hy120]; with_reducible exact H2_) | (have H2_ := (Option.bind_some _ _).symm.trans H; with_reducible exact H2_) | with_reducible exact H | (rw [hy120]; exact H) | exact H
      have Ny120 := Aside0.mk hy120
      clear hy120
      replace H := Option.bind_eq_some_iff.mp H
      obtain ⟨⟨t121, t122⟩, A100, H⟩ := H
      replace H : (tables_parseGlyphContourPoints.l0 k1 l0 l1 (y120.set (x16_1 : Int).toNat (⟨(rd_T123 y120 x16_1).f0, (rd_T123 y120 x16_1).f1, IntKind.i16.wrap (x10_1 + t122)⟩ : S123)) t118 t121 (IntKind.i16.wrap (x8_1 + t119)) (IntKind.i16.wrap (x10_1 + t122)) (l2.length : Int) (wrap64 (x16_1 + 1))) = some r := H
      have A10 := Aside0.mk A100
      clear A100
      obtain ⟨y123, hy123⟩ : ∃ y_ : List (S123), y_ = (y120.set (x16_1 : Int).toNat (⟨(rd_T123 y120 x16_1).f0, (rd_T123 y120 x16_1).f1, IntKind.i16.wrap (x10_1 + t122)⟩ : S123)) := ⟨_, rfl⟩
      replace H : (tables_parseGlyphContourPoints.l0 k1 l0 l1 y123 t118 t121 (IntKind.i16.wrap (x8_1 + t119)) (IntKind.i16.wrap (x10_1 + t122)) (l2.length : Int) (wrap64 (x16_1 + 1))) = some r := by first | (rw [hy123]; with_reducible exact H) | (have H2_ := (Option.bind_some _ _).symm.trans H; rw [hy123]; with_reducible exact H2_) | (have H2_ := (Option.bind_some _ _).symm.trans H; with_reducible exact H2_) | with_reducible exact H | (rw [hy123]; exact H) | exact H
      have Ny123 := Aside0.mk hy123
      clear hy123
      have H' := Aside0.mk H
      clear H
      have p116 : 0 ≤ (x16_1 : Int) := of_decide_eq_true (by first | (with_reducible assumption) | assumption)
      have q116 : x16_1 < (x2_1.length : Int) := of_decide_eq_true (by first | (with_reducible assumption) | assumption)
      obtain ⟨ad116, e116, hx116_0, hx116_1, hx116_2⟩ := at_T123 (Kd.R_reads' HO_2.out).2.2 x16_1 p116 q116
      cases e116
      replace p116 := eq_true p116
      replace q116 := eq_true q116
      go_wp2_with (first | ((with_reducible refine gate_dst (N := 13) rfl ?_); refine box_event ?hg (N := 13) ?hd (cs := #[.int .u8 0, .int .i16 0, .int .i16 0]) (t := 123) ?hr ?_; (case hd => rfl); (case hg => rfl); (case hr => first | (go_simp; done) | (go_simp; rfl)); intro gb117 hg w12 hbox hb; have n0_ := Aside0.mk (Kd.R_below (Kd.R_elderB (by (with_reducible repeat (first | apply Kd.R_alloc | apply Kd.R_drewN | apply Kd.R_drew)); exact HO_2.out) gb117 (Nat.le_of_eq hg.symm)) hb); have n1_ := Aside0.mk (Kept.below (S := (fun k_ => P2_ k_)) (by repeat (first | (with_reducible first | exact HK.out | apply Kept.alloc | apply Kept.drewN | apply Kept.drew) | exact HK.out)) hb); have n2_ := Aside0.mk (below_step (by repeat (first | (with_reducible first | exact HB.out | apply below_alloc | apply pw_below_drewN | apply below_drew1) | exact HB.out)) hb); have n3_ := Aside0.mk (hbox); have n4_ := Aside0.mk ((by rw [hg]; exact (by first | exact HK.out.1 | exact (show Kept w _ (fun k_ => P2_ k_) from by repeat (first | (with_reducible first | exact HK.out | apply Kept.alloc | apply Kept.drewN | apply Kept.drew) | exact HK.out)).1) : w.heap.size ≤ gb117)); have n5_ := Aside0.mk ((by rw [hg]; exact (below_size (by repeat (first | (with_reducible first | exact HB.out | apply below_alloc | apply pw_below_drewN | apply below_drew1) | exact HB.out))) : w0.heap.size ≤ gb117)); clear HO_2; clear HK; clear HB; have HO_2 := n0_; have HK := n1_; have HB := n2_; have BK117 := n3_; have GW117 := n4_; have GE117 := n5_; clear n0_ n1_ n2_ n3_ n4_ n5_; clear hb hbox hg; have hcz13_0 : w12.cell? ⟨gb117, 0, none⟩ = some (.int .u8 0) := (blk_cell BK117.out 0).trans rfl; have hcz13_1 : w12.cell? ⟨gb117, 1, none⟩ = some (.int .i16 0) := (blk_cell BK117.out 1).trans rfl; have hcz13_2 : w12.cell? ⟨gb117, 2, none⟩ = some (.int .i16 0) := (blk_cell BK117.out 2).trans rfl; have hfz13_0 := blk_frozen BK117.out 0; have hfz13_1 := blk_frozen BK117.out 1; have hfz13_2 := blk_frozen BK117.out 2) | ((with_reducible refine gate_callee (f := 97) rfl ?_); refine goesL_ (some 26) rfl rfl Try.func97 (by kernel_rfl) rfl #[.int .u8 ((rd_T123 x2_1 x16_1).f0), .slice A0 l0.length c0, .int .i64 x6_1, .int .u8 2, .int .u8 16] rfl (by (try simp only [List.map_toArray, List.map_cons, List.map_nil]); first | done | rfl | (simp only [List.length_drop, List.length_take]; rfl)) ?_; (with_reducible refine (tables_readContourPoint.calls ((rd_T123 x2_1 x16_1).f0) _ _ l0 x6_1 2 16 t118 t119 _ ?side1 ?side2 A8.out).mono ?_); (case side1 => exact Kd.C_kept_now HR0.out (by repeat (first | (with_reducible first | exact HK.out | apply Kept.alloc | apply Kept.drewN | apply Kept.drew | refine Kept.setCell ?_ (.inr GW117.out) _) | exact HK.out))); (case side2 => exact HC0.out); rintro e w14 ⟨rfl, hb⟩; refine ⟨_, rfl, ?_⟩; have n0_ := Aside0.mk (Kd.R_below (by (with_reducible repeat (first | apply Kd.R_alloc | apply Kd.R_drewN | apply Kd.R_drew)); exact (Kd.R_mono (Kd.R_far (p := ⟨gb117, 2, none⟩) (Kd.R_far (p := ⟨gb117, 1, none⟩) (Kd.R_far (p := ⟨gb117, 0, none⟩) (Kd.R_mono HO_2.out (fun k_ hk => (⟨hk, hk.2⟩ : _ ∧ k_ ≠ gb117))) (fun _ hk => hk.2) (.int .u8 ((rd_T123 x2_1 x16_1).f0))) (fun _ hk => hk.2) (.int .i16 ((rd_T123 x2_1 x16_1).f1))) (fun _ hk => hk.2) (.int .i16 ((rd_T123 x2_1 x16_1).f2))) (fun _ h_ => h_.1))) hb); have n1_ := Aside0.mk (blk_below (g := gb117) (o := .cells #[.int .u8 ((rd_T123 x2_1 x16_1).f0), .int .i16 ((rd_T123 x2_1 x16_1).f1), .int .i16 ((rd_T123 x2_1 x16_1).f2)] 123 (0, 0)) (by (with_reducible repeat (first | refine b1_ ?_ _ | refine b2_ ?_ | refine b3_ ?_ _)); refine blk_put (cs := #[.int .u8 ((rd_T123 x2_1 x16_1).f0), .int .i16 ((rd_T123 x2_1 x16_1).f1), .int .i16 0]) ?_ 2 _ rfl; (with_reducible repeat (first | refine b1_ ?_ _ | refine b2_ ?_ | refine b3_ ?_ _)); refine blk_put (cs := #[.int .u8 ((rd_T123 x2_1 x16_1).f0), .int .i16 0, .int .i16 0]) ?_ 1 _ rfl; (with_reducible repeat (first | refine b1_ ?_ _ | refine b2_ ?_ | refine b3_ ?_ _)); refine blk_put (cs := #[.int .u8 0, .int .i16 0, .int .i16 0]) ?_ 0 _ rfl; (with_reducible repeat (first | refine b1_ ?_ _ | refine b2_ ?_ | refine b3_ ?_ _)); exact BK117.out) hb); have n2_ := Aside0.mk (Kept.below (S := (fun k_ => P2_ k_)) (by repeat (first | (with_reducible first | exact HK.out | apply Kept.alloc | apply Kept.drewN | apply Kept.drew | refine Kept.setCell ?_ (.inr GW117.out) _) | exact HK.out)) hb); have n3_ := Aside0.mk (below_step (by repeat (first | (with_reducible first | exact HB.out | apply below_alloc | apply pw_below_drewN | apply below_drew1 | refine below_set ?_ GE117.out) | exact HB.out)) hb); clear HO_2; clear BK117; clear HK; clear HB; have HO_2 := n0_; have BK117 := n1_; have HK := n2_; have HB := n3_; clear n0_ n1_ n2_ n3_; (try clear hb); (try clear hb2); (try clear hk); (try clear hi); have p9 : 0 ≤ (x16_1 : Int) := of_decide_eq_true (by first | (with_reducible assumption) | assumption); have q9 : (x16_1 : Int) < ((x2_1.length : Int) : Int) := of_decide_eq_true (by first | (with_reducible assumption) | assumption); obtain ⟨go9, co9, eo9, gb9, gl9, cl9, HG9⟩ := Kd.R_form HO_2.out (by omega); (first | cases eo9 | (injection eo9 with ea_ en_ ec_; (first | subst ea_ | (injection ea_ with ea_; subst ea_)); subst ec_; clear en_)); have GB9 := Aside0.mk gb9; have GG9 := Aside0.mk HG9; clear gb9 gl9 HG9; have HMgo9 := Aside0.mk (show (P2_ go9 ∨ w.heap.size ≤ go9) from (HO_2.out.1 _ rfl).1); (first | simp only [add_plain] at hx116_0 | skip); (first | simp only [add_plain] at hx116_1 | skip); (first | simp only [add_plain] at hx116_2 | skip); obtain ⟨ce9, hcl9, hM9, hcc9, hfr9⟩ := Kd.R_elem HO_2.out z123 (x16_1 : Int) p9 q9; obtain rfl := k123_openM hM9; have hx9_0 : w14.cell? ⟨go9, (x16_1 : Int).toNat * 3, none⟩ = some (.int .u8 ((rd_T123 x2_1 x16_1).f0)) := hcc9 0 _ rfl; have hx9_1 : w14.cell? ⟨go9, (x16_1 : Int).toNat * 3 + 1, none⟩ = some (.int .i16 ((rd_T123 x2_1 x16_1).f1)) := hcc9 1 _ rfl; have hx9_2 : w14.cell? ⟨go9, (x16_1 : Int).toNat * 3 + 2, none⟩ = some (.int .i16 ((rd_T123 x2_1 x16_1).f2)) := hcc9 2 _ rfl; have hf9_0 : w14.frozen? ⟨go9, (x16_1 : Int).toNat * 3, none⟩ = false := hfr9 0; have hf9_1 : w14.frozen? ⟨go9, (x16_1 : Int).toNat * 3 + 1, none⟩ = false := hfr9 1; have hf9_2 : w14.frozen? ⟨go9, (x16_1 : Int).toNat * 3 + 2, none⟩ = false := hfr9 2; clear hcl9 hcc9 hfr9 hM9; replace p9 := eq_true p9; replace q9 := eq_true q9; have HX15 := Aside0.mk (show Kd.R k123 123 w14 w0.heap.size (fun k_ => (P2_ k_ ∨ w.heap.size ≤ k_) ∧ k_ ≠ gb117) (.slice (some ⟨go9, 0, none⟩) x2_1.length co4) x2_1 from (by (with_reducible repeat (first | apply Kd.R_alloc | apply Kd.R_drewN | apply Kd.R_drew)); exact HO_2.out)); obtain ⟨ce15, hcl15, hM15, hcc15, hfr15⟩ := Kd.R_elem HX15.out z123 (x16_1 : Int) (of_decide_eq_true (by first | (with_reducible assumption) | assumption)) (by have h_ : (x16_1 : Int) < ((x2_1.length : Int) : Int) := of_decide_eq_true (by first | (with_reducible assumption) | assumption); first | exact h_ | (have e_ := (Kd.R_reads' HO_2.out).1; omega) | simpa using h_); obtain rfl := k123_openM hM15; have HP15 := Kd.R_seg HX15.out (x16_1 : Int) (of_decide_eq_true (by first | (with_reducible assumption) | assumption)) (by have h_ : (x16_1 : Int) < ((x2_1.length : Int) : Int) := of_decide_eq_true (by first | (with_reducible assumption) | assumption); first | exact h_ | (have e_ := (Kd.R_reads' HO_2.out).1; omega) | simpa using h_) (seg := [.int .i16 (IntKind.i16.wrap (x8_1 + t119))]) (j := 1) hcl15 hcc15 (show 2 ≤ 3 from by decide) (x' := (⟨(rd_T123 x2_1 x16_1).f0, IntKind.i16.wrap (x8_1 + t119), (rd_T123 x2_1 x16_1).f2⟩ : S123)) (k123_mkM _ _ _ (⟨(rd_T123 x2_1 x16_1).f0, IntKind.i16.wrap (x8_1 + t119), (rd_T123 x2_1 x16_1).f2⟩ : S123) ) (fun _ hk => hk); have hx15_1 := hcc15 1 _ rfl; (try simp only [show (k123).sz = 3 from rfl, Nat.mul_one, Nat.add_zero] at hx15_1); have hf15_1 := hfr15 1; (try simp only [show (k123).sz = 3 from rfl, Nat.mul_one, Nat.add_zero] at hf15_1); clear hcl15 hcc15 hfr15 hM15) | ((with_reducible refine gate_store (t := 30) (p := 36) rfl ?_); refine store_event (t := 30) (p := 36) (v := ?vo_w16) (w1 := (w14.setCell ⟨go9, (x16_1 : Int).toNat * 3 + 1, none⟩ (.int .i16 (IntKind.i16.wrap (x8_1 + t119))))) ?hg ?ho ?hn ?hr ?_; (case ho => rfl); (case hg => rfl); (case hn => rfl); (case hr => first | (go_simp; done) | (go_simp; rfl)); intro w16 hw; have hg : w14.grownBy w16 (some go9) := (by rw [hw]; exact HP15.2); have hp_ : Kd.R k123 123 w16 w0.heap.size (fun k_ => (P2_ k_ ∨ w.heap.size ≤ k_) ∧ k_ ≠ gb117) (.slice (some ⟨go9, 0, none⟩) x2_1.length co4) y120 := (by rw [hw, Ny120.out]; exact HP15.1); clear HP15; have n0_ := Aside0.mk (hp_); have n1_ := Aside0.mk (blk_grown (g := gb117) (o := .cells #[.int .u8 ((rd_T123 x2_1 x16_1).f0), .int .i16 ((rd_T123 x2_1 x16_1).f1), .int .i16 ((rd_T123 x2_1 x16_1).f2)] 123 (0, 0)) (by (with_reducible repeat (first | refine b1_ ?_ _ | refine b2_ ?_ | refine b3_ ?_ _)); exact BK117.out) hg (Kd.R_away HO_2.out (fun _ hk => hk.2))); have n2_ := Aside0.mk ((by rw [hw]; exact below_set (HB.out) GB9.out : Below w0.heap.size w0 w16)); have n3_ := Aside0.mk (Kept.of_grown (S := (fun k_ => P2_ k_)) hg (by repeat (first | (with_reducible first | exact HK.out | apply Kept.alloc | apply Kept.drewN | apply Kept.drew | refine Kept.setCell ?_ (.inr GW117.out) _) | exact HK.out)) (fun k_ e_ => (HO_2.out.1 k_ e_).1)); clear HO_2; clear BK117; clear HB; clear HK; have HO_2 := n0_; have BK117 := n1_; have HB := n2_; have HK := n3_; clear n0_ n1_ n2_ n3_; clear hg hw hp_; have hcz17_0 : w16.cell? ⟨gb117, 0, none⟩ = some (.int .u8 ((rd_T123 x2_1 x16_1).f0)) := (blk_cell BK117.out 0).trans rfl; have hcz17_1 : w16.cell? ⟨gb117, 1, none⟩ = some (.int .i16 ((rd_T123 x2_1 x16_1).f1)) := (blk_cell BK117.out 1).trans rfl; have hcz17_2 : w16.cell? ⟨gb117, 2, none⟩ = some (.int .i16 ((rd_T123 x2_1 x16_1).f2)) := (blk_cell BK117.out 2).trans rfl; have hfz17_0 := blk_frozen BK117.out 0; have hfz17_1 := blk_frozen BK117.out 1; have hfz17_2 := blk_frozen BK117.out 2) | ((with_reducible refine gate_callee (f := 97) rfl ?_); refine goesL_ (some 42) rfl rfl Try.func97 (by kernel_rfl) rfl #[.int .u8 ((rd_T123 x2_1 x16_1).f0), .slice A1 l1.length c1, .int .i64 x7_1, .int .u8 4, .int .u8 32] rfl (by (try simp only [List.map_toArray, List.map_cons, List.map_nil]); first | done | rfl | (simp only [List.length_drop, List.length_take]; rfl)) ?_; (with_reducible refine (tables_readContourPoint.calls ((rd_T123 x2_1 x16_1).f0) _ _ l1 x7_1 4 32 t121 t122 _ ?side1 ?side2 A10.out).mono ?_); (case side1 => exact Kd.C_kept_now HR1.out (by repeat (first | (with_reducible first | exact HK.out | apply Kept.alloc | apply Kept.drewN | apply Kept.drew | refine Kept.setCell ?_ (.inr GW117.out) _) | exact HK.out))); (case side2 => exact HC1.out); rintro e w18 ⟨rfl, hb⟩; refine ⟨_, rfl, ?_⟩; have n0_ := Aside0.mk (Kd.R_below (by (with_reducible repeat (first | apply Kd.R_alloc | apply Kd.R_drewN | apply Kd.R_drew)); exact HO_2.out) hb); have n1_ := Aside0.mk (blk_below (g := gb117) (o := .cells #[.int .u8 ((rd_T123 x2_1 x16_1).f0), .int .i16 ((rd_T123 x2_1 x16_1).f1), .int .i16 ((rd_T123 x2_1 x16_1).f2)] 123 (0, 0)) (by (with_reducible repeat (first | refine b1_ ?_ _ | refine b2_ ?_ | refine b3_ ?_ _)); exact BK117.out) hb); have n2_ := Aside0.mk (Kept.below (S := (fun k_ => P2_ k_)) (by repeat (first | (with_reducible first | exact HK.out | apply Kept.alloc | apply Kept.drewN | apply Kept.drew | refine Kept.setCell ?_ (.inr GW117.out) _) | exact HK.out)) hb); have n3_ := Aside0.mk (below_step (by repeat (first | (with_reducible first | exact HB.out | apply below_alloc | apply pw_below_drewN | apply below_drew1 | refine below_set ?_ GE117.out) | exact HB.out)) hb); clear HO_2; clear BK117; clear HK; clear HB; have HO_2 := n0_; have BK117 := n1_; have HK := n2_; have HB := n3_; clear n0_ n1_ n2_ n3_; (try clear hb); (try clear hb2); (try clear hk); (try clear hi); have p11 : 0 ≤ (x16_1 : Int) := of_decide_eq_true (by first | (with_reducible assumption) | assumption); have q11 : (x16_1 : Int) < ((x2_1.length : Int) : Int) := of_decide_eq_true (by first | (with_reducible assumption) | assumption); obtain ⟨ce11, hcl11, hM11, hcc11, hfr11⟩ := Kd.R_elem HO_2.out z123 (x16_1 : Int) p11 q11; obtain rfl := k123_openM hM11; have hx11_0 : w18.cell? ⟨go9, (x16_1 : Int).toNat * 3, none⟩ = some (.int .u8 ((rd_T123 y120 x16_1).f0)) := hcc11 0 _ rfl; have hx11_1 : w18.cell? ⟨go9, (x16_1 : Int).toNat * 3 + 1, none⟩ = some (.int .i16 ((rd_T123 y120 x16_1).f1)) := hcc11 1 _ rfl; have hx11_2 : w18.cell? ⟨go9, (x16_1 : Int).toNat * 3 + 2, none⟩ = some (.int .i16 ((rd_T123 y120 x16_1).f2)) := hcc11 2 _ rfl; have hf11_0 : w18.frozen? ⟨go9, (x16_1 : Int).toNat * 3, none⟩ = false := hfr11 0; have hf11_1 : w18.frozen? ⟨go9, (x16_1 : Int).toNat * 3 + 1, none⟩ = false := hfr11 1; have hf11_2 : w18.frozen? ⟨go9, (x16_1 : Int).toNat * 3 + 2, none⟩ = false := hfr11 2; clear hcl11 hcc11 hfr11 hM11; replace p11 := eq_true p11; replace q11 := eq_true q11; have HX19 := Aside0.mk (show Kd.R k123 123 w18 w0.heap.size (fun k_ => (P2_ k_ ∨ w.heap.size ≤ k_) ∧ k_ ≠ gb117) (.slice (some ⟨go9, 0, none⟩) x2_1.length co4) y120 from (by (with_reducible repeat (first | apply Kd.R_alloc | apply Kd.R_drewN | apply Kd.R_drew)); exact HO_2.out)); obtain ⟨ce19, hcl19, hM19, hcc19, hfr19⟩ := Kd.R_elem HX19.out z123 (x16_1 : Int) (of_decide_eq_true (by first | (with_reducible assumption) | assumption)) (by have h_ : (x16_1 : Int) < ((x2_1.length : Int) : Int) := of_decide_eq_true (by first | (with_reducible assumption) | assumption); first | exact h_ | (have e_ := (Kd.R_reads' HO_2.out).1; omega) | simpa using h_); obtain rfl := k123_openM hM19; have HP19 := Kd.R_seg HX19.out (x16_1 : Int) (of_decide_eq_true (by first | (with_reducible assumption) | assumption)) (by have h_ : (x16_1 : Int) < ((x2_1.length : Int) : Int) := of_decide_eq_true (by first | (with_reducible assumption) | assumption); first | exact h_ | (have e_ := (Kd.R_reads' HO_2.out).1; omega) | simpa using h_) (seg := [.int .i16 (IntKind.i16.wrap (x10_1 + t122))]) (j := 2) hcl19 hcc19 (show 3 ≤ 3 from by decide) (x' := (⟨(rd_T123 y120 x16_1).f0, (rd_T123 y120 x16_1).f1, IntKind.i16.wrap (x10_1 + t122)⟩ : S123)) (k123_mkM _ _ _ (⟨(rd_T123 y120 x16_1).f0, (rd_T123 y120 x16_1).f1, IntKind.i16.wrap (x10_1 + t122)⟩ : S123) ) (fun _ hk => hk); have hx19_2 := hcc19 2 _ rfl; (try simp only [show (k123).sz = 3 from rfl, Nat.mul_one, Nat.add_zero] at hx19_2); have hf19_2 := hfr19 2; (try simp only [show (k123).sz = 3 from rfl, Nat.mul_one, Nat.add_zero] at hf19_2); clear hcl19 hcc19 hfr19 hM19) | ((with_reducible refine gate_store (t := 30) (p := 52) rfl ?_); refine store_event (t := 30) (p := 52) (v := ?vo_w20) (w1 := (w18.setCell ⟨go9, (x16_1 : Int).toNat * 3 + 2, none⟩ (.int .i16 (IntKind.i16.wrap (x10_1 + t122))))) ?hg ?ho ?hn ?hr ?_; (case ho => rfl); (case hg => rfl); (case hn => rfl); (case hr => first | (go_simp; done) | (go_simp; rfl)); intro w20 hw; have hg : w18.grownBy w20 (some go9) := (by rw [hw]; exact HP19.2); have hp_ : Kd.R k123 123 w20 w0.heap.size (fun k_ => (P2_ k_ ∨ w.heap.size ≤ k_) ∧ k_ ≠ gb117) (.slice (some ⟨go9, 0, none⟩) x2_1.length co4) y123 := (by rw [hw, Ny123.out]; exact HP19.1); clear HP19; have n0_ := Aside0.mk (hp_); have n1_ := Aside0.mk (blk_grown (g := gb117) (o := .cells #[.int .u8 ((rd_T123 x2_1 x16_1).f0), .int .i16 ((rd_T123 x2_1 x16_1).f1), .int .i16 ((rd_T123 x2_1 x16_1).f2)] 123 (0, 0)) (by (with_reducible repeat (first | refine b1_ ?_ _ | refine b2_ ?_ | refine b3_ ?_ _)); exact BK117.out) hg (Kd.R_away HO_2.out (fun _ hk => hk.2))); have n2_ := Aside0.mk ((by rw [hw]; exact below_set (HB.out) GB9.out : Below w0.heap.size w0 w20)); have n3_ := Aside0.mk (Kept.of_grown (S := (fun k_ => P2_ k_)) hg (by repeat (first | (with_reducible first | exact HK.out | apply Kept.alloc | apply Kept.drewN | apply Kept.drew | refine Kept.setCell ?_ (.inr GW117.out) _) | exact HK.out)) (fun k_ e_ => (HO_2.out.1 k_ e_).1)); clear HO_2; clear BK117; clear HB; clear HK; have HO_2 := n0_; have BK117 := n1_; have HB := n2_; have HK := n3_; clear n0_ n1_ n2_ n3_; clear hg hw hp_))
      (try simp only [← hl2_1])
      go_roundg k1
      case measure => have := HK1.out; omega
      case rel => exact ⟨(y123), (t118), (t121), (IntKind.i16.wrap (x8_1 + t119)), (IntKind.i16.wrap (x10_1 + t122)), (wrap64 (x16_1 + 1)), (by first | rfl | (simp; done) | (simp [*]; done)), (by first | rfl | (simp; done) | (simp [*]; done)), (by first | rfl | (simp; done) | (simp [*]; done)), (by first | rfl | (simp; done) | (simp [*]; done)), (by first | rfl | (simp; done) | (simp [*]; done)), H', ⟨by have := HK1.out; omega⟩, ⟨by (try simp only [hl2_1]); (with_reducible repeat (first | apply Kd.R_alloc | apply Kd.R_drewN | apply Kd.R_drew)); exact Kd.R_mono HO_2.out (fun _ hk => hk.1)⟩, ⟨by repeat (first | (with_reducible first | exact HK.out | apply Kept.alloc | apply Kept.drewN | apply Kept.drew | refine Kept.setCell ?_ (.inr GW117.out) _) | exact HK.out)⟩, ⟨by repeat (first | (with_reducible first | exact HB.out | apply below_alloc | apply pw_below_drewN | apply below_drew1 | refine below_set ?_ GE117.out) | exact HB.out)⟩⟩
     ·rw [if_neg c7] at H
      exact absurd H (by simp)
    ·rw [if_neg c6] at H
     exact absurd H (by simp)
   ·rw [if_neg c5] at H
    have c5b0 : decide (x16_1 < (l2.length : Int)) = false := decide_eq_false c5
    (try simp only [hl2_1] at c5b0)
    clear c5
    obtain rfl := Option.some.inj H
    go_wp2
    first | go_end0 | ((try simp only [Exit.inBlock, Exit.then]); refine bodyPost_ret (results_none rfl _ _ _) rfl ?_)
    exact ⟨by first | rfl | (simp [errW_none, errW_some] <;> rfl) | (simp [*, errW_none, errW_some] <;> rfl), (by first | exact (by (with_reducible repeat (first | apply Kd.R_alloc | apply Kd.R_drewN | apply Kd.R_drew)); exact HO_2.out) | (simp only [hl2_1]; exact (by (with_reducible repeat (first | apply Kd.R_alloc | apply Kd.R_drewN | apply Kd.R_drew)); exact HO_2.out))), by repeat (first | (with_reducible first | exact HB.out | apply below_alloc | apply pw_below_drewN | apply below_drew1) | exact HB.out), by repeat (first | (with_reducible first | exact HK.out | apply Kept.alloc | apply Kept.drewN | apply Kept.drew) | exact HK.out)⟩

end Go.Proofs.Ytchkmmbedgolbaa.PFnGlyphSpots
