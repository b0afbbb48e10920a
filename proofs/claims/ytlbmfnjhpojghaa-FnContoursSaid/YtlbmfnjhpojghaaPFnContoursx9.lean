-- Written by a program of this session (xprint) out of the translation; Lean checks it.
import Derived.Test.YtlbmfnjhpojghaaPFnContoursx0
import Derived.Test.YtlbmfnjhpojghaaPFnContoursx8
namespace Go.Proofs.Ytlbmfnjhpojghaa.PFnContours
open Go.RowKit Go.Proofs.YtlbmfnjhpojghaaW.PrintWords Go.Proofs.YtlbmfnjhpojghaaW.PrintLast Go.Proofs.YtlbmfnjhpojghaaW.PrintMore
attribute [local go_sem] max2_int min2_int max_two min_two max_three min_three max_four min_four   -- for this text's walks alone
set_option linter.unusedVariables false
set_option linter.unusedSimpArgs false

attribute [local go_sem] f_add f_sub f_mul f_quo f_conv f_same f_int f_max f_store
/-! ### spec_PiecesSame: function 19 -/
def spec_PiecesSame.l0 : Nat → List (S129) → List (S129) → Int → Int → Option (Bool)
 | 0, _, _, _, _ => none
 | k + 1, x0, x1, x12, x13 => if x13 < x12 then (if 0 ≤ x13 then (if x13 ≤ (x0.length : Int) then ((spec_Piece_42.f (x0.drop (x13 : Int).toNat)).bind fun t223 => ((some (x0.take (x13 : Int).toNat : List (S129))).bind fun y226 => (if t223.length + y226.length < 5026338869833 then ((spec_Piece_41.f k (t223 ++ y226) x1).bind fun t233 => (if t233 = true then (some true) else (spec_PiecesSame.l0 k x0 x1 x12 (wrap64 (x13 + 1))))) else (none)))) else (none)) else (none)) else (some ((x0.length : Int) == 0))
def spec_PiecesSame.f (k : Nat) (l0 : List (S129)) (l1 : List (S129)) : Option (Bool) := if (l0.length : Int) = (l1.length : Int) then (spec_PiecesSame.l0 k l0 l1 (l0.length : Int) 0) else (some false)
theorem spec_PiecesSame.mono_l : ∀ k, (∀ y0 y1 y2 y3, LeO (spec_PiecesSame.l0 k y0 y1 y2 y3) (spec_PiecesSame.l0 (k + 1) y0 y1 y2 y3))
 | 0 => fun _ _ _ _ r h => by simp [spec_PiecesSame.l0] at h
 | k + 1 => by
  have ih0 := spec_PiecesSame.mono_l k
  ·intro y0 y1 y2 y3
   unfold spec_PiecesSame.l0
   repeat' first
   | (with_reducible exact ih0 _ _ _ _)
   | (with_reducible exact spec_Piece_41.mono _ _ _)
   | (with_reducible exact LeO.refl _)
   | (with_reducible exact LeO.none _)
   | (with_reducible refine LeO.ite ?_ ?_)
   | (with_reducible refine LeO.bind ?_ (fun _ => ?_))
   | exact ih0 _ _ _ _
   | exact spec_Piece_41.mono _ _ _
   | exact LeO.none _
   | refine LeO.ite ?_ ?_
   | refine LeO.bind ?_ (fun _ => ?_)
theorem spec_PiecesSame.mono : ∀ a0 a1 k, LeO (spec_PiecesSame.f k a0 a1) (spec_PiecesSame.f (k + 1) a0 a1) := by
 intro a0 a1 k
 have ih0 := spec_PiecesSame.mono_l k
 unfold spec_PiecesSame.f
 repeat' first
   | (with_reducible exact ih0 _ _ _ _)
   | (with_reducible exact spec_Piece_41.mono _ _ _)
   | (with_reducible exact LeO.refl _)
   | (with_reducible exact LeO.none _)
   | (with_reducible refine LeO.ite ?_ ?_)
   | (with_reducible refine LeO.bind ?_ (fun _ => ?_))
   | exact ih0 _ _ _ _
   | exact spec_Piece_41.mono _ _ _
   | exact LeO.none _
   | refine LeO.ite ?_ ?_
   | refine LeO.bind ?_ (fun _ => ?_)
def spec_PiecesSame.T6 : Bool × List (List Nat × List Nat) := (true, [([], []), ([], []), ([0, 1], [0, 1]), ([2], [2]), ([], []), ([], []), ([4, 5], [4, 5]), ([3, 6, 3], [3, 6]), ([], []), ([7, 8, 7], [7, 8])])
def spec_PiecesSame.B6 : List Nat := [0, 0, 3, 7, 0, 0, 48, 127, 0, 511]
theorem spec_PiecesSame.tab6 : rtab .any (opsOf Try.f19 6) = spec_PiecesSame.T6 := by kernel_rfl
theorem spec_PiecesSame.bits6 : waitsOk spec_PiecesSame.T6.2 spec_PiecesSame.B6 = true := by kernel_rfl
set_option maxHeartbeats 8000000 in
set_option maxRecDepth 100000 in
theorem spec_PiecesSame.calls (k : Nat) (A0 : Option Addr) (c0 : Nat) (l0 : List (S129)) (A1 : Option Addr) (c1 : Nat) (l1 : List (S129)) (r : Bool) (w : World) (hr0 : Kd.C k129 w A0 l0.length l0) (hc0 : l0.length ≤ c0) (hr1 : Kd.C k129 w A1 l1.length l1) (hc1 : l1.length ≤ c1) (h : spec_PiecesSame.f k l0 l1 = some r) :
  Calls Try.prog 19 #[.slice A0 l0.length c0, .slice A1 l1.length c1] w fun e w' => e = .returned (.bool r) ∧ Below w.heap.size w w' := by
 have HR0 := Aside0.mk hr0
 have HC0 := Aside0.mk hc0
 clear hr0 hc0
 have HR1 := Aside0.mk hr1
 have HC1 := Aside0.mk hc1
 clear hr1 hc1
 have HB := Aside0.mk (Below.refl w.heap.size w)
 have H : (if (l0.length : Int) = (l1.length : Int) then (spec_PiecesSame.l0 k l0 l1 (l0.length : Int) 0) else (some false)) = some r := h
 clear h
 by_cases c3 : (l0.length : Int) = (l1.length : Int)
 ·rw [if_pos c3] at H
  have c3b0 : ((l0.length : Int) == (l1.length : Int)) = true := beq_iff_eq.mpr c3
  have c3b1 : ((l0.length : Int) != (l1.length : Int)) = false := bne_eq_false_iff_eq.mpr c3
  have c3b2 : (l0.length == l1.length) = true := by first | simpa using c3 | (simp at c3 ⊢; omega)
  clear c3
  have H' := Aside0.mk H
  clear H
  go_enter Try.func19, Try.ntmps19
  go_wp2
  go_loopg [13] k (fun kq v13 w' => ∃ (x13_1 : Int), v13 = .int .i64 x13_1 ∧ Aside0 (spec_PiecesSame.l0 kq l0 l1 (l0.length : Int) x13_1 = some r) ∧ Aside0 (kq ≤ k) ∧ Aside0 (Below w.heap.size w w'))
  case atStart => exact ⟨(0), (by first | rfl | (simp; done) | (simp [*]; done)), H', ⟨Nat.le_refl _⟩, ⟨by repeat (first | (with_reducible first | exact HB.out | apply below_alloc | apply pw_below_drewN | apply below_drew1) | exact HB.out)⟩⟩
  case round =>
   clear H'
   (try clear c1); (try clear p2); (try clear c3); (try clear c3b0); (try clear c3b1); (try clear c3b2)
   obtain ⟨x13_1, rfl, HA, HK1, HB⟩ := hrel
   cases gk with
   | zero => exact absurd HA.out (by simp [spec_PiecesSame.l0])
   | succ k1 =>
    have H := HA.out
    clear HA
    simp only [spec_PiecesSame.l0] at H
    by_cases c4 : x13_1 < (l0.length : Int)
    ·rw [if_pos c4] at H
     have c4b0 : decide (x13_1 < (l0.length : Int)) = true := decide_eq_true c4
     clear c4
     by_cases c5 : 0 ≤ x13_1
     rotate_left
     ·rw [if_neg c5] at H
      exact absurd H (by simp)
     rw [if_pos c5] at H
     have c5b0 := eq_true c5
     have c5b1 : decide (0 ≤ x13_1) = true := decide_eq_true c5
     clear c5
     by_cases c6 : x13_1 ≤ (l0.length : Int)
     rotate_left
     ·rw [if_neg c6] at H
      exact absurd H (by simp)
     rw [if_pos c6] at H
     have c6b0 := eq_true c6
     have c6b1 : decide (x13_1 ≤ (l0.length : Int)) = true := decide_eq_true c6
     clear c6
     obtain ⟨y219, hy219⟩ : ∃ y_ : List (S129), y_ = (l0.drop (x13_1 : Int).toNat) := ⟨_, rfl⟩
     replace H : ((spec_Piece_42.f y219).bind fun t223 => ((some (l0.take (x13_1 : Int).toNat : List (S129))).bind fun y226 => (if t223.length + y226.length < 5026338869833 then ((spec_Piece_41.f k1 (t223 ++ y226) l1).bind fun t233 => (if t233 = true then (some true) else (spec_PiecesSame.l0 k1 l0 l1 (l0.length : Int) (wrap64 (x13_1 + 1))))) else (none)))) = some r := by first | (rw [hy219]; with_reducible exact H) | (have H2_ := (Option.bind_some _ _).symm.trans H; rw [hy219]; with_reducible exact H2_) | (have H2_ := (Option.bind_some _ _).symm.trans H; with_reducible exact H2_) | with_reducible exact H | (rw [hy219]; exact H) | exact H
     have Ny219 := Aside0.mk hy219
     clear hy219
     replace H := Option.bind_eq_some_iff.mp H
     obtain ⟨t223, A70, H⟩ := H
     replace H : ((some (l0.take (x13_1 : Int).toNat : List (S129))).bind fun y226 => (if t223.length + y226.length < 5026338869833 then ((spec_Piece_41.f k1 (t223 ++ y226) l1).bind fun t233 => (if t233 = true then (some true) else (spec_PiecesSame.l0 k1 l0 l1 (l0.length : Int) (wrap64 (x13_1 + 1))))) else (none))) = some r := H
     have A7 := Aside0.mk A70
     clear A70
     have c8b0 := eq_true (of_decide_eq_true (by first | (with_reducible assumption) | assumption) : 0 ≤ x13_1)
     have c9b0 := eq_true (of_decide_eq_true (by first | (with_reducible assumption) | assumption) : x13_1 ≤ (l0.length : Int))
     obtain ⟨y226, hy226⟩ : ∃ y_ : List (S129), y_ = (l0.take (x13_1 : Int).toNat) := ⟨_, rfl⟩
     replace H : (if t223.length + y226.length < 5026338869833 then ((spec_Piece_41.f k1 (t223 ++ y226) l1).bind fun t233 => (if t233 = true then (some true) else (spec_PiecesSame.l0 k1 l0 l1 (l0.length : Int) (wrap64 (x13_1 + 1))))) else (none)) = some r := by first | (rw [hy226]; with_reducible exact H) | (have H2_ := (Option.bind_some _ _).symm.trans H; rw [hy226]; with_reducible exact H2_) | (have H2_ := (Option.bind_some _ _).symm.trans H; with_reducible exact H2_) | with_reducible exact H | (rw [hy226]; exact H) | exact H
     have Ny226 := Aside0.mk hy226
     clear hy226
     by_cases c10 : t223.length + y226.length < 5026338869833
     rotate_left
     ·rw [if_neg c10] at H
      exact absurd H (by simp)
     rw [if_pos c10] at H
     have LMc10 := Aside0.mk c10
     clear c10
     obtain ⟨y230, hy230⟩ : ∃ y_ : List (S129), y_ = (t223 ++ y226) := ⟨_, rfl⟩
     replace H : ((spec_Piece_41.f k1 y230 l1).bind fun t233 => (if t233 = true then (some true) else (spec_PiecesSame.l0 k1 l0 l1 (l0.length : Int) (wrap64 (x13_1 + 1))))) = some r := by first | (rw [hy230]; with_reducible exact H) | (have H2_ := (Option.bind_some _ _).symm.trans H; rw [hy230]; with_reducible exact H2_) | (have H2_ := (Option.bind_some _ _).symm.trans H; with_reducible exact H2_) | with_reducible exact H | (rw [hy230]; exact H) | exact H
     have Ny230 := Aside0.mk hy230
     clear hy230
     replace H := Option.bind_eq_some_iff.mp H
     obtain ⟨t233, A110, H⟩ := H
     replace H : (if t233 = true then (some true) else (spec_PiecesSame.l0 k1 l0 l1 (l0.length : Int) (wrap64 (x13_1 + 1)))) = some r := H
     have A11 := Aside0.mk A110
     clear A110
     by_cases c12 : t233 = true
     ·subst c12
      have H1 : (some true) = some r := by rw [if_pos rfl] at H; exact H
      clear H
      have H := H1
      clear H1
      obtain rfl := Option.some.inj H
      try go_wp2
      have n0_ := Aside0.mk (below_drew1 HB.out)
      clear HB
      have HB := n0_
      clear n0_
      have q14 : (x13_1 : Int) ≤ ((l0.length : Int) : Int) := of_decide_eq_true (by first | (with_reducible assumption) | assumption)
      obtain ⟨i014, hi014, _, hsz14, _⟩ := info_parts info129
      have hroom14 : l0.length ≤ c0 := HC0.out
      have hC14 : Kd.C k129 _ A0 l0.length l0 := HR0.out
      have q014 : (0 : Int) ≤ (x13_1 : Int) := of_decide_eq_true (by first | (with_reducible assumption) | assumption)
      have hcut14 := cut_from (P := Try.prog) 62 129 .i64 Try.underlying62 hi014 7 hsz14 A0 l0.length c0 x13_1 q014 q14
      have hr14 := Kd.C_drop (m := (x13_1 : Int).toNat) (c := c0) hC14 (by omega) hroom14
      obtain ⟨A14, hA14⟩ : ∃ A1, A1 = (if c0 = (x13_1 : Int).toNat then A0 else (A0 : Option Addr).map (·.add ((x13_1 : Int).toNat * 7))) := ⟨_, rfl⟩
      obtain ⟨c14, hc14⟩ : ∃ c1, c1 = c0 - (x13_1 : Int).toNat := ⟨_, rfl⟩
      have hy14 : y219.length = l0.length - (x13_1 : Int).toNat := (by rw [Ny219.out, List.length_drop] <;> omega)
      rw [show (l0).drop (x13_1 : Int).toNat = y219 from Ny219.out.symm] at hr14
      replace hr14 : Kd.C k129 _ A14 y219.length y219 := (by rw [hA14]; exact hr14)
      rw [← hy14, ← hA14, ← hc14] at hcut14
      have HR222 := Aside0.mk hr14
      have HC222 := Aside0.mk (show y219.length ≤ c14 from by rw [hy14, hc14]; exact Nat.sub_le_sub_right hroom14 _)
      clear hr14 hC14 hroom14 hi014 hsz14 hc14
      have KY14 := Aside0.mk hy14
      have KA14 := Aside0.mk hA14
      clear hy14 hA14
      replace q14 := eq_true q14
      have q15 : (x13_1 : Int) ≤ ((l0.length : Int) : Int) := of_decide_eq_true (by first | (with_reducible assumption) | assumption)
      obtain ⟨i015, hi015, _, hsz15, _⟩ := info_parts info129
      have hroom15 : l0.length ≤ c0 := HC0.out
      have hC15 : Kd.C k129 _ A0 l0.length l0 := HR0.out
      have hcut15 := cut_to (P := Try.prog) 62 129 .i64 Try.underlying62 hi015 A0 l0.length c0 x13_1 (of_decide_eq_true (by first | (with_reducible assumption) | assumption)) q15 hroom15
      have hr15 := Kd.C_take (m := (x13_1 : Int).toNat) hC15 (by omega)
      have hy15 : y226.length = (x13_1 : Int).toNat := (by rw [Ny226.out, List.length_take]; omega)
      rw [← Ny226.out] at hr15
      rw [← hy15] at hcut15
      have HR229 := Aside0.mk hr15
      have HC229 := Aside0.mk (show y226.length ≤ c0 from by omega)
      clear hr15 hC15 hroom15 hi015 hsz15
      have KY15 := Aside0.mk hy15
      clear hy15
      replace q15 := eq_true q15
      refine start_ (n := 10) (S := fun w' => True) (ds := []) #[ff,ff,ff,ff,ff,ff,ff,ff,ff,ff] (by kernel_rfl) rfl rfl trivial (fun hHeld => ?_); refine with_tabW spec_PiecesSame.tab6 spec_PiecesSame.bits6 (fun HT_ HW_ => ?_)
      generalize wr.drew = w13 at HB HR222 HR229 hHeld ⊢
      refine pure_ (i := 0) (N := some 16) (v := ?_) (a' := ?_) #[tt,ff,ff,ff,ff,ff,ff,ff,ff,ff] rfl rfl (any_of HT_.out (by kernel_rfl)) (fun _ _ _ h => h) (Or.inl ⟨by rfl, ?_⟩) ?_ ?_
      rotate_left
      ·intro w'
       go_simp
       with_reducible rfl
      rotate_left
      ·simp only [Act.put, L1_, L2_, L3_, i64_w, i32_w]
       rfl
      refine pure_ (i := 1) (N := some 17) (v := ?_) (a' := ?_) #[tt,tt,ff,ff,ff,ff,ff,ff,ff,ff] rfl rfl (any_of HT_.out (by kernel_rfl)) (fun _ _ _ h => h) (Or.inl ⟨by rfl, ?_⟩) ?_ ?_
      rotate_left
      ·intro w'
       go_simp
       with_reducible rfl
      rotate_left
      ·simp only [Act.put, L1_, L2_, L3_, i64_w, i32_w]
       rfl
      refine pure_ (i := 2) (N := some 18) (v := ?_) (a' := ?_) #[tt,tt,tt,ff,ff,ff,ff,ff,ff,ff] rfl rfl (any_of HT_.out (by kernel_rfl)) (fun _ _ _ h => h) (Or.inl ⟨by rfl, ?_⟩) ?_ ?_
      rotate_left
      ·intro w'
       go_simp
       with_reducible rfl
      rotate_left
      ·simp only [Act.put, L1_, L2_, L3_, i64_w, i32_w]
       rfl
      refine pure_ (i := 4) (N := some 20) (v := ?_) (a' := ?_) #[tt,tt,tt,ff,tt,ff,ff,ff,ff,ff] rfl rfl (any_of HT_.out (by kernel_rfl)) (fun _ _ _ h => h) (Or.inl ⟨by rfl, ?_⟩) ?_ ?_
      rotate_left
      ·intro w'
       go_simp
       with_reducible rfl
      rotate_left
      ·simp only [Act.put, L1_, L2_, L3_, i64_w, i32_w]
       rfl
      refine pure_ (i := 5) (N := some 21) (v := ?_) (a' := ?_) #[tt,tt,tt,ff,tt,tt,ff,ff,ff,ff] rfl rfl (any_of HT_.out (by kernel_rfl)) (fun _ _ _ h => h) (Or.inl ⟨by rfl, ?_⟩) ?_ ?_
      rotate_left
      ·intro w'
       go_simp
       with_reducible rfl
      rotate_left
      ·simp only [Act.put, L1_, L2_, L3_, i64_w, i32_w]
       rfl
      refine pure_ (i := 6) (N := some 22) (v := ?_) (a' := ?_) #[tt,tt,tt,ff,tt,tt,tt,ff,ff,ff] rfl rfl (any_of HT_.out (by kernel_rfl)) (fun _ _ _ h => h) (Or.inl ⟨by rfl, ?_⟩) ?_ ?_
      rotate_left
      ·intro w'
       go_simp
       with_reducible rfl
      rotate_left
      ·simp only [Act.put, L1_, L2_, L3_, i64_w, i32_w]
       rfl
      refine pure_ (i := 8) (N := some 24) (v := ?_) (a' := ?_) #[tt,tt,tt,ff,tt,tt,tt,ff,tt,ff] rfl rfl (any_of HT_.out (by kernel_rfl)) (fun _ _ _ h => h) (Or.inl ⟨by rfl, ?_⟩) ?_ ?_
      rotate_left
      ·intro w'
       go_simp
       with_reducible rfl
      rotate_left
      ·simp only [Act.put, L1_, L2_, L3_, i64_w, i32_w]
       rfl
      refine one_ (i := 3) (N := some 19) #[true, true, true, true, true, true, true, false, true, false] rfl rfl (one_of HT_.out (by kernel_rfl)) (by decide) (fun K hK => ?_)
      refine goes_ Try.func42 (by kernel_rfl) rfl #[.slice A14 y219.length c14] (by rfl) rfl rfl (by (try simp only [List.map_toArray, List.map_cons, List.map_nil]); first | done | rfl | (simp only [List.length_drop, List.length_take]; rfl)) ?_
      with_reducible refine (spec_Piece_42.calls _ _ y219 t223 _ ?side1 ?side2 A7.out).mono ?_
      (case side1 => repeat (first | exact (Kd.C_below HR222.out HB.out) | (with_reducible refine Kd.C_alloc ?_ _) | (with_reducible refine Kd.C_drewN ?_ _) | (with_reducible refine Kd.C_drew ?_)))
      (case side2 => exact HC222.out)
      rintro e w16 ⟨v224, rfl, ho0, hb⟩
      refine ⟨_, rfl, ?_⟩
      have n0_ := Aside0.mk (Kd.R_lower ho0 (below_size (by repeat (first | (with_reducible first | exact HB.out | apply below_alloc | apply pw_below_drewN | apply below_drew1) | exact HB.out))))
      have n1_ := Aside0.mk (below_step (by repeat (first | (with_reducible first | exact HB.out | apply below_alloc | apply pw_below_drewN | apply below_drew1) | exact HB.out)) hb)
      clear HB
      have HO225 := n0_
      have HB := n1_
      clear n0_ n1_
      (try clear hb)
      (try clear hb2)
      (try clear hk)
      (try clear hi)
      (try clear ho0)
      refine hK.out _ _ trivial (fun hHeld => ?_)
      clear hK K
      refine norm_ (a' := ?_) ?_ ?_
      rotate_left
      ·show Act.put _ (some 19) _ = _
       simp only [Act.put, L1_, L2_, L3_, i64_w, i32_w]
       rfl
      refine one_ (i := 7) (N := some 23) #[true, true, true, true, true, true, true, true, true, false] rfl rfl (one_of HT_.out (by kernel_rfl)) (by decide) (fun K hK => ?_)
      refine Kd.R_append_rows_step k129 (w0 := w) w.heap.size (by rfl) (.tmp 19) (.tmp 22) 62 129 (.agg #[(.bool false), (.float .f32 0), (.float .f32 0), (.float .f32 0), (.float .f32 0), (.float .f32 0), (.float .f32 0)]) 28 rfl Try.underlying62 info129 rfl (by decide) (by omega) v224 t223 y226 _ _ _ (fun _ => True) (fun _ => False) rfl rfl ?aO ?aR (fun _ _ h => h) (fun _ h => h.elim) ?aF ?aB ?aS ?aL ?_
      (case aR => repeat (first | exact (Kd.C_below HR229.out HB.out) | (with_reducible refine Kd.C_alloc ?_ _) | (with_reducible refine Kd.C_drewN ?_ _) | (with_reducible refine Kd.C_drew ?_)))
      (case aB => exact (by repeat (first | (with_reducible first | exact HB.out | apply below_alloc | apply pw_below_drewN | apply below_drew1) | exact HB.out)))
      (case aF => exact (fun _ _ => trivial))
      (case aO => exact (by (with_reducible repeat (first | apply Kd.R_alloc | apply Kd.R_drewN | apply Kd.R_drew)); exact HO225.out))
      (case aS => exact (below_size (by repeat (first | (with_reducible first | exact HB.out | apply below_alloc | apply pw_below_drewN | apply below_drew1) | exact HB.out))))
      (case aL => have := LMc10.out; omega)
      intro v231 w17 ho hb hg hat
      rw [← Ny230.out] at ho
      have n0_ := Aside0.mk (hb)
      have n1_ := Aside0.mk (ho)
      clear HB
      clear HO225
      have HB := n0_
      have HO232 := n1_
      clear n0_ n1_
      clear ho hb hg hat
      obtain ⟨Ao18, co18, eo18⟩ := Kd.R_slice HO232.out
      (first | subst eo18 | (injection eo18 with f1_ f2_ f3_; have f4_ := f1_.symm; have f5_ := f3_.symm; clear f1_ f2_ f3_; subst f4_; subst f5_))
      refine hK.out _ _ trivial (fun hHeld => ?_)
      clear hK K
      refine norm_ (a' := ?_) ?_ ?_
      rotate_left
      ·show Act.put _ (some 23) _ = _
       simp only [Act.put, L1_, L2_, L3_, i64_w, i32_w]
       rfl
      refine one_ (i := 9) (N := some 25) #[true, true, true, true, true, true, true, true, true, true] rfl rfl (one_of HT_.out (by kernel_rfl)) (by decide) (fun K hK => ?_)
      refine goes_ Try.func41 (by kernel_rfl) rfl #[.slice Ao18 y230.length co18, .slice A1 l1.length c1] (by rfl) rfl rfl (by (try simp only [List.map_toArray, List.map_cons, List.map_nil]); first | done | rfl | (simp only [List.length_drop, List.length_take]; rfl)) ?_
      with_reducible refine (spec_Piece_41.calls k1 _ _ y230 _ _ l1 true _ ?side1 ?side2 ?side3 ?side4 A11.out).mono ?_
      (case side1 => repeat (first | exact (Kd.R_reads' HO232.out).2.2 | (with_reducible refine Kd.C_alloc ?_ _) | (with_reducible refine Kd.C_drewN ?_ _) | (with_reducible refine Kd.C_drew ?_)))
      (case side2 => exact (Kd.R_reads' HO232.out).2.1)
      (case side3 => repeat (first | exact (Kd.C_below HR1.out HB.out) | (with_reducible refine Kd.C_alloc ?_ _) | (with_reducible refine Kd.C_drewN ?_ _) | (with_reducible refine Kd.C_drew ?_)))
      (case side4 => exact HC1.out)
      rintro e w' ⟨rfl, ⟨nd, rfl⟩⟩
      refine ⟨_, rfl, ?_⟩
      refine hK.out _ _ trivial (fun hHeld => ?_)
      clear hK K
      refine norm_ (a' := ?_) ?_ ?_
      rotate_left
      ·show Act.put _ (some 25) _ = _
       simp only [Act.put, L1_, L2_, L3_, i64_w, i32_w]
       rfl
      refine done_ (done_of HT_.out (by kernel_rfl)) ?_
      try go_wp2
      go_ret
      exact ⟨by first | rfl | (simp [errW_none, errW_some] <;> rfl) | (simp [*, errW_none, errW_some] <;> rfl), by repeat (first | (with_reducible first | exact HB.out | apply below_alloc | apply pw_below_drewN | apply below_drew1) | exact HB.out)⟩
     ·replace c12 := Bool.eq_false_iff.mpr c12
      subst c12
      have H1 : (spec_PiecesSame.l0 k1 l0 l1 (l0.length : Int) (wrap64 (x13_1 + 1))) = some r := by rw [if_neg (show ¬ (false = true) by decide)] at H; exact H
      clear H
      have H := H1
      clear H1
      have H' := Aside0.mk H
      clear H
      try go_wp2
      have n0_ := Aside0.mk (below_drew1 HB.out)
      clear HB
      have HB := n0_
      clear n0_
      have q20 : (x13_1 : Int) ≤ ((l0.length : Int) : Int) := of_decide_eq_true (by first | (with_reducible assumption) | assumption)
      obtain ⟨i020, hi020, _, hsz20, _⟩ := info_parts info129
      have hroom20 : l0.length ≤ c0 := HC0.out
      have hC20 : Kd.C k129 _ A0 l0.length l0 := HR0.out
      have q020 : (0 : Int) ≤ (x13_1 : Int) := of_decide_eq_true (by first | (with_reducible assumption) | assumption)
      have hcut20 := cut_from (P := Try.prog) 62 129 .i64 Try.underlying62 hi020 7 hsz20 A0 l0.length c0 x13_1 q020 q20
      have hr20 := Kd.C_drop (m := (x13_1 : Int).toNat) (c := c0) hC20 (by omega) hroom20
      obtain ⟨A20, hA20⟩ : ∃ A1, A1 = (if c0 = (x13_1 : Int).toNat then A0 else (A0 : Option Addr).map (·.add ((x13_1 : Int).toNat * 7))) := ⟨_, rfl⟩
      obtain ⟨c20, hc20⟩ : ∃ c1, c1 = c0 - (x13_1 : Int).toNat := ⟨_, rfl⟩
      have hy20 : y219.length = l0.length - (x13_1 : Int).toNat := (by rw [Ny219.out, List.length_drop] <;> omega)
      rw [show (l0).drop (x13_1 : Int).toNat = y219 from Ny219.out.symm] at hr20
      replace hr20 : Kd.C k129 _ A20 y219.length y219 := (by rw [hA20]; exact hr20)
      rw [← hy20, ← hA20, ← hc20] at hcut20
      have HR222 := Aside0.mk hr20
      have HC222 := Aside0.mk (show y219.length ≤ c20 from by rw [hy20, hc20]; exact Nat.sub_le_sub_right hroom20 _)
      clear hr20 hC20 hroom20 hi020 hsz20 hc20
      have KY20 := Aside0.mk hy20
      have KA20 := Aside0.mk hA20
      clear hy20 hA20
      replace q20 := eq_true q20
      have q21 : (x13_1 : Int) ≤ ((l0.length : Int) : Int) := of_decide_eq_true (by first | (with_reducible assumption) | assumption)
      obtain ⟨i021, hi021, _, hsz21, _⟩ := info_parts info129
      have hroom21 : l0.length ≤ c0 := HC0.out
      have hC21 : Kd.C k129 _ A0 l0.length l0 := HR0.out
      have hcut21 := cut_to (P := Try.prog) 62 129 .i64 Try.underlying62 hi021 A0 l0.length c0 x13_1 (of_decide_eq_true (by first | (with_reducible assumption) | assumption)) q21 hroom21
      have hr21 := Kd.C_take (m := (x13_1 : Int).toNat) hC21 (by omega)
      have hy21 : y226.length = (x13_1 : Int).toNat := (by rw [Ny226.out, List.length_take]; omega)
      rw [← Ny226.out] at hr21
      rw [← hy21] at hcut21
      have HR229 := Aside0.mk hr21
      have HC229 := Aside0.mk (show y226.length ≤ c0 from by omega)
      clear hr21 hC21 hroom21 hi021 hsz21
      have KY21 := Aside0.mk hy21
      clear hy21
      replace q21 := eq_true q21
      refine start_ (n := 10) (S := fun w' => True) (ds := []) #[ff,ff,ff,ff,ff,ff,ff,ff,ff,ff] (by kernel_rfl) rfl rfl trivial (fun hHeld => ?_); refine with_tabW spec_PiecesSame.tab6 spec_PiecesSame.bits6 (fun HT_ HW_ => ?_)
      generalize wr.drew = w19 at HB HR222 HR229 hHeld ⊢
      refine pure_ (i := 0) (N := some 16) (v := ?_) (a' := ?_) #[tt,ff,ff,ff,ff,ff,ff,ff,ff,ff] rfl rfl (any_of HT_.out (by kernel_rfl)) (fun _ _ _ h => h) (Or.inl ⟨by rfl, ?_⟩) ?_ ?_
      rotate_left
      ·intro w'
       go_simp
       with_reducible rfl
      rotate_left
      ·simp only [Act.put, L1_, L2_, L3_, i64_w, i32_w]
       rfl
      refine pure_ (i := 1) (N := some 17) (v := ?_) (a' := ?_) #[tt,tt,ff,ff,ff,ff,ff,ff,ff,ff] rfl rfl (any_of HT_.out (by kernel_rfl)) (fun _ _ _ h => h) (Or.inl ⟨by rfl, ?_⟩) ?_ ?_
      rotate_left
      ·intro w'
       go_simp
       with_reducible rfl
      rotate_left
      ·simp only [Act.put, L1_, L2_, L3_, i64_w, i32_w]
       rfl
      refine pure_ (i := 2) (N := some 18) (v := ?_) (a' := ?_) #[tt,tt,tt,ff,ff,ff,ff,ff,ff,ff] rfl rfl (any_of HT_.out (by kernel_rfl)) (fun _ _ _ h => h) (Or.inl ⟨by rfl, ?_⟩) ?_ ?_
      rotate_left
      ·intro w'
       go_simp
       with_reducible rfl
      rotate_left
      ·simp only [Act.put, L1_, L2_, L3_, i64_w, i32_w]
       rfl
      refine pure_ (i := 4) (N := some 20) (v := ?_) (a' := ?_) #[tt,tt,tt,ff,tt,ff,ff,ff,ff,ff] rfl rfl (any_of HT_.out (by kernel_rfl)) (fun _ _ _ h => h) (Or.inl ⟨by rfl, ?_⟩) ?_ ?_
      rotate_left
      ·intro w'
       go_simp
       with_reducible rfl
      rotate_left
      ·simp only [Act.put, L1_, L2_, L3_, i64_w, i32_w]
       rfl
      refine pure_ (i := 5) (N := some 21) (v := ?_) (a' := ?_) #[tt,tt,tt,ff,tt,tt,ff,ff,ff,ff] rfl rfl (any_of HT_.out (by kernel_rfl)) (fun _ _ _ h => h) (Or.inl ⟨by rfl, ?_⟩) ?_ ?_
      rotate_left
      ·intro w'
       go_simp
       with_reducible rfl
      rotate_left
      ·simp only [Act.put, L1_, L2_, L3_, i64_w, i32_w]
       rfl
      refine pure_ (i := 6) (N := some 22) (v := ?_) (a' := ?_) #[tt,tt,tt,ff,tt,tt,tt,ff,ff,ff] rfl rfl (any_of HT_.out (by kernel_rfl)) (fun _ _ _ h => h) (Or.inl ⟨by rfl, ?_⟩) ?_ ?_
      rotate_left
      ·intro w'
       go_simp
       with_reducible rfl
      rotate_left
      ·simp only [Act.put, L1_, L2_, L3_, i64_w, i32_w]
       rfl
      refine pure_ (i := 8) (N := some 24) (v := ?_) (a' := ?_) #[tt,tt,tt,ff,tt,tt,tt,ff,tt,ff] rfl rfl (any_of HT_.out (by kernel_rfl)) (fun _ _ _ h => h) (Or.inl ⟨by rfl, ?_⟩) ?_ ?_
      rotate_left
      ·intro w'
       go_simp
       with_reducible rfl
      rotate_left
      ·simp only [Act.put, L1_, L2_, L3_, i64_w, i32_w]
       rfl
      refine one_ (i := 3) (N := some 19) #[true, true, true, true, true, true, true, false, true, false] rfl rfl (one_of HT_.out (by kernel_rfl)) (by decide) (fun K hK => ?_)
      refine goes_ Try.func42 (by kernel_rfl) rfl #[.slice A20 y219.length c20] (by rfl) rfl rfl (by (try simp only [List.map_toArray, List.map_cons, List.map_nil]); first | done | rfl | (simp only [List.length_drop, List.length_take]; rfl)) ?_
      with_reducible refine (spec_Piece_42.calls _ _ y219 t223 _ ?side1 ?side2 A7.out).mono ?_
      (case side1 => repeat (first | exact (Kd.C_below HR222.out HB.out) | (with_reducible refine Kd.C_alloc ?_ _) | (with_reducible refine Kd.C_drewN ?_ _) | (with_reducible refine Kd.C_drew ?_)))
      (case side2 => exact HC222.out)
      rintro e w22 ⟨v224, rfl, ho0, hb⟩
      refine ⟨_, rfl, ?_⟩
      have n0_ := Aside0.mk (Kd.R_lower ho0 (below_size (by repeat (first | (with_reducible first | exact HB.out | apply below_alloc | apply pw_below_drewN | apply below_drew1) | exact HB.out))))
      have n1_ := Aside0.mk (below_step (by repeat (first | (with_reducible first | exact HB.out | apply below_alloc | apply pw_below_drewN | apply below_drew1) | exact HB.out)) hb)
      clear HB
      have HO225 := n0_
      have HB := n1_
      clear n0_ n1_
      (try clear hb)
      (try clear hb2)
      (try clear hk)
      (try clear hi)
      (try clear ho0)
      refine hK.out _ _ trivial (fun hHeld => ?_)
      clear hK K
      refine norm_ (a' := ?_) ?_ ?_
      rotate_left
      ·show Act.put _ (some 19) _ = _
       simp only [Act.put, L1_, L2_, L3_, i64_w, i32_w]
       rfl
      refine one_ (i := 7) (N := some 23) #[true, true, true, true, true, true, true, true, true, false] rfl rfl (one_of HT_.out (by kernel_rfl)) (by decide) (fun K hK => ?_)
      refine Kd.R_append_rows_step k129 (w0 := w) w.heap.size (by rfl) (.tmp 19) (.tmp 22) 62 129 (.agg #[(.bool false), (.float .f32 0), (.float .f32 0), (.float .f32 0), (.float .f32 0), (.float .f32 0), (.float .f32 0)]) 28 rfl Try.underlying62 info129 rfl (by decide) (by omega) v224 t223 y226 _ _ _ (fun _ => True) (fun _ => False) rfl rfl ?aO ?aR (fun _ _ h => h) (fun _ h => h.elim) ?aF ?aB ?aS ?aL ?_
      (case aR => repeat (first | exact (Kd.C_below HR229.out HB.out) | (with_reducible refine Kd.C_alloc ?_ _) | (with_reducible refine Kd.C_drewN ?_ _) | (with_reducible refine Kd.C_drew ?_)))
      (case aB => exact (by repeat (first | (with_reducible first | exact HB.out | apply below_alloc | apply pw_below_drewN | apply below_drew1) | exact HB.out)))
      (case aF => exact (fun _ _ => trivial))
      (case aO => exact (by (with_reducible repeat (first | apply Kd.R_alloc | apply Kd.R_drewN | apply Kd.R_drew)); exact HO225.out))
      (case aS => exact (below_size (by repeat (first | (with_reducible first | exact HB.out | apply below_alloc | apply pw_below_drewN | apply below_drew1) | exact HB.out))))
      (case aL => have := LMc10.out; omega)
      intro v231 w23 ho hb hg hat
      rw [← Ny230.out] at ho
      have n0_ := Aside0.mk (hb)
      have n1_ := Aside0.mk (ho)
      clear HB
      clear HO225
      have HB := n0_
      have HO232 := n1_
      clear n0_ n1_
      clear ho hb hg hat
      obtain ⟨Ao24, co24, eo24⟩ := Kd.R_slice HO232.out
      (first | subst eo24 | (injection eo24 with f1_ f2_ f3_; have f4_ := f1_.symm; have f5_ := f3_.symm; clear f1_ f2_ f3_; subst f4_; subst f5_))
      refine hK.out _ _ trivial (fun hHeld => ?_)
      clear hK K
      refine norm_ (a' := ?_) ?_ ?_
      rotate_left
      ·show Act.put _ (some 23) _ = _
       simp only [Act.put, L1_, L2_, L3_, i64_w, i32_w]
       rfl
      refine one_ (i := 9) (N := some 25) #[true, true, true, true, true, true, true, true, true, true] rfl rfl (one_of HT_.out (by kernel_rfl)) (by decide) (fun K hK => ?_)
      refine goes_ Try.func41 (by kernel_rfl) rfl #[.slice Ao24 y230.length co24, .slice A1 l1.length c1] (by rfl) rfl rfl (by (try simp only [List.map_toArray, List.map_cons, List.map_nil]); first | done | rfl | (simp only [List.length_drop, List.length_take]; rfl)) ?_
      with_reducible refine (spec_Piece_41.calls k1 _ _ y230 _ _ l1 false _ ?side1 ?side2 ?side3 ?side4 A11.out).mono ?_
      (case side1 => repeat (first | exact (Kd.R_reads' HO232.out).2.2 | (with_reducible refine Kd.C_alloc ?_ _) | (with_reducible refine Kd.C_drewN ?_ _) | (with_reducible refine Kd.C_drew ?_)))
      (case side2 => exact (Kd.R_reads' HO232.out).2.1)
      (case side3 => repeat (first | exact (Kd.C_below HR1.out HB.out) | (with_reducible refine Kd.C_alloc ?_ _) | (with_reducible refine Kd.C_drewN ?_ _) | (with_reducible refine Kd.C_drew ?_)))
      (case side4 => exact HC1.out)
      rintro e w' ⟨rfl, ⟨nd, rfl⟩⟩
      refine ⟨_, rfl, ?_⟩
      refine hK.out _ _ trivial (fun hHeld => ?_)
      clear hK K
      refine norm_ (a' := ?_) ?_ ?_
      rotate_left
      ·show Act.put _ (some 25) _ = _
       simp only [Act.put, L1_, L2_, L3_, i64_w, i32_w]
       rfl
      refine done_ (done_of HT_.out (by kernel_rfl)) ?_
      try go_wp2
      go_roundg k1
      case measure => have := HK1.out; omega
      case rel => exact ⟨(wrap64 (x13_1 + 1)), (by first | rfl | (simp; done) | (simp [*]; done)), H', ⟨by have := HK1.out; omega⟩, ⟨by repeat (first | (with_reducible first | exact HB.out | apply below_alloc | apply pw_below_drewN | apply below_drew1) | exact HB.out)⟩⟩
    ·rw [if_neg c4] at H
     have c4b0 : decide (x13_1 < (l0.length : Int)) = false := decide_eq_false c4
     clear c4
     obtain rfl := Option.some.inj H
     go_wp2
     go_ret
     exact ⟨by first | rfl | (simp [errW_none, errW_some] <;> rfl) | (simp [*, errW_none, errW_some] <;> rfl), by repeat (first | (with_reducible first | exact HB.out | apply below_alloc | apply pw_below_drewN | apply below_drew1) | exact HB.out)⟩
 ·rw [if_neg c3] at H
  have c3b0 : ((l0.length : Int) == (l1.length : Int)) = false := beq_eq_false_iff_ne.mpr c3
  have c3b1 : ((l0.length : Int) != (l1.length : Int)) = true := bne_iff_ne.mpr c3
  have c3b2 : (l0.length == l1.length) = false := by first | simpa using c3 | (simp at c3 ⊢; omega)
  obtain rfl := Option.some.inj H
  go_enter Try.func19, Try.ntmps19
  go_wp2
  go_ret
  exact ⟨by first | rfl | (simp [errW_none, errW_some] <;> rfl) | (simp [*, errW_none, errW_some] <;> rfl), by repeat (first | (with_reducible first | exact HB.out | apply below_alloc | apply pw_below_drewN | apply below_drew1) | exact HB.out)⟩

/-! ### spec_half: function 43 -/
def spec_half.f (a0_0 : Nat) (a0_1 : Nat) (a1_0 : Nat) (a1_1 : Nat) : Option (Nat × Nat) := if fok .add .f32 a0_0 a1_0 = true then (if fok .quo .f32 (fv .add .f32 a0_0 a1_0) 1073741824 = true then (if fok .add .f32 a0_1 a1_1 = true then (if fok .quo .f32 (fv .add .f32 a0_1 a1_1) 1073741824 = true then (some (fv .quo .f32 (fv .add .f32 a0_0 a1_0) 1073741824, fv .quo .f32 (fv .add .f32 a0_1 a1_1) 1073741824)) else (none)) else (none)) else (none)) else (none)
set_option maxHeartbeats 8000000 in
set_option maxRecDepth 100000 in
theorem spec_half.calls (a0_0 : Nat) (a0_1 : Nat) (a1_0 : Nat) (a1_1 : Nat) (r1 : Nat) (r2 : Nat) (w : World) (h : spec_half.f a0_0 a0_1 a1_0 a1_1 = some (r1, r2)) :
  Calls Try.prog 43 #[.agg #[.float .f32 a0_0, .float .f32 a0_1], .agg #[.float .f32 a1_0, .float .f32 a1_1]] w fun e w' => e = .returned (.agg #[.float .f32 r1, .float .f32 r2]) ∧ Below w.heap.size w w' := by
 have hu124 := Try.underlying124
 have HB := Aside0.mk (Below.refl w.heap.size w)
 have H : (if fok .add .f32 a0_0 a1_0 = true then (if fok .quo .f32 (fv .add .f32 a0_0 a1_0) 1073741824 = true then (if fok .add .f32 a0_1 a1_1 = true then (if fok .quo .f32 (fv .add .f32 a0_1 a1_1) 1073741824 = true then (some (fv .quo .f32 (fv .add .f32 a0_0 a1_0) 1073741824, fv .quo .f32 (fv .add .f32 a0_1 a1_1) 1073741824)) else (none)) else (none)) else (none)) else (none)) = some (r1, r2) := h
 clear h
 by_cases c3 : fok .add .f32 a0_0 a1_0 = true
 rotate_left
 ·rw [if_neg c3] at H
  exact absurd H (by simp)
 rw [if_pos c3] at H
 have c3b0 := eq_true c3
 have c3b1 : decide (fok .add .f32 a0_0 a1_0 = true) = true := decide_eq_true c3
 clear c3
 by_cases c4 : fok .quo .f32 (fv .add .f32 a0_0 a1_0) 1073741824 = true
 rotate_left
 ·rw [if_neg c4] at H
  exact absurd H (by simp)
 rw [if_pos c4] at H
 have c4b0 := eq_true c4
 have c4b1 : decide (fok .quo .f32 (fv .add .f32 a0_0 a1_0) 1073741824 = true) = true := decide_eq_true c4
 clear c4
 by_cases c5 : fok .add .f32 a0_1 a1_1 = true
 rotate_left
 ·rw [if_neg c5] at H
  exact absurd H (by simp)
 rw [if_pos c5] at H
 have c5b0 := eq_true c5
 have c5b1 : decide (fok .add .f32 a0_1 a1_1 = true) = true := decide_eq_true c5
 clear c5
 by_cases c6 : fok .quo .f32 (fv .add .f32 a0_1 a1_1) 1073741824 = true
 rotate_left
 ·rw [if_neg c6] at H
  exact absurd H (by simp)
 rw [if_pos c6] at H
 have c6b0 := eq_true c6
 have c6b1 : decide (fok .quo .f32 (fv .add .f32 a0_1 a1_1) 1073741824 = true) = true := decide_eq_true c6
 clear c6
 simp only [Option.some.injEq, Prod.mk.injEq] at H
 obtain ⟨rfl, rfl⟩ := H
 go_enter Try.func43, Try.ntmps43
 go_wp2_with (first | ((with_reducible refine gate_dst (N := 2) rfl ?_); refine box_event ?hg (N := 2) ?hd (cs := #[.float .f32 a0_0, .float .f32 a0_1]) (t := 124) ?hr ?_; (case hd => rfl); (case hg => rfl); (case hr => first | (go_simp; done) | (go_simp; rfl)); intro gb234 hg w7 hbox hb; have n0_ := Aside0.mk (below_step (by repeat (first | (with_reducible first | exact HB.out | apply below_alloc | apply pw_below_drewN | apply below_drew1) | exact HB.out)) hb); have n1_ := Aside0.mk (hbox); have n2_ := Aside0.mk ((by rw [hg]; exact (below_size (by repeat (first | (with_reducible first | exact HB.out | apply below_alloc | apply pw_below_drewN | apply below_drew1) | exact HB.out))) : w.heap.size ≤ gb234)); have n3_ := Aside0.mk ((by rw [hg]; exact (below_size (by repeat (first | (with_reducible first | exact HB.out | apply below_alloc | apply pw_below_drewN | apply below_drew1) | exact HB.out))) : w.heap.size ≤ gb234)); clear HB; have HB := n0_; have BK234 := n1_; have GW234 := n2_; have GE234 := n3_; clear n0_ n1_ n2_ n3_; clear hb hbox hg) | ((with_reducible refine gate_dst (N := 3) rfl ?_); refine box_event ?hg (N := 3) ?hd (cs := #[.float .f32 a1_0, .float .f32 a1_1]) (t := 124) ?hr ?_; (case hd => rfl); (case hg => rfl); (case hr => first | (go_simp; done) | (go_simp; rfl)); intro gb235 hg w8 hbox hb; have n0_ := Aside0.mk (blk_below (g := gb234) (o := .cells #[.float .f32 a0_0, .float .f32 a0_1] 124 (0, 0)) (by (with_reducible repeat (first | apply b1_ | apply b2_ | apply b3_)); exact BK234.out) hb); have n1_ := Aside0.mk (below_step (by repeat (first | (with_reducible first | exact HB.out | apply below_alloc | apply pw_below_drewN | apply below_drew1 | refine below_set ?_ GE234.out) | exact HB.out)) hb); have n2_ := Aside0.mk (hbox); have n3_ := Aside0.mk ((by rw [hg]; exact (below_size (by repeat (first | (with_reducible first | exact HB.out | apply below_alloc | apply pw_below_drewN | apply below_drew1 | refine below_set ?_ GE234.out) | exact HB.out))) : w.heap.size ≤ gb235)); have n4_ := Aside0.mk ((by rw [hg]; exact (below_size (by repeat (first | (with_reducible first | exact HB.out | apply below_alloc | apply pw_below_drewN | apply below_drew1 | refine below_set ?_ GE234.out) | exact HB.out))) : w.heap.size ≤ gb235)); have n5_ := Aside0.mk ((by rw [hg]; exact Nat.ne_of_lt (blk_lt (g := gb234) (o := .cells #[.float .f32 a0_0, .float .f32 a0_1] 124 (0, 0)) (by (with_reducible repeat (first | apply b1_ | apply b2_ | apply b3_)); exact BK234.out)) : gb234 ≠ gb235)); have n6_ := Aside0.mk ((by rw [hg]; exact Nat.ne_of_gt (blk_lt (g := gb234) (o := .cells #[.float .f32 a0_0, .float .f32 a0_1] 124 (0, 0)) (by (with_reducible repeat (first | apply b1_ | apply b2_ | apply b3_)); exact BK234.out)) : gb235 ≠ gb234)); clear BK234; clear HB; have BK234 := n0_; have HB := n1_; have BK235 := n2_; have GW235 := n3_; have GE235 := n4_; have NB234_235 := n5_; have NB235_234 := n6_; clear n0_ n1_ n2_ n3_ n4_ n5_ n6_; clear hb hbox hg) | ((with_reducible refine gate_dst (N := 4) rfl ?_); refine box_event ?hg (N := 4) ?hd (cs := #[.float .f32 0, .float .f32 0]) (t := 124) ?hr ?_; (case hd => rfl); (case hg => rfl); (case hr => first | (go_simp; done) | (go_simp; rfl)); intro gb236 hg w9 hbox hb; have n0_ := Aside0.mk (blk_below (g := gb234) (o := .cells #[.float .f32 a0_0, .float .f32 a0_1] 124 (0, 0)) (by (with_reducible repeat (first | apply b1_ | apply b2_ | apply b3_)); exact BK234.out) hb); have n1_ := Aside0.mk (blk_below (g := gb235) (o := .cells #[.float .f32 a1_0, .float .f32 a1_1] 124 (0, 0)) (by (with_reducible repeat (first | apply b1_ | apply b2_ | apply b3_)); exact BK235.out) hb); have n2_ := Aside0.mk (below_step (by repeat (first | (with_reducible first | exact HB.out | apply below_alloc | apply pw_below_drewN | apply below_drew1 | refine below_set ?_ GE234.out | refine below_set ?_ GE235.out) | exact HB.out)) hb); have n3_ := Aside0.mk (hbox); have n4_ := Aside0.mk ((by rw [hg]; exact (below_size (by repeat (first | (with_reducible first | exact HB.out | apply below_alloc | apply pw_below_drewN | apply below_drew1 | refine below_set ?_ GE234.out | refine below_set ?_ GE235.out) | exact HB.out))) : w.heap.size ≤ gb236)); have n5_ := Aside0.mk ((by rw [hg]; exact (below_size (by repeat (first | (with_reducible first | exact HB.out | apply below_alloc | apply pw_below_drewN | apply below_drew1 | refine below_set ?_ GE234.out | refine below_set ?_ GE235.out) | exact HB.out))) : w.heap.size ≤ gb236)); have n6_ := Aside0.mk ((by rw [hg]; exact Nat.ne_of_lt (blk_lt (g := gb234) (o := .cells #[.float .f32 a0_0, .float .f32 a0_1] 124 (0, 0)) (by (with_reducible repeat (first | apply b1_ | apply b2_ | apply b3_)); exact BK234.out)) : gb234 ≠ gb236)); have n7_ := Aside0.mk ((by rw [hg]; exact Nat.ne_of_gt (blk_lt (g := gb234) (o := .cells #[.float .f32 a0_0, .float .f32 a0_1] 124 (0, 0)) (by (with_reducible repeat (first | apply b1_ | apply b2_ | apply b3_)); exact BK234.out)) : gb236 ≠ gb234)); have n8_ := Aside0.mk ((by rw [hg]; exact Nat.ne_of_lt (blk_lt (g := gb235) (o := .cells #[.float .f32 a1_0, .float .f32 a1_1] 124 (0, 0)) (by (with_reducible repeat (first | apply b1_ | apply b2_ | apply b3_)); exact BK235.out)) : gb235 ≠ gb236)); have n9_ := Aside0.mk ((by rw [hg]; exact Nat.ne_of_gt (blk_lt (g := gb235) (o := .cells #[.float .f32 a1_0, .float .f32 a1_1] 124 (0, 0)) (by (with_reducible repeat (first | apply b1_ | apply b2_ | apply b3_)); exact BK235.out)) : gb236 ≠ gb235)); clear BK234; clear BK235; clear HB; have BK234 := n0_; have BK235 := n1_; have HB := n2_; have BK236 := n3_; have GW236 := n4_; have GE236 := n5_; have NB234_236 := n6_; have NB236_234 := n7_; have NB235_236 := n8_; have NB236_235 := n9_; clear n0_ n1_ n2_ n3_ n4_ n5_ n6_ n7_ n8_ n9_; clear hb hbox hg; have hnb10 := NB234_235.out; have hnc10 := NB235_234.out; have hnb11 := NB234_236.out; have hnc11 := NB236_234.out; have hcz12_0 : w9.cell? ⟨gb234, 0, none⟩ = some (.float .f32 a0_0) := (blk_cell BK234.out 0).trans rfl; have hcz12_1 : w9.cell? ⟨gb234, 1, none⟩ = some (.float .f32 a0_1) := (blk_cell BK234.out 1).trans rfl; have hfz12_0 := blk_frozen BK234.out 0; have hfz12_1 := blk_frozen BK234.out 1; have hnb13 := NB235_236.out; have hnc13 := NB236_235.out; have hcz14_0 : w9.cell? ⟨gb235, 0, none⟩ = some (.float .f32 a1_0) := (blk_cell BK235.out 0).trans rfl; have hcz14_1 : w9.cell? ⟨gb235, 1, none⟩ = some (.float .f32 a1_1) := (blk_cell BK235.out 1).trans rfl; have hfz14_0 := blk_frozen BK235.out 0; have hfz14_1 := blk_frozen BK235.out 1; have hcz15_0 : w9.cell? ⟨gb236, 0, none⟩ = some (.float .f32 0) := (blk_cell BK236.out 0).trans rfl; have hcz15_1 : w9.cell? ⟨gb236, 1, none⟩ = some (.float .f32 0) := (blk_cell BK236.out 1).trans rfl; have hfz15_0 := blk_frozen BK236.out 0; have hfz15_1 := blk_frozen BK236.out 1))
 refine bodyPost_ret (results_cell_row rfl _ _ gb236 124 #[.float .f32 (fv .quo .f32 (fv .add .f32 a0_0 a1_0) 1073741824), .float .f32 (fv .quo .f32 (fv .add .f32 a0_1 a1_1) 1073741824)] (0, 0) _ rfl (by (with_reducible repeat (first | apply b1_ | apply b2_ | apply b3_)); refine blk_put (cs := #[.float .f32 (fv .quo .f32 (fv .add .f32 a0_0 a1_0) 1073741824), .float .f32 0]) ?_ 1 _ rfl; (with_reducible repeat (first | apply b1_ | apply b2_ | apply b3_)); refine blk_put (cs := #[.float .f32 0, .float .f32 0]) ?_ 0 _ rfl; (with_reducible repeat (first | apply b1_ | apply b2_ | apply b3_)); exact BK236.out) Try.underlying124 rfl (by kernel_rfl)) rfl ?_
 exact ⟨by first | rfl | (simp [errW_none, errW_some] <;> rfl) | (simp [*, errW_none, errW_some] <;> rfl), by repeat (first | (with_reducible first | exact HB.out | apply below_alloc | apply pw_below_drewN | apply below_drew1 | refine below_set ?_ GE234.out | refine below_set ?_ GE235.out | refine below_set ?_ GE236.out) | exact HB.out)⟩

/-! ### spec_ContourRef_1: function 45 -/
def spec_ContourRef_1.f (a0_0 : Bool) (a0_1 : Nat) (a0_2 : Nat) : Option (Bool) := some a0_0
set_option maxHeartbeats 8000000 in
set_option maxRecDepth 100000 in
theorem spec_ContourRef_1.calls (a0_0 : Bool) (a0_1 : Nat) (a0_2 : Nat) (r : Bool) (w : World) (h : spec_ContourRef_1.f a0_0 a0_1 a0_2 = some r) :
  Calls Try.prog 45 #[.agg #[.bool a0_0, .float .f32 a0_1, .float .f32 a0_2]] w fun e w' => e = .returned (.bool r) ∧ Below w.heap.size w w' := by
 have hu141 := Try.underlying141
 have HB := Aside0.mk (Below.refl w.heap.size w)
 have H : (some a0_0) = some r := h
 clear h
 obtain rfl := Option.some.inj H
 go_enter Try.func45, Try.ntmps45
 go_wp2_with (first | ((with_reducible refine gate_dst (N := 1) rfl ?_); refine box_event ?hg (N := 1) ?hd (cs := #[.bool a0_0, .float .f32 a0_1, .float .f32 a0_2]) (t := 141) ?hr ?_; (case hd => rfl); (case hg => rfl); (case hr => first | (go_simp; done) | (go_simp; rfl)); intro gb237 hg w2 hbox hb; have n0_ := Aside0.mk (below_step (by repeat (first | (with_reducible first | exact HB.out | apply below_alloc | apply pw_below_drewN | apply below_drew1) | exact HB.out)) hb); have n1_ := Aside0.mk (hbox); have n2_ := Aside0.mk ((by rw [hg]; exact (below_size (by repeat (first | (with_reducible first | exact HB.out | apply below_alloc | apply pw_below_drewN | apply below_drew1) | exact HB.out))) : w.heap.size ≤ gb237)); have n3_ := Aside0.mk ((by rw [hg]; exact (below_size (by repeat (first | (with_reducible first | exact HB.out | apply below_alloc | apply pw_below_drewN | apply below_drew1) | exact HB.out))) : w.heap.size ≤ gb237)); clear HB; have HB := n0_; have BK237 := n1_; have GW237 := n2_; have GE237 := n3_; clear n0_ n1_ n2_ n3_; clear hb hbox hg; have hcz3_0 : w2.cell? ⟨gb237, 0, none⟩ = some (.bool a0_0) := (blk_cell BK237.out 0).trans rfl; have hcz3_1 : w2.cell? ⟨gb237, 1, none⟩ = some (.float .f32 a0_1) := (blk_cell BK237.out 1).trans rfl; have hcz3_2 : w2.cell? ⟨gb237, 2, none⟩ = some (.float .f32 a0_2) := (blk_cell BK237.out 2).trans rfl; have hfz3_0 := blk_frozen BK237.out 0; have hfz3_1 := blk_frozen BK237.out 1; have hfz3_2 := blk_frozen BK237.out 2))
 go_ret
 exact ⟨by first | rfl | (simp [errW_none, errW_some] <;> rfl) | (simp [*, errW_none, errW_some] <;> rfl), by repeat (first | (with_reducible first | exact HB.out | apply below_alloc | apply pw_below_drewN | apply below_drew1 | refine below_set ?_ GE237.out) | exact HB.out)⟩

/-! ### spec_point: function 44 -/
def spec_point.l0 : Nat → List (S141) → Int → Int → Option (Int)
 | 0, _, _, _ => none
 | k + 1, x0, x7, x8 => if x8 < x7 then (if 0 ≤ x8 then (if x8 < (x0.length : Int) then ((spec_ContourRef_1.f ((rd_T141 x0 x8).f0) ((rd_T141 x0 x8).f1.f0) ((rd_T141 x0 x8).f1.f1)).bind fun t239 => (if t239 = true then (some x8) else (spec_point.l0 k x0 x7 (wrap64 (x8 + 1))))) else (none)) else (none)) else (some (-1))
def spec_point.f (k : Nat) (l0 : List (S141)) : Option (Int) := spec_point.l0 k l0 (l0.length : Int) 0
theorem spec_point.mono_l : ∀ k, (∀ y0 y1 y2, LeO (spec_point.l0 k y0 y1 y2) (spec_point.l0 (k + 1) y0 y1 y2))
 | 0 => fun _ _ _ r h => by simp [spec_point.l0] at h
 | k + 1 => by
  have ih0 := spec_point.mono_l k
  ·intro y0 y1 y2
   unfold spec_point.l0
   repeat' first
   | (with_reducible exact ih0 _ _ _)
   | (with_reducible exact LeO.refl _)
   | (with_reducible exact LeO.none _)
   | (with_reducible refine LeO.ite ?_ ?_)
   | (with_reducible refine LeO.bind ?_ (fun _ => ?_))
   | exact ih0 _ _ _
   | exact LeO.none _
   | refine LeO.ite ?_ ?_
   | refine LeO.bind ?_ (fun _ => ?_)
theorem spec_point.mono : ∀ a0 k, LeO (spec_point.f k a0) (spec_point.f (k + 1) a0) := by
 intro a0 k
 have ih0 := spec_point.mono_l k
 unfold spec_point.f
 repeat' first
   | (with_reducible exact ih0 _ _ _)
   | (with_reducible exact LeO.refl _)
   | (with_reducible exact LeO.none _)
   | (with_reducible refine LeO.ite ?_ ?_)
   | (with_reducible refine LeO.bind ?_ (fun _ => ?_))
   | exact ih0 _ _ _
   | exact LeO.none _
   | refine LeO.ite ?_ ?_
   | refine LeO.bind ?_ (fun _ => ?_)
set_option maxHeartbeats 8000000 in
set_option maxRecDepth 100000 in
theorem spec_point.calls (k : Nat) (A0 : Option Addr) (c0 : Nat) (l0 : List (S141)) (r : Int) (w : World) (hr0 : Kd.C k141 w A0 l0.length l0) (hc0 : l0.length ≤ c0) (h : spec_point.f k l0 = some r) :
  Calls Try.prog 44 #[.slice A0 l0.length c0, .func (.func 45) #[] #[]] w fun e w' => e = .returned (.int .i64 r) ∧ Below w.heap.size w w' := by
 have hu141 := Try.underlying141
 have HR0 := Aside0.mk hr0
 have HC0 := Aside0.mk hc0
 clear hr0 hc0
 have HB := Aside0.mk (Below.refl w.heap.size w)
 have H : (spec_point.l0 k l0 (l0.length : Int) 0) = some r := h
 clear h
 have H' := Aside0.mk H
 clear H
 go_enter Try.func44, Try.ntmps44
 go_wp2
 go_loopg [8] k (fun kq v8 w' => ∃ (x8_1 : Int), v8 = .int .i64 x8_1 ∧ Aside0 (spec_point.l0 kq l0 (l0.length : Int) x8_1 = some r) ∧ Aside0 (kq ≤ k) ∧ Aside0 (Below w.heap.size w w'))
 case atStart => exact ⟨(0), (by first | rfl | (simp; done) | (simp [*]; done)), H', ⟨Nat.le_refl _⟩, ⟨by repeat (first | (with_reducible first | exact HB.out | apply below_alloc | apply pw_below_drewN | apply below_drew1) | exact HB.out)⟩⟩
 case round =>
  clear H'
  obtain ⟨x8_1, rfl, HA, HK1, HB⟩ := hrel
  cases gk with
  | zero => exact absurd HA.out (by simp [spec_point.l0])
  | succ k1 =>
   have H := HA.out
   clear HA
   simp only [spec_point.l0] at H
   by_cases c2 : x8_1 < (l0.length : Int)
   ·rw [if_pos c2] at H
    have c2b0 : decide (x8_1 < (l0.length : Int)) = true := decide_eq_true c2
    clear c2
    by_cases c3 : 0 ≤ x8_1
    rotate_left
    ·rw [if_neg c3] at H
     exact absurd H (by simp)
    rw [if_pos c3] at H
    have c3b0 : decide (0 ≤ x8_1) = true := decide_eq_true c3
    clear c3
    by_cases c4 : x8_1 < (l0.length : Int)
    rotate_left
    ·rw [if_neg c4] at H
     exact absurd H (by simp)
    rw [if_pos c4] at H
    have c4b0 : decide (x8_1 < (l0.length : Int)) = true := decide_eq_true c4
    clear c4
    replace H := Option.bind_eq_some_iff.mp H
    obtain ⟨t239, A50, H⟩ := H
    replace H : (if t239 = true then (some x8_1) else (spec_point.l0 k1 l0 (l0.length : Int) (wrap64 (x8_1 + 1)))) = some r := H
    have A5 := Aside0.mk A50
    clear A50
    by_cases c6 : t239 = true
    ·subst c6
     have H1 : (some x8_1) = some r := by rw [if_pos rfl] at H; exact H
     clear H
     have H := H1
     clear H1
     obtain rfl := Option.some.inj H
     have p238 : 0 ≤ (x8_1 : Int) := of_decide_eq_true (by first | (with_reducible assumption) | assumption)
     have q238 : x8_1 < (l0.length : Int) := of_decide_eq_true (by first | (with_reducible assumption) | assumption)
     obtain ⟨ad238, e238, hx238_0, hx238_1, hx238_2⟩ := at_T141 HR0.out x8_1 p238 q238
     cases e238
     replace hx238_0 := (HB.out.cell (World.block_lt_of_cell? w _ hx238_0)).trans hx238_0
     replace hx238_1 := (HB.out.cell (World.block_lt_of_cell? w _ hx238_1)).trans hx238_1
     replace hx238_2 := (HB.out.cell (World.block_lt_of_cell? w _ hx238_2)).trans hx238_2
     replace p238 := eq_true p238
     replace q238 := eq_true q238
     go_wp2_with fail
     (with_reducible refine (spec_ContourRef_1.calls ((rd_T141 l0 x8_1).f0) ((rd_T141 l0 x8_1).f1.f0) ((rd_T141 l0 x8_1).f1.f1) true _ A5.out).mono ?_)
     rintro e w7 ⟨rfl, hb⟩
     have n0_ := Aside0.mk (below_step (by repeat (first | (with_reducible first | exact HB.out | apply below_alloc | apply pw_below_drewN | apply below_drew1) | exact HB.out)) hb)
     clear HB
     have HB := n0_
     clear n0_
     (try clear hb)
     (try clear hb2)
     (try clear hk)
     (try clear hi)
     go_wp2
     go_ret
     exact ⟨by first | rfl | (simp [errW_none, errW_some] <;> rfl) | (simp [*, errW_none, errW_some] <;> rfl), by repeat (first | (with_reducible first | exact HB.out | apply below_alloc | apply pw_below_drewN | apply below_drew1) | exact HB.out)⟩
    ·replace c6 := Bool.eq_false_iff.mpr c6
     subst c6
     have H1 : (spec_point.l0 k1 l0 (l0.length : Int) (wrap64 (x8_1 + 1))) = some r := by rw [if_neg (show ¬ (false = true) by decide)] at H; exact H
     clear H
     have H := H1
     clear H1
     have H' := Aside0.mk H
     clear H
     have p238 : 0 ≤ (x8_1 : Int) := of_decide_eq_true (by first | (with_reducible assumption) | assumption)
     have q238 : x8_1 < (l0.length : Int) := of_decide_eq_true (by first | (with_reducible assumption) | assumption)
     obtain ⟨ad238, e238, hx238_0, hx238_1, hx238_2⟩ := at_T141 HR0.out x8_1 p238 q238
     cases e238
     replace hx238_0 := (HB.out.cell (World.block_lt_of_cell? w _ hx238_0)).trans hx238_0
     replace hx238_1 := (HB.out.cell (World.block_lt_of_cell? w _ hx238_1)).trans hx238_1
     replace hx238_2 := (HB.out.cell (World.block_lt_of_cell? w _ hx238_2)).trans hx238_2
     replace p238 := eq_true p238
     replace q238 := eq_true q238
     go_wp2_with fail
     (with_reducible refine (spec_ContourRef_1.calls ((rd_T141 l0 x8_1).f0) ((rd_T141 l0 x8_1).f1.f0) ((rd_T141 l0 x8_1).f1.f1) false _ A5.out).mono ?_)
     rintro e w8 ⟨rfl, hb⟩
     have n0_ := Aside0.mk (below_step (by repeat (first | (with_reducible first | exact HB.out | apply below_alloc | apply pw_below_drewN | apply below_drew1) | exact HB.out)) hb)
     clear HB
     have HB := n0_
     clear n0_
     (try clear hb)
     (try clear hb2)
     (try clear hk)
     (try clear hi)
     go_wp2
     go_roundg k1
     case measure => have := HK1.out; omega
     case rel => exact ⟨(wrap64 (x8_1 + 1)), (by first | rfl | (simp; done) | (simp [*]; done)), H', ⟨by have := HK1.out; omega⟩, ⟨by repeat (first | (with_reducible first | exact HB.out | apply below_alloc | apply pw_below_drewN | apply below_drew1) | exact HB.out)⟩⟩
   ·rw [if_neg c2] at H
    have c2b0 : decide (x8_1 < (l0.length : Int)) = false := decide_eq_false c2
    clear c2
    obtain rfl := Option.some.inj H
    go_wp2
    go_ret
    exact ⟨by first | rfl | (simp [errW_none, errW_some] <;> rfl) | (simp [*, errW_none, errW_some] <;> rfl), by repeat (first | (with_reducible first | exact HB.out | apply below_alloc | apply pw_below_drewN | apply below_drew1) | exact HB.out)⟩

end Go.Proofs.Ytlbmfnjhpojghaa.PFnContours
