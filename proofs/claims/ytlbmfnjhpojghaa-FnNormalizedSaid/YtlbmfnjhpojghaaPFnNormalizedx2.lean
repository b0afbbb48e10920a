-- Written by a program of this session (xprint) out of the translation; Lean checks it.
import Derived.Test.YtlbmfnjhpojghaaPFnNormalizedx0
import Derived.Test.YtlbmfnjhpojghaaPFnNormalizedx1
namespace Go.Proofs.Ytlbmfnjhpojghaa.PFnNormalized
open Go.RowKit Go.Proofs.YtlbmfnjhpojghaaW.PrintWords Go.Proofs.YtlbmfnjhpojghaaW.PrintLast Go.Proofs.YtlbmfnjhpojghaaW.PrintMore
attribute [local go_sem] max2_int min2_int max_two min_two max_three min_three max_four min_four   -- for this text's walks alone
set_option linter.unusedVariables false
set_option linter.unusedSimpArgs false

attribute [local go_sem] f_add f_sub f_mul f_quo f_conv f_same f_int f_max f_min f_neg f_store
/-! ### slices_insertionSortOrdered_int16: function 75 -/
mutual
def slices_insertionSortOrdered_int16.l0 : Nat → List Int → Int → Int → Int → Option (List Int)
 | 0, _, _, _, _ => none
 | k + 1, x0, x1, x2, x6 => if x6 < x2 then (slices_insertionSortOrdered_int16.l1 k x0 x1 x2 x6 x6) else (some x0)
def slices_insertionSortOrdered_int16.l1 : Nat → List Int → Int → Int → Int → Int → Option (List Int)
 | 0, _, _, _, _, _ => none
 | k + 1, x0, x1, x2, x6, x7 => if x7 > x1 then (if 0 ≤ x7 then (if x7 < (x0.length : Int) then (if 0 ≤ (wrap64 (x7 - 1)) then (if (wrap64 (x7 - 1)) < (x0.length : Int) then ((cmp_Less_int16.f (rd x0 x7) (rd x0 (wrap64 (x7 - 1)))).bind fun t106 => (slices_insertionSortOrdered_int16.j2 k x0 x1 x2 x6 x7 t106)) else (none)) else (none)) else (none)) else (none)) else (slices_insertionSortOrdered_int16.j2 k x0 x1 x2 x6 x7 false)
def slices_insertionSortOrdered_int16.j2 : Nat → List Int → Int → Int → Int → Int → Bool → Option (List Int)
 | 0, _, _, _, _, _, _ => none
 | k + 1, x0, x1, x2, x6, x7, x30 => if x30 = true then (if 0 ≤ (wrap64 (x7 - 1)) then (if (wrap64 (x7 - 1)) < (x0.length : Int) then (if 0 ≤ x7 then (if x7 < (x0.length : Int) then (slices_insertionSortOrdered_int16.l1 k ((x0.set (x7 : Int).toNat (rd x0 (wrap64 (x7 - 1)))).set ((wrap64 (x7 - 1)) : Int).toNat (rd x0 x7)) x1 x2 x6 (wrap64 (x7 - 1))) else (none)) else (none)) else (none)) else (none)) else (slices_insertionSortOrdered_int16.l0 k x0 x1 x2 (wrap64 (x6 + 1)))
end
def slices_insertionSortOrdered_int16.f (k : Nat) (l0 : List Int) (a1 : Int) (a2 : Int) : Option (List Int) := slices_insertionSortOrdered_int16.l0 k l0 a1 a2 (wrap64 (a1 + 1))
theorem slices_insertionSortOrdered_int16.mono_l : ∀ k, (∀ y0 y1 y2 y3, LeO (slices_insertionSortOrdered_int16.l0 k y0 y1 y2 y3) (slices_insertionSortOrdered_int16.l0 (k + 1) y0 y1 y2 y3)) ∧ (∀ y0 y1 y2 y3 y4, LeO (slices_insertionSortOrdered_int16.l1 k y0 y1 y2 y3 y4) (slices_insertionSortOrdered_int16.l1 (k + 1) y0 y1 y2 y3 y4)) ∧ (∀ y0 y1 y2 y3 y4 y5, LeO (slices_insertionSortOrdered_int16.j2 k y0 y1 y2 y3 y4 y5) (slices_insertionSortOrdered_int16.j2 (k + 1) y0 y1 y2 y3 y4 y5))
 | 0 => ⟨fun _ _ _ _ r h => by simp [slices_insertionSortOrdered_int16.l0] at h, fun _ _ _ _ _ r h => by simp [slices_insertionSortOrdered_int16.l1] at h, fun _ _ _ _ _ _ r h => by simp [slices_insertionSortOrdered_int16.j2] at h⟩
 | k + 1 => by
  obtain ⟨ih0, ih1, ih2⟩ := slices_insertionSortOrdered_int16.mono_l k
  refine ⟨?_, ?_, ?_⟩
  ·intro y0 y1 y2 y3
   unfold slices_insertionSortOrdered_int16.l0
   repeat' first
   | (with_reducible exact ih0 _ _ _ _)
   | (with_reducible exact ih1 _ _ _ _ _)
   | (with_reducible exact ih2 _ _ _ _ _ _)
   | (with_reducible exact LeO.refl _)
   | (with_reducible exact LeO.none _)
   | (with_reducible refine LeO.ite ?_ ?_)
   | (with_reducible refine LeO.bind ?_ (fun _ => ?_))
   | exact ih0 _ _ _ _
   | exact ih1 _ _ _ _ _
   | exact ih2 _ _ _ _ _ _
   | exact LeO.none _
   | refine LeO.ite ?_ ?_
   | refine LeO.bind ?_ (fun _ => ?_)
  ·intro y0 y1 y2 y3 y4
   unfold slices_insertionSortOrdered_int16.l1
   repeat' first
   | (with_reducible exact ih0 _ _ _ _)
   | (with_reducible exact ih1 _ _ _ _ _)
   | (with_reducible exact ih2 _ _ _ _ _ _)
   | (with_reducible exact LeO.refl _)
   | (with_reducible exact LeO.none _)
   | (with_reducible refine LeO.ite ?_ ?_)
   | (with_reducible refine LeO.bind ?_ (fun _ => ?_))
   | exact ih0 _ _ _ _
   | exact ih1 _ _ _ _ _
   | exact ih2 _ _ _ _ _ _
   | exact LeO.none _
   | refine LeO.ite ?_ ?_
   | refine LeO.bind ?_ (fun _ => ?_)
  ·intro y0 y1 y2 y3 y4 y5
   unfold slices_insertionSortOrdered_int16.j2
   repeat' first
   | (with_reducible exact ih0 _ _ _ _)
   | (with_reducible exact ih1 _ _ _ _ _)
   | (with_reducible exact ih2 _ _ _ _ _ _)
   | (with_reducible exact LeO.refl _)
   | (with_reducible exact LeO.none _)
   | (with_reducible refine LeO.ite ?_ ?_)
   | (with_reducible refine LeO.bind ?_ (fun _ => ?_))
   | exact ih0 _ _ _ _
   | exact ih1 _ _ _ _ _
   | exact ih2 _ _ _ _ _ _
   | exact LeO.none _
   | refine LeO.ite ?_ ?_
   | refine LeO.bind ?_ (fun _ => ?_)
theorem slices_insertionSortOrdered_int16.mono : ∀ a0 a1 a2 k, LeO (slices_insertionSortOrdered_int16.f k a0 a1 a2) (slices_insertionSortOrdered_int16.f (k + 1) a0 a1 a2) := by
 intro a0 a1 a2 k
 obtain ⟨ih0, ih1, ih2⟩ := slices_insertionSortOrdered_int16.mono_l k
 unfold slices_insertionSortOrdered_int16.f
 repeat' first
   | (with_reducible exact ih0 _ _ _ _)
   | (with_reducible exact ih1 _ _ _ _ _)
   | (with_reducible exact ih2 _ _ _ _ _ _)
   | (with_reducible exact LeO.refl _)
   | (with_reducible exact LeO.none _)
   | (with_reducible refine LeO.ite ?_ ?_)
   | (with_reducible refine LeO.bind ?_ (fun _ => ?_))
   | exact ih0 _ _ _ _
   | exact ih1 _ _ _ _ _
   | exact ih2 _ _ _ _ _ _
   | exact LeO.none _
   | refine LeO.ite ?_ ?_
   | refine LeO.bind ?_ (fun _ => ?_)
def slices_insertionSortOrdered_int16.T4 : Bool × List (List Nat × List Nat) := (true, [([], []), ([], []), ([0, 1], [0, 1]), ([2], [2]), ([3], [3]), ([3], [3]), ([4, 5, 3], [3, 4, 5]), ([6, 3], [3, 6]), ([3], [3]), ([3], [3]), ([9, 3], [3, 9]), ([8, 10, 3], [3, 8, 10]), ([11, 3], [3, 11]), ([7, 12, 3, 3], [3, 7, 12]), ([3, 13], [3, 13])])
def slices_insertionSortOrdered_int16.B4 : List Nat := [0, 0, 3, 7, 15, 15, 63, 127, 15, 15, 527, 1807, 3855, 8191, 16383]
theorem slices_insertionSortOrdered_int16.tab4 : rtab .any (opsOf Try.f75 4) = slices_insertionSortOrdered_int16.T4 := by kernel_rfl
theorem slices_insertionSortOrdered_int16.bits4 : waitsOk slices_insertionSortOrdered_int16.T4.2 slices_insertionSortOrdered_int16.B4 = true := by kernel_rfl
def slices_insertionSortOrdered_int16.T6 : Bool × List (List Nat × List Nat) := (true, [([], []), ([], []), ([], []), ([], []), ([3], [3]), ([], []), ([], []), ([6], [6]), ([5, 7], [5, 7]), ([8], [8]), ([], []), ([], []), ([10, 11], [10, 11]), ([12], [12]), ([0, 1, 0, 1, 5, 6, 7, 8, 9, 13], [0, 1]), ([14, 9, 0, 1, 5, 6, 7, 8, 9, 13], [9, 14]), ([2, 4, 0, 1, 2, 3, 4, 5, 6, 7, 8, 9, 10, 11, 12, 13, 14, 15], [2, 4]), ([16, 13, 15, 0, 1, 2, 3, 4, 5, 6, 7, 8, 9, 10, 11, 12, 13, 14, 15], [13, 16])])
def slices_insertionSortOrdered_int16.B6 : List Nat := [0, 0, 0, 0, 8, 0, 0, 64, 224, 480, 0, 0, 3072, 7168, 16355, 32739, 65535, 131071]
theorem slices_insertionSortOrdered_int16.tab6 : rtab .any (opsOf Try.f75 6) = slices_insertionSortOrdered_int16.T6 := by kernel_rfl
theorem slices_insertionSortOrdered_int16.bits6 : waitsOk slices_insertionSortOrdered_int16.T6.2 slices_insertionSortOrdered_int16.B6 = true := by kernel_rfl
set_option maxHeartbeats 8000000 in
set_option maxRecDepth 100000 in
theorem slices_insertionSortOrdered_int16.calls (k : Nat) (P0_ : Nat → Prop) (u9000_ : Value) (l0 : List Int) (a1 : Int) (a2 : Int) (r : List Int) (w0 w : World) (hB : Below w0.heap.size w0 w) (ho0 : Kd.R (Kd.int .i16) 98 w w0.heap.size P0_ u9000_ l0) (h : slices_insertionSortOrdered_int16.f k l0 a1 a2 = some r) :
  Calls Try.prog 75 #[u9000_, .int .i64 a1, .int .i64 a2] w fun e w' => e = .returned (.tuple #[]) ∧ Kd.R (Kd.int .i16) 98 w' w0.heap.size (fun k_ => (P0_ k_ ∨ w.heap.size ≤ k_)) u9000_ r ∧ Below w0.heap.size w0 w' ∧ Kept w w' (fun k_ => P0_ k_) := by
 have HO0 := Aside0.mk (show Kd.R (Kd.int .i16) 98 w w0.heap.size (fun k_ => (P0_ k_ ∨ w.heap.size ≤ k_)) u9000_ l0 from Kd.R_mono ho0 (fun k_ hk => (.inl hk)))
 have HK := Aside0.mk (Kept.refl w (fun k_ => P0_ k_))
 have HW0 := Aside0.mk hB.size
 have HB := Aside0.mk hB
 clear hB
 have H : (slices_insertionSortOrdered_int16.l0 k l0 a1 a2 (wrap64 (a1 + 1))) = some r := h
 clear h
 have H' := Aside0.mk H
 clear H
 go_enter Try.func75, Try.ntmps75
 go_wp2
 go_loopg [6] k (fun kq v6 w' => ∃ (x0_1 : List Int) (x6_1 : Int), v6 = .int .i64 x6_1 ∧ Aside0 (slices_insertionSortOrdered_int16.l0 kq x0_1 a1 a2 x6_1 = some r) ∧ Aside0 (kq ≤ k) ∧ Aside0 (Kd.R (Kd.int .i16) 98 w' w0.heap.size (fun k_ => (P0_ k_ ∨ w.heap.size ≤ k_)) u9000_ x0_1) ∧ Aside0 (Kept w w' (fun k_ => P0_ k_)) ∧ Aside0 (Below w0.heap.size w0 w'))
 case atStart => exact ⟨(l0), (wrap64 (a1 + 1)), (by first | rfl | (simp; done) | (simp [*]; done)), H', ⟨Nat.le_refl _⟩, ⟨by (with_reducible repeat (first | apply Kd.R_alloc | apply Kd.R_drewN | apply Kd.R_drew)); exact HO0.out⟩, ⟨by repeat (first | (with_reducible first | exact HK.out | apply Kept.alloc | apply Kept.drewN | apply Kept.drew) | exact HK.out)⟩, ⟨by repeat (first | (with_reducible first | exact HB.out | apply below_alloc | apply pw_below_drewN | apply below_drew1) | exact HB.out)⟩⟩
 case round =>
  clear H'
  try clear p2
  obtain ⟨x0_1, x6_1, rfl, HA, HK1, HO_0, HK, HB⟩ := hrel
  cases gk with
  | zero => exact absurd HA.out (by simp [slices_insertionSortOrdered_int16.l0])
  | succ k1 =>
   have H := HA.out
   clear HA
   simp only [slices_insertionSortOrdered_int16.l0] at H
   by_cases c4 : x6_1 < a2
   ·rw [if_pos c4] at H
    have c4b0 : decide (x6_1 < a2) = true := decide_eq_true c4
    clear c4
    have H' := Aside0.mk H
    clear H
    go_wp2
    go_loopg [7] k1 (fun kq v7 w' => ∃ (x0_2 : List Int) (x7_2 : Int), v7 = .int .i64 x7_2 ∧ Aside0 (slices_insertionSortOrdered_int16.l1 kq x0_2 a1 a2 x6_1 x7_2 = some r) ∧ Aside0 (kq ≤ k1) ∧ Aside0 (Kd.R (Kd.int .i16) 98 w' w0.heap.size (fun k_ => (P0_ k_ ∨ w.heap.size ≤ k_)) u9000_ x0_2) ∧ Aside0 (Kept w w' (fun k_ => P0_ k_)) ∧ Aside0 (Below w0.heap.size w0 w'))
    case atStart => exact ⟨(x0_1), (x6_1), (by first | rfl | (simp; done) | (simp [*]; done)), H', ⟨Nat.le_refl _⟩, ⟨by (with_reducible repeat (first | apply Kd.R_alloc | apply Kd.R_drewN | apply Kd.R_drew)); exact HO_0.out⟩, ⟨by repeat (first | (with_reducible first | exact HK.out | apply Kept.alloc | apply Kept.drewN | apply Kept.drew) | exact HK.out)⟩, ⟨by repeat (first | (with_reducible first | exact HB.out | apply below_alloc | apply pw_below_drewN | apply below_drew1) | exact HB.out)⟩⟩
    case round =>
     clear H'
     try clear p2
     try clear c4
     try clear c4b0
     try clear p2
     obtain ⟨x0_2, x7_2, rfl, HA, HK2, HO_0, HK, HB⟩ := hrel
     cases gk with
     | zero => exact absurd HA.out (by simp [slices_insertionSortOrdered_int16.l1])
     | succ k2 =>
      have H := HA.out
      clear HA
      simp only [slices_insertionSortOrdered_int16.l1] at H
      have HC5 := Aside0.mk H
      clear H
      go_upto_region 4 with (fail)
      go_cut [30] (fun v30 wc => ∃ (kq : Nat) (x30_4 : Bool), v30 = .bool x30_4 ∧ Aside0 (slices_insertionSortOrdered_int16.j2 kq x0_2 a1 a2 x6_1 x7_2 x30_4 = some r) ∧ Aside0 (kq ≤ k2) ∧ Aside0 (Kd.R (Kd.int .i16) 98 wc w0.heap.size (fun k_ => (P0_ k_ ∨ w.heap.size ≤ k_)) u9000_ x0_2) ∧ Aside0 (Kept w wc (fun k_ => P0_ k_)) ∧ Aside0 (Below w0.heap.size w0 wc))
      case first =>
       have H := HC5.out
       clear HC5
       by_cases c6 : x7_2 > a1
       ·rw [if_pos c6] at H
        have c6b0 : decide (a1 < x7_2) = true := decide_eq_true c6
        clear c6
        (first | rw [c6b0] | (simp only [i64_w, i32_w]; rw [c6b0]) | skip)
        by_cases c7 : 0 ≤ x7_2
        ·rw [if_pos c7] at H
         have c7b0 : decide (0 ≤ x7_2) = true := decide_eq_true c7
         clear c7
         by_cases c8 : x7_2 < (x0_2.length : Int)
         ·rw [if_pos c8] at H
          have c8b0 : decide (x7_2 < (x0_2.length : Int)) = true := decide_eq_true c8
          clear c8
          obtain ⟨ji9, hji9⟩ : ∃ j_ : Int, (wrap64 (x7_2 - 1)) = j_ := ⟨_, rfl⟩
          replace H : (if 0 ≤ (ji9) then (if (ji9) < (x0_2.length : Int) then ((cmp_Less_int16.f (rd x0_2 x7_2) (rd x0_2 (ji9))).bind fun t106 => (slices_insertionSortOrdered_int16.j2 k2 x0_2 a1 a2 x6_1 x7_2 t106)) else (none)) else (none)) = some r := by first | (rw [hji9] at H; exact H) | (simp only [hji9] at H ⊢; exact H)
          have hji9w : (IntKind.i64.wrap (x7_2 - 1)) = ji9 := (i64_w _).trans hji9
          by_cases c10 : 0 ≤ (ji9)
          ·rw [if_pos c10] at H
           have c10b0 : decide (0 ≤ (ji9)) = true := decide_eq_true c10
           clear c10
           by_cases c11 : (ji9) < (x0_2.length : Int)
           ·rw [if_pos c11] at H
            have c11b0 : decide ((ji9) < (x0_2.length : Int)) = true := decide_eq_true c11
            clear c11
            replace H := Option.bind_eq_some_iff.mp H
            obtain ⟨t106, A120, H⟩ := H
            replace H : (slices_insertionSortOrdered_int16.j2 k2 x0_2 a1 a2 x6_1 x7_2 t106) = some r := H
            have A12 := Aside0.mk A120
            clear A120
            have H' := Aside0.mk H
            clear H
            try go_wp2
            have n0_ := Aside0.mk (Kd.R_drew HO_0.out)
            have n1_ := Aside0.mk (Kept.drew HK.out)
            have n2_ := Aside0.mk (below_drew1 HB.out)
            clear HO_0
            clear HK
            clear HB
            have HO_0 := n0_
            have HK := n1_
            have HB := n2_
            clear n0_ n1_ n2_
            obtain ⟨Ao14, co14, eo14⟩ := Kd.R_slice HO_0.out
            (first | subst eo14 | (injection eo14 with f1_ f2_ f3_; have f4_ := f1_.symm; have f5_ := f3_.symm; clear f1_ f2_ f3_; subst f4_; subst f5_))
            have p104 : 0 ≤ (x7_2 : Int) := of_decide_eq_true (by first | (with_reducible assumption) | assumption)
            have q104 : x7_2 < (x0_2.length : Int) := of_decide_eq_true (by first | (with_reducible assumption) | assumption)
            obtain ⟨ad104, e104, hx104_0⟩ := Kd.at_int (Kd.R_reads' HO_0.out).2.2 x7_2 p104 q104
            cases e104
            replace p104 := eq_true p104
            replace q104 := eq_true q104
            have p105 : 0 ≤ ((ji9) : Int) := of_decide_eq_true (by first | (with_reducible assumption) | assumption)
            have q105 : (ji9) < (x0_2.length : Int) := of_decide_eq_true (by first | (with_reducible assumption) | assumption)
            obtain ⟨ad105, e105, hx105_0⟩ := Kd.at_int (Kd.R_reads' HO_0.out).2.2 (ji9) p105 q105
            obtain rfl : ad104 = ad105 := (by injection e105)
            replace p105 := eq_true p105
            replace q105 := eq_true q105
            refine start_ (n := 15) (S := fun w' => w'.cell? (ad104.add (x7_2).toNat) = some (.int .i16 (rd x0_2 x7_2)) ∧ w'.cell? (ad104.add ((ji9)).toNat) = some (.int .i16 (rd x0_2 (ji9)))) (ds := []) #[ff,ff,ff,ff,ff,ff,ff,ff,ff,ff,ff,ff,ff,ff,ff] (by kernel_rfl) rfl rfl ⟨hx104_0, hx105_0⟩ (fun hHeld => ?_); refine with_tabW slices_insertionSortOrdered_int16.tab4 slices_insertionSortOrdered_int16.bits4 (fun HT_ HW_ => ?_)
            generalize wr.drew = w13 at HO_0 HK HB hx104_0 hx105_0 hHeld ⊢
            refine pure_ (i := 0) (N := some 16) (v := ?_) (a' := ?_) #[tt,ff,ff,ff,ff,ff,ff,ff,ff,ff,ff,ff,ff,ff,ff] rfl rfl (any_of HT_.out (by kernel_rfl)) (fun _ _ _ h => h) (Or.inl ⟨by rfl, ?_⟩) ?_ ?_
            rotate_left
            ·intro w'
             go_simp
             with_reducible rfl
            rotate_left
            ·simp only [Act.put, L1_, L2_, L3_, i64_w, i32_w]
             rfl
            refine pure_ (i := 1) (N := some 17) (v := ?_) (a' := ?_) #[tt,tt,ff,ff,ff,ff,ff,ff,ff,ff,ff,ff,ff,ff,ff] rfl rfl (any_of HT_.out (by kernel_rfl)) (fun _ _ _ h => h) (Or.inl ⟨by rfl, ?_⟩) ?_ ?_
            rotate_left
            ·intro w'
             go_simp
             with_reducible rfl
            rotate_left
            ·simp only [Act.put, L1_, L2_, L3_, i64_w, i32_w]
             rfl
            refine pure_ (i := 2) (N := some 18) (v := ?_) (a' := ?_) #[tt,tt,tt,ff,ff,ff,ff,ff,ff,ff,ff,ff,ff,ff,ff] rfl rfl (any_of HT_.out (by kernel_rfl)) (fun _ _ _ h => h) (Or.inl ⟨by rfl, ?_⟩) ?_ ?_
            rotate_left
            ·intro w'
             go_simp
             with_reducible rfl
            rotate_left
            ·(try go_ints); (try simp (disch := omega) only [n3_]); simp only [Act.put, L1_, L2_, L3_, i64_w, i32_w]
             rfl
            refine pure_ (i := 3) (N := some 19) (v := ?_) (a' := ?_) #[tt,tt,tt,tt,ff,ff,ff,ff,ff,ff,ff,ff,ff,ff,ff] rfl rfl (any_of HT_.out (by kernel_rfl)) (fun _ _ _ h => h) (Or.inl ⟨by rfl, ?_⟩) ?_ ?_
            rotate_left
            ·intro w'
             go_simp
             with_reducible rfl
            rotate_left
            ·simp only [Act.put, L1_, L2_, L3_, i64_w, i32_w]
             rfl
            refine pure_ (i := 4) (N := some 20) (v := ?_) (a' := ?_) #[tt,tt,tt,tt,tt,ff,ff,ff,ff,ff,ff,ff,ff,ff,ff] rfl rfl (any_of HT_.out (by kernel_rfl)) (fun _ _ _ h => h) (Or.inl ⟨by rfl, ?_⟩) ?_ ?_
            rotate_left
            ·intro w'
             go_simp
             with_reducible rfl
            rotate_left
            ·simp only [Act.put, L1_, L2_, L3_, i64_w, i32_w]
             rfl
            refine pure_ (i := 5) (N := some 21) (v := ?_) (a' := ?_) #[tt,tt,tt,tt,tt,tt,ff,ff,ff,ff,ff,ff,ff,ff,ff] rfl rfl (any_of HT_.out (by kernel_rfl)) (fun _ _ _ h => h) (Or.inl ⟨by rfl, ?_⟩) ?_ ?_
            rotate_left
            ·intro w'
             go_simp
             with_reducible rfl
            rotate_left
            ·simp only [Act.put, L1_, L2_, L3_, i64_w, i32_w]
             rfl
            refine pure_ (i := 6) (N := some 22) (v := ?_) (a' := ?_) #[tt,tt,tt,tt,tt,tt,tt,ff,ff,ff,ff,ff,ff,ff,ff] rfl rfl (any_of HT_.out (by kernel_rfl)) (fun _ _ _ h => h) (Or.inl ⟨by rfl, ?_⟩) ?_ ?_
            rotate_left
            ·intro w'
             go_simp
             with_reducible rfl
            rotate_left
            ·simp only [Act.put, L1_, L2_, L3_, i64_w, i32_w]
             rfl
            refine pure_ (i := 8) (N := some 24) (v := ?_) (a' := ?_) #[tt,tt,tt,tt,tt,tt,tt,ff,tt,ff,ff,ff,ff,ff,ff] rfl rfl (any_of HT_.out (by kernel_rfl)) (fun _ _ _ h => h) (Or.inl ⟨by rfl, ?_⟩) ?_ ?_
            rotate_left
            ·intro w'
             go_simp
             with_reducible rfl
            rotate_left
            ·simp only [Act.put, L1_, L2_, L3_, i64_w, i32_w]
             rfl
            refine pure_ (i := 9) (N := some 25) (v := ?_) (a' := ?_) #[tt,tt,tt,tt,tt,tt,tt,ff,tt,tt,ff,ff,ff,ff,ff] rfl rfl (any_of HT_.out (by kernel_rfl)) (fun _ _ _ h => h) (Or.inl ⟨by rfl, ?_⟩) ?_ ?_
            rotate_left
            ·intro w'
             go_simp
             with_reducible rfl
            rotate_left
            ·simp only [Act.put, L1_, L2_, L3_, i64_w, i32_w]
             rfl
            refine pure_ (i := 10) (N := some 26) (v := ?_) (a' := ?_) #[tt,tt,tt,tt,tt,tt,tt,ff,tt,tt,tt,ff,ff,ff,ff] rfl rfl (any_of HT_.out (by kernel_rfl)) (fun _ _ _ h => h) (Or.inl ⟨by rfl, ?_⟩) ?_ ?_
            rotate_left
            ·intro w'
             go_simp
             with_reducible rfl
            rotate_left
            ·(try go_ints); (try simp (disch := omega) only [n3_]); simp only [Act.put, L1_, L2_, L3_, i64_w, i32_w]
             rfl
            refine pure_ (i := 11) (N := some 27) (v := ?_) (a' := ?_) #[tt,tt,tt,tt,tt,tt,tt,ff,tt,tt,tt,tt,ff,ff,ff] rfl rfl (any_of HT_.out (by kernel_rfl)) (fun _ _ _ h => h) (Or.inl ⟨by rfl, ?_⟩) ?_ ?_
            rotate_left
            ·intro w'
             go_simp
             with_reducible rfl
            rotate_left
            ·simp only [Act.put, L1_, L2_, L3_, i64_w, i32_w]
             rfl
            refine take_ (i := 7) (N := some 23) (v := ?_) (a' := ?_) #[tt,tt,tt,tt,tt,tt,tt,tt,tt,tt,tt,tt,ff,ff,ff] rfl rfl (take_ofW HT_.out HW_.out (by kernel_rfl)) (fun _ _ _ h => h) (Or.inl ⟨by rfl, ?_⟩) hHeld ?_ ?_
            rotate_left
            ·rintro w' ⟨s0, s1⟩
             go_simp
             with_reducible rfl
            rotate_left
            ·simp only [Act.put, L1_, L2_, L3_, i64_w, i32_w]
             rfl
            refine take_ (i := 12) (N := some 28) (v := ?_) (a' := ?_) #[tt,tt,tt,tt,tt,tt,tt,tt,tt,tt,tt,tt,tt,ff,ff] rfl rfl (take_ofW HT_.out HW_.out (by kernel_rfl)) (fun _ _ _ h => h) (Or.inl ⟨by rfl, ?_⟩) hHeld ?_ ?_
            rotate_left
            ·rintro w' ⟨s0, s1⟩
             go_simp
             with_reducible rfl
            rotate_left
            ·simp only [Act.put, L1_, L2_, L3_, i64_w, i32_w]
             rfl
            refine one_ (i := 13) (N := some 29) #[tt,tt,tt,tt,tt,tt,tt,tt,tt,tt,tt,tt,tt,tt,ff] rfl rfl (one_of HT_.out (by kernel_rfl)) (by decide) (fun K hK => ?_)
            refine goes_ Try.func81 (by kernel_rfl) rfl #[.int .i16 (rd x0_2 x7_2), .int .i16 (rd x0_2 (ji9))] (by rfl) rfl rfl (by (try simp only [List.map_toArray, List.map_cons, List.map_nil]); first | done | (simp only [hji9]; rfl) | rfl | (simp only [List.length_drop, List.length_take]; rfl)) ?_
            with_reducible refine (cmp_Less_int16.calls (rd x0_2 x7_2) (rd x0_2 (ji9)) t106 _ A12.out).mono ?_
            rintro e w' ⟨rfl, ⟨nd, rfl⟩⟩
            refine ⟨_, rfl, ?_⟩
            refine hK.out _ _ ⟨hHeld.1, hHeld.2⟩ (fun hHeld => ?_)
            clear hK K
            refine norm_ (a' := ?_) ?_ ?_
            rotate_left
            ·show Act.put _ (some 29) _ = _
             simp only [Act.put, L1_, L2_, L3_, i64_w, i32_w]
             rfl
            refine pure_ (i := 14) (N := some 30) (v := ?_) (a' := ?_) #[tt,tt,tt,tt,tt,tt,tt,tt,tt,tt,tt,tt,tt,tt,tt] rfl rfl (any_of HT_.out (by kernel_rfl)) (fun _ _ _ h => h) (Or.inl ⟨by rfl, ?_⟩) ?_ ?_
            rotate_left
            ·intro w'
             go_simp
             with_reducible rfl
            rotate_left
            ·simp only [Act.put, L1_, L2_, L3_, i64_w, i32_w]
             rfl
            refine done_ (done_of HT_.out (by kernel_rfl)) ?_
            try go_wp2
            go_meet
            case rel => exact ⟨_, (t106), (by first | rfl | (simp; done) | (simp [*]; done)), H', ⟨by have := HK1.out; have := HK2.out; first | omega | exact Nat.le_refl _⟩, ⟨by (with_reducible repeat (first | apply Kd.R_alloc | apply Kd.R_drewN | apply Kd.R_drew)); exact HO_0.out⟩, ⟨by repeat (first | (with_reducible first | exact HK.out | apply Kept.alloc | apply Kept.drewN | apply Kept.drew) | exact HK.out)⟩, ⟨by repeat (first | (with_reducible first | exact HB.out | apply below_alloc | apply pw_below_drewN | apply below_drew1) | exact HB.out)⟩⟩
           ·rw [if_neg c11] at H
            exact absurd H (by simp)
          ·rw [if_neg c10] at H
           exact absurd H (by simp)
         ·rw [if_neg c8] at H
          exact absurd H (by simp)
        ·rw [if_neg c7] at H
         exact absurd H (by simp)
       ·rw [if_neg c6] at H
        have c6b0 : decide (a1 < x7_2) = false := decide_eq_false c6
        clear c6
        (first | rw [c6b0] | (simp only [i64_w, i32_w]; rw [c6b0]) | skip)
        have H' := Aside0.mk H
        clear H
        try go_wp2
        have n0_ := Aside0.mk (Kd.R_drew HO_0.out)
        have n1_ := Aside0.mk (Kept.drew HK.out)
        have n2_ := Aside0.mk (below_drew1 HB.out)
        clear HO_0
        clear HK
        clear HB
        have HO_0 := n0_
        have HK := n1_
        have HB := n2_
        clear n0_ n1_ n2_
        refine start_ (n := 15) (S := fun w' => True) (ds := []) #[ff,ff,ff,ff,ff,ff,ff,ff,ff,ff,ff,ff,ff,ff,ff] (by kernel_rfl) rfl rfl trivial (fun hHeld => ?_); refine with_tabW slices_insertionSortOrdered_int16.tab4 slices_insertionSortOrdered_int16.bits4 (fun HT_ HW_ => ?_)
        generalize wr.drew = w15 at HO_0 HK HB hHeld ⊢
        refine pure_ (i := 0) (N := some 16) (v := ?_) (a' := ?_) #[tt,ff,ff,ff,ff,ff,ff,ff,ff,ff,ff,ff,ff,ff,ff] rfl rfl (any_of HT_.out (by kernel_rfl)) (fun _ _ _ h => h) (Or.inl ⟨by rfl, ?_⟩) ?_ ?_
        rotate_left
        ·intro w'
         go_simp
         with_reducible rfl
        rotate_left
        ·simp only [Act.put, L1_, L2_, L3_, i64_w, i32_w]
         rfl
        refine pure_ (i := 1) (N := some 17) (v := ?_) (a' := ?_) #[tt,tt,ff,ff,ff,ff,ff,ff,ff,ff,ff,ff,ff,ff,ff] rfl rfl (any_of HT_.out (by kernel_rfl)) (fun _ _ _ h => h) (Or.inl ⟨by rfl, ?_⟩) ?_ ?_
        rotate_left
        ·intro w'
         go_simp
         with_reducible rfl
        rotate_left
        ·simp only [Act.put, L1_, L2_, L3_, i64_w, i32_w]
         rfl
        refine pure_ (i := 2) (N := some 18) (v := ?_) (a' := ?_) #[tt,tt,tt,ff,ff,ff,ff,ff,ff,ff,ff,ff,ff,ff,ff] rfl rfl (any_of HT_.out (by kernel_rfl)) (fun _ _ _ h => h) (Or.inl ⟨by rfl, ?_⟩) ?_ ?_
        rotate_left
        ·intro w'
         go_simp
         with_reducible rfl
        rotate_left
        ·(try go_ints); (try simp (disch := omega) only [n3_]); simp only [Act.put, L1_, L2_, L3_, i64_w, i32_w]
         rfl
        refine pure_ (i := 3) (N := some 19) (v := ?_) (a' := ?_) #[tt,tt,tt,tt,ff,ff,ff,ff,ff,ff,ff,ff,ff,ff,ff] rfl rfl (any_of HT_.out (by kernel_rfl)) (fun _ _ _ h => h) (Or.inl ⟨by rfl, ?_⟩) ?_ ?_
        rotate_left
        ·intro w'
         go_simp
         with_reducible rfl
        rotate_left
        ·simp only [Act.put, L1_, L2_, L3_, i64_w, i32_w]
         rfl
        refine pure_ (i := 4) (N := some 20) (v := undef) (a' := ?_) #[tt,tt,tt,tt,tt,ff,ff,ff,ff,ff,ff,ff,ff,ff,ff] rfl rfl (any_of HT_.out (by kernel_rfl)) (fun _ _ _ h => h) (Or.inr ⟨by rfl, rfl⟩) ?_ ?_
        rotate_left
        ·simp only [Act.put, L1_, L2_, L3_, i64_w, i32_w]
         rfl
        refine pure_ (i := 5) (N := some 21) (v := undef) (a' := ?_) #[tt,tt,tt,tt,tt,tt,ff,ff,ff,ff,ff,ff,ff,ff,ff] rfl rfl (any_of HT_.out (by kernel_rfl)) (fun _ _ _ h => h) (Or.inr ⟨by rfl, rfl⟩) ?_ ?_
        rotate_left
        ·simp only [Act.put, L1_, L2_, L3_, i64_w, i32_w]
         rfl
        refine pure_ (i := 6) (N := some 22) (v := undef) (a' := ?_) #[tt,tt,tt,tt,tt,tt,tt,ff,ff,ff,ff,ff,ff,ff,ff] rfl rfl (any_of HT_.out (by kernel_rfl)) (fun _ _ _ h => h) (Or.inr ⟨by rfl, rfl⟩) ?_ ?_
        rotate_left
        ·simp only [Act.put, L1_, L2_, L3_, i64_w, i32_w]
         rfl
        refine pure_ (i := 7) (N := some 23) (v := undef) (a' := ?_) #[tt,tt,tt,tt,tt,tt,tt,tt,ff,ff,ff,ff,ff,ff,ff] rfl rfl (any_of HT_.out (by kernel_rfl)) (fun _ _ _ h => h) (Or.inr ⟨by rfl, rfl⟩) ?_ ?_
        rotate_left
        ·simp only [Act.put, L1_, L2_, L3_, i64_w, i32_w]
         rfl
        refine pure_ (i := 8) (N := some 24) (v := undef) (a' := ?_) #[tt,tt,tt,tt,tt,tt,tt,tt,tt,ff,ff,ff,ff,ff,ff] rfl rfl (any_of HT_.out (by kernel_rfl)) (fun _ _ _ h => h) (Or.inr ⟨by rfl, rfl⟩) ?_ ?_
        rotate_left
        ·simp only [Act.put, L1_, L2_, L3_, i64_w, i32_w]
         rfl
        refine pure_ (i := 9) (N := some 25) (v := undef) (a' := ?_) #[tt,tt,tt,tt,tt,tt,tt,tt,tt,tt,ff,ff,ff,ff,ff] rfl rfl (any_of HT_.out (by kernel_rfl)) (fun _ _ _ h => h) (Or.inr ⟨by rfl, rfl⟩) ?_ ?_
        rotate_left
        ·simp only [Act.put, L1_, L2_, L3_, i64_w, i32_w]
         rfl
        refine pure_ (i := 10) (N := some 26) (v := undef) (a' := ?_) #[tt,tt,tt,tt,tt,tt,tt,tt,tt,tt,tt,ff,ff,ff,ff] rfl rfl (any_of HT_.out (by kernel_rfl)) (fun _ _ _ h => h) (Or.inr ⟨by rfl, rfl⟩) ?_ ?_
        rotate_left
        ·(try go_ints); (try simp (disch := omega) only [n3_]); simp only [Act.put, L1_, L2_, L3_, i64_w, i32_w]
         rfl
        refine pure_ (i := 11) (N := some 27) (v := undef) (a' := ?_) #[tt,tt,tt,tt,tt,tt,tt,tt,tt,tt,tt,tt,ff,ff,ff] rfl rfl (any_of HT_.out (by kernel_rfl)) (fun _ _ _ h => h) (Or.inr ⟨by rfl, rfl⟩) ?_ ?_
        rotate_left
        ·simp only [Act.put, L1_, L2_, L3_, i64_w, i32_w]
         rfl
        refine pure_ (i := 12) (N := some 28) (v := undef) (a' := ?_) #[tt,tt,tt,tt,tt,tt,tt,tt,tt,tt,tt,tt,tt,ff,ff] rfl rfl (any_of HT_.out (by kernel_rfl)) (fun _ _ _ h => h) (Or.inr ⟨by rfl, rfl⟩) ?_ ?_
        rotate_left
        ·simp only [Act.put, L1_, L2_, L3_, i64_w, i32_w]
         rfl
        refine pure_ (i := 13) (N := some 29) (v := undef) (a' := ?_) #[tt,tt,tt,tt,tt,tt,tt,tt,tt,tt,tt,tt,tt,tt,ff] rfl rfl (any_of HT_.out (by kernel_rfl)) (fun _ _ _ h => h) (Or.inr ⟨by rfl, rfl⟩) ?_ ?_
        rotate_left
        ·simp only [Act.put, L1_, L2_, L3_, i64_w, i32_w]
         rfl
        refine pure_ (i := 14) (N := some 30) (v := ?_) (a' := ?_) #[tt,tt,tt,tt,tt,tt,tt,tt,tt,tt,tt,tt,tt,tt,tt] rfl rfl (any_of HT_.out (by kernel_rfl)) (fun _ _ _ h => h) (Or.inl ⟨by rfl, ?_⟩) ?_ ?_
        rotate_left
        ·intro w'
         go_simp
         with_reducible rfl
        rotate_left
        ·simp only [Act.put, L1_, L2_, L3_, i64_w, i32_w]
         rfl
        refine done_ (done_of HT_.out (by kernel_rfl)) ?_
        try go_wp2
        go_meet
        case rel => exact ⟨_, (false), (by first | rfl | (simp; done) | (simp [*]; done)), H', ⟨by have := HK1.out; have := HK2.out; first | omega | exact Nat.le_refl _⟩, ⟨by (with_reducible repeat (first | apply Kd.R_alloc | apply Kd.R_drewN | apply Kd.R_drew)); exact HO_0.out⟩, ⟨by repeat (first | (with_reducible first | exact HK.out | apply Kept.alloc | apply Kept.drewN | apply Kept.drew) | exact HK.out)⟩, ⟨by repeat (first | (with_reducible first | exact HB.out | apply below_alloc | apply pw_below_drewN | apply below_drew1) | exact HB.out)⟩⟩
      case rest =>
       clear HC5
       try clear c1
       try clear p1
       try clear q1
       try clear hx1
       try clear p2
       try clear c4
       try clear c4b0
       try clear c6
       try clear c6b0
       try clear p6
       try clear c7
       try clear c7b0
       try clear c8
       try clear c8b0
       try clear c10
       try clear c10b0
       try clear p10
       try clear q10
       try clear hx10
       try clear c11
       try clear c11b0
       try clear hx104_0
       try clear hx105_0
       try clear p104
       try clear p105
       try clear p2
       try clear q104
       try clear q105
       obtain ⟨kq, x30_4, rfl, HA, HJ4, HO_0, HK, HB⟩ := hcut
       cases kq with
       | zero => exact absurd HA.out (by simp [slices_insertionSortOrdered_int16.j2])
       | succ kj4 =>
        have H := HA.out
        clear HA
        simp only [slices_insertionSortOrdered_int16.j2] at H
        by_cases c16 : x30_4 = true
        ·subst c16
         have H1 : (if 0 ≤ (wrap64 (x7_2 - 1)) then (if (wrap64 (x7_2 - 1)) < (x0_2.length : Int) then (if 0 ≤ x7_2 then (if x7_2 < (x0_2.length : Int) then (slices_insertionSortOrdered_int16.l1 kj4 ((x0_2.set (x7_2 : Int).toNat (rd x0_2 (wrap64 (x7_2 - 1)))).set ((wrap64 (x7_2 - 1)) : Int).toNat (rd x0_2 x7_2)) a1 a2 x6_1 (wrap64 (x7_2 - 1))) else (none)) else (none)) else (none)) else (none)) = some r := by rw [if_pos rfl] at H; exact H
         clear H
         have H := H1
         clear H1
         obtain ⟨ji17, hji17⟩ : ∃ j_ : Int, (wrap64 (x7_2 - 1)) = j_ := ⟨_, rfl⟩
         replace H : (if 0 ≤ (ji17) then (if (ji17) < (x0_2.length : Int) then (if 0 ≤ x7_2 then (if x7_2 < (x0_2.length : Int) then (slices_insertionSortOrdered_int16.l1 kj4 ((x0_2.set (x7_2 : Int).toNat (rd x0_2 (ji17))).set ((ji17) : Int).toNat (rd x0_2 x7_2)) a1 a2 x6_1 ji17) else (none)) else (none)) else (none)) else (none)) = some r := by first | (rw [hji17] at H; exact H) | (simp only [hji17] at H ⊢; exact H)
         have hji17w : (IntKind.i64.wrap (x7_2 - 1)) = ji17 := (i64_w _).trans hji17
         by_cases c18 : 0 ≤ (ji17)
         ·rw [if_pos c18] at H
          have c18b0 : decide (0 ≤ (ji17)) = true := decide_eq_true c18
          clear c18
          by_cases c19 : (ji17) < (x0_2.length : Int)
          ·rw [if_pos c19] at H
           have c19b0 : decide ((ji17) < (x0_2.length : Int)) = true := decide_eq_true c19
           clear c19
           by_cases c20 : 0 ≤ x7_2
           ·rw [if_pos c20] at H
            have c20b0 : decide (0 ≤ x7_2) = true := decide_eq_true c20
            clear c20
            by_cases c21 : x7_2 < (x0_2.length : Int)
            ·rw [if_pos c21] at H
             have c21b0 : decide (x7_2 < (x0_2.length : Int)) = true := decide_eq_true c21
             clear c21
             obtain ⟨y109, hy109⟩ : ∃ y_ : List Int, y_ = (x0_2.set (x7_2 : Int).toNat (rd x0_2 (ji17))) := ⟨_, rfl⟩
             replace H : (slices_insertionSortOrdered_int16.l1 kj4 (y109.set ((ji17) : Int).toNat (rd x0_2 x7_2)) a1 a2 x6_1 ji17) = some r := by first | (rw [hy109]; with_reducible exact H) | (have H2_ := (Option.bind_some _ _).symm.trans H; rw [hy109]; with_reducible exact H2_) | (have H2_ := (Option.bind_some _ _).symm.trans H; with_reducible exact H2_) | with_reducible exact H | (rw [hy109]; exact H) | exact H
             have Ny109 := Aside0.mk hy109
             clear hy109
             obtain ⟨y110, hy110⟩ : ∃ y_ : List Int, y_ = (y109.set ((ji17) : Int).toNat (rd x0_2 x7_2)) := ⟨_, rfl⟩
             replace H : (slices_insertionSortOrdered_int16.l1 kj4 y110 a1 a2 x6_1 ji17) = some r := by first | (rw [hy110]; with_reducible exact H) | (have H2_ := (Option.bind_some _ _).symm.trans H; rw [hy110]; with_reducible exact H2_) | (have H2_ := (Option.bind_some _ _).symm.trans H; with_reducible exact H2_) | with_reducible exact H | (rw [hy110]; exact H) | exact H
             have Ny110 := Aside0.mk hy110
             clear hy110
             have H' := Aside0.mk H
             clear H
             try go_wp2
             have n0_ := Aside0.mk (Kd.R_drew HO_0.out)
             have n1_ := Aside0.mk (Kept.drew HK.out)
             have n2_ := Aside0.mk (below_drew1 HB.out)
             clear HO_0
             clear HK
             clear HB
             have HO_0 := n0_
             have HK := n1_
             have HB := n2_
             clear n0_ n1_ n2_
             obtain ⟨Ao25, co25, eo25⟩ := Kd.R_slice HO_0.out
             (first | subst eo25 | (injection eo25 with f1_ f2_ f3_; have f4_ := f1_.symm; have f5_ := f3_.symm; clear f1_ f2_ f3_; subst f4_; subst f5_))
             have p107 : 0 ≤ ((ji17) : Int) := of_decide_eq_true (by first | (with_reducible assumption) | assumption)
             have q107 : (ji17) < (x0_2.length : Int) := of_decide_eq_true (by first | (with_reducible assumption) | assumption)
             obtain ⟨ad107, e107, hx107_0⟩ := Kd.at_int (Kd.R_reads' HO_0.out).2.2 (ji17) p107 q107
             cases e107
             replace p107 := eq_true p107
             replace q107 := eq_true q107
             have p108 : 0 ≤ (x7_2 : Int) := of_decide_eq_true (by first | (with_reducible assumption) | assumption)
             have q108 : x7_2 < (x0_2.length : Int) := of_decide_eq_true (by first | (with_reducible assumption) | assumption)
             obtain ⟨ad108, e108, hx108_0⟩ := Kd.at_int (Kd.R_reads' HO_0.out).2.2 x7_2 p108 q108
             obtain rfl : ad107 = ad108 := (by injection e108)
             replace p108 := eq_true p108
             replace q108 := eq_true q108
             have p22 : 0 ≤ (x7_2 : Int) := of_decide_eq_true (by first | (with_reducible assumption) | assumption)
             have q22 : (x7_2 : Int) < ((x0_2.length : Int) : Int) := of_decide_eq_true (by first | (with_reducible assumption) | assumption)
             obtain ⟨go22, co22, eo22, gb22, gl22, cl22, HG22⟩ := Kd.R_form HO_0.out (by omega)
             (first | cases eo22 | (injection eo22 with ea_ en_ ec_; (first | subst ea_ | (injection ea_ with ea_; subst ea_)); subst ec_; clear en_))
             have GB22 := Aside0.mk gb22
             have GG22 := Aside0.mk HG22
             clear gb22 gl22 HG22
             have HMgo22 := Aside0.mk (show (P0_ go22 ∨ w.heap.size ≤ go22) from (HO_0.out.1 _ rfl))
             (first | simp only [add_plain] at hx107_0 | skip)
             (first | simp only [add_plain] at hx108_0 | skip)
             obtain ⟨hx22_0, hf22_0⟩ := Kd.R_celln 0 HO_0.out (x7_2 : Int) p22 q22
             replace p22 := eq_true p22
             replace q22 := eq_true q22
             have HP26 := Kd.R_putn HO_0.out (x7_2 : Int) (rd x0_2 (ji17))
             rw [← Ny109.out] at HP26
             have HQ26 := Aside0.mk HP26
             clear HP26
             have p23 : 0 ≤ ((ji17) : Int) := of_decide_eq_true (by first | (with_reducible assumption) | assumption)
             have q23 : ((ji17) : Int) < ((x0_2.length : Int) : Int) := of_decide_eq_true (by first | (with_reducible assumption) | assumption)
             obtain ⟨hx23_0, hf23_0⟩ := Kd.R_celln 0 HQ26.out ((ji17) : Int) p23 q23
             replace p23 := eq_true p23
             replace q23 := eq_true q23
             have HP27 := Kd.R_putn HQ26.out ((ji17) : Int) (rd x0_2 x7_2)
             rw [← Ny110.out] at HP27
             have HQ27 := Aside0.mk HP27
             clear HP27
             refine start_ (n := 18) (S := fun w' => w'.cell? ⟨go22, ((ji17)).toNat, none⟩ = some (.int .i16 (rd x0_2 (ji17))) ∧ w'.cell? ⟨go22, (x7_2).toNat, none⟩ = some (.int .i16 (rd x0_2 x7_2))) (ds := [15, 17]) #[ff,ff,ff,ff,ff,ff,ff,ff,ff,ff,ff,ff,ff,ff,ff,ff,ff,ff] (by kernel_rfl) rfl rfl ⟨hx107_0, hx108_0⟩ (fun hHeld => ?_); refine with_tabW slices_insertionSortOrdered_int16.tab6 slices_insertionSortOrdered_int16.bits6 (fun HT_ HW_ => ?_)
             generalize wc.drew = w24 at HO_0 HK HB GG22 HQ26 HQ27 hf22_0 hf23_0 hx107_0 hx108_0 hx22_0 hx23_0 hHeld ⊢
             refine pure_ (i := 0) (N := some 33) (v := ?_) (a' := ?_) #[tt,ff,ff,ff,ff,ff,ff,ff,ff,ff,ff,ff,ff,ff,ff,ff,ff,ff] rfl rfl (any_of HT_.out (by kernel_rfl)) (fun _ _ _ h => h) (Or.inl ⟨by rfl, ?_⟩) ?_ ?_
             rotate_left
             ·intro w'
              go_simp
              with_reducible rfl
             rotate_left
             ·simp only [Act.put, L1_, L2_, L3_, i64_w, i32_w]
              rfl
             refine pure_ (i := 1) (N := some 34) (v := ?_) (a' := ?_) #[tt,tt,ff,ff,ff,ff,ff,ff,ff,ff,ff,ff,ff,ff,ff,ff,ff,ff] rfl rfl (any_of HT_.out (by kernel_rfl)) (fun _ _ _ h => h) (Or.inl ⟨by rfl, ?_⟩) ?_ ?_
             rotate_left
             ·intro w'
              go_simp
              with_reducible rfl
             rotate_left
             ·simp only [Act.put, L1_, L2_, L3_, i64_w, i32_w]
              rfl
             refine pure_ (i := 2) (N := some 35) (v := ?_) (a' := ?_) #[tt,tt,tt,ff,ff,ff,ff,ff,ff,ff,ff,ff,ff,ff,ff,ff,ff,ff] rfl rfl (any_of HT_.out (by kernel_rfl)) (fun _ _ _ h => h) (Or.inl ⟨by rfl, ?_⟩) ?_ ?_
             rotate_left
             ·intro w'
              go_simp
              with_reducible rfl
             rotate_left
             ·simp only [Act.put, L1_, L2_, L3_, i64_w, i32_w]
              rfl
             refine pure_ (i := 3) (N := some 36) (v := ?_) (a' := ?_) #[tt,tt,tt,tt,ff,ff,ff,ff,ff,ff,ff,ff,ff,ff,ff,ff,ff,ff] rfl rfl (any_of HT_.out (by kernel_rfl)) (fun _ _ _ h => h) (Or.inl ⟨by rfl, ?_⟩) ?_ ?_
             rotate_left
             ·intro w'
              go_simp
              with_reducible rfl
             rotate_left
             ·simp only [Act.put, L1_, L2_, L3_, i64_w, i32_w]
              rfl
             refine pure_ (i := 4) (N := some 37) (v := ?_) (a' := ?_) #[tt,tt,tt,tt,tt,ff,ff,ff,ff,ff,ff,ff,ff,ff,ff,ff,ff,ff] rfl rfl (any_of HT_.out (by kernel_rfl)) (fun _ _ _ h => h) (Or.inl ⟨by rfl, ?_⟩) ?_ ?_
             rotate_left
             ·intro w'
              go_simp
              with_reducible rfl
             rotate_left
             ·(try go_ints); (try simp (disch := omega) only [n3_]); simp only [Act.put, L1_, L2_, L3_, i64_w, i32_w]
              rfl
             refine pure_ (i := 5) (N := some 38) (v := ?_) (a' := ?_) #[tt,tt,tt,tt,tt,tt,ff,ff,ff,ff,ff,ff,ff,ff,ff,ff,ff,ff] rfl rfl (any_of HT_.out (by kernel_rfl)) (fun _ _ _ h => h) (Or.inl ⟨by rfl, ?_⟩) ?_ ?_
             rotate_left
             ·intro w'
              go_simp
              with_reducible rfl
             rotate_left
             ·simp only [Act.put, L1_, L2_, L3_, i64_w, i32_w]
              rfl
             refine pure_ (i := 6) (N := some 39) (v := ?_) (a' := ?_) #[tt,tt,tt,tt,tt,tt,tt,ff,ff,ff,ff,ff,ff,ff,ff,ff,ff,ff] rfl rfl (any_of HT_.out (by kernel_rfl)) (fun _ _ _ h => h) (Or.inl ⟨by rfl, ?_⟩) ?_ ?_
             rotate_left
             ·intro w'
              go_simp
              with_reducible rfl
             rotate_left
             ·simp only [Act.put, L1_, L2_, L3_, i64_w, i32_w]
              rfl
             refine pure_ (i := 7) (N := some 40) (v := ?_) (a' := ?_) #[tt,tt,tt,tt,tt,tt,tt,tt,ff,ff,ff,ff,ff,ff,ff,ff,ff,ff] rfl rfl (any_of HT_.out (by kernel_rfl)) (fun _ _ _ h => h) (Or.inl ⟨by rfl, ?_⟩) ?_ ?_
             rotate_left
             ·intro w'
              go_simp
              with_reducible rfl
             rotate_left
             ·(try go_ints); (try simp (disch := omega) only [n3_]); simp only [Act.put, L1_, L2_, L3_, i64_w, i32_w]
              rfl
             refine pure_ (i := 8) (N := some 41) (v := ?_) (a' := ?_) #[tt,tt,tt,tt,tt,tt,tt,tt,tt,ff,ff,ff,ff,ff,ff,ff,ff,ff] rfl rfl (any_of HT_.out (by kernel_rfl)) (fun _ _ _ h => h) (Or.inl ⟨by rfl, ?_⟩) ?_ ?_
             rotate_left
             ·intro w'
              go_simp
              with_reducible rfl
             rotate_left
             ·simp only [Act.put, L1_, L2_, L3_, i64_w, i32_w]
              rfl
             refine pure_ (i := 10) (N := some 43) (v := ?_) (a' := ?_) #[tt,tt,tt,tt,tt,tt,tt,tt,tt,ff,tt,ff,ff,ff,ff,ff,ff,ff] rfl rfl (any_of HT_.out (by kernel_rfl)) (fun _ _ _ h => h) (Or.inl ⟨by rfl, ?_⟩) ?_ ?_
             rotate_left
             ·intro w'
              go_simp
              with_reducible rfl
             rotate_left
             ·simp only [Act.put, L1_, L2_, L3_, i64_w, i32_w]
              rfl
             refine pure_ (i := 11) (N := some 44) (v := ?_) (a' := ?_) #[tt,tt,tt,tt,tt,tt,tt,tt,tt,ff,tt,tt,ff,ff,ff,ff,ff,ff] rfl rfl (any_of HT_.out (by kernel_rfl)) (fun _ _ _ h => h) (Or.inl ⟨by rfl, ?_⟩) ?_ ?_
             rotate_left
             ·intro w'
              go_simp
              with_reducible rfl
             rotate_left
             ·simp only [Act.put, L1_, L2_, L3_, i64_w, i32_w]
              rfl
             refine pure_ (i := 12) (N := some 45) (v := ?_) (a' := ?_) #[tt,tt,tt,tt,tt,tt,tt,tt,tt,ff,tt,tt,tt,ff,ff,ff,ff,ff] rfl rfl (any_of HT_.out (by kernel_rfl)) (fun _ _ _ h => h) (Or.inl ⟨by rfl, ?_⟩) ?_ ?_
             rotate_left
             ·intro w'
              go_simp
              with_reducible rfl
             rotate_left
             ·simp only [Act.put, L1_, L2_, L3_, i64_w, i32_w]
              rfl
             refine take_ (i := 9) (N := some 42) (v := ?_) (a' := ?_) #[tt,tt,tt,tt,tt,tt,tt,tt,tt,tt,tt,tt,tt,ff,ff,ff,ff,ff] rfl rfl (take_ofW HT_.out HW_.out (by kernel_rfl)) (fun _ _ _ h => h) (Or.inl ⟨by rfl, ?_⟩) hHeld ?_ ?_
             rotate_left
             ·rintro w' ⟨s0, s1⟩
              go_simp
              with_reducible rfl
             rotate_left
             ·simp only [Act.put, L1_, L2_, L3_, i64_w, i32_w]
              rfl
             refine take_ (i := 13) (N := some 46) (v := ?_) (a' := ?_) #[tt,tt,tt,tt,tt,tt,tt,tt,tt,tt,tt,tt,tt,tt,ff,ff,ff,ff] rfl rfl (take_ofW HT_.out HW_.out (by kernel_rfl)) (fun _ _ _ h => h) (Or.inl ⟨by rfl, ?_⟩) hHeld ?_ ?_
             rotate_left
             ·rintro w' ⟨s0, s1⟩
              go_simp
              with_reducible rfl
             rotate_left
             ·simp only [Act.put, L1_, L2_, L3_, i64_w, i32_w]
              rfl
             refine pure_ (i := 14) (N := some 47) (v := ?_) (a' := ?_) #[tt,tt,tt,tt,tt,tt,tt,tt,tt,tt,tt,tt,tt,tt,tt,ff,ff,ff] rfl rfl (any_of HT_.out (by kernel_rfl)) (fun _ _ _ h => h) (Or.inl ⟨by rfl, ?_⟩) ?_ ?_
             rotate_left
             ·intro w'
              go_simp
              with_reducible rfl
             rotate_left
             ·simp only [Act.put, L1_, L2_, L3_, i64_w, i32_w]
              rfl
             refine last_ (i := 15) (N := none) #[tt,tt,tt,tt,tt,tt,tt,tt,tt,tt,tt,tt,tt,tt,tt,tt,ff,ff] rfl rfl (one_of HT_.out (by kernel_rfl)) (by decide) (fun K hK => ?_)
             refine skip_ (w1 := ?_) (by rfl) rfl ?_ ?_
             rotate_left
             ·go_simp
              rfl
             refine hK.out _ _ ?_
             clear hK K
             refine pure_ (i := 16) (N := some 48) (v := ?_) (a' := ?_) #[tt,tt,tt,tt,tt,tt,tt,tt,tt,tt,tt,tt,tt,tt,tt,tt,tt,ff] rfl rfl (any_of HT_.out (by kernel_rfl)) (fun _ _ _ h => h) (Or.inl ⟨by rfl, ?_⟩) ?_ ?_
             rotate_left
             ·intro w'
              go_simp
              with_reducible rfl
             rotate_left
             ·simp only [Act.put, L1_, L2_, L3_, i64_w, i32_w]
              rfl
             refine last_ (i := 17) (N := none) #[tt,tt,tt,tt,tt,tt,tt,tt,tt,tt,tt,tt,tt,tt,tt,tt,tt,tt] rfl rfl (one_of HT_.out (by kernel_rfl)) (by decide) (fun K hK => ?_)
             refine skip_ (w1 := ?_) (by rfl) rfl ?_ ?_
             rotate_left
             ·go_simp
              rfl
             refine hK.out _ _ ?_
             clear hK K
             refine done_ (done_of HT_.out (by kernel_rfl)) ?_
             try go_wp2
             go_roundg kj4
             case measure => have := HK1.out; have := HK2.out; have := HJ4.out; omega
             case rel => exact ⟨(y110), (ji17), (by first | rfl | (simp; done) | (simp only [← hji17] <;> (first | rfl | simp)) | (simp [*]; done)), H', ⟨by have := HK1.out; have := HK2.out; have := HJ4.out; omega⟩, ⟨by (with_reducible repeat (first | apply Kd.R_alloc | apply Kd.R_drewN | apply Kd.R_drew)); exact HQ27.out⟩, ⟨by repeat (first | (with_reducible first | exact HK.out | apply Kept.alloc | apply Kept.drewN | apply Kept.drew | refine Kept.setCell ?_ HMgo22.out _ | refine Kept.setCell ?_ HMgo22.out _) | exact HK.out)⟩, ⟨by repeat (first | (with_reducible first | exact HB.out | apply below_alloc | apply pw_below_drewN | apply below_drew1 | refine below_set ?_ GB22.out | refine below_set ?_ GB22.out) | exact HB.out)⟩⟩
            ·rw [if_neg c21] at H
             exact absurd H (by simp)
           ·rw [if_neg c20] at H
            exact absurd H (by simp)
          ·rw [if_neg c19] at H
           exact absurd H (by simp)
         ·rw [if_neg c18] at H
          exact absurd H (by simp)
        ·replace c16 := Bool.eq_false_iff.mpr c16
         subst c16
         have H1 : (slices_insertionSortOrdered_int16.l0 kj4 x0_2 a1 a2 (wrap64 (x6_1 + 1))) = some r := by rw [if_neg (show ¬ (false = true) by decide)] at H; exact H
         clear H
         have H := H1
         clear H1
         have H' := Aside0.mk H
         clear H
         go_wp2
         go_roundg kj4
         case measure => have := HK1.out; have := HK2.out; have := HJ4.out; omega
         case rel => exact ⟨(x0_2), (wrap64 (x6_1 + 1)), (by first | rfl | (simp; done) | (simp [*]; done)), H', ⟨by have := HK1.out; have := HK2.out; have := HJ4.out; omega⟩, ⟨by (with_reducible repeat (first | apply Kd.R_alloc | apply Kd.R_drewN | apply Kd.R_drew)); exact HO_0.out⟩, ⟨by repeat (first | (with_reducible first | exact HK.out | apply Kept.alloc | apply Kept.drewN | apply Kept.drew) | exact HK.out)⟩, ⟨by repeat (first | (with_reducible first | exact HB.out | apply below_alloc | apply pw_below_drewN | apply below_drew1) | exact HB.out)⟩⟩
   ·rw [if_neg c4] at H
    have c4b0 : decide (x6_1 < a2) = false := decide_eq_false c4
    clear c4
    obtain rfl := Option.some.inj H
    go_wp2
    first | go_end0 | ((try simp only [Exit.inBlock, Exit.then]); refine bodyPost_ret (results_none rfl _ _ _) rfl ?_)
    exact ⟨by first | rfl | (simp [errW_none, errW_some] <;> rfl) | (simp [*, errW_none, errW_some] <;> rfl), by (with_reducible repeat (first | apply Kd.R_alloc | apply Kd.R_drewN | apply Kd.R_drew)); exact HO_0.out, by repeat (first | (with_reducible first | exact HB.out | apply below_alloc | apply pw_below_drewN | apply below_drew1) | exact HB.out), by repeat (first | (with_reducible first | exact HK.out | apply Kept.alloc | apply Kept.drewN | apply Kept.drew) | exact HK.out)⟩

/-! ### slices_pdqsortOrdered_int16: function 64 -/
mutual
def slices_pdqsortOrdered_int16.l0 : Nat → List Int → Int → Int → Int → Bool → Option (List Int)
 | 0, _, _, _, _, _ => none
 | k + 1, x0, x1, x2, x3, x8 => if (wrap64 (x2 - x1)) ≤ 12 then ((slices_insertionSortOrdered_int16.f k x0 x1 x2).bind fun t111 => (some t111)) else (if x3 = 0 then (none) else (if x8 = true then (none) else (none)))
def slices_pdqsortOrdered_int16.f : Nat → List Int → Int → Int → Int → Option (List Int)
 | 0, _, _, _, _ => none
 | k + 1, l0, a1, a2, a3 => slices_pdqsortOrdered_int16.l0 k l0 a1 a2 a3 true
end
theorem slices_pdqsortOrdered_int16.mono_l : ∀ k, (∀ y0 y1 y2 y3, LeO (slices_pdqsortOrdered_int16.f k y0 y1 y2 y3) (slices_pdqsortOrdered_int16.f (k + 1) y0 y1 y2 y3)) ∧ (∀ y0 y1 y2 y3 y4, LeO (slices_pdqsortOrdered_int16.l0 k y0 y1 y2 y3 y4) (slices_pdqsortOrdered_int16.l0 (k + 1) y0 y1 y2 y3 y4))
 | 0 => ⟨fun _ _ _ _ r h => by simp [slices_pdqsortOrdered_int16.f] at h, fun _ _ _ _ _ r h => by simp [slices_pdqsortOrdered_int16.l0] at h⟩
 | k + 1 => by
  obtain ⟨ih0, ih1⟩ := slices_pdqsortOrdered_int16.mono_l k
  refine ⟨?_, ?_⟩
  ·intro y0 y1 y2 y3
   unfold slices_pdqsortOrdered_int16.f
   repeat' first
   | (with_reducible exact ih0 _ _ _ _)
   | (with_reducible exact ih1 _ _ _ _ _)
   | (with_reducible exact slices_insertionSortOrdered_int16.mono _ _ _ _)
   | (with_reducible exact LeO.refl _)
   | (with_reducible exact LeO.none _)
   | (with_reducible refine LeO.ite ?_ ?_)
   | (with_reducible refine LeO.bind ?_ (fun _ => ?_))
   | exact ih0 _ _ _ _
   | exact ih1 _ _ _ _ _
   | exact slices_insertionSortOrdered_int16.mono _ _ _ _
   | exact LeO.none _
   | refine LeO.ite ?_ ?_
   | refine LeO.bind ?_ (fun _ => ?_)
  ·intro y0 y1 y2 y3 y4
   unfold slices_pdqsortOrdered_int16.l0
   repeat' first
   | (with_reducible exact ih0 _ _ _ _)
   | (with_reducible exact ih1 _ _ _ _ _)
   | (with_reducible exact slices_insertionSortOrdered_int16.mono _ _ _ _)
   | (with_reducible exact LeO.refl _)
   | (with_reducible exact LeO.none _)
   | (with_reducible refine LeO.ite ?_ ?_)
   | (with_reducible refine LeO.bind ?_ (fun _ => ?_))
   | exact ih0 _ _ _ _
   | exact ih1 _ _ _ _ _
   | exact slices_insertionSortOrdered_int16.mono _ _ _ _
   | exact LeO.none _
   | refine LeO.ite ?_ ?_
   | refine LeO.bind ?_ (fun _ => ?_)
theorem slices_pdqsortOrdered_int16.mono : ∀ a0 a1 a2 a3 k, LeO (slices_pdqsortOrdered_int16.f k a0 a1 a2 a3) (slices_pdqsortOrdered_int16.f (k + 1) a0 a1 a2 a3) := by
 intro a0 a1 a2 a3 k
 obtain ⟨ih0, ih1⟩ := slices_pdqsortOrdered_int16.mono_l k
 exact ih0 a0 a1 a2 a3
set_option maxHeartbeats 8000000 in
set_option maxRecDepth 100000 in
theorem slices_pdqsortOrdered_int16.calls (k : Nat) : ∀ (P0_ : Nat → Prop) (u9000_ : Value) (l0 : List Int) (a1 : Int) (a2 : Int) (a3 : Int) (r : List Int) (w0 w : World) (hB : Below w0.heap.size w0 w) (ho0 : Kd.R (Kd.int .i16) 98 w w0.heap.size P0_ u9000_ l0) (h : slices_pdqsortOrdered_int16.f k l0 a1 a2 a3 = some r),
  Calls Try.prog 64 #[u9000_, .int .i64 a1, .int .i64 a2, .int .i64 a3] w fun e w' => e = .returned (.tuple #[]) ∧ Kd.R (Kd.int .i16) 98 w' w0.heap.size (fun k_ => (P0_ k_ ∨ w.heap.size ≤ k_)) u9000_ r ∧ Below w0.heap.size w0 w' ∧ Kept w w' (fun k_ => P0_ k_) := by
 induction k using Nat.strongRecOn with
 | _ k ih =>
 intro P0_ u9000_ l0 a1 a2 a3 r w0 w hB ho0 h
 cases k with
 | zero => exact absurd h (by simp [slices_pdqsortOrdered_int16.f])
 | succ k =>
 simp only [slices_pdqsortOrdered_int16.f] at h
 have HO0 := Aside0.mk (show Kd.R (Kd.int .i16) 98 w w0.heap.size (fun k_ => (P0_ k_ ∨ w.heap.size ≤ k_)) u9000_ l0 from Kd.R_mono ho0 (fun k_ hk => (.inl hk)))
 have HK := Aside0.mk (Kept.refl w (fun k_ => P0_ k_))
 have HW0 := Aside0.mk hB.size
 have HB := Aside0.mk hB
 clear hB
 have H : (slices_pdqsortOrdered_int16.l0 k l0 a1 a2 a3 true) = some r := h
 clear h
 have H' := Aside0.mk H
 clear H
 go_enter Try.func64, Try.ntmps64
 go_wp2
 repeat (go_quiet (fail); try go_wp2)
 go_loopg [1, 2, 3, 8] k (fun kq v1 v2 v3 v8 w' => ∃ (x0_1 : List Int) (x1_1 : Int) (x2_1 : Int) (x3_1 : Int) (x8_1 : Bool), v1 = .int .i64 x1_1 ∧ v2 = .int .i64 x2_1 ∧ v3 = .int .i64 x3_1 ∧ v8 = .bool x8_1 ∧ Aside0 (slices_pdqsortOrdered_int16.l0 kq x0_1 x1_1 x2_1 x3_1 x8_1 = some r) ∧ Aside0 (kq ≤ k) ∧ Aside0 (Kd.R (Kd.int .i16) 98 w' w0.heap.size (fun k_ => (P0_ k_ ∨ w.heap.size ≤ k_)) u9000_ x0_1) ∧ Aside0 (Kept w w' (fun k_ => P0_ k_)) ∧ Aside0 (Below w0.heap.size w0 w'))
 case atStart => exact ⟨(l0), (a1), (a2), (a3), (true), (by first | rfl | (simp; done) | (simp [*]; done)), (by first | rfl | (simp; done) | (simp [*]; done)), (by first | rfl | (simp; done) | (simp [*]; done)), (by first | rfl | (simp; done) | (simp [*]; done)), H', ⟨Nat.le_refl _⟩, ⟨by (with_reducible repeat (first | apply Kd.R_alloc | apply Kd.R_drewN | apply Kd.R_drew)); exact HO0.out⟩, ⟨by repeat (first | (with_reducible first | exact HK.out | apply Kept.alloc | apply Kept.drewN | apply Kept.drew) | exact HK.out)⟩, ⟨by repeat (first | (with_reducible first | exact HB.out | apply below_alloc | apply pw_below_drewN | apply below_drew1) | exact HB.out)⟩⟩
 case round =>
  clear H'
  try clear p2
  obtain ⟨x0_1, x1_1, x2_1, x3_1, x8_1, rfl, rfl, rfl, rfl, HA, HK1, HO_0, HK, HB⟩ := hrel
  cases gk with
  | zero => exact absurd HA.out (by simp [slices_pdqsortOrdered_int16.l0])
  | succ k1 =>
   have H := HA.out
   clear HA
   simp only [slices_pdqsortOrdered_int16.l0] at H
   by_cases c5 : (wrap64 (x2_1 - x1_1)) ≤ 12
   ·rw [if_pos c5] at H
    have c5b0 : decide ((wrap64 (x2_1 - x1_1)) ≤ 12) = true := decide_eq_true c5
    clear c5
    replace H := Option.bind_eq_some_iff.mp H
    obtain ⟨t111, A60, H⟩ := H
    replace H : (some t111) = some r := H
    have A6 := Aside0.mk A60
    clear A60
    obtain rfl := Option.some.inj H
    obtain ⟨Ao7, co7, eo7⟩ := Kd.R_slice HO_0.out
    subst eo7
    go_wp2_with (first | (go_at_call 75; (with_reducible refine (slices_insertionSortOrdered_int16.calls k1 (fun k_ => some k_ = (.slice Ao7 x0_1.length co7 : Value).ownBlock) (.slice Ao7 x0_1.length co7) x0_1 x1_1 x2_1 t111 w0 _ ?side1 ?side2 A6.out).mono ?_); (case side1 => repeat (first | (with_reducible first | exact HB.out | apply below_alloc | apply pw_below_drewN | apply below_drew1) | exact HB.out)); (case side2 => exact Kd.R_tight rfl HO_0.out); rintro e w8 ⟨rfl, hy0, hb, hkp⟩; have n0_ := Aside0.mk (Kd.R_reok rfl hy0 (fun k_ e_ => HO_0.out.1 k_ e_)); have n1_ := Aside0.mk (Kept.then_ (S := (fun k_ => P0_ k_)) (by repeat (first | (with_reducible first | exact HK.out | apply Kept.alloc | apply Kept.drewN | apply Kept.drew) | exact HK.out)) hkp (fun k_ hs_ => (fun e_ => (HO_0.out.1 k_ e_.symm)) hs_)); have n2_ := Aside0.mk (hb); clear HO_0; clear HK; clear HB; have HO_0 := n0_; have HK := n1_; have HB := n2_; clear n0_ n1_ n2_; (try clear hb); (try clear hkp); (try clear hy0)))
    repeat (go_quiet (first | (go_at_call 75; (with_reducible refine (slices_insertionSortOrdered_int16.calls k1 (fun k_ => some k_ = (.slice Ao7 x0_1.length co7 : Value).ownBlock) (.slice Ao7 x0_1.length co7) x0_1 x1_1 x2_1 t111 w0 _ ?side1 ?side2 A6.out).mono ?_); (case side1 => repeat (first | (with_reducible first | exact HB.out | apply below_alloc | apply pw_below_drewN | apply below_drew1) | exact HB.out)); (case side2 => exact Kd.R_tight rfl HO_0.out); rintro e w8 ⟨rfl, hy0, hb, hkp⟩; have n0_ := Aside0.mk (Kd.R_reok rfl hy0 (fun k_ e_ => HO_0.out.1 k_ e_)); have n1_ := Aside0.mk (Kept.then_ (S := (fun k_ => P0_ k_)) (by repeat (first | (with_reducible first | exact HK.out | apply Kept.alloc | apply Kept.drewN | apply Kept.drew) | exact HK.out)) hkp (fun k_ hs_ => (fun e_ => (HO_0.out.1 k_ e_.symm)) hs_)); have n2_ := Aside0.mk (hb); clear HO_0; clear HK; clear HB; have HO_0 := n0_; have HK := n1_; have HB := n2_; clear n0_ n1_ n2_; (try clear hb); (try clear hkp); (try clear hy0))); try go_wp2_with (first | (go_at_call 75; (with_reducible refine (slices_insertionSortOrdered_int16.calls k1 (fun k_ => some k_ = (.slice Ao7 x0_1.length co7 : Value).ownBlock) (.slice Ao7 x0_1.length co7) x0_1 x1_1 x2_1 t111 w0 _ ?side1 ?side2 A6.out).mono ?_); (case side1 => repeat (first | (with_reducible first | exact HB.out | apply below_alloc | apply pw_below_drewN | apply below_drew1) | exact HB.out)); (case side2 => exact Kd.R_tight rfl HO_0.out); rintro e w8 ⟨rfl, hy0, hb, hkp⟩; have n0_ := Aside0.mk (Kd.R_reok rfl hy0 (fun k_ e_ => HO_0.out.1 k_ e_)); have n1_ := Aside0.mk (Kept.then_ (S := (fun k_ => P0_ k_)) (by repeat (first | (with_reducible first | exact HK.out | apply Kept.alloc | apply Kept.drewN | apply Kept.drew) | exact HK.out)) hkp (fun k_ hs_ => (fun e_ => (HO_0.out.1 k_ e_.symm)) hs_)); have n2_ := Aside0.mk (hb); clear HO_0; clear HK; clear HB; have HO_0 := n0_; have HK := n1_; have HB := n2_; clear n0_ n1_ n2_; (try clear hb); (try clear hkp); (try clear hy0))))
    first | go_end0 | ((try simp only [Exit.inBlock, Exit.then]); refine bodyPost_ret (results_none rfl _ _ _) rfl ?_)
    exact ⟨by first | rfl | (simp [errW_none, errW_some] <;> rfl) | (simp [*, errW_none, errW_some] <;> rfl), by (with_reducible repeat (first | apply Kd.R_alloc | apply Kd.R_drewN | apply Kd.R_drew)); exact HO_0.out, by repeat (first | (with_reducible first | exact HB.out | apply below_alloc | apply pw_below_drewN | apply below_drew1) | exact HB.out), by repeat (first | (with_reducible first | exact HK.out | apply Kept.alloc | apply Kept.drewN | apply Kept.drew) | exact HK.out)⟩
   ·rw [if_neg c5] at H
    have c5b0 : decide ((wrap64 (x2_1 - x1_1)) ≤ 12) = false := decide_eq_false c5
    clear c5
    by_cases c9 : x3_1 = 0
    ·rw [if_pos c9] at H
     exact absurd H (by simp)
    ·rw [if_neg c9] at H
     have c9b0 : (x3_1 == 0) = false := beq_eq_false_iff_ne.mpr c9
     have c9b1 : (x3_1 != 0) = true := bne_iff_ne.mpr c9
     by_cases c10 : x8_1 = true
     ·subst c10
      have H1 : (none) = some r := by rw [if_pos rfl] at H; exact H
      clear H
      have H := H1
      clear H1
      exact absurd H (by simp)
     ·replace c10 := Bool.eq_false_iff.mpr c10
      subst c10
      have H1 : (none) = some r := by rw [if_neg (show ¬ (false = true) by decide)] at H; exact H
      clear H
      have H := H1
      clear H1
      exact absurd H (by simp)

/-! ### bits_Len: function 65 -/
def bits_Len.f (a0 : Int) : Option (Int) := if a0 = 3 then some 2 else none
set_option maxRecDepth 1000000 in
set_option maxHeartbeats 4000000 in
theorem bits_Len.inner (w : World) : Calls Try.prog 85 #[.int .u64 3] w fun e w' => e = .returned (.int .i64 2) ∧ Drawn0 w w' := by
  go_enter Try.func85, Try.ntmps85
  go_wp2
  go_ret
  exact ⟨by kernel_rfl, by repeat (first | exact Drawn0.refl _ | apply Drawn0.step)⟩
theorem bits_Len.calls (a0 : Int) (r : Int) (w : World) (h : bits_Len.f a0 = some r) :
    Calls Try.prog 65 #[.int .u64 a0] w fun e w' => e = .returned (.int .i64 r) ∧ Drawn0 w w' := by
  unfold bits_Len.f at h
  by_cases h3 : a0 = 3
  · subst h3
    rw [if_pos rfl] at h
    obtain rfl := Option.some.inj h
    go_enter Try.func65, Try.ntmps65
    go_wp2_with (go_at_call 85; refine (bits_Len.inner _).mono ?_; rintro e w' ⟨rfl, ⟨nd, rfl⟩⟩)
    go_ret
    exact ⟨rfl, by repeat (first | exact Drawn0.refl _ | apply Drawn0.step)⟩
  · rw [if_neg h3] at h
    cases h

end Go.Proofs.Ytlbmfnjhpojghaa.PFnNormalized
