-- Written by a program of this session (xprint) out of the translation; Lean checks it.
import Derived.Test.YtlbmfnjhpojghaaPFnDeltax0
import Derived.Test.YtlbmfnjhpojghaaPFnDeltax4
import Derived.Test.YtlbmfnjhpojghaaPFnDeltax5
namespace Go.Proofs.Ytlbmfnjhpojghaa.PFnDelta
open Go.RowKit Go.Proofs.YtlbmfnjhpojghaaW.PrintWords Go.Proofs.YtlbmfnjhpojghaaW.PrintLast Go.Proofs.YtlbmfnjhpojghaaW.PrintMore
attribute [local go_sem] max2_int min2_int max_two min_two max_three min_three max_four min_four   -- for this text's walks alone
set_option linter.unusedVariables false
set_option linter.unusedSimpArgs false

attribute [local go_sem] f_add f_sub f_mul f_quo f_conv f_same f_int f_max
/-! ### impl_builder_coords: function 34 -/
def impl_builder_coords.l0 : Nat → List Int → List Int → Int → Int → Int → Int → Bool → Option (List Int × Int × Int × Bool)
 | 0, _, _, _, _, _, _, _ => none
 | k + 1, x4, x7, x8, x9, x1000, x1001, x1002 => if x9 < x8 then (if 0 ≤ x9 then (if x9 < (x7.length : Int) then ((impl_builder_signed.f x1000 x1001 x1002 (rd x7 x9)).bind fun bt227 => (if x4.length < 70368744177664 then (impl_builder_coords.l0 k (x4 ++ [bt227.1]) x7 x8 (wrap64 (x9 + 1)) bt227.2.1 bt227.2.2.1 bt227.2.2.2) else (none))) else (none)) else (none)) else (some (x4, x1000, x1001, x1002))
def impl_builder_coords.f (k : Nat) (s0_0 : Int) (s0_1 : Int) (s0_2 : Bool) (l1 : List Int) : Option (List Int × Int × Int × Bool) := impl_builder_coords.l0 k ([] : List Int) l1 (l1.length : Int) 0 s0_0 s0_1 s0_2
theorem impl_builder_coords.mono_l : ∀ k, (∀ y0 y1 y2 y3 y4 y5 y6, LeO (impl_builder_coords.l0 k y0 y1 y2 y3 y4 y5 y6) (impl_builder_coords.l0 (k + 1) y0 y1 y2 y3 y4 y5 y6))
 | 0 => fun _ _ _ _ _ _ _ r h => by simp [impl_builder_coords.l0] at h
 | k + 1 => by
  have ih0 := impl_builder_coords.mono_l k
  ·intro y0 y1 y2 y3 y4 y5 y6
   unfold impl_builder_coords.l0
   repeat' first
   | (with_reducible exact ih0 _ _ _ _ _ _ _)
   | (with_reducible exact LeO.refl _)
   | (with_reducible exact LeO.none _)
   | (with_reducible refine LeO.ite ?_ ?_)
   | (with_reducible refine LeO.bind ?_ (fun _ => ?_))
   | exact ih0 _ _ _ _ _ _ _
   | exact LeO.none _
   | refine LeO.ite ?_ ?_
   | refine LeO.bind ?_ (fun _ => ?_)
theorem impl_builder_coords.mono : ∀ a0 a1 a2 a3 k, LeO (impl_builder_coords.f k a0 a1 a2 a3) (impl_builder_coords.f (k + 1) a0 a1 a2 a3) := by
 intro a0 a1 a2 a3 k
 have ih0 := impl_builder_coords.mono_l k
 unfold impl_builder_coords.f
 repeat' first
   | (with_reducible exact ih0 _ _ _ _ _ _ _)
   | (with_reducible exact LeO.refl _)
   | (with_reducible exact LeO.none _)
   | (with_reducible refine LeO.ite ?_ ?_)
   | (with_reducible refine LeO.bind ?_ (fun _ => ?_))
   | exact ih0 _ _ _ _ _ _ _
   | exact LeO.none _
   | refine LeO.ite ?_ ?_
   | refine LeO.bind ?_ (fun _ => ?_)
set_option maxHeartbeats 8000000 in
set_option maxRecDepth 100000 in
theorem impl_builder_coords.calls (k : Nat) (g : Nat) (s0_0 : Int) (s0_1 : Int) (s0_2 : Bool) (A1 : Option Addr) (c1 : Nat) (l1 : List Int) (r1 : List Int) (r2 : Int) (r3 : Int) (r4 : Bool) (w0 w : World) (hI : IsS102 w0 w g s0_0 s0_1 s0_2) (hB : Below w0.heap.size w0 w) (hr1 : Kd.C (Kd.int .i64) w A1 l1.length l1) (hc1 : l1.length ≤ c1) (hf1 : ∀ ad, A1 = some ad → 0 < l1.length → ad.block ≠ g) (h : impl_builder_coords.f k s0_0 s0_1 s0_2 l1 = some (r1, r2, r3, r4)) :
  Calls Try.prog 34 #[.pointer (some ⟨g, 0, none⟩), .slice A1 l1.length c1] w fun e w' => ∃ v0_ : Value, e = .returned (v0_) ∧ Kd.R (Kd.int .i16) 175 w' w.heap.size (fun _ => True) v0_ r1 ∧ IsS102 w0 w' g r2 r3 r4 ∧ Below w0.heap.size w0 w' ∧ KeepBut w w' g none := by
 have HR1 := Aside0.mk hr1
 have HC1 := Aside0.mk hc1
 clear hr1 hc1
 have HI0 := Aside0.mk hI
 have HK := Aside0.mk (KeepBut.refl w g none)
 have HL := Aside0.mk hB.size
 clear hI
 have HW0 := Aside0.mk hB.size
 have HB := Aside0.mk hB
 clear hB
 have H : (impl_builder_coords.l0 k ([] : List Int) l1 (l1.length : Int) 0 s0_0 s0_1 s0_2) = some (r1, r2, r3, r4) := h
 clear h
 have H' := Aside0.mk H
 clear H
 go_enter Try.func34, Try.ntmps34
 go_wp2
 go_loopg [4, 9] k (fun kq v4 v9 w' => ∃ (x4_1 : List Int) (x9_1 : Int) (x1000_1 : Int) (x1001_1 : Int) (x1002_1 : Bool), v9 = .int .i64 x9_1 ∧ Aside0 (impl_builder_coords.l0 kq x4_1 l1 (l1.length : Int) x9_1 x1000_1 x1001_1 x1002_1 = some (r1, r2, r3, r4)) ∧ Aside0 (kq ≤ k) ∧ Aside0 (Kd.R (Kd.int .i16) 175 w' w.heap.size (fun _ => True) v4 x4_1) ∧ Aside0 (IsS102 w0 w' g x1000_1 x1001_1 x1002_1) ∧ Aside0 (KeepBut w w' g none) ∧ Aside0 (Below w0.heap.size w0 w'))
 case atStart => exact ⟨(([] : List Int)), (0), (s0_0), (s0_1), (s0_2), (by first | rfl | (simp; done) | (simp [*]; done)), H', ⟨Nat.le_refl _⟩, ⟨by first | exact Kd.R_nil _ _ _ _ _ | exact Kd.N_nil _ _ _ _ _ | exact Kd.V_nil _ _ _ _ _ | exact Kd.Q_nil _ _ _ _ _ | exact Kd.S_nil _ _ _ _ _⟩, ⟨by repeat (first | (with_reducible first | exact HI0.out | apply IsS102.alloc | apply IsS102.drewN | apply IsS102.drew | apply IsS102.set_0 | apply IsS102.set_1 | apply IsS102.set_2) | exact HI0.out)⟩, ⟨by repeat (first | (with_reducible first | exact HK.out | apply KeepBut.set_ | apply keep_drewN | apply keep_drew | apply keep_alloc) | exact HK.out)⟩, ⟨by repeat (first | (with_reducible first | exact HB.out | apply below_alloc | apply pw_below_drewN | apply below_drew1 | refine below_set ?_ (IsS102.ge HI0.out)) | exact HB.out)⟩⟩
 case round =>
  clear H'
  try clear c1
  try clear p2
  obtain ⟨x4_1, x9_1, x1000_1, x1001_1, x1002_1, rfl, HA, HK1, HO_4, HI0, HK, HB⟩ := hrel
  cases gk with
  | zero => exact absurd HA.out (by simp [impl_builder_coords.l0])
  | succ k1 =>
   have H := HA.out
   clear HA
   simp only [impl_builder_coords.l0] at H
   by_cases c3 : x9_1 < (l1.length : Int)
   ·rw [if_pos c3] at H
    have c3b0 : decide (x9_1 < (l1.length : Int)) = true := decide_eq_true c3
    clear c3
    by_cases c4 : 0 ≤ x9_1
    ·rw [if_pos c4] at H
     have c4b0 : decide (0 ≤ x9_1) = true := decide_eq_true c4
     clear c4
     by_cases c5 : x9_1 < (l1.length : Int)
     ·rw [if_pos c5] at H
      have c5b0 : decide (x9_1 < (l1.length : Int)) = true := decide_eq_true c5
      clear c5
      replace H := Option.bind_eq_some_iff.mp H
      obtain ⟨⟨t227, t228, t229, t230⟩, A60, H⟩ := H
      replace H : (if x4_1.length < 70368744177664 then (impl_builder_coords.l0 k1 (x4_1 ++ [t227]) l1 (l1.length : Int) (wrap64 (x9_1 + 1)) t228 t229 t230) else (none)) = some (r1, r2, r3, r4) := H
      have A6 := Aside0.mk A60
      clear A60
      by_cases c7 : x4_1.length < 70368744177664
      ·rw [if_pos c7] at H
       have LMc7 := Aside0.mk c7
       clear c7
       obtain ⟨y231, hy231⟩ : ∃ y_ : List Int, y_ = (x4_1 ++ [t227]) := ⟨_, rfl⟩
       replace H : (impl_builder_coords.l0 k1 y231 l1 (l1.length : Int) (wrap64 (x9_1 + 1)) t228 t229 t230) = some (r1, r2, r3, r4) := by first | (rw [hy231]; with_reducible exact H) | (have H2_ := (Option.bind_some _ _).symm.trans H; rw [hy231]; with_reducible exact H2_) | (have H2_ := (Option.bind_some _ _).symm.trans H; with_reducible exact H2_) | with_reducible exact H | (rw [hy231]; exact H) | exact H
       have Ny231 := Aside0.mk hy231
       clear hy231
       have H' := Aside0.mk H
       clear H
       have p226 : 0 ≤ (x9_1 : Int) := of_decide_eq_true (by first | (with_reducible assumption) | assumption)
       have q226 : x9_1 < (l1.length : Int) := of_decide_eq_true (by first | (with_reducible assumption) | assumption)
       obtain ⟨ad226, e226, hx226_0⟩ := Kd.at_int HR1.out x9_1 p226 q226
       cases e226
       replace hx226_0 := keep_cell HK.out hx226_0 (by first | (rw [add_block]; exact hf1 _ rfl (by omega)) | exact hf1 _ rfl (by omega) | exact hf1 ad226 rfl (by omega))
       replace p226 := eq_true p226
       replace q226 := eq_true q226
       go_wp2_with (first | ((with_reducible refine gate_callee (f := 51) rfl ?_); refine goesL_ (some 16) rfl rfl Try.func51 (by kernel_rfl) rfl #[.pointer (some ⟨g, 0, none⟩), .int .i64 (rd l1 x9_1)] rfl (by (try simp only [List.map_toArray, List.map_cons, List.map_nil]); first | done | rfl | (simp only [List.length_drop, List.length_take]; rfl)) ?_; (with_reducible refine (impl_builder_signed.calls g x1000_1 x1001_1 x1002_1 (rd l1 x9_1) t227 t228 t229 t230 w0 _ ?side1 ?side2 A6.out).mono ?_); (case side1 => repeat (first | (with_reducible first | exact HI0.out | apply IsS102.alloc | apply IsS102.drewN | apply IsS102.drew | apply IsS102.set_0 | apply IsS102.set_1 | apply IsS102.set_2) | exact HI0.out)); (case side2 => repeat (first | (with_reducible first | exact HB.out | apply below_alloc | apply pw_below_drewN | apply below_drew1 | refine below_set ?_ (IsS102.ge HI0.out)) | exact HB.out)); rintro e w8 ⟨rfl, hi, hb, hk⟩; refine ⟨_, rfl, ?_⟩; have n0_ := Aside0.mk (Kd.R_mono (Kd.R_keep (IsS102.apart (show IsS102 w0 _ g x1000_1 x1001_1 x1002_1 from by repeat (first | (with_reducible first | exact HI0.out | apply IsS102.alloc | apply IsS102.drewN | apply IsS102.drew | apply IsS102.set_0 | apply IsS102.set_1 | apply IsS102.set_2) | exact HI0.out)) (by (with_reducible repeat (first | apply Kd.R_alloc | apply Kd.R_drewN | apply Kd.R_drew)); exact HO_4.out) (by decide)) hk (fun _ h => h.2)) (fun _ h => h.1)); have n1_ := Aside0.mk (KeepBut.trans (by repeat (first | (with_reducible first | exact HK.out | apply KeepBut.set_ | apply keep_drewN | apply keep_drew | apply keep_alloc) | exact HK.out)) hk (.inl rfl)); have n2_ := Aside0.mk (hb); have n3_ := Aside0.mk (hi); clear HO_4; clear HK; clear HB; clear HI0; have HO_4 := n0_; have HK := n1_; have HB := n2_; have HI0 := n3_; clear n0_ n1_ n2_ n3_; (try clear hb); (try clear hb2); (try clear hk); (try clear hi)) | ((with_reducible refine gate_builtin (b := .append) (xs := #[.tmp 13, .tmp 17]) rfl ?_); at_builtin; refine Kd.R_append (Kd.int .i16) w.heap.size rfl (.tmp 13) (.tmp 17) 111 175 (.int .i16 0) 2 rfl Try.underlying111 info175 rfl (by decide) (by omega) u4 x4_1 t227 [.int .i16 t227] (fun _ => True) (fun _ => False) rfl rfl ?aP (fun _ hk => hk.elim) ?aF ?aO (Below.refl _ _) ?aS ?aL ?_; (case aP => exact rfl); (case aF => exact (fun _ _ => trivial)); (case aO => exact (by (with_reducible repeat (first | apply Kd.R_alloc | apply Kd.R_drewN | apply Kd.R_drew)); exact HO_4.out)); (case aS => exact (keep_size (w := w) (g := g) (row := none) (by repeat (first | (with_reducible first | exact HK.out | apply KeepBut.set_ | apply keep_drewN | apply keep_drew | apply keep_alloc) | exact HK.out)))); (case aL => have := LMc7.out; omega); intro v232 w9 ho hb hg hat; rw [← Ny231.out] at ho; have n0_ := Aside0.mk (IsS102.grown (by repeat (first | (with_reducible first | exact HI0.out | apply IsS102.alloc | apply IsS102.drewN | apply IsS102.drew | apply IsS102.set_0 | apply IsS102.set_1 | apply IsS102.set_2) | exact HI0.out)) hg (IsS102.own_ne HI0.out HO_4.out (by decide))); have n1_ := Aside0.mk (below_weaken (by repeat (first | (with_reducible first | exact HB.out | apply below_alloc | apply pw_below_drewN | apply below_drew1 | refine below_set ?_ (IsS102.ge HI0.out)) | exact HB.out)) HL.out hb); have n2_ := Aside0.mk (KeepBut.trans (by repeat (first | (with_reducible first | exact HK.out | apply KeepBut.set_ | apply keep_drewN | apply keep_drew | apply keep_alloc) | exact HK.out)) (KeepBut.of_grown hg g) (Kd.R_base2 HO_4.out)); have n3_ := Aside0.mk (ho); clear HI0; clear HB; clear HK; clear HO_4; have HI0 := n0_; have HB := n1_; have HK := n2_; have HO233 := n3_; clear n0_ n1_ n2_ n3_; clear ho hb hg hat))
       go_roundg k1
       case measure => have := HK1.out; omega
       case rel => exact ⟨(y231), (wrap64 (x9_1 + 1)), (t228), (t229), (t230), (by first | rfl | (simp; done) | (simp [*]; done)), H', ⟨by have := HK1.out; omega⟩, ⟨by (with_reducible repeat (first | apply Kd.R_alloc | apply Kd.R_drewN | apply Kd.R_drew)); exact HO233.out⟩, ⟨by repeat (first | (with_reducible first | exact HI0.out | apply IsS102.alloc | apply IsS102.drewN | apply IsS102.drew | apply IsS102.set_0 | apply IsS102.set_1 | apply IsS102.set_2) | exact HI0.out)⟩, ⟨by repeat (first | (with_reducible first | exact HK.out | apply KeepBut.set_ | apply keep_drewN | apply keep_drew | apply keep_alloc) | exact HK.out)⟩, ⟨by repeat (first | (with_reducible first | exact HB.out | apply below_alloc | apply pw_below_drewN | apply below_drew1 | refine below_set ?_ (IsS102.ge HI0.out)) | exact HB.out)⟩⟩
      ·rw [if_neg c7] at H
       exact absurd H (by simp)
     ·rw [if_neg c5] at H
      exact absurd H (by simp)
    ·rw [if_neg c4] at H
     exact absurd H (by simp)
   ·rw [if_neg c3] at H
    have c3b0 : decide (x9_1 < (l1.length : Int)) = false := decide_eq_false c3
    clear c3
    simp only [Option.some.injEq, Prod.mk.injEq] at H
    obtain ⟨rfl, rfl, rfl, rfl⟩ := H
    go_wp2
    go_ret
    exact ⟨_, by first | rfl | (simp [errW_none, errW_some] <;> rfl) | (simp [*, errW_none, errW_some] <;> rfl), by (with_reducible repeat (first | apply Kd.R_alloc | apply Kd.R_drewN | apply Kd.R_drew)); exact HO_4.out, by repeat (first | (with_reducible first | exact HI0.out | apply IsS102.alloc | apply IsS102.drewN | apply IsS102.drew | apply IsS102.set_0 | apply IsS102.set_1 | apply IsS102.set_2) | exact HI0.out), by repeat (first | (with_reducible first | exact HB.out | apply below_alloc | apply pw_below_drewN | apply below_drew1 | refine below_set ?_ (IsS102.ge HI0.out)) | exact HB.out), by repeat (first | (with_reducible first | exact HK.out | apply KeepBut.set_ | apply keep_drewN | apply keep_drew | apply keep_alloc) | exact HK.out)⟩

/-! ### tables_RegionAxisCoordinates_evaluate: function 69 -/
def tables_RegionAxisCoordinates_evaluate.j0 : Nat → Int → Int → Int → Int → Bool → Option (Nat)
 | 0, _, _, _, _, _ => none
 | k + 1, x1, x5, x6, x7, x20 => if x20 = true then (some 1065353216) else (if x1 = 0 then (some 0) else (if x1 ≤ x5 then (some 0) else (if x7 ≤ x1 then (some 0) else (if x1 < x6 then (if fok .quo .f32 (floatOfInt .f32 (IntKind.i16.wrap (x1 - x5))) (floatOfInt .f32 (IntKind.i16.wrap (x6 - x5))) = true then (some (fv .quo .f32 (floatOfInt .f32 (IntKind.i16.wrap (x1 - x5))) (floatOfInt .f32 (IntKind.i16.wrap (x6 - x5))))) else (none)) else (if fok .quo .f32 (floatOfInt .f32 (IntKind.i16.wrap (x7 - x1))) (floatOfInt .f32 (IntKind.i16.wrap (x7 - x6))) = true then (some (fv .quo .f32 (floatOfInt .f32 (IntKind.i16.wrap (x7 - x1))) (floatOfInt .f32 (IntKind.i16.wrap (x7 - x6))))) else (none))))))
def tables_RegionAxisCoordinates_evaluate.f (k : Nat) (a0_0 : Int) (a0_1 : Int) (a0_2 : Int) (a1 : Int) : Option (Nat) := if a0_1 = 0 then (tables_RegionAxisCoordinates_evaluate.j0 k a1 a0_0 a0_1 a0_2 true) else (tables_RegionAxisCoordinates_evaluate.j0 k a1 a0_0 a0_1 a0_2 (a1 == a0_1))
theorem tables_RegionAxisCoordinates_evaluate.mono_l : ∀ k, (∀ y0 y1 y2 y3 y4, LeO (tables_RegionAxisCoordinates_evaluate.j0 k y0 y1 y2 y3 y4) (tables_RegionAxisCoordinates_evaluate.j0 (k + 1) y0 y1 y2 y3 y4))
 | 0 => fun _ _ _ _ _ r h => by simp [tables_RegionAxisCoordinates_evaluate.j0] at h
 | k + 1 => by
  have ih0 := tables_RegionAxisCoordinates_evaluate.mono_l k
  ·intro y0 y1 y2 y3 y4
   unfold tables_RegionAxisCoordinates_evaluate.j0
   repeat' first
   | (with_reducible exact ih0 _ _ _ _ _)
   | (with_reducible exact LeO.refl _)
   | (with_reducible exact LeO.none _)
   | (with_reducible refine LeO.ite ?_ ?_)
   | (with_reducible refine LeO.bind ?_ (fun _ => ?_))
   | exact ih0 _ _ _ _ _
   | exact LeO.none _
   | refine LeO.ite ?_ ?_
   | refine LeO.bind ?_ (fun _ => ?_)
theorem tables_RegionAxisCoordinates_evaluate.mono : ∀ a0 a1 a2 a3 k, LeO (tables_RegionAxisCoordinates_evaluate.f k a0 a1 a2 a3) (tables_RegionAxisCoordinates_evaluate.f (k + 1) a0 a1 a2 a3) := by
 intro a0 a1 a2 a3 k
 have ih0 := tables_RegionAxisCoordinates_evaluate.mono_l k
 unfold tables_RegionAxisCoordinates_evaluate.f
 repeat' first
   | (with_reducible exact ih0 _ _ _ _ _)
   | (with_reducible exact LeO.refl _)
   | (with_reducible exact LeO.none _)
   | (with_reducible refine LeO.ite ?_ ?_)
   | (with_reducible refine LeO.bind ?_ (fun _ => ?_))
   | exact ih0 _ _ _ _ _
   | exact LeO.none _
   | refine LeO.ite ?_ ?_
   | refine LeO.bind ?_ (fun _ => ?_)
set_option maxHeartbeats 8000000 in
set_option maxRecDepth 100000 in
theorem tables_RegionAxisCoordinates_evaluate.calls (k : Nat) (a0_0 : Int) (a0_1 : Int) (a0_2 : Int) (a1 : Int) (r : Nat) (w : World) (h : tables_RegionAxisCoordinates_evaluate.f k a0_0 a0_1 a0_2 a1 = some r) :
  Calls Try.prog 69 #[.agg #[.int .i16 a0_0, .int .i16 a0_1, .int .i16 a0_2], .int .i16 a1] w fun e w' => e = .returned (.float .f32 r) ∧ Below w.heap.size w w' := by
 have hu184 := Try.underlying184
 have HB := Aside0.mk (Below.refl w.heap.size w)
 have H : (if a0_1 = 0 then (tables_RegionAxisCoordinates_evaluate.j0 k a1 a0_0 a0_1 a0_2 true) else (tables_RegionAxisCoordinates_evaluate.j0 k a1 a0_0 a0_1 a0_2 (a1 == a0_1))) = some r := h
 clear h
 have HC3 := Aside0.mk H
 clear H
 go_enter Try.func69, Try.ntmps69
 go_upto_region 2 with (first | ((with_reducible refine gate_dst (N := 2) rfl ?_); refine box_event ?hg (N := 2) ?hd (cs := #[.int .i16 a0_0, .int .i16 a0_1, .int .i16 a0_2]) (t := 184) ?hr ?_; (case hd => rfl); (case hg => rfl); (case hr => first | (go_simp; done) | (go_simp; rfl)); intro gb234 hg w4 hbox hb; have n0_ := Aside0.mk (below_step (by repeat (first | (with_reducible first | exact HB.out | apply below_alloc | apply pw_below_drewN | apply below_drew1) | exact HB.out)) hb); have n1_ := Aside0.mk (hbox); have n2_ := Aside0.mk ((by rw [hg]; exact (below_size (by repeat (first | (with_reducible first | exact HB.out | apply below_alloc | apply pw_below_drewN | apply below_drew1) | exact HB.out))) : w.heap.size ≤ gb234)); have n3_ := Aside0.mk ((by rw [hg]; exact (below_size (by repeat (first | (with_reducible first | exact HB.out | apply below_alloc | apply pw_below_drewN | apply below_drew1) | exact HB.out))) : w.heap.size ≤ gb234)); clear HB; have HB := n0_; have BK234 := n1_; have GW234 := n2_; have GE234 := n3_; clear n0_ n1_ n2_ n3_; clear hb hbox hg; have hcz5_0 : w4.cell? ⟨gb234, 0, none⟩ = some (.int .i16 a0_0) := (blk_cell BK234.out 0).trans rfl; have hcz5_1 : w4.cell? ⟨gb234, 1, none⟩ = some (.int .i16 a0_1) := (blk_cell BK234.out 1).trans rfl; have hcz5_2 : w4.cell? ⟨gb234, 2, none⟩ = some (.int .i16 a0_2) := (blk_cell BK234.out 2).trans rfl; have hfz5_0 := blk_frozen BK234.out 0; have hfz5_1 := blk_frozen BK234.out 1; have hfz5_2 := blk_frozen BK234.out 2))
 repeat (go_quiet (first | ((with_reducible refine gate_dst (N := 2) rfl ?_); refine box_event ?hg (N := 2) ?hd (cs := #[.int .i16 a0_0, .int .i16 a0_1, .int .i16 a0_2]) (t := 184) ?hr ?_; (case hd => rfl); (case hg => rfl); (case hr => first | (go_simp; done) | (go_simp; rfl)); intro gb234 hg w4 hbox hb; have n0_ := Aside0.mk (below_step (by repeat (first | (with_reducible first | exact HB.out | apply below_alloc | apply pw_below_drewN | apply below_drew1) | exact HB.out)) hb); have n1_ := Aside0.mk (hbox); have n2_ := Aside0.mk ((by rw [hg]; exact (below_size (by repeat (first | (with_reducible first | exact HB.out | apply below_alloc | apply pw_below_drewN | apply below_drew1) | exact HB.out))) : w.heap.size ≤ gb234)); have n3_ := Aside0.mk ((by rw [hg]; exact (below_size (by repeat (first | (with_reducible first | exact HB.out | apply below_alloc | apply pw_below_drewN | apply below_drew1) | exact HB.out))) : w.heap.size ≤ gb234)); clear HB; have HB := n0_; have BK234 := n1_; have GW234 := n2_; have GE234 := n3_; clear n0_ n1_ n2_ n3_; clear hb hbox hg; have hcz5_0 : w4.cell? ⟨gb234, 0, none⟩ = some (.int .i16 a0_0) := (blk_cell BK234.out 0).trans rfl; have hcz5_1 : w4.cell? ⟨gb234, 1, none⟩ = some (.int .i16 a0_1) := (blk_cell BK234.out 1).trans rfl; have hcz5_2 : w4.cell? ⟨gb234, 2, none⟩ = some (.int .i16 a0_2) := (blk_cell BK234.out 2).trans rfl; have hfz5_0 := blk_frozen BK234.out 0; have hfz5_1 := blk_frozen BK234.out 1; have hfz5_2 := blk_frozen BK234.out 2)); go_upto_region 2 with (first | ((with_reducible refine gate_dst (N := 2) rfl ?_); refine box_event ?hg (N := 2) ?hd (cs := #[.int .i16 a0_0, .int .i16 a0_1, .int .i16 a0_2]) (t := 184) ?hr ?_; (case hd => rfl); (case hg => rfl); (case hr => first | (go_simp; done) | (go_simp; rfl)); intro gb234 hg w4 hbox hb; have n0_ := Aside0.mk (below_step (by repeat (first | (with_reducible first | exact HB.out | apply below_alloc | apply pw_below_drewN | apply below_drew1) | exact HB.out)) hb); have n1_ := Aside0.mk (hbox); have n2_ := Aside0.mk ((by rw [hg]; exact (below_size (by repeat (first | (with_reducible first | exact HB.out | apply below_alloc | apply pw_below_drewN | apply below_drew1) | exact HB.out))) : w.heap.size ≤ gb234)); have n3_ := Aside0.mk ((by rw [hg]; exact (below_size (by repeat (first | (with_reducible first | exact HB.out | apply below_alloc | apply pw_below_drewN | apply below_drew1) | exact HB.out))) : w.heap.size ≤ gb234)); clear HB; have HB := n0_; have BK234 := n1_; have GW234 := n2_; have GE234 := n3_; clear n0_ n1_ n2_ n3_; clear hb hbox hg; have hcz5_0 : w4.cell? ⟨gb234, 0, none⟩ = some (.int .i16 a0_0) := (blk_cell BK234.out 0).trans rfl; have hcz5_1 : w4.cell? ⟨gb234, 1, none⟩ = some (.int .i16 a0_1) := (blk_cell BK234.out 1).trans rfl; have hcz5_2 : w4.cell? ⟨gb234, 2, none⟩ = some (.int .i16 a0_2) := (blk_cell BK234.out 2).trans rfl; have hfz5_0 := blk_frozen BK234.out 0; have hfz5_1 := blk_frozen BK234.out 1; have hfz5_2 := blk_frozen BK234.out 2)))
 (try simp only [Act.put, L1_, L2_, L3_])
 go_cut [20] (fun v20 wc => ∃ (kq : Nat) (x20_2 : Bool), v20 = .bool x20_2 ∧ Aside0 (tables_RegionAxisCoordinates_evaluate.j0 kq a1 a0_0 a0_1 a0_2 x20_2 = some r) ∧ Aside0 (kq ≤ k) ∧ Aside0 (wc.heap[gb234]? = some (.cells #[.int .i16 a0_0, .int .i16 a0_1, .int .i16 a0_2] 184 (0, 0))) ∧ Aside0 (Below w.heap.size w wc))
 case first =>
  have H := HC3.out
  clear HC3
  by_cases c6 : a0_1 = 0
  ·rw [if_pos c6] at H
   have c6b0 : (a0_1 == 0) = true := beq_iff_eq.mpr c6
   have c6b1 : (a0_1 != 0) = false := bne_eq_false_iff_eq.mpr c6
   clear c6
   (first | rw [c6b0] | (simp only [i64_w, i32_w]; rw [c6b0]) | skip)
   have H' := Aside0.mk H
   clear H
   go_wp2
   repeat (go_quiet (fail); try go_wp2)
   go_meet
   case rel => exact ⟨_, (true), (by first | rfl | (simp; done) | (simp [*]; done)), H', ⟨by first | omega | exact Nat.le_refl _⟩, ⟨by (with_reducible repeat (first | refine b1_ ?_ _ | refine b2_ ?_ | refine b3_ ?_ _)); exact BK234.out⟩, ⟨by repeat (first | (with_reducible first | exact HB.out | apply below_alloc | apply pw_below_drewN | apply below_drew1 | refine below_set ?_ GE234.out) | exact HB.out)⟩⟩
  ·rw [if_neg c6] at H
   have c6b0 : (a0_1 == 0) = false := beq_eq_false_iff_ne.mpr c6
   have c6b1 : (a0_1 != 0) = true := bne_iff_ne.mpr c6
   (first | rw [c6b0] | (simp only [i64_w, i32_w]; rw [c6b0]) | skip)
   have H' := Aside0.mk H
   clear H
   go_wp2
   repeat (go_quiet (fail); try go_wp2)
   go_meet
   case rel => exact ⟨_, ((a1 == a0_1)), (by first | rfl | (simp; done) | (simp [*]; done)), H', ⟨by first | omega | exact Nat.le_refl _⟩, ⟨by (with_reducible repeat (first | refine b1_ ?_ _ | refine b2_ ?_ | refine b3_ ?_ _)); exact BK234.out⟩, ⟨by repeat (first | (with_reducible first | exact HB.out | apply below_alloc | apply pw_below_drewN | apply below_drew1 | refine below_set ?_ GE234.out) | exact HB.out)⟩⟩
 case rest =>
  clear HC3
  try clear p2
  try clear c6
  try clear c6b0
  try clear c6b1
  try clear hcz5_0
  try clear hcz5_1
  try clear hcz5_2
  try clear hfz5_0
  try clear hfz5_1
  try clear hfz5_2
  obtain ⟨kq, x20_2, rfl, HA, HJ2, BK234, HB⟩ := hcut
  cases kq with
  | zero => exact absurd HA.out (by simp [tables_RegionAxisCoordinates_evaluate.j0])
  | succ kj2 =>
   have H := HA.out
   clear HA
   simp only [tables_RegionAxisCoordinates_evaluate.j0] at H
   by_cases c7 : x20_2 = true
   ·subst c7
    have H1 : (some 1065353216) = some r := by rw [if_pos rfl] at H; exact H
    clear H
    have H := H1
    clear H1
    obtain rfl := Option.some.inj H
    go_wp2
    repeat (go_quiet (fail); try go_wp2)
    go_ret
    exact ⟨by first | rfl | (simp [errW_none, errW_some] <;> rfl) | (simp [*, errW_none, errW_some] <;> rfl), by repeat (first | (with_reducible first | exact HB.out | apply below_alloc | apply pw_below_drewN | apply below_drew1 | refine below_set ?_ GE234.out) | exact HB.out)⟩
   ·replace c7 := Bool.eq_false_iff.mpr c7
    subst c7
    have H1 : (if a1 = 0 then (some 0) else (if a1 ≤ a0_0 then (some 0) else (if a0_2 ≤ a1 then (some 0) else (if a1 < a0_1 then (if fok .quo .f32 (floatOfInt .f32 (IntKind.i16.wrap (a1 - a0_0))) (floatOfInt .f32 (IntKind.i16.wrap (a0_1 - a0_0))) = true then (some (fv .quo .f32 (floatOfInt .f32 (IntKind.i16.wrap (a1 - a0_0))) (floatOfInt .f32 (IntKind.i16.wrap (a0_1 - a0_0))))) else (none)) else (if fok .quo .f32 (floatOfInt .f32 (IntKind.i16.wrap (a0_2 - a1))) (floatOfInt .f32 (IntKind.i16.wrap (a0_2 - a0_1))) = true then (some (fv .quo .f32 (floatOfInt .f32 (IntKind.i16.wrap (a0_2 - a1))) (floatOfInt .f32 (IntKind.i16.wrap (a0_2 - a0_1))))) else (none)))))) = some r := by rw [if_neg (show ¬ (false = true) by decide)] at H; exact H
    clear H
    have H := H1
    clear H1
    by_cases c8 : a1 = 0
    ·rw [if_pos c8] at H
     have c8b0 : (a1 == 0) = true := beq_iff_eq.mpr c8
     have c8b1 : (a1 != 0) = false := bne_eq_false_iff_eq.mpr c8
     clear c8
     obtain rfl := Option.some.inj H
     go_wp2
     repeat (go_quiet (fail); try go_wp2)
     go_ret
     exact ⟨by first | rfl | (simp [errW_none, errW_some] <;> rfl) | (simp [*, errW_none, errW_some] <;> rfl), by repeat (first | (with_reducible first | exact HB.out | apply below_alloc | apply pw_below_drewN | apply below_drew1 | refine below_set ?_ GE234.out) | exact HB.out)⟩
    ·rw [if_neg c8] at H
     have c8b0 : (a1 == 0) = false := beq_eq_false_iff_ne.mpr c8
     have c8b1 : (a1 != 0) = true := bne_iff_ne.mpr c8
     by_cases c9 : a1 ≤ a0_0
     ·rw [if_pos c9] at H
      have c9b0 : decide (a1 ≤ a0_0) = true := decide_eq_true c9
      clear c9
      obtain rfl := Option.some.inj H
      go_wp2
      repeat (go_quiet (fail); try go_wp2)
      go_ret
      exact ⟨by first | rfl | (simp [errW_none, errW_some] <;> rfl) | (simp [*, errW_none, errW_some] <;> rfl), by repeat (first | (with_reducible first | exact HB.out | apply below_alloc | apply pw_below_drewN | apply below_drew1 | refine below_set ?_ GE234.out) | exact HB.out)⟩
     ·rw [if_neg c9] at H
      have c9b0 : decide (a1 ≤ a0_0) = false := decide_eq_false c9
      clear c9
      by_cases c10 : a0_2 ≤ a1
      ·rw [if_pos c10] at H
       have c10b0 : decide (a0_2 ≤ a1) = true := decide_eq_true c10
       clear c10
       obtain rfl := Option.some.inj H
       go_wp2
       repeat (go_quiet (fail); try go_wp2)
       go_ret
       exact ⟨by first | rfl | (simp [errW_none, errW_some] <;> rfl) | (simp [*, errW_none, errW_some] <;> rfl), by repeat (first | (with_reducible first | exact HB.out | apply below_alloc | apply pw_below_drewN | apply below_drew1 | refine below_set ?_ GE234.out) | exact HB.out)⟩
      ·rw [if_neg c10] at H
       have c10b0 : decide (a0_2 ≤ a1) = false := decide_eq_false c10
       clear c10
       by_cases c11 : a1 < a0_1
       ·rw [if_pos c11] at H
        have c11b0 : decide (a1 < a0_1) = true := decide_eq_true c11
        clear c11
        by_cases c12 : fok .quo .f32 (floatOfInt .f32 (IntKind.i16.wrap (a1 - a0_0))) (floatOfInt .f32 (IntKind.i16.wrap (a0_1 - a0_0))) = true
        ·rw [if_pos c12] at H
         have c12b0 := eq_true c12
         have c12b1 : decide (fok .quo .f32 (floatOfInt .f32 (IntKind.i16.wrap (a1 - a0_0))) (floatOfInt .f32 (IntKind.i16.wrap (a0_1 - a0_0))) = true) = true := decide_eq_true c12
         clear c12
         obtain rfl := Option.some.inj H
         go_wp2
         repeat (go_quiet (fail); try go_wp2)
         go_ret
         exact ⟨by first | rfl | (simp [errW_none, errW_some] <;> rfl) | (simp [*, errW_none, errW_some] <;> rfl), by repeat (first | (with_reducible first | exact HB.out | apply below_alloc | apply pw_below_drewN | apply below_drew1 | refine below_set ?_ GE234.out) | exact HB.out)⟩
        ·rw [if_neg c12] at H
         exact absurd H (by simp)
       ·rw [if_neg c11] at H
        have c11b0 : decide (a1 < a0_1) = false := decide_eq_false c11
        clear c11
        by_cases c13 : fok .quo .f32 (floatOfInt .f32 (IntKind.i16.wrap (a0_2 - a1))) (floatOfInt .f32 (IntKind.i16.wrap (a0_2 - a0_1))) = true
        ·rw [if_pos c13] at H
         have c13b0 := eq_true c13
         have c13b1 : decide (fok .quo .f32 (floatOfInt .f32 (IntKind.i16.wrap (a0_2 - a1))) (floatOfInt .f32 (IntKind.i16.wrap (a0_2 - a0_1))) = true) = true := decide_eq_true c13
         clear c13
         obtain rfl := Option.some.inj H
         go_wp2
         repeat (go_quiet (fail); try go_wp2)
         go_ret
         exact ⟨by first | rfl | (simp [errW_none, errW_some] <;> rfl) | (simp [*, errW_none, errW_some] <;> rfl), by repeat (first | (with_reducible first | exact HB.out | apply below_alloc | apply pw_below_drewN | apply below_drew1 | refine below_set ?_ GE234.out) | exact HB.out)⟩
        ·rw [if_neg c13] at H
         exact absurd H (by simp)

/-! ### tables_VariationRegion_Evaluate: function 58 -/
def tables_VariationRegion_Evaluate.l0 : Nat → Nat → List Int → Int → Int → List (S184) → Option (Nat)
 | 0, _, _, _, _, _ => none
 | k + 1, x5, x9, x10, x11, x236000 => if x11 < x10 then (if 0 ≤ x11 then (if x11 < (x9.length : Int) then (if x11 < (x236000.length : Int) then ((tables_RegionAxisCoordinates_evaluate.f k ((rd_T184 x236000 x11).f0) ((rd_T184 x236000 x11).f1) ((rd_T184 x236000 x11).f2) (rd x9 x11)).bind fun t238 => (if fok .mul .f32 x5 t238 = true then (tables_VariationRegion_Evaluate.l0 k (fv .mul .f32 x5 t238) x9 x10 (wrap64 (x11 + 1)) x236000) else (none))) else (none)) else (none)) else (none)) else (some x5)
def tables_VariationRegion_Evaluate.f (k : Nat) (l0_0 : List (S184)) (l1 : List Int) : Option (Nat) := tables_VariationRegion_Evaluate.l0 k 1065353216 l1 (l1.length : Int) 0 l0_0
theorem tables_VariationRegion_Evaluate.mono_l : ∀ k, (∀ y0 y1 y2 y3 y4, LeO (tables_VariationRegion_Evaluate.l0 k y0 y1 y2 y3 y4) (tables_VariationRegion_Evaluate.l0 (k + 1) y0 y1 y2 y3 y4))
 | 0 => fun _ _ _ _ _ r h => by simp [tables_VariationRegion_Evaluate.l0] at h
 | k + 1 => by
  have ih0 := tables_VariationRegion_Evaluate.mono_l k
  ·intro y0 y1 y2 y3 y4
   unfold tables_VariationRegion_Evaluate.l0
   repeat' first
   | (with_reducible exact ih0 _ _ _ _ _)
   | (with_reducible exact tables_RegionAxisCoordinates_evaluate.mono _ _ _ _ _)
   | (with_reducible exact LeO.refl _)
   | (with_reducible exact LeO.none _)
   | (with_reducible refine LeO.ite ?_ ?_)
   | (with_reducible refine LeO.bind ?_ (fun _ => ?_))
   | exact ih0 _ _ _ _ _
   | exact tables_RegionAxisCoordinates_evaluate.mono _ _ _ _ _
   | exact LeO.none _
   | refine LeO.ite ?_ ?_
   | refine LeO.bind ?_ (fun _ => ?_)
theorem tables_VariationRegion_Evaluate.mono : ∀ a0 a1 k, LeO (tables_VariationRegion_Evaluate.f k a0 a1) (tables_VariationRegion_Evaluate.f (k + 1) a0 a1) := by
 intro a0 a1 k
 have ih0 := tables_VariationRegion_Evaluate.mono_l k
 unfold tables_VariationRegion_Evaluate.f
 repeat' first
   | (with_reducible exact ih0 _ _ _ _ _)
   | (with_reducible exact tables_RegionAxisCoordinates_evaluate.mono _ _ _ _ _)
   | (with_reducible exact LeO.refl _)
   | (with_reducible exact LeO.none _)
   | (with_reducible refine LeO.ite ?_ ?_)
   | (with_reducible refine LeO.bind ?_ (fun _ => ?_))
   | exact ih0 _ _ _ _ _
   | exact tables_RegionAxisCoordinates_evaluate.mono _ _ _ _ _
   | exact LeO.none _
   | refine LeO.ite ?_ ?_
   | refine LeO.bind ?_ (fun _ => ?_)
set_option maxHeartbeats 8000000 in
set_option maxRecDepth 100000 in
theorem tables_VariationRegion_Evaluate.calls (k : Nat) (A0_0 : Option Addr) (c0_0 : Nat) (l0_0 : List (S184)) (A1 : Option Addr) (c1 : Nat) (l1 : List Int) (r : Nat) (w : World) (hr0_0 : Kd.C k184 w A0_0 l0_0.length l0_0) (hc0_0 : l0_0.length ≤ c0_0) (hr1 : Kd.C (Kd.int .i16) w A1 l1.length l1) (hc1 : l1.length ≤ c1) (h : tables_VariationRegion_Evaluate.f k l0_0 l1 = some r) :
  Calls Try.prog 58 #[.agg #[.slice A0_0 l0_0.length c0_0], .slice A1 l1.length c1] w fun e w' => e = .returned (.float .f32 r) ∧ Below w.heap.size w w' := by
 have hu182 := Try.underlying182
 have hu184 := Try.underlying184
 have HR0_0 := Aside0.mk hr0_0
 have HC0_0 := Aside0.mk hc0_0
 clear hr0_0 hc0_0
 have HR1 := Aside0.mk hr1
 have HC1 := Aside0.mk hc1
 clear hr1 hc1
 have HB := Aside0.mk (Below.refl w.heap.size w)
 have H : (tables_VariationRegion_Evaluate.l0 k 1065353216 l1 (l1.length : Int) 0 l0_0) = some r := h
 clear h
 have H' := Aside0.mk H
 clear H
 go_enter Try.func58, Try.ntmps58
 go_wp2_with (first | ((with_reducible refine gate_dst (N := 2) rfl ?_); refine box_event ?hg (N := 2) ?hd (cs := #[.slice A0_0 l0_0.length c0_0]) (t := 182) ?hr ?_; (case hd => rfl); (case hg => rfl); (case hr => first | (go_simp; done) | (go_simp; rfl)); intro gb235 hg w3 hbox hb; have n0_ := Aside0.mk (below_step (by repeat (first | (with_reducible first | exact HB.out | apply below_alloc | apply pw_below_drewN | apply below_drew1) | exact HB.out)) hb); have n1_ := Aside0.mk (hbox); have n2_ := Aside0.mk ((by rw [hg]; exact (below_size (by repeat (first | (with_reducible first | exact HB.out | apply below_alloc | apply pw_below_drewN | apply below_drew1) | exact HB.out))) : w.heap.size ≤ gb235)); have n3_ := Aside0.mk ((by rw [hg]; exact (below_size (by repeat (first | (with_reducible first | exact HB.out | apply below_alloc | apply pw_below_drewN | apply below_drew1) | exact HB.out))) : w.heap.size ≤ gb235)); clear HB; have HB := n0_; have BK235 := n1_; have GW235 := n2_; have GE235 := n3_; clear n0_ n1_ n2_ n3_; clear hb hbox hg))
 go_loopg [5, 11] k (fun kq v5 v11 w' => ∃ (x5_1 : Nat) (x11_1 : Int), v5 = .float .f32 x5_1 ∧ v11 = .int .i64 x11_1 ∧ Aside0 (tables_VariationRegion_Evaluate.l0 kq x5_1 l1 (l1.length : Int) x11_1 l0_0 = some r) ∧ Aside0 (kq ≤ k) ∧ Aside0 (w'.heap[gb235]? = some (.cells #[(.slice A0_0 l0_0.length c0_0)] 182 (0, 0))) ∧ Aside0 (Below w.heap.size w w'))
 case atStart => exact ⟨(1065353216), (0), (by first | rfl | (simp; done) | (simp [*]; done)), (by first | rfl | (simp; done) | (simp [*]; done)), H', ⟨Nat.le_refl _⟩, ⟨by (with_reducible repeat (first | refine b1_ ?_ _ | refine b2_ ?_ | refine b3_ ?_ _)); exact BK235.out⟩, ⟨by repeat (first | (with_reducible first | exact HB.out | apply below_alloc | apply pw_below_drewN | apply below_drew1 | refine below_set ?_ GE235.out) | exact HB.out)⟩⟩
 case round =>
  clear H'
  try clear c1
  try clear p2
  obtain ⟨x5_1, x11_1, rfl, rfl, HA, HK1, BK235, HB⟩ := hrel
  cases gk with
  | zero => exact absurd HA.out (by simp [tables_VariationRegion_Evaluate.l0])
  | succ k1 =>
   have H := HA.out
   clear HA
   simp only [tables_VariationRegion_Evaluate.l0] at H
   by_cases c4 : x11_1 < (l1.length : Int)
   ·rw [if_pos c4] at H
    have c4b0 : decide (x11_1 < (l1.length : Int)) = true := decide_eq_true c4
    clear c4
    by_cases c5 : 0 ≤ x11_1
    ·rw [if_pos c5] at H
     have c5b0 : decide (0 ≤ x11_1) = true := decide_eq_true c5
     clear c5
     by_cases c6 : x11_1 < (l1.length : Int)
     ·rw [if_pos c6] at H
      have c6b0 : decide (x11_1 < (l1.length : Int)) = true := decide_eq_true c6
      clear c6
      by_cases c7 : x11_1 < (l0_0.length : Int)
      ·rw [if_pos c7] at H
       have c7b0 : decide (x11_1 < (l0_0.length : Int)) = true := decide_eq_true c7
       clear c7
       replace H := Option.bind_eq_some_iff.mp H
       obtain ⟨t238, A80, H⟩ := H
       replace H : (if fok .mul .f32 x5_1 t238 = true then (tables_VariationRegion_Evaluate.l0 k1 (fv .mul .f32 x5_1 t238) l1 (l1.length : Int) (wrap64 (x11_1 + 1)) l0_0) else (none)) = some r := H
       have A8 := Aside0.mk A80
       clear A80
       by_cases c9 : fok .mul .f32 x5_1 t238 = true
       ·rw [if_pos c9] at H
        have c9b0 := eq_true c9
        have c9b1 : decide (fok .mul .f32 x5_1 t238 = true) = true := decide_eq_true c9
        clear c9
        have H' := Aside0.mk H
        clear H
        have p236 : 0 ≤ (x11_1 : Int) := of_decide_eq_true (by first | (with_reducible assumption) | assumption)
        have q236 : x11_1 < (l1.length : Int) := of_decide_eq_true (by first | (with_reducible assumption) | assumption)
        obtain ⟨ad236, e236, hx236_0⟩ := Kd.at_int HR1.out x11_1 p236 q236
        cases e236
        replace hx236_0 := (HB.out.cell (World.block_lt_of_cell? w _ hx236_0)).trans hx236_0
        replace p236 := eq_true p236
        replace q236 := eq_true q236
        have hcz10_0 : wr.cell? ⟨gb235, 0, none⟩ = some (.slice A0_0 l0_0.length c0_0) := (blk_cell BK235.out 0).trans rfl
        have hfz10_0 := blk_frozen BK235.out 0
        have p237 : 0 ≤ (x11_1 : Int) := of_decide_eq_true (by first | (with_reducible assumption) | assumption)
        have q237 : x11_1 < (l0_0.length : Int) := of_decide_eq_true (by first | (with_reducible assumption) | assumption)
        obtain ⟨ad237, e237, hx237_0, hx237_1, hx237_2⟩ := at_T184 HR0_0.out x11_1 p237 q237
        cases e237
        replace hx237_0 := (HB.out.cell (World.block_lt_of_cell? w _ hx237_0)).trans hx237_0
        replace hx237_1 := (HB.out.cell (World.block_lt_of_cell? w _ hx237_1)).trans hx237_1
        replace hx237_2 := (HB.out.cell (World.block_lt_of_cell? w _ hx237_2)).trans hx237_2
        replace p237 := eq_true p237
        replace q237 := eq_true q237
        go_wp2_with (first | ((with_reducible refine gate_callee (f := 69) rfl ?_); refine goesL_ (some 22) rfl rfl Try.func69 (by kernel_rfl) rfl #[.agg #[.int .i16 ((rd_T184 l0_0 x11_1).f0), .int .i16 ((rd_T184 l0_0 x11_1).f1), .int .i16 ((rd_T184 l0_0 x11_1).f2)], .int .i16 (rd l1 x11_1)] rfl (by (try simp only [List.map_toArray, List.map_cons, List.map_nil]); first | done | rfl | (simp only [List.length_drop, List.length_take]; rfl)) ?_; (with_reducible refine (tables_RegionAxisCoordinates_evaluate.calls k1 ((rd_T184 l0_0 x11_1).f0) ((rd_T184 l0_0 x11_1).f1) ((rd_T184 l0_0 x11_1).f2) (rd l1 x11_1) t238 _ A8.out).mono ?_); rintro e w11 ⟨rfl, hb⟩; refine ⟨_, rfl, ?_⟩; have n0_ := Aside0.mk (blk_below (g := gb235) (o := .cells #[.slice (some ad237) l0_0.length c0_0] 182 (0, 0)) (by (with_reducible repeat (first | refine b1_ ?_ _ | refine b2_ ?_ | refine b3_ ?_ _)); exact BK235.out) hb); have n1_ := Aside0.mk (below_step (by repeat (first | (with_reducible first | exact HB.out | apply below_alloc | apply pw_below_drewN | apply below_drew1 | refine below_set ?_ GE235.out) | exact HB.out)) hb); clear BK235; clear HB; have BK235 := n0_; have HB := n1_; clear n0_ n1_; (try clear hb); (try clear hb2); (try clear hk); (try clear hi)))
        go_roundg k1
        case measure => have := HK1.out; omega
        case rel => exact ⟨(fv .mul .f32 x5_1 t238), (wrap64 (x11_1 + 1)), (by first | rfl | (simp; done) | (simp [*]; done)), (by first | rfl | (simp; done) | (simp [*]; done)), H', ⟨by have := HK1.out; omega⟩, ⟨by (with_reducible repeat (first | refine b1_ ?_ _ | refine b2_ ?_ | refine b3_ ?_ _)); exact BK235.out⟩, ⟨by repeat (first | (with_reducible first | exact HB.out | apply below_alloc | apply pw_below_drewN | apply below_drew1 | refine below_set ?_ GE235.out) | exact HB.out)⟩⟩
       ·rw [if_neg c9] at H
        exact absurd H (by simp)
      ·rw [if_neg c7] at H
       exact absurd H (by simp)
     ·rw [if_neg c6] at H
      exact absurd H (by simp)
    ·rw [if_neg c5] at H
     exact absurd H (by simp)
   ·rw [if_neg c4] at H
    have c4b0 : decide (x11_1 < (l1.length : Int)) = false := decide_eq_false c4
    clear c4
    obtain rfl := Option.some.inj H
    go_wp2
    go_ret
    exact ⟨by first | rfl | (simp [errW_none, errW_some] <;> rfl) | (simp [*, errW_none, errW_some] <;> rfl), by repeat (first | (with_reducible first | exact HB.out | apply below_alloc | apply pw_below_drewN | apply below_drew1 | refine below_set ?_ GE235.out) | exact HB.out)⟩

/-! ### tables_ItemVarStore_GetDelta: function 36 -/
def tables_ItemVarStore_GetDelta.l0 : Nat → List Int → List Int → Nat → List Int → Int → Int → Int → Int → List (S182) → List (S186) → Option (Nat)
 | 0, _, _, _, _, _, _, _, _, _, _ => none
 | k + 1, x2, x8, x9, x41, x42, x43, x240000, x240001, x240002, x240003 => if x43 < x42 then (if 0 ≤ x43 then (if x43 < (x41.length : Int) then (if 0 ≤ (rd x41 x43) then (if (rd x41 x43) < (x240002.length : Int) then ((tables_VariationRegion_Evaluate.f k ((rd_T182 x240002 (rd x41 x43)).f0) x2).bind fun t247 => (if x43 < (x8.length : Int) then (if fok .mul .f32 (floatOfInt .f32 (rd x8 x43)) t247 = true then (if fok .add .f32 x9 (fv .mul .f32 (floatOfInt .f32 (rd x8 x43)) t247) = true then (tables_ItemVarStore_GetDelta.l0 k x2 x8 (fv .add .f32 x9 (fv .mul .f32 (floatOfInt .f32 (rd x8 x43)) t247)) x41 x42 (wrap64 (x43 + 1)) x240000 x240001 x240002 x240003) else (none)) else (none)) else (none))) else (none)) else (none)) else (none)) else (none)) else (some x9)
def tables_ItemVarStore_GetDelta.f (k : Nat) (a0_0 : Int) (a0_1 : Int) (l0_2 : List (S182)) (l0_3 : List (S186)) (a1_0 : Int) (a1_1 : Int) (l2 : List Int) : Option (Nat) := if (wrap64 (a1_0)) ≥ (l0_3.length : Int) then (some 0) else (if 0 ≤ a1_0 then (if a1_0 < (l0_3.length : Int) then (if (wrap64 (a1_1)) ≥ (((rd_T186 l0_3 a1_0).f4).length : Int) then (some 0) else (if 0 ≤ a1_1 then (if a1_1 < (((rd_T186 l0_3 a1_0).f4).length : Int) then (tables_ItemVarStore_GetDelta.l0 k l2 (rd_L5 ((rd_T186 l0_3 a1_0).f4) a1_1) 0 ((rd_T186 l0_3 a1_0).f3) (((rd_T186 l0_3 a1_0).f3).length : Int) 0 a0_0 a0_1 l0_2 l0_3) else (none)) else (none))) else (none)) else (none))
theorem tables_ItemVarStore_GetDelta.mono_l : ∀ k, (∀ y0 y1 y2 y3 y4 y5 y6 y7 y8 y9, LeO (tables_ItemVarStore_GetDelta.l0 k y0 y1 y2 y3 y4 y5 y6 y7 y8 y9) (tables_ItemVarStore_GetDelta.l0 (k + 1) y0 y1 y2 y3 y4 y5 y6 y7 y8 y9))
 | 0 => fun _ _ _ _ _ _ _ _ _ _ r h => by simp [tables_ItemVarStore_GetDelta.l0] at h
 | k + 1 => by
  have ih0 := tables_ItemVarStore_GetDelta.mono_l k
  ·intro y0 y1 y2 y3 y4 y5 y6 y7 y8 y9
   unfold tables_ItemVarStore_GetDelta.l0
   repeat' first
   | (with_reducible exact ih0 _ _ _ _ _ _ _ _ _ _)
   | (with_reducible exact tables_VariationRegion_Evaluate.mono _ _ _)
   | (with_reducible exact LeO.refl _)
   | (with_reducible exact LeO.none _)
   | (with_reducible refine LeO.ite ?_ ?_)
   | (with_reducible refine LeO.bind ?_ (fun _ => ?_))
   | exact ih0 _ _ _ _ _ _ _ _ _ _
   | exact tables_VariationRegion_Evaluate.mono _ _ _
   | exact LeO.none _
   | refine LeO.ite ?_ ?_
   | refine LeO.bind ?_ (fun _ => ?_)
theorem tables_ItemVarStore_GetDelta.mono : ∀ a0 a1 a2 a3 a4 a5 a6 k, LeO (tables_ItemVarStore_GetDelta.f k a0 a1 a2 a3 a4 a5 a6) (tables_ItemVarStore_GetDelta.f (k + 1) a0 a1 a2 a3 a4 a5 a6) := by
 intro a0 a1 a2 a3 a4 a5 a6 k
 have ih0 := tables_ItemVarStore_GetDelta.mono_l k
 unfold tables_ItemVarStore_GetDelta.f
 repeat' first
   | (with_reducible exact ih0 _ _ _ _ _ _ _ _ _ _)
   | (with_reducible exact tables_VariationRegion_Evaluate.mono _ _ _)
   | (with_reducible exact LeO.refl _)
   | (with_reducible exact LeO.none _)
   | (with_reducible refine LeO.ite ?_ ?_)
   | (with_reducible refine LeO.bind ?_ (fun _ => ?_))
   | exact ih0 _ _ _ _ _ _ _ _ _ _
   | exact tables_VariationRegion_Evaluate.mono _ _ _
   | exact LeO.none _
   | refine LeO.ite ?_ ?_
   | refine LeO.bind ?_ (fun _ => ?_)
set_option maxHeartbeats 8000000 in
set_option maxRecDepth 100000 in
theorem tables_ItemVarStore_GetDelta.calls (k : Nat) (a0_0 : Int) (a0_1 : Int) (A0_2 : Option Addr) (c0_2 : Nat) (l0_2 : List (S182)) (A0_3 : Option Addr) (c0_3 : Nat) (l0_3 : List (S186)) (a1_0 : Int) (a1_1 : Int) (A2 : Option Addr) (c2 : Nat) (l2 : List Int) (r : Nat) (w : World) (hr0_2 : Kd.C k182 w A0_2 l0_2.length l0_2) (hc0_2 : l0_2.length ≤ c0_2) (hr0_3 : Kd.C k186 w A0_3 l0_3.length l0_3) (hc0_3 : l0_3.length ≤ c0_3) (hr2 : Kd.C (Kd.int .i16) w A2 l2.length l2) (hc2 : l2.length ≤ c2) (h : tables_ItemVarStore_GetDelta.f k a0_0 a0_1 l0_2 l0_3 a1_0 a1_1 l2 = some r) :
  Calls Try.prog 36 #[.agg #[.int .u16 a0_0, .int .u16 a0_1, .slice A0_2 l0_2.length c0_2, .slice A0_3 l0_3.length c0_3], .agg #[.int .u16 a1_0, .int .u16 a1_1], .slice A2 l2.length c2] w fun e w' => e = .returned (.float .f32 r) ∧ Below w.heap.size w w' := by
 have hu109 := Try.underlying109
 have hu115 := Try.underlying115
 have hu186 := Try.underlying186
 have hu182 := Try.underlying182
 have HR0_2 := Aside0.mk hr0_2
 have HC0_2 := Aside0.mk hc0_2
 clear hr0_2 hc0_2
 have HR0_3 := Aside0.mk hr0_3
 have HC0_3 := Aside0.mk hc0_3
 clear hr0_3 hc0_3
 have HR2 := Aside0.mk hr2
 have HC2 := Aside0.mk hc2
 clear hr2 hc2
 have HB := Aside0.mk (Below.refl w.heap.size w)
 have H : (if (wrap64 (a1_0)) ≥ (l0_3.length : Int) then (some 0) else (if 0 ≤ a1_0 then (if a1_0 < (l0_3.length : Int) then (if (wrap64 (a1_1)) ≥ (((rd_T186 l0_3 a1_0).f4).length : Int) then (some 0) else (if 0 ≤ a1_1 then (if a1_1 < (((rd_T186 l0_3 a1_0).f4).length : Int) then (tables_ItemVarStore_GetDelta.l0 k l2 (rd_L5 ((rd_T186 l0_3 a1_0).f4) a1_1) 0 ((rd_T186 l0_3 a1_0).f3) (((rd_T186 l0_3 a1_0).f3).length : Int) 0 a0_0 a0_1 l0_2 l0_3) else (none)) else (none))) else (none)) else (none))) = some r := h
 clear h
 by_cases c4 : (wrap64 (a1_0)) ≥ (l0_3.length : Int)
 ·rw [if_pos c4] at H
  have c4b0 : decide ((l0_3.length : Int) ≤ (wrap64 (a1_0))) = true := decide_eq_true c4
  clear c4
  obtain rfl := Option.some.inj H
  go_enter Try.func36, Try.ntmps36
  go_wp2_with (first | ((with_reducible refine gate_dst (N := 3) rfl ?_); refine box_event ?hg (N := 3) ?hd (cs := #[.int .u16 a0_0, .int .u16 a0_1, .slice A0_2 l0_2.length c0_2, .slice A0_3 l0_3.length c0_3]) (t := 109) ?hr ?_; (case hd => rfl); (case hg => rfl); (case hr => first | (go_simp; done) | (go_simp; rfl)); intro gb239 hg w5 hbox hb; have n0_ := Aside0.mk (below_step (by repeat (first | (with_reducible first | exact HB.out | apply below_alloc | apply pw_below_drewN | apply below_drew1) | exact HB.out)) hb); have n1_ := Aside0.mk (hbox); have n2_ := Aside0.mk ((by rw [hg]; exact (below_size (by repeat (first | (with_reducible first | exact HB.out | apply below_alloc | apply pw_below_drewN | apply below_drew1) | exact HB.out))) : w.heap.size ≤ gb239)); have n3_ := Aside0.mk ((by rw [hg]; exact (below_size (by repeat (first | (with_reducible first | exact HB.out | apply below_alloc | apply pw_below_drewN | apply below_drew1) | exact HB.out))) : w.heap.size ≤ gb239)); clear HB; have HB := n0_; have BK239 := n1_; have GW239 := n2_; have GE239 := n3_; clear n0_ n1_ n2_ n3_; clear hb hbox hg) | ((with_reducible refine gate_dst (N := 4) rfl ?_); refine box_event ?hg (N := 4) ?hd (cs := #[.int .u16 a1_0, .int .u16 a1_1]) (t := 115) ?hr ?_; (case hd => rfl); (case hg => rfl); (case hr => first | (go_simp; done) | (go_simp; rfl)); intro gb240 hg w6 hbox hb; have n0_ := Aside0.mk (blk_below (g := gb239) (o := .cells #[.int .u16 a0_0, .int .u16 a0_1, .slice A0_2 l0_2.length c0_2, .slice A0_3 l0_3.length c0_3] 109 (0, 0)) (by (with_reducible repeat (first | refine b1_ ?_ _ | refine b2_ ?_ | refine b3_ ?_ _)); exact BK239.out) hb); have n1_ := Aside0.mk (below_step (by repeat (first | (with_reducible first | exact HB.out | apply below_alloc | apply pw_below_drewN | apply below_drew1 | refine below_set ?_ GE239.out) | exact HB.out)) hb); have n2_ := Aside0.mk (hbox); have n3_ := Aside0.mk ((by rw [hg]; exact (below_size (by repeat (first | (with_reducible first | exact HB.out | apply below_alloc | apply pw_below_drewN | apply below_drew1 | refine below_set ?_ GE239.out) | exact HB.out))) : w.heap.size ≤ gb240)); have n4_ := Aside0.mk ((by rw [hg]; exact (below_size (by repeat (first | (with_reducible first | exact HB.out | apply below_alloc | apply pw_below_drewN | apply below_drew1 | refine below_set ?_ GE239.out) | exact HB.out))) : w.heap.size ≤ gb240)); have n5_ := Aside0.mk ((by rw [hg]; exact Nat.ne_of_lt (blk_lt (g := gb239) (o := .cells #[.int .u16 a0_0, .int .u16 a0_1, .slice A0_2 l0_2.length c0_2, .slice A0_3 l0_3.length c0_3] 109 (0, 0)) (by (with_reducible repeat (first | refine b1_ ?_ _ | refine b2_ ?_ | refine b3_ ?_ _)); exact BK239.out)) : gb239 ≠ gb240)); have n6_ := Aside0.mk ((by rw [hg]; exact Nat.ne_of_gt (blk_lt (g := gb239) (o := .cells #[.int .u16 a0_0, .int .u16 a0_1, .slice A0_2 l0_2.length c0_2, .slice A0_3 l0_3.length c0_3] 109 (0, 0)) (by (with_reducible repeat (first | refine b1_ ?_ _ | refine b2_ ?_ | refine b3_ ?_ _)); exact BK239.out)) : gb240 ≠ gb239)); clear BK239; clear HB; have BK239 := n0_; have HB := n1_; have BK240 := n2_; have GW240 := n3_; have GE240 := n4_; have NB239_240 := n5_; have NB240_239 := n6_; clear n0_ n1_ n2_ n3_ n4_ n5_ n6_; clear hb hbox hg; have hnb7 := NB240_239.out; have hnc7 := NB239_240.out; have hcz8_0 : w6.cell? ⟨gb240, 0, none⟩ = some (.int .u16 a1_0) := (blk_cell BK240.out 0).trans rfl; have hcz8_1 : w6.cell? ⟨gb240, 1, none⟩ = some (.int .u16 a1_1) := (blk_cell BK240.out 1).trans rfl; have hfz8_0 := blk_frozen BK240.out 0; have hfz8_1 := blk_frozen BK240.out 1; have hcz9_0 : w6.cell? ⟨gb239, 0, none⟩ = some (.int .u16 a0_0) := (blk_cell BK239.out 0).trans rfl; have hcz9_1 : w6.cell? ⟨gb239, 1, none⟩ = some (.int .u16 a0_1) := (blk_cell BK239.out 1).trans rfl; have hcz9_2 : w6.cell? ⟨gb239, 2, none⟩ = some (.slice A0_2 l0_2.length c0_2) := (blk_cell BK239.out 2).trans rfl; have hcz9_3 : w6.cell? ⟨gb239, 3, none⟩ = some (.slice A0_3 l0_3.length c0_3) := (blk_cell BK239.out 3).trans rfl; have hfz9_0 := blk_frozen BK239.out 0; have hfz9_1 := blk_frozen BK239.out 1; have hfz9_2 := blk_frozen BK239.out 2; have hfz9_3 := blk_frozen BK239.out 3))
  go_ret
  exact ⟨by first | rfl | (simp [errW_none, errW_some] <;> rfl) | (simp [*, errW_none, errW_some] <;> rfl), by repeat (first | (with_reducible first | exact HB.out | apply below_alloc | apply pw_below_drewN | apply below_drew1 | refine below_set ?_ GE239.out | refine below_set ?_ GE240.out) | exact HB.out)⟩
 ·rw [if_neg c4] at H
  have c4b0 : decide ((l0_3.length : Int) ≤ (wrap64 (a1_0))) = false := decide_eq_false c4
  clear c4
  by_cases c10 : 0 ≤ a1_0
  ·rw [if_pos c10] at H
   have c10b0 : decide (0 ≤ a1_0) = true := decide_eq_true c10
   clear c10
   by_cases c11 : a1_0 < (l0_3.length : Int)
   ·rw [if_pos c11] at H
    have c11b0 : decide (a1_0 < (l0_3.length : Int)) = true := decide_eq_true c11
    clear c11
    by_cases c12 : (wrap64 (a1_1)) ≥ (((rd_T186 l0_3 a1_0).f4).length : Int)
    ·rw [if_pos c12] at H
     have c12b0 : decide ((((rd_T186 l0_3 a1_0).f4).length : Int) ≤ (wrap64 (a1_1))) = true := decide_eq_true c12
     clear c12
     obtain rfl := Option.some.inj H
     go_enter Try.func36, Try.ntmps36
     go_wp2_with (first | ((with_reducible refine gate_dst (N := 3) rfl ?_); refine box_event ?hg (N := 3) ?hd (cs := #[.int .u16 a0_0, .int .u16 a0_1, .slice A0_2 l0_2.length c0_2, .slice A0_3 l0_3.length c0_3]) (t := 109) ?hr ?_; (case hd => rfl); (case hg => rfl); (case hr => first | (go_simp; done) | (go_simp; rfl)); intro gb239 hg w13 hbox hb; have n0_ := Aside0.mk (below_step (by repeat (first | (with_reducible first | exact HB.out | apply below_alloc | apply pw_below_drewN | apply below_drew1) | exact HB.out)) hb); have n1_ := Aside0.mk (hbox); have n2_ := Aside0.mk ((by rw [hg]; exact (below_size (by repeat (first | (with_reducible first | exact HB.out | apply below_alloc | apply pw_below_drewN | apply below_drew1) | exact HB.out))) : w.heap.size ≤ gb239)); have n3_ := Aside0.mk ((by rw [hg]; exact (below_size (by repeat (first | (with_reducible first | exact HB.out | apply below_alloc | apply pw_below_drewN | apply below_drew1) | exact HB.out))) : w.heap.size ≤ gb239)); clear HB; have HB := n0_; have BK239 := n1_; have GW239 := n2_; have GE239 := n3_; clear n0_ n1_ n2_ n3_; clear hb hbox hg) | ((with_reducible refine gate_dst (N := 4) rfl ?_); refine box_event ?hg (N := 4) ?hd (cs := #[.int .u16 a1_0, .int .u16 a1_1]) (t := 115) ?hr ?_; (case hd => rfl); (case hg => rfl); (case hr => first | (go_simp; done) | (go_simp; rfl)); intro gb240 hg w14 hbox hb; have n0_ := Aside0.mk (blk_below (g := gb239) (o := .cells #[.int .u16 a0_0, .int .u16 a0_1, .slice A0_2 l0_2.length c0_2, .slice A0_3 l0_3.length c0_3] 109 (0, 0)) (by (with_reducible repeat (first | refine b1_ ?_ _ | refine b2_ ?_ | refine b3_ ?_ _)); exact BK239.out) hb); have n1_ := Aside0.mk (below_step (by repeat (first | (with_reducible first | exact HB.out | apply below_alloc | apply pw_below_drewN | apply below_drew1 | refine below_set ?_ GE239.out) | exact HB.out)) hb); have n2_ := Aside0.mk (hbox); have n3_ := Aside0.mk ((by rw [hg]; exact (below_size (by repeat (first | (with_reducible first | exact HB.out | apply below_alloc | apply pw_below_drewN | apply below_drew1 | refine below_set ?_ GE239.out) | exact HB.out))) : w.heap.size ≤ gb240)); have n4_ := Aside0.mk ((by rw [hg]; exact (below_size (by repeat (first | (with_reducible first | exact HB.out | apply below_alloc | apply pw_below_drewN | apply below_drew1 | refine below_set ?_ GE239.out) | exact HB.out))) : w.heap.size ≤ gb240)); have n5_ := Aside0.mk ((by rw [hg]; exact Nat.ne_of_lt (blk_lt (g := gb239) (o := .cells #[.int .u16 a0_0, .int .u16 a0_1, .slice A0_2 l0_2.length c0_2, .slice A0_3 l0_3.length c0_3] 109 (0, 0)) (by (with_reducible repeat (first | refine b1_ ?_ _ | refine b2_ ?_ | refine b3_ ?_ _)); exact BK239.out)) : gb239 ≠ gb240)); have n6_ := Aside0.mk ((by rw [hg]; exact Nat.ne_of_gt (blk_lt (g := gb239) (o := .cells #[.int .u16 a0_0, .int .u16 a0_1, .slice A0_2 l0_2.length c0_2, .slice A0_3 l0_3.length c0_3] 109 (0, 0)) (by (with_reducible repeat (first | refine b1_ ?_ _ | refine b2_ ?_ | refine b3_ ?_ _)); exact BK239.out)) : gb240 ≠ gb239)); clear BK239; clear HB; have BK239 := n0_; have HB := n1_; have BK240 := n2_; have GW240 := n3_; have GE240 := n4_; have NB239_240 := n5_; have NB240_239 := n6_; clear n0_ n1_ n2_ n3_ n4_ n5_ n6_; clear hb hbox hg; have hnb15 := NB240_239.out; have hnc15 := NB239_240.out; have hcz16_0 : w14.cell? ⟨gb240, 0, none⟩ = some (.int .u16 a1_0) := (blk_cell BK240.out 0).trans rfl; have hcz16_1 : w14.cell? ⟨gb240, 1, none⟩ = some (.int .u16 a1_1) := (blk_cell BK240.out 1).trans rfl; have hfz16_0 := blk_frozen BK240.out 0; have hfz16_1 := blk_frozen BK240.out 1; have hcz17_0 : w14.cell? ⟨gb239, 0, none⟩ = some (.int .u16 a0_0) := (blk_cell BK239.out 0).trans rfl; have hcz17_1 : w14.cell? ⟨gb239, 1, none⟩ = some (.int .u16 a0_1) := (blk_cell BK239.out 1).trans rfl; have hcz17_2 : w14.cell? ⟨gb239, 2, none⟩ = some (.slice A0_2 l0_2.length c0_2) := (blk_cell BK239.out 2).trans rfl; have hcz17_3 : w14.cell? ⟨gb239, 3, none⟩ = some (.slice A0_3 l0_3.length c0_3) := (blk_cell BK239.out 3).trans rfl; have hfz17_0 := blk_frozen BK239.out 0; have hfz17_1 := blk_frozen BK239.out 1; have hfz17_2 := blk_frozen BK239.out 2; have hfz17_3 := blk_frozen BK239.out 3; have p241 : 0 ≤ (a1_0 : Int) := of_decide_eq_true (by first | (with_reducible assumption) | assumption); have q241 : a1_0 < (l0_3.length : Int) := of_decide_eq_true (by first | (with_reducible assumption) | assumption); obtain ⟨ad241, A241_3, c241_3, A241_4, c241_4, e241, hx241_0, hx241_1, hx241_2, hx241_3, hx241_4, hl241_3, hi241_3, hl241_4, hi241_4⟩ := at_T186 HR0_3.out a1_0 p241 q241; cases e241; replace hx241_0 := (HB.out.cell (World.block_lt_of_cell? w _ hx241_0)).trans hx241_0; replace hx241_1 := (HB.out.cell (World.block_lt_of_cell? w _ hx241_1)).trans hx241_1; replace hx241_2 := (HB.out.cell (World.block_lt_of_cell? w _ hx241_2)).trans hx241_2; replace hx241_3 := (HB.out.cell (World.block_lt_of_cell? w _ hx241_3)).trans hx241_3; replace hx241_4 := (HB.out.cell (World.block_lt_of_cell? w _ hx241_4)).trans hx241_4; have HR241_3 := Aside0.mk hi241_3; have HC241_3 := Aside0.mk hl241_3; clear hi241_3 hl241_3; have HR241_4 := Aside0.mk hi241_4; have HC241_4 := Aside0.mk hl241_4; clear hi241_4 hl241_4; replace p241 := eq_true p241; replace q241 := eq_true q241) | ((with_reducible refine gate_dst (N := 7) rfl ?_); refine box_event ?hg (N := 7) ?hd (cs := #[.int .u16 0, .int .u16 0, .int .u16 0, .slice none 0 0, .slice none 0 0]) (t := 186) ?hr ?_; (case hd => rfl); (case hg => rfl); (case hr => first | (go_simp; done) | (go_simp; rfl)); intro gb242 hg w18 hbox hb; have n0_ := Aside0.mk (blk_below (g := gb239) (o := .cells #[.int .u16 a0_0, .int .u16 a0_1, .slice A0_2 l0_2.length c0_2, .slice (some ad241) l0_3.length c0_3] 109 (0, 0)) (by (with_reducible repeat (first | refine b1_ ?_ _ | refine b2_ ?_ | refine b3_ ?_ _)); exact BK239.out) hb); have n1_ := Aside0.mk (blk_below (g := gb240) (o := .cells #[.int .u16 a1_0, .int .u16 a1_1] 115 (0, 0)) (by (with_reducible repeat (first | refine b1_ ?_ _ | refine b2_ ?_ | refine b3_ ?_ _)); exact BK240.out) hb); have n2_ := Aside0.mk (below_step (by repeat (first | (with_reducible first | exact HB.out | apply below_alloc | apply pw_below_drewN | apply below_drew1 | refine below_set ?_ GE239.out | refine below_set ?_ GE240.out) | exact HB.out)) hb); have n3_ := Aside0.mk (hbox); have n4_ := Aside0.mk ((by rw [hg]; exact (below_size (by repeat (first | (with_reducible first | exact HB.out | apply below_alloc | apply pw_below_drewN | apply below_drew1 | refine below_set ?_ GE239.out | refine below_set ?_ GE240.out) | exact HB.out))) : w.heap.size ≤ gb242)); have n5_ := Aside0.mk ((by rw [hg]; exact (below_size (by repeat (first | (with_reducible first | exact HB.out | apply below_alloc | apply pw_below_drewN | apply below_drew1 | refine below_set ?_ GE239.out | refine below_set ?_ GE240.out) | exact HB.out))) : w.heap.size ≤ gb242)); have n6_ := Aside0.mk ((by rw [hg]; exact Nat.ne_of_lt (blk_lt (g := gb239) (o := .cells #[.int .u16 a0_0, .int .u16 a0_1, .slice A0_2 l0_2.length c0_2, .slice (some ad241) l0_3.length c0_3] 109 (0, 0)) (by (with_reducible repeat (first | refine b1_ ?_ _ | refine b2_ ?_ | refine b3_ ?_ _)); exact BK239.out)) : gb239 ≠ gb242)); have n7_ := Aside0.mk ((by rw [hg]; exact Nat.ne_of_gt (blk_lt (g := gb239) (o := .cells #[.int .u16 a0_0, .int .u16 a0_1, .slice A0_2 l0_2.length c0_2, .slice (some ad241) l0_3.length c0_3] 109 (0, 0)) (by (with_reducible repeat (first | refine b1_ ?_ _ | refine b2_ ?_ | refine b3_ ?_ _)); exact BK239.out)) : gb242 ≠ gb239)); have n8_ := Aside0.mk ((by rw [hg]; exact Nat.ne_of_lt (blk_lt (g := gb240) (o := .cells #[.int .u16 a1_0, .int .u16 a1_1] 115 (0, 0)) (by (with_reducible repeat (first | refine b1_ ?_ _ | refine b2_ ?_ | refine b3_ ?_ _)); exact BK240.out)) : gb240 ≠ gb242)); have n9_ := Aside0.mk ((by rw [hg]; exact Nat.ne_of_gt (blk_lt (g := gb240) (o := .cells #[.int .u16 a1_0, .int .u16 a1_1] 115 (0, 0)) (by (with_reducible repeat (first | refine b1_ ?_ _ | refine b2_ ?_ | refine b3_ ?_ _)); exact BK240.out)) : gb242 ≠ gb240)); clear BK239; clear BK240; clear HB; have BK239 := n0_; have BK240 := n1_; have HB := n2_; have BK242 := n3_; have GW242 := n4_; have GE242 := n5_; have NB239_242 := n6_; have NB242_239 := n7_; have NB240_242 := n8_; have NB242_240 := n9_; clear n0_ n1_ n2_ n3_ n4_ n5_ n6_ n7_ n8_ n9_; clear hb hbox hg; have hnb19 := NB242_239.out; have hnc19 := NB239_242.out; have hnb20 := NB242_240.out; have hnc20 := NB240_242.out; have hcz21_0 : w18.cell? ⟨gb242, 0, none⟩ = some (.int .u16 0) := (blk_cell BK242.out 0).trans rfl; have hcz21_1 : w18.cell? ⟨gb242, 1, none⟩ = some (.int .u16 0) := (blk_cell BK242.out 1).trans rfl; have hcz21_2 : w18.cell? ⟨gb242, 2, none⟩ = some (.int .u16 0) := (blk_cell BK242.out 2).trans rfl; have hcz21_3 : w18.cell? ⟨gb242, 3, none⟩ = some (.slice none 0 0) := (blk_cell BK242.out 3).trans rfl; have hcz21_4 : w18.cell? ⟨gb242, 4, none⟩ = some (.slice none 0 0) := (blk_cell BK242.out 4).trans rfl; have hfz21_0 := blk_frozen BK242.out 0; have hfz21_1 := blk_frozen BK242.out 1; have hfz21_2 := blk_frozen BK242.out 2; have hfz21_3 := blk_frozen BK242.out 3; have hfz21_4 := blk_frozen BK242.out 4; have hcz22_0 : w18.cell? ⟨gb240, 0, none⟩ = some (.int .u16 a1_0) := (blk_cell BK240.out 0).trans rfl; have hcz22_1 : w18.cell? ⟨gb240, 1, none⟩ = some (.int .u16 a1_1) := (blk_cell BK240.out 1).trans rfl; have hfz22_0 := blk_frozen BK240.out 0; have hfz22_1 := blk_frozen BK240.out 1))
     go_ret
     exact ⟨by first | rfl | (simp [errW_none, errW_some] <;> rfl) | (simp [*, errW_none, errW_some] <;> rfl), by repeat (first | (with_reducible first | exact HB.out | apply below_alloc | apply pw_below_drewN | apply below_drew1 | refine below_set ?_ GE239.out | refine below_set ?_ GE240.out | refine below_set ?_ GE242.out) | exact HB.out)⟩
    ·rw [if_neg c12] at H
     have c12b0 : decide ((((rd_T186 l0_3 a1_0).f4).length : Int) ≤ (wrap64 (a1_1))) = false := decide_eq_false c12
     clear c12
     by_cases c23 : 0 ≤ a1_1
     ·rw [if_pos c23] at H
      have c23b0 : decide (0 ≤ a1_1) = true := decide_eq_true c23
      clear c23
      by_cases c24 : a1_1 < (((rd_T186 l0_3 a1_0).f4).length : Int)
      ·rw [if_pos c24] at H
       have c24b0 : decide (a1_1 < (((rd_T186 l0_3 a1_0).f4).length : Int)) = true := decide_eq_true c24
       clear c24
       have H' := Aside0.mk H
       clear H
       go_enter Try.func36, Try.ntmps36
       go_wp2_with (first | ((with_reducible refine gate_dst (N := 3) rfl ?_); refine box_event ?hg (N := 3) ?hd (cs := #[.int .u16 a0_0, .int .u16 a0_1, .slice A0_2 l0_2.length c0_2, .slice A0_3 l0_3.length c0_3]) (t := 109) ?hr ?_; (case hd => rfl); (case hg => rfl); (case hr => first | (go_simp; done) | (go_simp; rfl)); intro gb239 hg w25 hbox hb; have n0_ := Aside0.mk (below_step (by repeat (first | (with_reducible first | exact HB.out | apply below_alloc | apply pw_below_drewN | apply below_drew1) | exact HB.out)) hb); have n1_ := Aside0.mk (hbox); have n2_ := Aside0.mk ((by rw [hg]; exact (below_size (by repeat (first | (with_reducible first | exact HB.out | apply below_alloc | apply pw_below_drewN | apply below_drew1) | exact HB.out))) : w.heap.size ≤ gb239)); have n3_ := Aside0.mk ((by rw [hg]; exact (below_size (by repeat (first | (with_reducible first | exact HB.out | apply below_alloc | apply pw_below_drewN | apply below_drew1) | exact HB.out))) : w.heap.size ≤ gb239)); clear HB; have HB := n0_; have BK239 := n1_; have GW239 := n2_; have GE239 := n3_; clear n0_ n1_ n2_ n3_; clear hb hbox hg) | ((with_reducible refine gate_dst (N := 4) rfl ?_); refine box_event ?hg (N := 4) ?hd (cs := #[.int .u16 a1_0, .int .u16 a1_1]) (t := 115) ?hr ?_; (case hd => rfl); (case hg => rfl); (case hr => first | (go_simp; done) | (go_simp; rfl)); intro gb240 hg w26 hbox hb; have n0_ := Aside0.mk (blk_below (g := gb239) (o := .cells #[.int .u16 a0_0, .int .u16 a0_1, .slice A0_2 l0_2.length c0_2, .slice A0_3 l0_3.length c0_3] 109 (0, 0)) (by (with_reducible repeat (first | refine b1_ ?_ _ | refine b2_ ?_ | refine b3_ ?_ _)); exact BK239.out) hb); have n1_ := Aside0.mk (below_step (by repeat (first | (with_reducible first | exact HB.out | apply below_alloc | apply pw_below_drewN | apply below_drew1 | refine below_set ?_ GE239.out) | exact HB.out)) hb); have n2_ := Aside0.mk (hbox); have n3_ := Aside0.mk ((by rw [hg]; exact (below_size (by repeat (first | (with_reducible first | exact HB.out | apply below_alloc | apply pw_below_drewN | apply below_drew1 | refine below_set ?_ GE239.out) | exact HB.out))) : w.heap.size ≤ gb240)); have n4_ := Aside0.mk ((by rw [hg]; exact (below_size (by repeat (first | (with_reducible first | exact HB.out | apply below_alloc | apply pw_below_drewN | apply below_drew1 | refine below_set ?_ GE239.out) | exact HB.out))) : w.heap.size ≤ gb240)); have n5_ := Aside0.mk ((by rw [hg]; exact Nat.ne_of_lt (blk_lt (g := gb239) (o := .cells #[.int .u16 a0_0, .int .u16 a0_1, .slice A0_2 l0_2.length c0_2, .slice A0_3 l0_3.length c0_3] 109 (0, 0)) (by (with_reducible repeat (first | refine b1_ ?_ _ | refine b2_ ?_ | refine b3_ ?_ _)); exact BK239.out)) : gb239 ≠ gb240)); have n6_ := Aside0.mk ((by rw [hg]; exact Nat.ne_of_gt (blk_lt (g := gb239) (o := .cells #[.int .u16 a0_0, .int .u16 a0_1, .slice A0_2 l0_2.length c0_2, .slice A0_3 l0_3.length c0_3] 109 (0, 0)) (by (with_reducible repeat (first | refine b1_ ?_ _ | refine b2_ ?_ | refine b3_ ?_ _)); exact BK239.out)) : gb240 ≠ gb239)); clear BK239; clear HB; have BK239 := n0_; have HB := n1_; have BK240 := n2_; have GW240 := n3_; have GE240 := n4_; have NB239_240 := n5_; have NB240_239 := n6_; clear n0_ n1_ n2_ n3_ n4_ n5_ n6_; clear hb hbox hg; have hnb27 := NB240_239.out; have hnc27 := NB239_240.out; have hcz28_0 : w26.cell? ⟨gb240, 0, none⟩ = some (.int .u16 a1_0) := (blk_cell BK240.out 0).trans rfl; have hcz28_1 : w26.cell? ⟨gb240, 1, none⟩ = some (.int .u16 a1_1) := (blk_cell BK240.out 1).trans rfl; have hfz28_0 := blk_frozen BK240.out 0; have hfz28_1 := blk_frozen BK240.out 1; have hcz29_0 : w26.cell? ⟨gb239, 0, none⟩ = some (.int .u16 a0_0) := (blk_cell BK239.out 0).trans rfl; have hcz29_1 : w26.cell? ⟨gb239, 1, none⟩ = some (.int .u16 a0_1) := (blk_cell BK239.out 1).trans rfl; have hcz29_2 : w26.cell? ⟨gb239, 2, none⟩ = some (.slice A0_2 l0_2.length c0_2) := (blk_cell BK239.out 2).trans rfl; have hcz29_3 : w26.cell? ⟨gb239, 3, none⟩ = some (.slice A0_3 l0_3.length c0_3) := (blk_cell BK239.out 3).trans rfl; have hfz29_0 := blk_frozen BK239.out 0; have hfz29_1 := blk_frozen BK239.out 1; have hfz29_2 := blk_frozen BK239.out 2; have hfz29_3 := blk_frozen BK239.out 3; have p241 : 0 ≤ (a1_0 : Int) := of_decide_eq_true (by first | (with_reducible assumption) | assumption); have q241 : a1_0 < (l0_3.length : Int) := of_decide_eq_true (by first | (with_reducible assumption) | assumption); obtain ⟨ad241, A241_3, c241_3, A241_4, c241_4, e241, hx241_0, hx241_1, hx241_2, hx241_3, hx241_4, hl241_3, hi241_3, hl241_4, hi241_4⟩ := at_T186 HR0_3.out a1_0 p241 q241; cases e241; replace hx241_0 := (HB.out.cell (World.block_lt_of_cell? w _ hx241_0)).trans hx241_0; replace hx241_1 := (HB.out.cell (World.block_lt_of_cell? w _ hx241_1)).trans hx241_1; replace hx241_2 := (HB.out.cell (World.block_lt_of_cell? w _ hx241_2)).trans hx241_2; replace hx241_3 := (HB.out.cell (World.block_lt_of_cell? w _ hx241_3)).trans hx241_3; replace hx241_4 := (HB.out.cell (World.block_lt_of_cell? w _ hx241_4)).trans hx241_4; have HR241_3 := Aside0.mk hi241_3; have HC241_3 := Aside0.mk hl241_3; clear hi241_3 hl241_3; have HR241_4 := Aside0.mk hi241_4; have HC241_4 := Aside0.mk hl241_4; clear hi241_4 hl241_4; replace p241 := eq_true p241; replace q241 := eq_true q241) | ((with_reducible refine gate_dst (N := 7) rfl ?_); refine box_event ?hg (N := 7) ?hd (cs := #[.int .u16 0, .int .u16 0, .int .u16 0, .slice none 0 0, .slice none 0 0]) (t := 186) ?hr ?_; (case hd => rfl); (case hg => rfl); (case hr => first | (go_simp; done) | (go_simp; rfl)); intro gb242 hg w30 hbox hb; have n0_ := Aside0.mk (blk_below (g := gb239) (o := .cells #[.int .u16 a0_0, .int .u16 a0_1, .slice A0_2 l0_2.length c0_2, .slice (some ad241) l0_3.length c0_3] 109 (0, 0)) (by (with_reducible repeat (first | refine b1_ ?_ _ | refine b2_ ?_ | refine b3_ ?_ _)); exact BK239.out) hb); have n1_ := Aside0.mk (blk_below (g := gb240) (o := .cells #[.int .u16 a1_0, .int .u16 a1_1] 115 (0, 0)) (by (with_reducible repeat (first | refine b1_ ?_ _ | refine b2_ ?_ | refine b3_ ?_ _)); exact BK240.out) hb); have n2_ := Aside0.mk (below_step (by repeat (first | (with_reducible first | exact HB.out | apply below_alloc | apply pw_below_drewN | apply below_drew1 | refine below_set ?_ GE239.out | refine below_set ?_ GE240.out) | exact HB.out)) hb); have n3_ := Aside0.mk (hbox); have n4_ := Aside0.mk ((by rw [hg]; exact (below_size (by repeat (first | (with_reducible first | exact HB.out | apply below_alloc | apply pw_below_drewN | apply below_drew1 | refine below_set ?_ GE239.out | refine below_set ?_ GE240.out) | exact HB.out))) : w.heap.size ≤ gb242)); have n5_ := Aside0.mk ((by rw [hg]; exact (below_size (by repeat (first | (with_reducible first | exact HB.out | apply below_alloc | apply pw_below_drewN | apply below_drew1 | refine below_set ?_ GE239.out | refine below_set ?_ GE240.out) | exact HB.out))) : w.heap.size ≤ gb242)); have n6_ := Aside0.mk ((by rw [hg]; exact Nat.ne_of_lt (blk_lt (g := gb239) (o := .cells #[.int .u16 a0_0, .int .u16 a0_1, .slice A0_2 l0_2.length c0_2, .slice (some ad241) l0_3.length c0_3] 109 (0, 0)) (by (with_reducible repeat (first | refine b1_ ?_ _ | refine b2_ ?_ | refine b3_ ?_ _)); exact BK239.out)) : gb239 ≠ gb242)); have n7_ := Aside0.mk ((by rw [hg]; exact Nat.ne_of_gt (blk_lt (g := gb239) (o := .cells #[.int .u16 a0_0, .int .u16 a0_1, .slice A0_2 l0_2.length c0_2, .slice (some ad241) l0_3.length c0_3] 109 (0, 0)) (by (with_reducible repeat (first | refine b1_ ?_ _ | refine b2_ ?_ | refine b3_ ?_ _)); exact BK239.out)) : gb242 ≠ gb239)); have n8_ := Aside0.mk ((by rw [hg]; exact Nat.ne_of_lt (blk_lt (g := gb240) (o := .cells #[.int .u16 a1_0, .int .u16 a1_1] 115 (0, 0)) (by (with_reducible repeat (first | refine b1_ ?_ _ | refine b2_ ?_ | refine b3_ ?_ _)); exact BK240.out)) : gb240 ≠ gb242)); have n9_ := Aside0.mk ((by rw [hg]; exact Nat.ne_of_gt (blk_lt (g := gb240) (o := .cells #[.int .u16 a1_0, .int .u16 a1_1] 115 (0, 0)) (by (with_reducible repeat (first | refine b1_ ?_ _ | refine b2_ ?_ | refine b3_ ?_ _)); exact BK240.out)) : gb242 ≠ gb240)); clear BK239; clear BK240; clear HB; have BK239 := n0_; have BK240 := n1_; have HB := n2_; have BK242 := n3_; have GW242 := n4_; have GE242 := n5_; have NB239_242 := n6_; have NB242_239 := n7_; have NB240_242 := n8_; have NB242_240 := n9_; clear n0_ n1_ n2_ n3_ n4_ n5_ n6_ n7_ n8_ n9_; clear hb hbox hg; have hnb31 := NB242_239.out; have hnc31 := NB239_242.out; have hnb32 := NB242_240.out; have hnc32 := NB240_242.out; have hcz33_0 : w30.cell? ⟨gb242, 0, none⟩ = some (.int .u16 0) := (blk_cell BK242.out 0).trans rfl; have hcz33_1 : w30.cell? ⟨gb242, 1, none⟩ = some (.int .u16 0) := (blk_cell BK242.out 1).trans rfl; have hcz33_2 : w30.cell? ⟨gb242, 2, none⟩ = some (.int .u16 0) := (blk_cell BK242.out 2).trans rfl; have hcz33_3 : w30.cell? ⟨gb242, 3, none⟩ = some (.slice none 0 0) := (blk_cell BK242.out 3).trans rfl; have hcz33_4 : w30.cell? ⟨gb242, 4, none⟩ = some (.slice none 0 0) := (blk_cell BK242.out 4).trans rfl; have hfz33_0 := blk_frozen BK242.out 0; have hfz33_1 := blk_frozen BK242.out 1; have hfz33_2 := blk_frozen BK242.out 2; have hfz33_3 := blk_frozen BK242.out 3; have hfz33_4 := blk_frozen BK242.out 4; have hcz34_0 : w30.cell? ⟨gb240, 0, none⟩ = some (.int .u16 a1_0) := (blk_cell BK240.out 0).trans rfl; have hcz34_1 : w30.cell? ⟨gb240, 1, none⟩ = some (.int .u16 a1_1) := (blk_cell BK240.out 1).trans rfl; have hfz34_0 := blk_frozen BK240.out 0; have hfz34_1 := blk_frozen BK240.out 1; have p243 : 0 ≤ (a1_1 : Int) := of_decide_eq_true (by first | (with_reducible assumption) | assumption); have q243 : a1_1 < (((rd_T186 l0_3 a1_0).f4).length : Int) := of_decide_eq_true (by first | (with_reducible assumption) | assumption); obtain ⟨ad243, A243_0, c243_0, e243, hx243_0, hl243_0, hi243_0⟩ := at_L5 HR241_4.out a1_1 p243 q243; cases e243; have hn243_0 : ad243.block ≠ gb242 := Nat.ne_of_lt (Nat.lt_of_lt_of_le (by have := World.block_lt_of_cell? _ _ hx243_0; first | rwa [add_block] at this | exact this) GW242.out); have hn243_1 : ad243.block ≠ gb242 := Nat.ne_of_lt (Nat.lt_of_lt_of_le (by have := World.block_lt_of_cell? _ _ hx243_0; first | rwa [add_block] at this | exact this) GW242.out); have hn243_2 : ad243.block ≠ gb242 := Nat.ne_of_lt (Nat.lt_of_lt_of_le (by have := World.block_lt_of_cell? _ _ hx243_0; first | rwa [add_block] at this | exact this) GW242.out); have hn243_3 : ad243.block ≠ gb242 := Nat.ne_of_lt (Nat.lt_of_lt_of_le (by have := World.block_lt_of_cell? _ _ hx243_0; first | rwa [add_block] at this | exact this) GW242.out); have hn243_4 : ad243.block ≠ gb242 := Nat.ne_of_lt (Nat.lt_of_lt_of_le (by have := World.block_lt_of_cell? _ _ hx243_0; first | rwa [add_block] at this | exact this) GW242.out); replace hx243_0 := (HB.out.cell (World.block_lt_of_cell? w _ hx243_0)).trans hx243_0; have HR243_0 := Aside0.mk hi243_0; have HC243_0 := Aside0.mk hl243_0; clear hi243_0 hl243_0; replace hx243_0 := (cell_far (p := ⟨gb242, 0, none⟩) (by first | (rw [add_block]; exact hn243_0) | (show (Addr.add _ _).block ≠ _; rw [add_block]; exact hn243_0) | exact hn243_0) (.int .u16 ((rd_T186 l0_3 a1_0).f0))).trans hx243_0; replace hx243_0 := (cell_far (p := ⟨gb242, 1, none⟩) (by first | (rw [add_block]; exact hn243_1) | (show (Addr.add _ _).block ≠ _; rw [add_block]; exact hn243_1) | exact hn243_1) (.int .u16 ((rd_T186 l0_3 a1_0).f1))).trans hx243_0; replace hx243_0 := (cell_far (p := ⟨gb242, 2, none⟩) (by first | (rw [add_block]; exact hn243_2) | (show (Addr.add _ _).block ≠ _; rw [add_block]; exact hn243_2) | exact hn243_2) (.int .u16 ((rd_T186 l0_3 a1_0).f2))).trans hx243_0; replace hx243_0 := (cell_far (p := ⟨gb242, 3, none⟩) (by first | (rw [add_block]; exact hn243_3) | (show (Addr.add _ _).block ≠ _; rw [add_block]; exact hn243_3) | exact hn243_3) (.slice A241_3 ((rd_T186 l0_3 a1_0).f3).length c241_3)).trans hx243_0; replace hx243_0 := (cell_far (p := ⟨gb242, 4, none⟩) (by first | (rw [add_block]; exact hn243_4) | (show (Addr.add _ _).block ≠ _; rw [add_block]; exact hn243_4) | exact hn243_4) (.slice (some ad243) ((rd_T186 l0_3 a1_0).f4).length c241_4)).trans hx243_0; clear hn243_0; clear hn243_1; clear hn243_2; clear hn243_3; clear hn243_4; replace p243 := eq_true p243; replace q243 := eq_true q243))
       go_loopg [9, 43] k (fun kq v9 v43 w' => ∃ (x9_1 : Nat) (x43_1 : Int), v9 = .float .f32 x9_1 ∧ v43 = .int .i64 x43_1 ∧ Aside0 (tables_ItemVarStore_GetDelta.l0 kq l2 (rd_L5 ((rd_T186 l0_3 a1_0).f4) a1_1) x9_1 ((rd_T186 l0_3 a1_0).f3) (((rd_T186 l0_3 a1_0).f3).length : Int) x43_1 a0_0 a0_1 l0_2 l0_3 = some r) ∧ Aside0 (kq ≤ k) ∧ Aside0 (w'.heap[gb239]? = some (.cells #[.int .u16 a0_0, .int .u16 a0_1, (.slice A0_2 l0_2.length c0_2), (.slice (some ad241) l0_3.length c0_3)] 109 (0, 0))) ∧ Aside0 (w'.heap[gb240]? = some (.cells #[.int .u16 a1_0, .int .u16 a1_1] 115 (0, 0))) ∧ Aside0 (w'.heap[gb242]? = some (.cells #[.int .u16 ((rd_T186 l0_3 a1_0).f0), .int .u16 ((rd_T186 l0_3 a1_0).f1), .int .u16 ((rd_T186 l0_3 a1_0).f2), (.slice A241_3 ((rd_T186 l0_3 a1_0).f3).length c241_3), (.slice (some ad243) ((rd_T186 l0_3 a1_0).f4).length c241_4)] 186 (0, 0))) ∧ Aside0 (Below w.heap.size w w'))
       case atStart => exact ⟨(0), (0), (by first | rfl | (simp; done) | (simp [*]; done)), (by first | rfl | (simp; done) | (simp [*]; done)), H', ⟨Nat.le_refl _⟩, ⟨by (with_reducible repeat (first | refine b1_ ?_ _ | refine b2_ ?_ | refine b3_ ?_ _)); refine blk_far ?_ NB239_242.out _; (with_reducible repeat (first | refine b1_ ?_ _ | refine b2_ ?_ | refine b3_ ?_ _)); refine blk_far ?_ NB239_242.out _; (with_reducible repeat (first | refine b1_ ?_ _ | refine b2_ ?_ | refine b3_ ?_ _)); refine blk_far ?_ NB239_242.out _; (with_reducible repeat (first | refine b1_ ?_ _ | refine b2_ ?_ | refine b3_ ?_ _)); refine blk_far ?_ NB239_242.out _; (with_reducible repeat (first | refine b1_ ?_ _ | refine b2_ ?_ | refine b3_ ?_ _)); refine blk_far ?_ NB239_242.out _; (with_reducible repeat (first | refine b1_ ?_ _ | refine b2_ ?_ | refine b3_ ?_ _)); exact BK239.out⟩, ⟨by (with_reducible repeat (first | refine b1_ ?_ _ | refine b2_ ?_ | refine b3_ ?_ _)); refine blk_far ?_ NB240_242.out _; (with_reducible repeat (first | refine b1_ ?_ _ | refine b2_ ?_ | refine b3_ ?_ _)); refine blk_far ?_ NB240_242.out _; (with_reducible repeat (first | refine b1_ ?_ _ | refine b2_ ?_ | refine b3_ ?_ _)); refine blk_far ?_ NB240_242.out _; (with_reducible repeat (first | refine b1_ ?_ _ | refine b2_ ?_ | refine b3_ ?_ _)); refine blk_far ?_ NB240_242.out _; (with_reducible repeat (first | refine b1_ ?_ _ | refine b2_ ?_ | refine b3_ ?_ _)); refine blk_far ?_ NB240_242.out _; (with_reducible repeat (first | refine b1_ ?_ _ | refine b2_ ?_ | refine b3_ ?_ _)); exact BK240.out⟩, ⟨by (with_reducible repeat (first | refine b1_ ?_ _ | refine b2_ ?_ | refine b3_ ?_ _)); refine blk_put (cs := #[.int .u16 ((rd_T186 l0_3 a1_0).f0), .int .u16 ((rd_T186 l0_3 a1_0).f1), .int .u16 ((rd_T186 l0_3 a1_0).f2), .slice A241_3 ((rd_T186 l0_3 a1_0).f3).length c241_3, .slice none 0 0]) ?_ 4 _ rfl; (with_reducible repeat (first | refine b1_ ?_ _ | refine b2_ ?_ | refine b3_ ?_ _)); refine blk_put (cs := #[.int .u16 ((rd_T186 l0_3 a1_0).f0), .int .u16 ((rd_T186 l0_3 a1_0).f1), .int .u16 ((rd_T186 l0_3 a1_0).f2), .slice none 0 0, .slice none 0 0]) ?_ 3 _ rfl; (with_reducible repeat (first | refine b1_ ?_ _ | refine b2_ ?_ | refine b3_ ?_ _)); refine blk_put (cs := #[.int .u16 ((rd_T186 l0_3 a1_0).f0), .int .u16 ((rd_T186 l0_3 a1_0).f1), .int .u16 0, .slice none 0 0, .slice none 0 0]) ?_ 2 _ rfl; (with_reducible repeat (first | refine b1_ ?_ _ | refine b2_ ?_ | refine b3_ ?_ _)); refine blk_put (cs := #[.int .u16 ((rd_T186 l0_3 a1_0).f0), .int .u16 0, .int .u16 0, .slice none 0 0, .slice none 0 0]) ?_ 1 _ rfl; (with_reducible repeat (first | refine b1_ ?_ _ | refine b2_ ?_ | refine b3_ ?_ _)); refine blk_put (cs := #[.int .u16 0, .int .u16 0, .int .u16 0, .slice none 0 0, .slice none 0 0]) ?_ 0 _ rfl; (with_reducible repeat (first | refine b1_ ?_ _ | refine b2_ ?_ | refine b3_ ?_ _)); exact BK242.out⟩, ⟨by repeat (first | (with_reducible first | exact HB.out | apply below_alloc | apply pw_below_drewN | apply below_drew1 | refine below_set ?_ GE239.out | refine below_set ?_ GE240.out | refine below_set ?_ GE242.out) | exact HB.out)⟩⟩
       case round =>
        clear H'
        try clear c1
        try clear c2
        try clear p2
        try clear q2
        try clear hx2
        try clear c3
        try clear c4
        try clear c4b0
        try clear p6
        try clear c7
        try clear c10
        try clear c10b0
        try clear c11
        try clear c11b0
        try clear c12
        try clear c12b0
        try clear c15
        try clear c19
        try clear c20
        try clear c23
        try clear c23b0
        try clear c24
        try clear c24b0
        try clear p24
        try clear q24
        try clear hx24
        try clear c27
        try clear c31
        try clear c32
        try clear hcz16_0
        try clear hcz16_1
        try clear hcz17_0
        try clear hcz17_1
        try clear hcz17_2
        try clear hcz17_3
        try clear hcz21_0
        try clear hcz21_1
        try clear hcz21_2
        try clear hcz21_3
        try clear hcz21_4
        try clear hcz22_0
        try clear hcz22_1
        try clear hcz28_0
        try clear hcz28_1
        try clear hcz29_0
        try clear hcz29_1
        try clear hcz29_2
        try clear hcz29_3
        try clear hcz33_0
        try clear hcz33_1
        try clear hcz33_2
        try clear hcz33_3
        try clear hcz33_4
        try clear hcz34_0
        try clear hcz34_1
        try clear hcz8_0
        try clear hcz8_1
        try clear hcz9_0
        try clear hcz9_1
        try clear hcz9_2
        try clear hcz9_3
        try clear hfz16_0
        try clear hfz16_1
        try clear hfz17_0
        try clear hfz17_1
        try clear hfz17_2
        try clear hfz17_3
        try clear hfz21_0
        try clear hfz21_1
        try clear hfz21_2
        try clear hfz21_3
        try clear hfz21_4
        try clear hfz22_0
        try clear hfz22_1
        try clear hfz28_0
        try clear hfz28_1
        try clear hfz29_0
        try clear hfz29_1
        try clear hfz29_2
        try clear hfz29_3
        try clear hfz33_0
        try clear hfz33_1
        try clear hfz33_2
        try clear hfz33_3
        try clear hfz33_4
        try clear hfz34_0
        try clear hfz34_1
        try clear hfz8_0
        try clear hfz8_1
        try clear hfz9_0
        try clear hfz9_1
        try clear hfz9_2
        try clear hfz9_3
        try clear hx241_0
        try clear hx241_1
        try clear hx241_2
        try clear hx241_3
        try clear hx241_4
        try clear hx243_0
        try clear p241
        try clear p243
        try clear q241
        try clear q243
        obtain ⟨x9_1, x43_1, rfl, rfl, HA, HK1, BK239, BK240, BK242, HB⟩ := hrel
        cases gk with
        | zero => exact absurd HA.out (by simp [tables_ItemVarStore_GetDelta.l0])
        | succ k1 =>
         have H := HA.out
         clear HA
         simp only [tables_ItemVarStore_GetDelta.l0] at H
         by_cases c35 : x43_1 < (((rd_T186 l0_3 a1_0).f3).length : Int)
         ·rw [if_pos c35] at H
          have c35b0 : decide (x43_1 < (((rd_T186 l0_3 a1_0).f3).length : Int)) = true := decide_eq_true c35
          clear c35
          by_cases c36 : 0 ≤ x43_1
          ·rw [if_pos c36] at H
           have c36b0 : decide (0 ≤ x43_1) = true := decide_eq_true c36
           clear c36
           by_cases c37 : x43_1 < (((rd_T186 l0_3 a1_0).f3).length : Int)
           ·rw [if_pos c37] at H
            have c37b0 : decide (x43_1 < (((rd_T186 l0_3 a1_0).f3).length : Int)) = true := decide_eq_true c37
            clear c37
            by_cases c38 : 0 ≤ (rd ((rd_T186 l0_3 a1_0).f3) x43_1)
            ·rw [if_pos c38] at H
             have c38b0 : decide (0 ≤ (rd ((rd_T186 l0_3 a1_0).f3) x43_1)) = true := decide_eq_true c38
             clear c38
             by_cases c39 : (rd ((rd_T186 l0_3 a1_0).f3) x43_1) < (l0_2.length : Int)
             ·rw [if_pos c39] at H
              have c39b0 : decide ((rd ((rd_T186 l0_3 a1_0).f3) x43_1) < (l0_2.length : Int)) = true := decide_eq_true c39
              clear c39
              replace H := Option.bind_eq_some_iff.mp H
              obtain ⟨t247, A400, H⟩ := H
              replace H : (if x43_1 < ((rd_L5 ((rd_T186 l0_3 a1_0).f4) a1_1).length : Int) then (if fok .mul .f32 (floatOfInt .f32 (rd (rd_L5 ((rd_T186 l0_3 a1_0).f4) a1_1) x43_1)) t247 = true then (if fok .add .f32 x9_1 (fv .mul .f32 (floatOfInt .f32 (rd (rd_L5 ((rd_T186 l0_3 a1_0).f4) a1_1) x43_1)) t247) = true then (tables_ItemVarStore_GetDelta.l0 k1 l2 (rd_L5 ((rd_T186 l0_3 a1_0).f4) a1_1) (fv .add .f32 x9_1 (fv .mul .f32 (floatOfInt .f32 (rd (rd_L5 ((rd_T186 l0_3 a1_0).f4) a1_1) x43_1)) t247)) ((rd_T186 l0_3 a1_0).f3) (((rd_T186 l0_3 a1_0).f3).length : Int) (wrap64 (x43_1 + 1)) a0_0 a0_1 l0_2 l0_3) else (none)) else (none)) else (none)) = some r := H
              have A40 := Aside0.mk A400
              clear A400
              by_cases c41 : x43_1 < ((rd_L5 ((rd_T186 l0_3 a1_0).f4) a1_1).length : Int)
              ·rw [if_pos c41] at H
               have c41b0 : decide (x43_1 < ((rd_L5 ((rd_T186 l0_3 a1_0).f4) a1_1).length : Int)) = true := decide_eq_true c41
               clear c41
               by_cases c42 : fok .mul .f32 (floatOfInt .f32 (rd (rd_L5 ((rd_T186 l0_3 a1_0).f4) a1_1) x43_1)) t247 = true
               ·rw [if_pos c42] at H
                have c42b0 := eq_true c42
                have c42b1 : decide (fok .mul .f32 (floatOfInt .f32 (rd (rd_L5 ((rd_T186 l0_3 a1_0).f4) a1_1) x43_1)) t247 = true) = true := decide_eq_true c42
                clear c42
                by_cases c43 : fok .add .f32 x9_1 (fv .mul .f32 (floatOfInt .f32 (rd (rd_L5 ((rd_T186 l0_3 a1_0).f4) a1_1) x43_1)) t247) = true
                ·rw [if_pos c43] at H
                 have c43b0 := eq_true c43
                 have c43b1 : decide (fok .add .f32 x9_1 (fv .mul .f32 (floatOfInt .f32 (rd (rd_L5 ((rd_T186 l0_3 a1_0).f4) a1_1) x43_1)) t247) = true) = true := decide_eq_true c43
                 clear c43
                 have H' := Aside0.mk H
                 clear H
                 have p244 : 0 ≤ (x43_1 : Int) := of_decide_eq_true (by first | (with_reducible assumption) | assumption)
                 have q244 : x43_1 < (((rd_T186 l0_3 a1_0).f3).length : Int) := of_decide_eq_true (by first | (with_reducible assumption) | assumption)
                 obtain ⟨ad244, e244, hx244_0⟩ := Kd.at_int HR241_3.out x43_1 p244 q244
                 cases e244
                 replace hx244_0 := (HB.out.cell (World.block_lt_of_cell? w _ hx244_0)).trans hx244_0
                 replace p244 := eq_true p244
                 replace q244 := eq_true q244
                 have hnb44 := NB239_240.out
                 have hnc44 := NB240_239.out
                 have hnb45 := NB239_242.out
                 have hnc45 := NB242_239.out
                 have hcz46_0 : wr.cell? ⟨gb239, 0, none⟩ = some (.int .u16 a0_0) := (blk_cell BK239.out 0).trans rfl
                 have hcz46_1 : wr.cell? ⟨gb239, 1, none⟩ = some (.int .u16 a0_1) := (blk_cell BK239.out 1).trans rfl
                 have hcz46_2 : wr.cell? ⟨gb239, 2, none⟩ = some (.slice A0_2 l0_2.length c0_2) := (blk_cell BK239.out 2).trans rfl
                 have hcz46_3 : wr.cell? ⟨gb239, 3, none⟩ = some (.slice (some ad241) l0_3.length c0_3) := (blk_cell BK239.out 3).trans rfl
                 have hfz46_0 := blk_frozen BK239.out 0
                 have hfz46_1 := blk_frozen BK239.out 1
                 have hfz46_2 := blk_frozen BK239.out 2
                 have hfz46_3 := blk_frozen BK239.out 3
                 have p245 : 0 ≤ ((rd ((rd_T186 l0_3 a1_0).f3) x43_1) : Int) := of_decide_eq_true (by first | (with_reducible assumption) | assumption)
                 have q245 : (rd ((rd_T186 l0_3 a1_0).f3) x43_1) < (l0_2.length : Int) := of_decide_eq_true (by first | (with_reducible assumption) | assumption)
                 obtain ⟨ad245, A245_0, c245_0, e245, hx245_0, hl245_0, hi245_0⟩ := at_T182 HR0_2.out (rd ((rd_T186 l0_3 a1_0).f3) x43_1) p245 q245
                 cases e245
                 replace hx245_0 := (HB.out.cell (World.block_lt_of_cell? w _ hx245_0)).trans hx245_0
                 have HR245_0 := Aside0.mk hi245_0
                 have HC245_0 := Aside0.mk hl245_0
                 clear hi245_0 hl245_0
                 replace p245 := eq_true p245
                 replace q245 := eq_true q245
                 go_wp2_with (first | ((with_reducible refine gate_dst (N := 12) rfl ?_); refine box_event ?hg (N := 12) ?hd (cs := #[.slice none 0 0]) (t := 182) ?hr ?_; (case hd => rfl); (case hg => rfl); (case hr => first | (go_simp; done) | (go_simp; rfl)); intro gb246 hg w47 hbox hb; have n0_ := Aside0.mk (blk_below (g := gb239) (o := .cells #[.int .u16 a0_0, .int .u16 a0_1, .slice (some ad245) l0_2.length c0_2, .slice (some ad241) l0_3.length c0_3] 109 (0, 0)) (by (with_reducible repeat (first | refine b1_ ?_ _ | refine b2_ ?_ | refine b3_ ?_ _)); exact BK239.out) hb); have n1_ := Aside0.mk (blk_below (g := gb240) (o := .cells #[.int .u16 a1_0, .int .u16 a1_1] 115 (0, 0)) (by (with_reducible repeat (first | refine b1_ ?_ _ | refine b2_ ?_ | refine b3_ ?_ _)); exact BK240.out) hb); have n2_ := Aside0.mk (blk_below (g := gb242) (o := .cells #[.int .u16 ((rd_T186 l0_3 a1_0).f0), .int .u16 ((rd_T186 l0_3 a1_0).f1), .int .u16 ((rd_T186 l0_3 a1_0).f2), .slice (some ad244) ((rd_T186 l0_3 a1_0).f3).length c241_3, .slice (some ad243) ((rd_T186 l0_3 a1_0).f4).length c241_4] 186 (0, 0)) (by (with_reducible repeat (first | refine b1_ ?_ _ | refine b2_ ?_ | refine b3_ ?_ _)); exact BK242.out) hb); have n3_ := Aside0.mk (below_step (by repeat (first | (with_reducible first | exact HB.out | apply below_alloc | apply pw_below_drewN | apply below_drew1 | refine below_set ?_ GE239.out | refine below_set ?_ GE240.out | refine below_set ?_ GE242.out) | exact HB.out)) hb); have n4_ := Aside0.mk (hbox); have n5_ := Aside0.mk ((by rw [hg]; exact (below_size (by repeat (first | (with_reducible first | exact HB.out | apply below_alloc | apply pw_below_drewN | apply below_drew1 | refine below_set ?_ GE239.out | refine below_set ?_ GE240.out | refine below_set ?_ GE242.out) | exact HB.out))) : w.heap.size ≤ gb246)); have n6_ := Aside0.mk ((by rw [hg]; exact (below_size (by repeat (first | (with_reducible first | exact HB.out | apply below_alloc | apply pw_below_drewN | apply below_drew1 | refine below_set ?_ GE239.out | refine below_set ?_ GE240.out | refine below_set ?_ GE242.out) | exact HB.out))) : w.heap.size ≤ gb246)); have n7_ := Aside0.mk ((by rw [hg]; exact Nat.ne_of_lt (blk_lt (g := gb239) (o := .cells #[.int .u16 a0_0, .int .u16 a0_1, .slice (some ad245) l0_2.length c0_2, .slice (some ad241) l0_3.length c0_3] 109 (0, 0)) (by (with_reducible repeat (first | refine b1_ ?_ _ | refine b2_ ?_ | refine b3_ ?_ _)); exact BK239.out)) : gb239 ≠ gb246)); have n8_ := Aside0.mk ((by rw [hg]; exact Nat.ne_of_gt (blk_lt (g := gb239) (o := .cells #[.int .u16 a0_0, .int .u16 a0_1, .slice (some ad245) l0_2.length c0_2, .slice (some ad241) l0_3.length c0_3] 109 (0, 0)) (by (with_reducible repeat (first | refine b1_ ?_ _ | refine b2_ ?_ | refine b3_ ?_ _)); exact BK239.out)) : gb246 ≠ gb239)); have n9_ := Aside0.mk ((by rw [hg]; exact Nat.ne_of_lt (blk_lt (g := gb240) (o := .cells #[.int .u16 a1_0, .int .u16 a1_1] 115 (0, 0)) (by (with_reducible repeat (first | refine b1_ ?_ _ | refine b2_ ?_ | refine b3_ ?_ _)); exact BK240.out)) : gb240 ≠ gb246)); have n10_ := Aside0.mk ((by rw [hg]; exact Nat.ne_of_gt (blk_lt (g := gb240) (o := .cells #[.int .u16 a1_0, .int .u16 a1_1] 115 (0, 0)) (by (with_reducible repeat (first | refine b1_ ?_ _ | refine b2_ ?_ | refine b3_ ?_ _)); exact BK240.out)) : gb246 ≠ gb240)); have n11_ := Aside0.mk ((by rw [hg]; exact Nat.ne_of_lt (blk_lt (g := gb242) (o := .cells #[.int .u16 ((rd_T186 l0_3 a1_0).f0), .int .u16 ((rd_T186 l0_3 a1_0).f1), .int .u16 ((rd_T186 l0_3 a1_0).f2), .slice (some ad244) ((rd_T186 l0_3 a1_0).f3).length c241_3, .slice (some ad243) ((rd_T186 l0_3 a1_0).f4).length c241_4] 186 (0, 0)) (by (with_reducible repeat (first | refine b1_ ?_ _ | refine b2_ ?_ | refine b3_ ?_ _)); exact BK242.out)) : gb242 ≠ gb246)); have n12_ := Aside0.mk ((by rw [hg]; exact Nat.ne_of_gt (blk_lt (g := gb242) (o := .cells #[.int .u16 ((rd_T186 l0_3 a1_0).f0), .int .u16 ((rd_T186 l0_3 a1_0).f1), .int .u16 ((rd_T186 l0_3 a1_0).f2), .slice (some ad244) ((rd_T186 l0_3 a1_0).f3).length c241_3, .slice (some ad243) ((rd_T186 l0_3 a1_0).f4).length c241_4] 186 (0, 0)) (by (with_reducible repeat (first | refine b1_ ?_ _ | refine b2_ ?_ | refine b3_ ?_ _)); exact BK242.out)) : gb246 ≠ gb242)); clear BK239; clear BK240; clear BK242; clear HB; have BK239 := n0_; have BK240 := n1_; have BK242 := n2_; have HB := n3_; have BK246 := n4_; have GW246 := n5_; have GE246 := n6_; have NB239_246 := n7_; have NB246_239 := n8_; have NB240_246 := n9_; have NB246_240 := n10_; have NB242_246 := n11_; have NB246_242 := n12_; clear n0_ n1_ n2_ n3_ n4_ n5_ n6_ n7_ n8_ n9_ n10_ n11_ n12_; clear hb hbox hg; have hnb48 := NB246_239.out; have hnc48 := NB239_246.out; have hnb49 := NB246_240.out; have hnc49 := NB240_246.out; have hnb50 := NB246_242.out; have hnc50 := NB242_246.out; have hcz51_0 : w47.cell? ⟨gb246, 0, none⟩ = some (.slice none 0 0) := (blk_cell BK246.out 0).trans rfl; have hfz51_0 := blk_frozen BK246.out 0) | ((with_reducible refine gate_callee (f := 58) rfl ?_); refine goesL_ (some 56) rfl rfl Try.func58 (by kernel_rfl) rfl #[.agg #[.slice A245_0 ((rd_T182 l0_2 (rd ((rd_T186 l0_3 a1_0).f3) x43_1)).f0).length c245_0], .slice A2 l2.length c2] rfl (by (try simp only [List.map_toArray, List.map_cons, List.map_nil]); first | done | rfl | (simp only [List.length_drop, List.length_take]; rfl)) ?_; (with_reducible refine (tables_VariationRegion_Evaluate.calls k1 _ _ ((rd_T182 l0_2 (rd ((rd_T186 l0_3 a1_0).f3) x43_1)).f0) _ _ l2 t247 _ ?side1 ?side2 ?side3 ?side4 A40.out).mono ?_); (case side1 => exact Kd.C_below HR245_0.out (by repeat (first | (with_reducible first | exact HB.out | apply below_alloc | apply pw_below_drewN | apply below_drew1 | refine below_set ?_ GE239.out | refine below_set ?_ GE240.out | refine below_set ?_ GE242.out | refine below_set ?_ GE246.out) | exact HB.out))); (case side2 => exact HC245_0.out); (case side3 => exact Kd.C_below HR2.out (by repeat (first | (with_reducible first | exact HB.out | apply below_alloc | apply pw_below_drewN | apply below_drew1 | refine below_set ?_ GE239.out | refine below_set ?_ GE240.out | refine below_set ?_ GE242.out | refine below_set ?_ GE246.out) | exact HB.out))); (case side4 => exact HC2.out); rintro e w52 ⟨rfl, hb⟩; refine ⟨_, rfl, ?_⟩; have n0_ := Aside0.mk (blk_below (g := gb239) (o := .cells #[.int .u16 a0_0, .int .u16 a0_1, .slice (some ad245) l0_2.length c0_2, .slice (some ad241) l0_3.length c0_3] 109 (0, 0)) (by (with_reducible repeat (first | refine b1_ ?_ _ | refine b2_ ?_ | refine b3_ ?_ _)); refine blk_far ?_ NB239_246.out _; (with_reducible repeat (first | refine b1_ ?_ _ | refine b2_ ?_ | refine b3_ ?_ _)); exact BK239.out) hb); have n1_ := Aside0.mk (blk_below (g := gb240) (o := .cells #[.int .u16 a1_0, .int .u16 a1_1] 115 (0, 0)) (by (with_reducible repeat (first | refine b1_ ?_ _ | refine b2_ ?_ | refine b3_ ?_ _)); refine blk_far ?_ NB240_246.out _; (with_reducible repeat (first | refine b1_ ?_ _ | refine b2_ ?_ | refine b3_ ?_ _)); exact BK240.out) hb); have n2_ := Aside0.mk (blk_below (g := gb242) (o := .cells #[.int .u16 ((rd_T186 l0_3 a1_0).f0), .int .u16 ((rd_T186 l0_3 a1_0).f1), .int .u16 ((rd_T186 l0_3 a1_0).f2), .slice (some ad244) ((rd_T186 l0_3 a1_0).f3).length c241_3, .slice (some ad243) ((rd_T186 l0_3 a1_0).f4).length c241_4] 186 (0, 0)) (by (with_reducible repeat (first | refine b1_ ?_ _ | refine b2_ ?_ | refine b3_ ?_ _)); refine blk_far ?_ NB242_246.out _; (with_reducible repeat (first | refine b1_ ?_ _ | refine b2_ ?_ | refine b3_ ?_ _)); exact BK242.out) hb); have n3_ := Aside0.mk (blk_below (g := gb246) (o := .cells #[.slice A245_0 ((rd_T182 l0_2 (rd ((rd_T186 l0_3 a1_0).f3) x43_1)).f0).length c245_0] 182 (0, 0)) (by (with_reducible repeat (first | refine b1_ ?_ _ | refine b2_ ?_ | refine b3_ ?_ _)); refine blk_put (cs := #[.slice none 0 0]) ?_ 0 _ rfl; (with_reducible repeat (first | refine b1_ ?_ _ | refine b2_ ?_ | refine b3_ ?_ _)); exact BK246.out) hb); have n4_ := Aside0.mk (below_step (by repeat (first | (with_reducible first | exact HB.out | apply below_alloc | apply pw_below_drewN | apply below_drew1 | refine below_set ?_ GE239.out | refine below_set ?_ GE240.out | refine below_set ?_ GE242.out | refine below_set ?_ GE246.out) | exact HB.out)) hb); clear BK239; clear BK240; clear BK242; clear BK246; clear HB; have BK239 := n0_; have BK240 := n1_; have BK242 := n2_; have BK246 := n3_; have HB := n4_; clear n0_ n1_ n2_ n3_ n4_; (try clear hb); (try clear hb2); (try clear hk); (try clear hi); have p248 : 0 ≤ (x43_1 : Int) := of_decide_eq_true (by first | (with_reducible assumption) | assumption); have q248 : x43_1 < ((rd_L5 ((rd_T186 l0_3 a1_0).f4) a1_1).length : Int) := of_decide_eq_true (by first | (with_reducible assumption) | assumption); obtain ⟨ad248, e248, hx248_0⟩ := Kd.at_int HR243_0.out x43_1 p248 q248; cases e248; replace hx248_0 := (HB.out.cell (World.block_lt_of_cell? w _ hx248_0)).trans hx248_0; replace p248 := eq_true p248; replace q248 := eq_true q248))
                 go_roundg k1
                 case measure => have := HK1.out; omega
                 case rel => exact ⟨(fv .add .f32 x9_1 (fv .mul .f32 (floatOfInt .f32 (rd (rd_L5 ((rd_T186 l0_3 a1_0).f4) a1_1) x43_1)) t247)), (wrap64 (x43_1 + 1)), (by first | rfl | (simp; done) | (simp [*]; done)), (by first | rfl | (simp; done) | (simp [*]; done)), H', ⟨by have := HK1.out; omega⟩, ⟨by (with_reducible repeat (first | refine b1_ ?_ _ | refine b2_ ?_ | refine b3_ ?_ _)); exact BK239.out⟩, ⟨by (with_reducible repeat (first | refine b1_ ?_ _ | refine b2_ ?_ | refine b3_ ?_ _)); exact BK240.out⟩, ⟨by (with_reducible repeat (first | refine b1_ ?_ _ | refine b2_ ?_ | refine b3_ ?_ _)); exact BK242.out⟩, ⟨by repeat (first | (with_reducible first | exact HB.out | apply below_alloc | apply pw_below_drewN | apply below_drew1 | refine below_set ?_ GE239.out | refine below_set ?_ GE240.out | refine below_set ?_ GE242.out | refine below_set ?_ GE246.out) | exact HB.out)⟩⟩
                ·rw [if_neg c43] at H
                 exact absurd H (by simp)
               ·rw [if_neg c42] at H
                exact absurd H (by simp)
              ·rw [if_neg c41] at H
               exact absurd H (by simp)
             ·rw [if_neg c39] at H
              exact absurd H (by simp)
            ·rw [if_neg c38] at H
             exact absurd H (by simp)
           ·rw [if_neg c37] at H
            exact absurd H (by simp)
          ·rw [if_neg c36] at H
           exact absurd H (by simp)
         ·rw [if_neg c35] at H
          have c35b0 : decide (x43_1 < (((rd_T186 l0_3 a1_0).f3).length : Int)) = false := decide_eq_false c35
          clear c35
          obtain rfl := Option.some.inj H
          go_wp2
          go_ret
          exact ⟨by first | rfl | (simp [errW_none, errW_some] <;> rfl) | (simp [*, errW_none, errW_some] <;> rfl), by repeat (first | (with_reducible first | exact HB.out | apply below_alloc | apply pw_below_drewN | apply below_drew1 | refine below_set ?_ GE239.out | refine below_set ?_ GE240.out | refine below_set ?_ GE242.out) | exact HB.out)⟩
      ·rw [if_neg c24] at H
       exact absurd H (by simp)
     ·rw [if_neg c23] at H
      exact absurd H (by simp)
   ·rw [if_neg c11] at H
    exact absurd H (by simp)
  ·rw [if_neg c10] at H
   exact absurd H (by simp)

/-! ### impl_Delta: function 12 -/
def impl_Delta.f (k : Nat) (l0 : List (List (S36))) (l1 : List (S41)) (a2 : Int) (a3 : Int) (l4 : List Int) : Option (Nat) := (impl_builder_store.f k 0 0 false l0 l1 (l4.length : Int)).bind fun bt250 => ((impl_builder_coords.f k bt250.2.2.2.2.1 bt250.2.2.2.2.2.1 bt250.2.2.2.2.2.2 l4).bind fun bt262 => ((impl_builder_small.f bt262.2.1 bt262.2.2.1 bt262.2.2.2 a2).bind fun bt268 => ((impl_builder_small.f bt268.2.1 bt268.2.2.1 bt268.2.2.2 a3).bind fun bt272 => (if bt272.2.2.2 = true then (some 0) else ((tables_ItemVarStore_GetDelta.f k bt250.1 bt250.2.1 bt250.2.2.1 bt250.2.2.2.1 bt268.1 bt272.1 bt262.1).bind fun t277 => (some t277))))))
theorem impl_Delta.mono : ∀ a0 a1 a2 a3 a4 k, LeO (impl_Delta.f k a0 a1 a2 a3 a4) (impl_Delta.f (k + 1) a0 a1 a2 a3 a4) := by
 intro a0 a1 a2 a3 a4 k
 unfold impl_Delta.f
 repeat' first
   | (with_reducible exact impl_builder_coords.mono _ _ _ _ _)
   | (with_reducible exact impl_builder_store.mono _ _ _ _ _ _ _)
   | (with_reducible exact tables_ItemVarStore_GetDelta.mono _ _ _ _ _ _ _ _)
   | (with_reducible exact LeO.refl _)
   | (with_reducible exact LeO.none _)
   | (with_reducible refine LeO.ite ?_ ?_)
   | (with_reducible refine LeO.bind ?_ (fun _ => ?_))
   | exact impl_builder_coords.mono _ _ _ _ _
   | exact impl_builder_store.mono _ _ _ _ _ _ _
   | exact tables_ItemVarStore_GetDelta.mono _ _ _ _ _ _ _ _
   | exact LeO.none _
   | refine LeO.ite ?_ ?_
   | refine LeO.bind ?_ (fun _ => ?_)
set_option maxHeartbeats 8000000 in
set_option maxRecDepth 100000 in
theorem impl_Delta.calls (k : Nat) (A0 : Option Addr) (c0 : Nat) (l0 : List (List (S36))) (A1 : Option Addr) (c1 : Nat) (l1 : List (S41)) (a2 : Int) (a3 : Int) (A4 : Option Addr) (c4 : Nat) (l4 : List Int) (r : Nat) (w : World) (hr0 : Kd.C (Kd.slice 36 k36) w A0 l0.length l0) (hc0 : l0.length ≤ c0) (hr1 : Kd.C k41 w A1 l1.length l1) (hc1 : l1.length ≤ c1) (hr4 : Kd.C (Kd.int .i64) w A4 l4.length l4) (hc4 : l4.length ≤ c4) (h : impl_Delta.f k l0 l1 a2 a3 l4 = some r) :
  Calls Try.prog 12 #[.slice A0 l0.length c0, .slice A1 l1.length c1, .int .i64 a2, .int .i64 a3, .slice A4 l4.length c4] w fun e w' => e = .returned (.float .f32 r) ∧ Below w.heap.size w w' := by
 have hu102 := Try.underlying102
 have hu109 := Try.underlying109
 have hu115 := Try.underlying115
 have HR0 := Aside0.mk hr0
 have HC0 := Aside0.mk hc0
 clear hr0 hc0
 have HR1 := Aside0.mk hr1
 have HC1 := Aside0.mk hc1
 clear hr1 hc1
 have HR4 := Aside0.mk hr4
 have HC4 := Aside0.mk hc4
 clear hr4 hc4
 have HB := Aside0.mk (Below.refl w.heap.size w)
 have H : ((impl_builder_store.f k 0 0 false l0 l1 (l4.length : Int)).bind fun bt250 => ((impl_builder_coords.f k bt250.2.2.2.2.1 bt250.2.2.2.2.2.1 bt250.2.2.2.2.2.2 l4).bind fun bt262 => ((impl_builder_small.f bt262.2.1 bt262.2.2.1 bt262.2.2.2 a2).bind fun bt268 => ((impl_builder_small.f bt268.2.1 bt268.2.2.1 bt268.2.2.2 a3).bind fun bt272 => (if bt272.2.2.2 = true then (some 0) else ((tables_ItemVarStore_GetDelta.f k bt250.1 bt250.2.1 bt250.2.2.1 bt250.2.2.2.1 bt268.1 bt272.1 bt262.1).bind fun t277 => (some t277))))))) = some r := h
 clear h
 replace H := Option.bind_eq_some_iff.mp H
 obtain ⟨⟨t250, t251, t252, t255, t258, t259, t260⟩, A60, H⟩ := H
 replace H : ((impl_builder_coords.f k t258 t259 t260 l4).bind fun bt262 => ((impl_builder_small.f bt262.2.1 bt262.2.2.1 bt262.2.2.2 a2).bind fun bt268 => ((impl_builder_small.f bt268.2.1 bt268.2.2.1 bt268.2.2.2 a3).bind fun bt272 => (if bt272.2.2.2 = true then (some 0) else ((tables_ItemVarStore_GetDelta.f k t250 t251 t252 t255 bt268.1 bt272.1 bt262.1).bind fun t277 => (some t277)))))) = some r := H
 have A6 := Aside0.mk A60
 clear A60
 replace H := Option.bind_eq_some_iff.mp H
 obtain ⟨⟨t262, t265, t266, t267⟩, A70, H⟩ := H
 replace H : ((impl_builder_small.f t265 t266 t267 a2).bind fun bt268 => ((impl_builder_small.f bt268.2.1 bt268.2.2.1 bt268.2.2.2 a3).bind fun bt272 => (if bt272.2.2.2 = true then (some 0) else ((tables_ItemVarStore_GetDelta.f k t250 t251 t252 t255 bt268.1 bt272.1 t262).bind fun t277 => (some t277))))) = some r := H
 have A7 := Aside0.mk A70
 clear A70
 replace H := Option.bind_eq_some_iff.mp H
 obtain ⟨⟨t268, t269, t270, t271⟩, A80, H⟩ := H
 replace H : ((impl_builder_small.f t269 t270 t271 a3).bind fun bt272 => (if bt272.2.2.2 = true then (some 0) else ((tables_ItemVarStore_GetDelta.f k t250 t251 t252 t255 t268 bt272.1 t262).bind fun t277 => (some t277)))) = some r := H
 have A8 := Aside0.mk A80
 clear A80
 replace H := Option.bind_eq_some_iff.mp H
 obtain ⟨⟨t272, t273, t274, t275⟩, A90, H⟩ := H
 replace H : (if t275 = true then (some 0) else ((tables_ItemVarStore_GetDelta.f k t250 t251 t252 t255 t268 t272 t262).bind fun t277 => (some t277))) = some r := H
 have A9 := Aside0.mk A90
 clear A90
 by_cases c10 : t275 = true
 ·subst c10
  have H1 : (some 0) = some r := by rw [if_pos rfl] at H; exact H
  clear H
  have H := H1
  clear H1
  obtain rfl := Option.some.inj H
  go_enter Try.func12, Try.ntmps12
  go_wp2_with (first | ((with_reducible refine gate_dst (N := 16) rfl ?_); refine box_event ?hg (N := 16) ?hd (cs := #[.int .i64 0, .int .i64 0, .bool false]) (t := 102) ?hr ?_; (case hd => rfl); (case hg => rfl); (case hr => first | (go_simp; done) | (go_simp; rfl)); intro gb249 hg w11 hbox hb; have n0_ := Aside0.mk (below_step (by repeat (first | (with_reducible first | exact HB.out | apply below_alloc | apply pw_below_drewN | apply below_drew1) | exact HB.out)) hb); have n1_ := Aside0.mk (hbox); have n2_ := Aside0.mk ((by rw [hg]; exact (below_size (by repeat (first | (with_reducible first | exact HB.out | apply below_alloc | apply pw_below_drewN | apply below_drew1) | exact HB.out))) : w.heap.size ≤ gb249)); have n3_ := Aside0.mk ((by rw [hg]; exact (below_size (by repeat (first | (with_reducible first | exact HB.out | apply below_alloc | apply pw_below_drewN | apply below_drew1) | exact HB.out))) : w.heap.size ≤ gb249)); clear HB; have HB := n0_; have BK249 := n1_; have GW249 := n2_; have GE249 := n3_; clear n0_ n1_ n2_ n3_; clear hb hbox hg) | ((with_reducible refine gate_callee (f := 33) rfl ?_); refine goesL_ (some 22) rfl rfl Try.func33 (by kernel_rfl) rfl #[.pointer (some ⟨gb249, 0, none⟩), .slice A0 l0.length c0, .slice A1 l1.length c1, .int .i64 (l4.length : Int)] rfl (by (try simp only [List.map_toArray, List.map_cons, List.map_nil]); first | done | rfl | (simp only [List.length_drop, List.length_take]; rfl)) ?_; (with_reducible refine (impl_builder_store.calls k gb249 0 0 false (fun k_ => k_ < w.heap.size) _ _ l0 (fun k_ => k_ < w.heap.size) _ _ l1 (l4.length : Int) t250 t251 t252 t255 t258 t259 t260 w _ ?side1 ?side2 ?side3 ?side4 A6.out).mono ?_); (case side1 => repeat (first | (with_reducible first | exact (Aside0.mk (IsS102.of BK249.out GE249.out)).out | apply IsS102.alloc | apply IsS102.drewN | apply IsS102.drew | apply IsS102.set_0 | apply IsS102.set_1 | apply IsS102.set_2) | exact (Aside0.mk (IsS102.of BK249.out GE249.out)).out)); (case side2 => repeat (first | (with_reducible first | exact HB.out | apply below_alloc | apply pw_below_drewN | apply below_drew1 | refine below_set ?_ (IsS102.ge (Aside0.mk (IsS102.of BK249.out GE249.out)).out)) | exact HB.out)); (case side3 => exact Kd.V_mono (Kd.V_mk HC0.out (Kd.F_below (Kd.C_F (Kd.heap_slice 36 k36_heap) HR0.out) (by repeat (first | (with_reducible first | exact HB.out | apply below_alloc | apply pw_below_drewN | apply below_drew1 | refine below_set ?_ (IsS102.ge (Aside0.mk (IsS102.of BK249.out GE249.out)).out)) | exact HB.out)))) (fun k_ hk_ => ⟨hk_, fun e_ => Nat.not_le.2 hk_ (by rw [e_]; exact GW249.out)⟩)); (case side4 => exact Kd.V_mono (Kd.V_mk HC1.out (Kd.F_below (Kd.C_F k41_heap HR1.out) (by repeat (first | (with_reducible first | exact HB.out | apply below_alloc | apply pw_below_drewN | apply below_drew1 | refine below_set ?_ (IsS102.ge (Aside0.mk (IsS102.of BK249.out GE249.out)).out)) | exact HB.out)))) (fun k_ hk_ => ⟨hk_, fun e_ => Nat.not_le.2 hk_ (by rw [e_]; exact GW249.out)⟩)); rintro e w12 ⟨v253, v256, rfl, ho0, ho1, hi, hb, hk⟩; refine ⟨_, rfl, ?_⟩; have n0_ := Aside0.mk (Kd.S_lower (Kd.S_mono (ok' := fun k_ => True) ho0 (fun _ hk_ => trivial)) (below_size (by repeat (first | (with_reducible first | exact HB.out | apply below_alloc | apply pw_below_drewN | apply below_drew1 | refine below_set ?_ (IsS102.ge (Aside0.mk (IsS102.of BK249.out GE249.out)).out)) | exact HB.out)))); have n1_ := Aside0.mk (Kd.R_lower (Kd.R_mono (ok' := fun k_ => True) ho1 (fun _ hk_ => trivial)) (below_size (by repeat (first | (with_reducible first | exact HB.out | apply below_alloc | apply pw_below_drewN | apply below_drew1 | refine below_set ?_ (IsS102.ge (Aside0.mk (IsS102.of BK249.out GE249.out)).out)) | exact HB.out)))); have n2_ := Aside0.mk (hb); have n3_ := Aside0.mk (IsS102.cells hi); clear HB; clear BK249; have HO254 := n0_; have HO257 := n1_; have HB := n2_; have BK249 := n3_; clear n0_ n1_ n2_ n3_; (try clear hb); (try clear hb2); (try clear hk); (try clear hi); (try clear ho0); (try clear ho1)) | ((with_reducible refine gate_dst (N := 12) rfl ?_); refine box_event ?hg (N := 12) ?hd (cs := #[.int .u16 0, .int .u16 0, .slice none 0 0, .slice none 0 0]) (t := 109) ?hr ?_; (case hd => rfl); (case hg => rfl); (case hr => first | (go_simp; done) | (go_simp; rfl)); intro gb261 hg w13 hbox hb; have n0_ := Aside0.mk (Kd.S_below (by (with_reducible repeat (first | apply Kd.S_alloc | apply Kd.S_drewN | apply Kd.S_drew)); exact HO254.out) hb); have n1_ := Aside0.mk (Kd.R_below (by (with_reducible repeat (first | apply Kd.R_alloc | apply Kd.R_drewN | apply Kd.R_drew)); exact HO257.out) hb); have n2_ := Aside0.mk (blk_below (g := gb249) (o := .cells #[.int .i64 t258, .int .i64 t259, .bool t260] 102 (0, 0)) (by (with_reducible repeat (first | refine b1_ ?_ _ | refine b2_ ?_ | refine b3_ ?_ _)); exact BK249.out) hb); have n3_ := Aside0.mk (below_step (by repeat (first | (with_reducible first | exact HB.out | apply below_alloc | apply pw_below_drewN | apply below_drew1 | refine below_set ?_ GE249.out) | exact HB.out)) hb); have n4_ := Aside0.mk (hbox); have n5_ := Aside0.mk ((by rw [hg]; exact (below_size (by repeat (first | (with_reducible first | exact HB.out | apply below_alloc | apply pw_below_drewN | apply below_drew1 | refine below_set ?_ GE249.out) | exact HB.out))) : w.heap.size ≤ gb261)); have n6_ := Aside0.mk ((by rw [hg]; exact (below_size (by repeat (first | (with_reducible first | exact HB.out | apply below_alloc | apply pw_below_drewN | apply below_drew1 | refine below_set ?_ GE249.out) | exact HB.out))) : w.heap.size ≤ gb261)); have n7_ := Aside0.mk ((by rw [hg]; exact Nat.ne_of_lt (blk_lt (g := gb249) (o := .cells #[.int .i64 t258, .int .i64 t259, .bool t260] 102 (0, 0)) (by (with_reducible repeat (first | refine b1_ ?_ _ | refine b2_ ?_ | refine b3_ ?_ _)); exact BK249.out)) : gb249 ≠ gb261)); have n8_ := Aside0.mk ((by rw [hg]; exact Nat.ne_of_gt (blk_lt (g := gb249) (o := .cells #[.int .i64 t258, .int .i64 t259, .bool t260] 102 (0, 0)) (by (with_reducible repeat (first | refine b1_ ?_ _ | refine b2_ ?_ | refine b3_ ?_ _)); exact BK249.out)) : gb261 ≠ gb249)); clear HO254; clear HO257; clear BK249; clear HB; have HO254 := n0_; have HO257 := n1_; have BK249 := n2_; have HB := n3_; have BK261 := n4_; have GW261 := n5_; have GE261 := n6_; have NB249_261 := n7_; have NB261_249 := n8_; clear n0_ n1_ n2_ n3_ n4_ n5_ n6_ n7_ n8_; clear hb hbox hg; have hnb14 := NB261_249.out; have hnc14 := NB249_261.out; have hcz15_0 : w13.cell? ⟨gb261, 0, none⟩ = some (.int .u16 0) := (blk_cell BK261.out 0).trans rfl; have hcz15_1 : w13.cell? ⟨gb261, 1, none⟩ = some (.int .u16 0) := (blk_cell BK261.out 1).trans rfl; have hcz15_2 : w13.cell? ⟨gb261, 2, none⟩ = some (.slice none 0 0) := (blk_cell BK261.out 2).trans rfl; have hcz15_3 : w13.cell? ⟨gb261, 3, none⟩ = some (.slice none 0 0) := (blk_cell BK261.out 3).trans rfl; have hfz15_0 := blk_frozen BK261.out 0; have hfz15_1 := blk_frozen BK261.out 1; have hfz15_2 := blk_frozen BK261.out 2; have hfz15_3 := blk_frozen BK261.out 3; obtain ⟨Ao16, co16, eo16⟩ := Kd.S_slice HO254.out; subst eo16; obtain ⟨Ao17, co17, eo17⟩ := Kd.R_slice HO257.out; subst eo17) | ((with_reducible refine gate_callee (f := 34) rfl ?_); refine goesL_ (some 25) rfl rfl Try.func34 (by kernel_rfl) rfl #[.pointer (some ⟨gb249, 0, none⟩), .slice A4 l4.length c4] rfl (by (try simp only [List.map_toArray, List.map_cons, List.map_nil]); first | done | rfl | (simp only [List.length_drop, List.length_take]; rfl)) ?_; (with_reducible refine (impl_builder_coords.calls k gb249 t258 t259 t260 _ _ l4 t262 t265 t266 t267 w _ ?side1 ?side2 ?side3 ?side4 ?side5 A7.out).mono ?_); (case side1 => repeat (first | (with_reducible first | exact (Aside0.mk (IsS102.of BK249.out GE249.out)).out | apply IsS102.alloc | apply IsS102.drewN | apply IsS102.drew | apply IsS102.set_0 | apply IsS102.set_1 | apply IsS102.set_2 | refine IsS102.far ?_ NB249_261.out _) | exact (Aside0.mk (IsS102.of BK249.out GE249.out)).out)); (case side2 => repeat (first | (with_reducible first | exact HB.out | apply below_alloc | apply pw_below_drewN | apply below_drew1 | refine below_set ?_ (IsS102.ge (Aside0.mk (IsS102.of BK249.out GE249.out)).out) | refine below_set ?_ GE261.out) | exact HB.out)); (case side3 => exact Kd.C_below HR4.out (by repeat (first | (with_reducible first | exact HB.out | apply below_alloc | apply pw_below_drewN | apply below_drew1 | refine below_set ?_ (IsS102.ge (Aside0.mk (IsS102.of BK249.out GE249.out)).out) | refine below_set ?_ GE261.out) | exact HB.out))); (case side4 => exact HC4.out); (case side5 => exact Kd.far_C 0 HR4.out (IsS102.ge (Aside0.mk (IsS102.of BK249.out GE249.out)).out)); rintro e w18 ⟨v263, rfl, ho0, hi, hb, hk⟩; refine ⟨_, rfl, ?_⟩; have n0_ := Aside0.mk (Kd.S_mono (Kd.S_keep (IsS102.apartS (show IsS102 w _ gb249 t258 t259 t260 from by repeat (first | (with_reducible first | exact (Aside0.mk (IsS102.of BK249.out GE249.out)).out | apply IsS102.alloc | apply IsS102.drewN | apply IsS102.drew | apply IsS102.set_0 | apply IsS102.set_1 | apply IsS102.set_2 | refine IsS102.far ?_ NB249_261.out _) | exact (Aside0.mk (IsS102.of BK249.out GE249.out)).out)) (by (with_reducible repeat (first | apply Kd.S_alloc | apply Kd.S_drewN | apply Kd.S_drew)); exact (Kd.S_mono (Kd.S_far (p := ⟨gb261, 3, none⟩) (Kd.S_far (p := ⟨gb261, 2, none⟩) (Kd.S_far (p := ⟨gb261, 1, none⟩) (Kd.S_far (p := ⟨gb261, 0, none⟩) (Kd.S_types HO254.out BK261.out (by decide)) (fun _ hk => hk.2) (.int .u16 t250)) (fun _ hk => hk.2) (.int .u16 t251)) (fun _ hk => hk.2) (.slice Ao16 t252.length co16)) (fun _ hk => hk.2) (.slice Ao17 t255.length co17)) (fun _ h_ => h_.1))) (by decide)) hk (fun _ h => h.2)) (fun _ h => h.1)); have n1_ := Aside0.mk (Kd.R_mono (Kd.R_keep (IsS102.apart (show IsS102 w _ gb249 t258 t259 t260 from by repeat (first | (with_reducible first | exact (Aside0.mk (IsS102.of BK249.out GE249.out)).out | apply IsS102.alloc | apply IsS102.drewN | apply IsS102.drew | apply IsS102.set_0 | apply IsS102.set_1 | apply IsS102.set_2 | refine IsS102.far ?_ NB249_261.out _) | exact (Aside0.mk (IsS102.of BK249.out GE249.out)).out)) (by (with_reducible repeat (first | apply Kd.R_alloc | apply Kd.R_drewN | apply Kd.R_drew)); exact (Kd.R_mono (Kd.R_far (p := ⟨gb261, 3, none⟩) (Kd.R_far (p := ⟨gb261, 2, none⟩) (Kd.R_far (p := ⟨gb261, 1, none⟩) (Kd.R_far (p := ⟨gb261, 0, none⟩) (Kd.R_types HO257.out BK261.out (by decide)) (fun _ hk => hk.2) (.int .u16 t250)) (fun _ hk => hk.2) (.int .u16 t251)) (fun _ hk => hk.2) (.slice Ao16 t252.length co16)) (fun _ hk => hk.2) (.slice Ao17 t255.length co17)) (fun _ h_ => h_.1))) (by decide)) hk (fun _ h => h.2)) (fun _ h => h.1)); have n2_ := Aside0.mk (KeepBut.blk hk (g' := gb261) (o := .cells #[.int .u16 t250, .int .u16 t251, .slice Ao16 t252.length co16, .slice Ao17 t255.length co17] 109 (0, 0)) (by (with_reducible repeat (first | refine b1_ ?_ _ | refine b2_ ?_ | refine b3_ ?_ _)); refine blk_put (cs := #[.int .u16 t250, .int .u16 t251, .slice Ao16 t252.length co16, .slice none 0 0]) ?_ 3 _ rfl; (with_reducible repeat (first | refine b1_ ?_ _ | refine b2_ ?_ | refine b3_ ?_ _)); refine blk_put (cs := #[.int .u16 t250, .int .u16 t251, .slice none 0 0, .slice none 0 0]) ?_ 2 _ rfl; (with_reducible repeat (first | refine b1_ ?_ _ | refine b2_ ?_ | refine b3_ ?_ _)); refine blk_put (cs := #[.int .u16 t250, .int .u16 0, .slice none 0 0, .slice none 0 0]) ?_ 1 _ rfl; (with_reducible repeat (first | refine b1_ ?_ _ | refine b2_ ?_ | refine b3_ ?_ _)); refine blk_put (cs := #[.int .u16 0, .int .u16 0, .slice none 0 0, .slice none 0 0]) ?_ 0 _ rfl; (with_reducible repeat (first | refine b1_ ?_ _ | refine b2_ ?_ | refine b3_ ?_ _)); exact BK261.out) NB261_249.out (by simp)); have n3_ := Aside0.mk (Kd.R_lower ho0 (below_size (by repeat (first | (with_reducible first | exact HB.out | apply below_alloc | apply pw_below_drewN | apply below_drew1 | refine below_set ?_ (IsS102.ge (Aside0.mk (IsS102.of BK249.out GE249.out)).out) | refine below_set ?_ GE261.out) | exact HB.out)))); have n4_ := Aside0.mk (hb); have n5_ := Aside0.mk (IsS102.cells hi); clear HO254; clear HO257; clear BK261; clear HB; clear BK249; have HO254 := n0_; have HO257 := n1_; have BK261 := n2_; have HO264 := n3_; have HB := n4_; have BK249 := n5_; clear n0_ n1_ n2_ n3_ n4_ n5_; (try clear hb); (try clear hb2); (try clear hk); (try clear hi); (try clear ho0)) | ((with_reducible refine gate_callee (f := 35) rfl ?_); refine goesL_ (some 28) rfl rfl Try.func35 (by kernel_rfl) rfl #[.pointer (some ⟨gb249, 0, none⟩), .int .i64 a2] rfl (by (try simp only [List.map_toArray, List.map_cons, List.map_nil]); first | done | rfl | (simp only [List.length_drop, List.length_take]; rfl)) ?_; (with_reducible refine (impl_builder_small.calls gb249 t265 t266 t267 a2 t268 t269 t270 t271 w _ ?side1 ?side2 A8.out).mono ?_); (case side1 => repeat (first | (with_reducible first | exact (Aside0.mk (IsS102.of BK249.out GE249.out)).out | apply IsS102.alloc | apply IsS102.drewN | apply IsS102.drew | apply IsS102.set_0 | apply IsS102.set_1 | apply IsS102.set_2 | refine IsS102.far ?_ NB249_261.out _) | exact (Aside0.mk (IsS102.of BK249.out GE249.out)).out)); (case side2 => repeat (first | (with_reducible first | exact HB.out | apply below_alloc | apply pw_below_drewN | apply below_drew1 | refine below_set ?_ (IsS102.ge (Aside0.mk (IsS102.of BK249.out GE249.out)).out) | refine below_set ?_ GE261.out) | exact HB.out)); rintro e w19 ⟨rfl, hi, hb, hk⟩; refine ⟨_, rfl, ?_⟩; have n0_ := Aside0.mk (Kd.S_mono (Kd.S_keep (IsS102.apartS (show IsS102 w _ gb249 t265 t266 t267 from by repeat (first | (with_reducible first | exact (Aside0.mk (IsS102.of BK249.out GE249.out)).out | apply IsS102.alloc | apply IsS102.drewN | apply IsS102.drew | apply IsS102.set_0 | apply IsS102.set_1 | apply IsS102.set_2 | refine IsS102.far ?_ NB249_261.out _) | exact (Aside0.mk (IsS102.of BK249.out GE249.out)).out)) (by (with_reducible repeat (first | apply Kd.S_alloc | apply Kd.S_drewN | apply Kd.S_drew)); exact HO254.out) (by decide)) hk (fun _ h => h.2)) (fun _ h => h.1)); have n1_ := Aside0.mk (Kd.R_mono (Kd.R_keep (IsS102.apart (show IsS102 w _ gb249 t265 t266 t267 from by repeat (first | (with_reducible first | exact (Aside0.mk (IsS102.of BK249.out GE249.out)).out | apply IsS102.alloc | apply IsS102.drewN | apply IsS102.drew | apply IsS102.set_0 | apply IsS102.set_1 | apply IsS102.set_2 | refine IsS102.far ?_ NB249_261.out _) | exact (Aside0.mk (IsS102.of BK249.out GE249.out)).out)) (by (with_reducible repeat (first | apply Kd.R_alloc | apply Kd.R_drewN | apply Kd.R_drew)); exact HO257.out) (by decide)) hk (fun _ h => h.2)) (fun _ h => h.1)); have n2_ := Aside0.mk (KeepBut.blk hk (g' := gb261) (o := .cells #[.int .u16 t250, .int .u16 t251, .slice Ao16 t252.length co16, .slice Ao17 t255.length co17] 109 (0, 0)) (by (with_reducible repeat (first | refine b1_ ?_ _ | refine b2_ ?_ | refine b3_ ?_ _)); exact BK261.out) NB261_249.out (by simp)); have n3_ := Aside0.mk (Kd.R_mono (Kd.R_keep (IsS102.apart (show IsS102 w _ gb249 t265 t266 t267 from by repeat (first | (with_reducible first | exact (Aside0.mk (IsS102.of BK249.out GE249.out)).out | apply IsS102.alloc | apply IsS102.drewN | apply IsS102.drew | apply IsS102.set_0 | apply IsS102.set_1 | apply IsS102.set_2 | refine IsS102.far ?_ NB249_261.out _) | exact (Aside0.mk (IsS102.of BK249.out GE249.out)).out)) (by (with_reducible repeat (first | apply Kd.R_alloc | apply Kd.R_drewN | apply Kd.R_drew)); exact HO264.out) (by decide)) hk (fun _ h => h.2)) (fun _ h => h.1)); have n4_ := Aside0.mk (hb); have n5_ := Aside0.mk (IsS102.cells hi); clear HO254; clear HO257; clear BK261; clear HO264; clear HB; clear BK249; have HO254 := n0_; have HO257 := n1_; have BK261 := n2_; have HO264 := n3_; have HB := n4_; have BK249 := n5_; clear n0_ n1_ n2_ n3_ n4_ n5_; (try clear hb); (try clear hb2); (try clear hk); (try clear hi)) | ((with_reducible refine gate_callee (f := 35) rfl ?_); refine goesL_ (some 31) rfl rfl Try.func35 (by kernel_rfl) rfl #[.pointer (some ⟨gb249, 0, none⟩), .int .i64 a3] rfl (by (try simp only [List.map_toArray, List.map_cons, List.map_nil]); first | done | rfl | (simp only [List.length_drop, List.length_take]; rfl)) ?_; (with_reducible refine (impl_builder_small.calls gb249 t269 t270 t271 a3 t272 t273 t274 true w _ ?side1 ?side2 A9.out).mono ?_); (case side1 => repeat (first | (with_reducible first | exact (Aside0.mk (IsS102.of BK249.out GE249.out)).out | apply IsS102.alloc | apply IsS102.drewN | apply IsS102.drew | apply IsS102.set_0 | apply IsS102.set_1 | apply IsS102.set_2 | refine IsS102.far ?_ NB249_261.out _) | exact (Aside0.mk (IsS102.of BK249.out GE249.out)).out)); (case side2 => repeat (first | (with_reducible first | exact HB.out | apply below_alloc | apply pw_below_drewN | apply below_drew1 | refine below_set ?_ (IsS102.ge (Aside0.mk (IsS102.of BK249.out GE249.out)).out) | refine below_set ?_ GE261.out) | exact HB.out)); rintro e w20 ⟨rfl, hi, hb, hk⟩; refine ⟨_, rfl, ?_⟩; have n0_ := Aside0.mk (Kd.S_mono (Kd.S_keep (IsS102.apartS (show IsS102 w _ gb249 t269 t270 t271 from by repeat (first | (with_reducible first | exact (Aside0.mk (IsS102.of BK249.out GE249.out)).out | apply IsS102.alloc | apply IsS102.drewN | apply IsS102.drew | apply IsS102.set_0 | apply IsS102.set_1 | apply IsS102.set_2 | refine IsS102.far ?_ NB249_261.out _) | exact (Aside0.mk (IsS102.of BK249.out GE249.out)).out)) (by (with_reducible repeat (first | apply Kd.S_alloc | apply Kd.S_drewN | apply Kd.S_drew)); exact HO254.out) (by decide)) hk (fun _ h => h.2)) (fun _ h => h.1)); have n1_ := Aside0.mk (Kd.R_mono (Kd.R_keep (IsS102.apart (show IsS102 w _ gb249 t269 t270 t271 from by repeat (first | (with_reducible first | exact (Aside0.mk (IsS102.of BK249.out GE249.out)).out | apply IsS102.alloc | apply IsS102.drewN | apply IsS102.drew | apply IsS102.set_0 | apply IsS102.set_1 | apply IsS102.set_2 | refine IsS102.far ?_ NB249_261.out _) | exact (Aside0.mk (IsS102.of BK249.out GE249.out)).out)) (by (with_reducible repeat (first | apply Kd.R_alloc | apply Kd.R_drewN | apply Kd.R_drew)); exact HO257.out) (by decide)) hk (fun _ h => h.2)) (fun _ h => h.1)); have n2_ := Aside0.mk (KeepBut.blk hk (g' := gb261) (o := .cells #[.int .u16 t250, .int .u16 t251, .slice Ao16 t252.length co16, .slice Ao17 t255.length co17] 109 (0, 0)) (by (with_reducible repeat (first | refine b1_ ?_ _ | refine b2_ ?_ | refine b3_ ?_ _)); exact BK261.out) NB261_249.out (by simp)); have n3_ := Aside0.mk (Kd.R_mono (Kd.R_keep (IsS102.apart (show IsS102 w _ gb249 t269 t270 t271 from by repeat (first | (with_reducible first | exact (Aside0.mk (IsS102.of BK249.out GE249.out)).out | apply IsS102.alloc | apply IsS102.drewN | apply IsS102.drew | apply IsS102.set_0 | apply IsS102.set_1 | apply IsS102.set_2 | refine IsS102.far ?_ NB249_261.out _) | exact (Aside0.mk (IsS102.of BK249.out GE249.out)).out)) (by (with_reducible repeat (first | apply Kd.R_alloc | apply Kd.R_drewN | apply Kd.R_drew)); exact HO264.out) (by decide)) hk (fun _ h => h.2)) (fun _ h => h.1)); have n4_ := Aside0.mk (hb); have n5_ := Aside0.mk (IsS102.cells hi); clear HO254; clear HO257; clear BK261; clear HO264; clear HB; clear BK249; have HO254 := n0_; have HO257 := n1_; have BK261 := n2_; have HO264 := n3_; have HB := n4_; have BK249 := n5_; clear n0_ n1_ n2_ n3_ n4_ n5_; (try clear hb); (try clear hb2); (try clear hk); (try clear hi)) | ((with_reducible refine gate_dst (N := 14) rfl ?_); refine box_event ?hg (N := 14) ?hd (cs := #[.int .u16 0, .int .u16 0]) (t := 115) ?hr ?_; (case hd => rfl); (case hg => rfl); (case hr => first | (go_simp; done) | (go_simp; rfl)); intro gb276 hg w21 hbox hb; have n0_ := Aside0.mk (Kd.S_below (by (with_reducible repeat (first | apply Kd.S_alloc | apply Kd.S_drewN | apply Kd.S_drew)); exact HO254.out) hb); have n1_ := Aside0.mk (Kd.R_below (by (with_reducible repeat (first | apply Kd.R_alloc | apply Kd.R_drewN | apply Kd.R_drew)); exact HO257.out) hb); have n2_ := Aside0.mk (Kd.R_below (by (with_reducible repeat (first | apply Kd.R_alloc | apply Kd.R_drewN | apply Kd.R_drew)); exact HO264.out) hb); have n3_ := Aside0.mk (blk_below (g := gb249) (o := .cells #[.int .i64 t273, .int .i64 t274, .bool true] 102 (0, 0)) (by (with_reducible repeat (first | refine b1_ ?_ _ | refine b2_ ?_ | refine b3_ ?_ _)); exact BK249.out) hb); have n4_ := Aside0.mk (blk_below (g := gb261) (o := .cells #[.int .u16 t250, .int .u16 t251, .slice Ao16 t252.length co16, .slice Ao17 t255.length co17] 109 (0, 0)) (by (with_reducible repeat (first | refine b1_ ?_ _ | refine b2_ ?_ | refine b3_ ?_ _)); exact BK261.out) hb); have n5_ := Aside0.mk (below_step (by repeat (first | (with_reducible first | exact HB.out | apply below_alloc | apply pw_below_drewN | apply below_drew1 | refine below_set ?_ GE249.out | refine below_set ?_ GE261.out) | exact HB.out)) hb); have n6_ := Aside0.mk (hbox); have n7_ := Aside0.mk ((by rw [hg]; exact (below_size (by repeat (first | (with_reducible first | exact HB.out | apply below_alloc | apply pw_below_drewN | apply below_drew1 | refine below_set ?_ GE249.out | refine below_set ?_ GE261.out) | exact HB.out))) : w.heap.size ≤ gb276)); have n8_ := Aside0.mk ((by rw [hg]; exact (below_size (by repeat (first | (with_reducible first | exact HB.out | apply below_alloc | apply pw_below_drewN | apply below_drew1 | refine below_set ?_ GE249.out | refine below_set ?_ GE261.out) | exact HB.out))) : w.heap.size ≤ gb276)); have n9_ := Aside0.mk ((by rw [hg]; exact Nat.ne_of_lt (blk_lt (g := gb249) (o := .cells #[.int .i64 t273, .int .i64 t274, .bool true] 102 (0, 0)) (by (with_reducible repeat (first | refine b1_ ?_ _ | refine b2_ ?_ | refine b3_ ?_ _)); exact BK249.out)) : gb249 ≠ gb276)); have n10_ := Aside0.mk ((by rw [hg]; exact Nat.ne_of_gt (blk_lt (g := gb249) (o := .cells #[.int .i64 t273, .int .i64 t274, .bool true] 102 (0, 0)) (by (with_reducible repeat (first | refine b1_ ?_ _ | refine b2_ ?_ | refine b3_ ?_ _)); exact BK249.out)) : gb276 ≠ gb249)); have n11_ := Aside0.mk ((by rw [hg]; exact Nat.ne_of_lt (blk_lt (g := gb261) (o := .cells #[.int .u16 t250, .int .u16 t251, .slice Ao16 t252.length co16, .slice Ao17 t255.length co17] 109 (0, 0)) (by (with_reducible repeat (first | refine b1_ ?_ _ | refine b2_ ?_ | refine b3_ ?_ _)); exact BK261.out)) : gb261 ≠ gb276)); have n12_ := Aside0.mk ((by rw [hg]; exact Nat.ne_of_gt (blk_lt (g := gb261) (o := .cells #[.int .u16 t250, .int .u16 t251, .slice Ao16 t252.length co16, .slice Ao17 t255.length co17] 109 (0, 0)) (by (with_reducible repeat (first | refine b1_ ?_ _ | refine b2_ ?_ | refine b3_ ?_ _)); exact BK261.out)) : gb276 ≠ gb261)); clear HO254; clear HO257; clear HO264; clear BK249; clear BK261; clear HB; have HO254 := n0_; have HO257 := n1_; have HO264 := n2_; have BK249 := n3_; have BK261 := n4_; have HB := n5_; have BK276 := n6_; have GW276 := n7_; have GE276 := n8_; have NB249_276 := n9_; have NB276_249 := n10_; have NB261_276 := n11_; have NB276_261 := n12_; clear n0_ n1_ n2_ n3_ n4_ n5_ n6_ n7_ n8_ n9_ n10_ n11_ n12_; clear hb hbox hg; have hnb22 := NB276_249.out; have hnc22 := NB249_276.out; have hnb23 := NB276_261.out; have hnc23 := NB261_276.out; have hcz24_0 : w21.cell? ⟨gb276, 0, none⟩ = some (.int .u16 0) := (blk_cell BK276.out 0).trans rfl; have hcz24_1 : w21.cell? ⟨gb276, 1, none⟩ = some (.int .u16 0) := (blk_cell BK276.out 1).trans rfl; have hfz24_0 := blk_frozen BK276.out 0; have hfz24_1 := blk_frozen BK276.out 1; have hcz25_0 : w21.cell? ⟨gb249, 0, none⟩ = some (.int .i64 t273) := (blk_cell BK249.out 0).trans rfl; have hcz25_1 : w21.cell? ⟨gb249, 1, none⟩ = some (.int .i64 t274) := (blk_cell BK249.out 1).trans rfl; have hcz25_2 : w21.cell? ⟨gb249, 2, none⟩ = some (.bool true) := (blk_cell BK249.out 2).trans rfl; have hfz25_0 := blk_frozen BK249.out 0; have hfz25_1 := blk_frozen BK249.out 1; have hfz25_2 := blk_frozen BK249.out 2))
  go_ret
  exact ⟨by first | rfl | (simp [errW_none, errW_some] <;> rfl) | (simp [*, errW_none, errW_some] <;> rfl), by repeat (first | (with_reducible first | exact HB.out | apply below_alloc | apply pw_below_drewN | apply below_drew1 | refine below_set ?_ GE249.out | refine below_set ?_ GE261.out | refine below_set ?_ GE276.out) | exact HB.out)⟩
 ·replace c10 := Bool.eq_false_iff.mpr c10
  subst c10
  have H1 : ((tables_ItemVarStore_GetDelta.f k t250 t251 t252 t255 t268 t272 t262).bind fun t277 => (some t277)) = some r := by rw [if_neg (show ¬ (false = true) by decide)] at H; exact H
  clear H
  have H := H1
  clear H1
  replace H := Option.bind_eq_some_iff.mp H
  obtain ⟨t277, A260, H⟩ := H
  replace H : (some t277) = some r := H
  have A26 := Aside0.mk A260
  clear A260
  obtain rfl := Option.some.inj H
  go_enter Try.func12, Try.ntmps12
  go_wp2_with (first | ((with_reducible refine gate_dst (N := 16) rfl ?_); refine box_event ?hg (N := 16) ?hd (cs := #[.int .i64 0, .int .i64 0, .bool false]) (t := 102) ?hr ?_; (case hd => rfl); (case hg => rfl); (case hr => first | (go_simp; done) | (go_simp; rfl)); intro gb249 hg w27 hbox hb; have n0_ := Aside0.mk (below_step (by repeat (first | (with_reducible first | exact HB.out | apply below_alloc | apply pw_below_drewN | apply below_drew1) | exact HB.out)) hb); have n1_ := Aside0.mk (hbox); have n2_ := Aside0.mk ((by rw [hg]; exact (below_size (by repeat (first | (with_reducible first | exact HB.out | apply below_alloc | apply pw_below_drewN | apply below_drew1) | exact HB.out))) : w.heap.size ≤ gb249)); have n3_ := Aside0.mk ((by rw [hg]; exact (below_size (by repeat (first | (with_reducible first | exact HB.out | apply below_alloc | apply pw_below_drewN | apply below_drew1) | exact HB.out))) : w.heap.size ≤ gb249)); clear HB; have HB := n0_; have BK249 := n1_; have GW249 := n2_; have GE249 := n3_; clear n0_ n1_ n2_ n3_; clear hb hbox hg) | ((with_reducible refine gate_callee (f := 33) rfl ?_); refine goesL_ (some 22) rfl rfl Try.func33 (by kernel_rfl) rfl #[.pointer (some ⟨gb249, 0, none⟩), .slice A0 l0.length c0, .slice A1 l1.length c1, .int .i64 (l4.length : Int)] rfl (by (try simp only [List.map_toArray, List.map_cons, List.map_nil]); first | done | rfl | (simp only [List.length_drop, List.length_take]; rfl)) ?_; (with_reducible refine (impl_builder_store.calls k gb249 0 0 false (fun k_ => k_ < w.heap.size) _ _ l0 (fun k_ => k_ < w.heap.size) _ _ l1 (l4.length : Int) t250 t251 t252 t255 t258 t259 t260 w _ ?side1 ?side2 ?side3 ?side4 A6.out).mono ?_); (case side1 => repeat (first | (with_reducible first | exact (Aside0.mk (IsS102.of BK249.out GE249.out)).out | apply IsS102.alloc | apply IsS102.drewN | apply IsS102.drew | apply IsS102.set_0 | apply IsS102.set_1 | apply IsS102.set_2) | exact (Aside0.mk (IsS102.of BK249.out GE249.out)).out)); (case side2 => repeat (first | (with_reducible first | exact HB.out | apply below_alloc | apply pw_below_drewN | apply below_drew1 | refine below_set ?_ (IsS102.ge (Aside0.mk (IsS102.of BK249.out GE249.out)).out)) | exact HB.out)); (case side3 => exact Kd.V_mono (Kd.V_mk HC0.out (Kd.F_below (Kd.C_F (Kd.heap_slice 36 k36_heap) HR0.out) (by repeat (first | (with_reducible first | exact HB.out | apply below_alloc | apply pw_below_drewN | apply below_drew1 | refine below_set ?_ (IsS102.ge (Aside0.mk (IsS102.of BK249.out GE249.out)).out)) | exact HB.out)))) (fun k_ hk_ => ⟨hk_, fun e_ => Nat.not_le.2 hk_ (by rw [e_]; exact GW249.out)⟩)); (case side4 => exact Kd.V_mono (Kd.V_mk HC1.out (Kd.F_below (Kd.C_F k41_heap HR1.out) (by repeat (first | (with_reducible first | exact HB.out | apply below_alloc | apply pw_below_drewN | apply below_drew1 | refine below_set ?_ (IsS102.ge (Aside0.mk (IsS102.of BK249.out GE249.out)).out)) | exact HB.out)))) (fun k_ hk_ => ⟨hk_, fun e_ => Nat.not_le.2 hk_ (by rw [e_]; exact GW249.out)⟩)); rintro e w28 ⟨v253, v256, rfl, ho0, ho1, hi, hb, hk⟩; refine ⟨_, rfl, ?_⟩; have n0_ := Aside0.mk (Kd.S_lower (Kd.S_mono (ok' := fun k_ => True) ho0 (fun _ hk_ => trivial)) (below_size (by repeat (first | (with_reducible first | exact HB.out | apply below_alloc | apply pw_below_drewN | apply below_drew1 | refine below_set ?_ (IsS102.ge (Aside0.mk (IsS102.of BK249.out GE249.out)).out)) | exact HB.out)))); have n1_ := Aside0.mk (Kd.R_lower (Kd.R_mono (ok' := fun k_ => True) ho1 (fun _ hk_ => trivial)) (below_size (by repeat (first | (with_reducible first | exact HB.out | apply below_alloc | apply pw_below_drewN | apply below_drew1 | refine below_set ?_ (IsS102.ge (Aside0.mk (IsS102.of BK249.out GE249.out)).out)) | exact HB.out)))); have n2_ := Aside0.mk (hb); have n3_ := Aside0.mk (IsS102.cells hi); clear HB; clear BK249; have HO254 := n0_; have HO257 := n1_; have HB := n2_; have BK249 := n3_; clear n0_ n1_ n2_ n3_; (try clear hb); (try clear hb2); (try clear hk); (try clear hi); (try clear ho0); (try clear ho1)) | ((with_reducible refine gate_dst (N := 12) rfl ?_); refine box_event ?hg (N := 12) ?hd (cs := #[.int .u16 0, .int .u16 0, .slice none 0 0, .slice none 0 0]) (t := 109) ?hr ?_; (case hd => rfl); (case hg => rfl); (case hr => first | (go_simp; done) | (go_simp; rfl)); intro gb261 hg w29 hbox hb; have n0_ := Aside0.mk (Kd.S_below (by (with_reducible repeat (first | apply Kd.S_alloc | apply Kd.S_drewN | apply Kd.S_drew)); exact HO254.out) hb); have n1_ := Aside0.mk (Kd.R_below (by (with_reducible repeat (first | apply Kd.R_alloc | apply Kd.R_drewN | apply Kd.R_drew)); exact HO257.out) hb); have n2_ := Aside0.mk (blk_below (g := gb249) (o := .cells #[.int .i64 t258, .int .i64 t259, .bool t260] 102 (0, 0)) (by (with_reducible repeat (first | refine b1_ ?_ _ | refine b2_ ?_ | refine b3_ ?_ _)); exact BK249.out) hb); have n3_ := Aside0.mk (below_step (by repeat (first | (with_reducible first | exact HB.out | apply below_alloc | apply pw_below_drewN | apply below_drew1 | refine below_set ?_ GE249.out) | exact HB.out)) hb); have n4_ := Aside0.mk (hbox); have n5_ := Aside0.mk ((by rw [hg]; exact (below_size (by repeat (first | (with_reducible first | exact HB.out | apply below_alloc | apply pw_below_drewN | apply below_drew1 | refine below_set ?_ GE249.out) | exact HB.out))) : w.heap.size ≤ gb261)); have n6_ := Aside0.mk ((by rw [hg]; exact (below_size (by repeat (first | (with_reducible first | exact HB.out | apply below_alloc | apply pw_below_drewN | apply below_drew1 | refine below_set ?_ GE249.out) | exact HB.out))) : w.heap.size ≤ gb261)); have n7_ := Aside0.mk ((by rw [hg]; exact Nat.ne_of_lt (blk_lt (g := gb249) (o := .cells #[.int .i64 t258, .int .i64 t259, .bool t260] 102 (0, 0)) (by (with_reducible repeat (first | refine b1_ ?_ _ | refine b2_ ?_ | refine b3_ ?_ _)); exact BK249.out)) : gb249 ≠ gb261)); have n8_ := Aside0.mk ((by rw [hg]; exact Nat.ne_of_gt (blk_lt (g := gb249) (o := .cells #[.int .i64 t258, .int .i64 t259, .bool t260] 102 (0, 0)) (by (with_reducible repeat (first | refine b1_ ?_ _ | refine b2_ ?_ | refine b3_ ?_ _)); exact BK249.out)) : gb261 ≠ gb249)); clear HO254; clear HO257; clear BK249; clear HB; have HO254 := n0_; have HO257 := n1_; have BK249 := n2_; have HB := n3_; have BK261 := n4_; have GW261 := n5_; have GE261 := n6_; have NB249_261 := n7_; have NB261_249 := n8_; clear n0_ n1_ n2_ n3_ n4_ n5_ n6_ n7_ n8_; clear hb hbox hg; have hnb30 := NB261_249.out; have hnc30 := NB249_261.out; have hcz31_0 : w29.cell? ⟨gb261, 0, none⟩ = some (.int .u16 0) := (blk_cell BK261.out 0).trans rfl; have hcz31_1 : w29.cell? ⟨gb261, 1, none⟩ = some (.int .u16 0) := (blk_cell BK261.out 1).trans rfl; have hcz31_2 : w29.cell? ⟨gb261, 2, none⟩ = some (.slice none 0 0) := (blk_cell BK261.out 2).trans rfl; have hcz31_3 : w29.cell? ⟨gb261, 3, none⟩ = some (.slice none 0 0) := (blk_cell BK261.out 3).trans rfl; have hfz31_0 := blk_frozen BK261.out 0; have hfz31_1 := blk_frozen BK261.out 1; have hfz31_2 := blk_frozen BK261.out 2; have hfz31_3 := blk_frozen BK261.out 3; obtain ⟨Ao32, co32, eo32⟩ := Kd.S_slice HO254.out; subst eo32; obtain ⟨Ao33, co33, eo33⟩ := Kd.R_slice HO257.out; subst eo33) | ((with_reducible refine gate_callee (f := 34) rfl ?_); refine goesL_ (some 25) rfl rfl Try.func34 (by kernel_rfl) rfl #[.pointer (some ⟨gb249, 0, none⟩), .slice A4 l4.length c4] rfl (by (try simp only [List.map_toArray, List.map_cons, List.map_nil]); first | done | rfl | (simp only [List.length_drop, List.length_take]; rfl)) ?_; (with_reducible refine (impl_builder_coords.calls k gb249 t258 t259 t260 _ _ l4 t262 t265 t266 t267 w _ ?side1 ?side2 ?side3 ?side4 ?side5 A7.out).mono ?_); (case side1 => repeat (first | (with_reducible first | exact (Aside0.mk (IsS102.of BK249.out GE249.out)).out | apply IsS102.alloc | apply IsS102.drewN | apply IsS102.drew | apply IsS102.set_0 | apply IsS102.set_1 | apply IsS102.set_2 | refine IsS102.far ?_ NB249_261.out _) | exact (Aside0.mk (IsS102.of BK249.out GE249.out)).out)); (case side2 => repeat (first | (with_reducible first | exact HB.out | apply below_alloc | apply pw_below_drewN | apply below_drew1 | refine below_set ?_ (IsS102.ge (Aside0.mk (IsS102.of BK249.out GE249.out)).out) | refine below_set ?_ GE261.out) | exact HB.out)); (case side3 => exact Kd.C_below HR4.out (by repeat (first | (with_reducible first | exact HB.out | apply below_alloc | apply pw_below_drewN | apply below_drew1 | refine below_set ?_ (IsS102.ge (Aside0.mk (IsS102.of BK249.out GE249.out)).out) | refine below_set ?_ GE261.out) | exact HB.out))); (case side4 => exact HC4.out); (case side5 => exact Kd.far_C 0 HR4.out (IsS102.ge (Aside0.mk (IsS102.of BK249.out GE249.out)).out)); rintro e w34 ⟨v263, rfl, ho0, hi, hb, hk⟩; refine ⟨_, rfl, ?_⟩; have n0_ := Aside0.mk (Kd.S_mono (Kd.S_keep (IsS102.apartS (show IsS102 w _ gb249 t258 t259 t260 from by repeat (first | (with_reducible first | exact (Aside0.mk (IsS102.of BK249.out GE249.out)).out | apply IsS102.alloc | apply IsS102.drewN | apply IsS102.drew | apply IsS102.set_0 | apply IsS102.set_1 | apply IsS102.set_2 | refine IsS102.far ?_ NB249_261.out _) | exact (Aside0.mk (IsS102.of BK249.out GE249.out)).out)) (by (with_reducible repeat (first | apply Kd.S_alloc | apply Kd.S_drewN | apply Kd.S_drew)); exact (Kd.S_mono (Kd.S_far (p := ⟨gb261, 3, none⟩) (Kd.S_far (p := ⟨gb261, 2, none⟩) (Kd.S_far (p := ⟨gb261, 1, none⟩) (Kd.S_far (p := ⟨gb261, 0, none⟩) (Kd.S_types HO254.out BK261.out (by decide)) (fun _ hk => hk.2) (.int .u16 t250)) (fun _ hk => hk.2) (.int .u16 t251)) (fun _ hk => hk.2) (.slice Ao32 t252.length co32)) (fun _ hk => hk.2) (.slice Ao33 t255.length co33)) (fun _ h_ => h_.1))) (by decide)) hk (fun _ h => h.2)) (fun _ h => h.1)); have n1_ := Aside0.mk (Kd.R_mono (Kd.R_keep (IsS102.apart (show IsS102 w _ gb249 t258 t259 t260 from by repeat (first | (with_reducible first | exact (Aside0.mk (IsS102.of BK249.out GE249.out)).out | apply IsS102.alloc | apply IsS102.drewN | apply IsS102.drew | apply IsS102.set_0 | apply IsS102.set_1 | apply IsS102.set_2 | refine IsS102.far ?_ NB249_261.out _) | exact (Aside0.mk (IsS102.of BK249.out GE249.out)).out)) (by (with_reducible repeat (first | apply Kd.R_alloc | apply Kd.R_drewN | apply Kd.R_drew)); exact (Kd.R_mono (Kd.R_far (p := ⟨gb261, 3, none⟩) (Kd.R_far (p := ⟨gb261, 2, none⟩) (Kd.R_far (p := ⟨gb261, 1, none⟩) (Kd.R_far (p := ⟨gb261, 0, none⟩) (Kd.R_types HO257.out BK261.out (by decide)) (fun _ hk => hk.2) (.int .u16 t250)) (fun _ hk => hk.2) (.int .u16 t251)) (fun _ hk => hk.2) (.slice Ao32 t252.length co32)) (fun _ hk => hk.2) (.slice Ao33 t255.length co33)) (fun _ h_ => h_.1))) (by decide)) hk (fun _ h => h.2)) (fun _ h => h.1)); have n2_ := Aside0.mk (KeepBut.blk hk (g' := gb261) (o := .cells #[.int .u16 t250, .int .u16 t251, .slice Ao32 t252.length co32, .slice Ao33 t255.length co33] 109 (0, 0)) (by (with_reducible repeat (first | refine b1_ ?_ _ | refine b2_ ?_ | refine b3_ ?_ _)); refine blk_put (cs := #[.int .u16 t250, .int .u16 t251, .slice Ao32 t252.length co32, .slice none 0 0]) ?_ 3 _ rfl; (with_reducible repeat (first | refine b1_ ?_ _ | refine b2_ ?_ | refine b3_ ?_ _)); refine blk_put (cs := #[.int .u16 t250, .int .u16 t251, .slice none 0 0, .slice none 0 0]) ?_ 2 _ rfl; (with_reducible repeat (first | refine b1_ ?_ _ | refine b2_ ?_ | refine b3_ ?_ _)); refine blk_put (cs := #[.int .u16 t250, .int .u16 0, .slice none 0 0, .slice none 0 0]) ?_ 1 _ rfl; (with_reducible repeat (first | refine b1_ ?_ _ | refine b2_ ?_ | refine b3_ ?_ _)); refine blk_put (cs := #[.int .u16 0, .int .u16 0, .slice none 0 0, .slice none 0 0]) ?_ 0 _ rfl; (with_reducible repeat (first | refine b1_ ?_ _ | refine b2_ ?_ | refine b3_ ?_ _)); exact BK261.out) NB261_249.out (by simp)); have n3_ := Aside0.mk (Kd.R_lower ho0 (below_size (by repeat (first | (with_reducible first | exact HB.out | apply below_alloc | apply pw_below_drewN | apply below_drew1 | refine below_set ?_ (IsS102.ge (Aside0.mk (IsS102.of BK249.out GE249.out)).out) | refine below_set ?_ GE261.out) | exact HB.out)))); have n4_ := Aside0.mk (hb); have n5_ := Aside0.mk (IsS102.cells hi); clear HO254; clear HO257; clear BK261; clear HB; clear BK249; have HO254 := n0_; have HO257 := n1_; have BK261 := n2_; have HO264 := n3_; have HB := n4_; have BK249 := n5_; clear n0_ n1_ n2_ n3_ n4_ n5_; (try clear hb); (try clear hb2); (try clear hk); (try clear hi); (try clear ho0)) | ((with_reducible refine gate_callee (f := 35) rfl ?_); refine goesL_ (some 28) rfl rfl Try.func35 (by kernel_rfl) rfl #[.pointer (some ⟨gb249, 0, none⟩), .int .i64 a2] rfl (by (try simp only [List.map_toArray, List.map_cons, List.map_nil]); first | done | rfl | (simp only [List.length_drop, List.length_take]; rfl)) ?_; (with_reducible refine (impl_builder_small.calls gb249 t265 t266 t267 a2 t268 t269 t270 t271 w _ ?side1 ?side2 A8.out).mono ?_); (case side1 => repeat (first | (with_reducible first | exact (Aside0.mk (IsS102.of BK249.out GE249.out)).out | apply IsS102.alloc | apply IsS102.drewN | apply IsS102.drew | apply IsS102.set_0 | apply IsS102.set_1 | apply IsS102.set_2 | refine IsS102.far ?_ NB249_261.out _) | exact (Aside0.mk (IsS102.of BK249.out GE249.out)).out)); (case side2 => repeat (first | (with_reducible first | exact HB.out | apply below_alloc | apply pw_below_drewN | apply below_drew1 | refine below_set ?_ (IsS102.ge (Aside0.mk (IsS102.of BK249.out GE249.out)).out) | refine below_set ?_ GE261.out) | exact HB.out)); rintro e w35 ⟨rfl, hi, hb, hk⟩; refine ⟨_, rfl, ?_⟩; have n0_ := Aside0.mk (Kd.S_mono (Kd.S_keep (IsS102.apartS (show IsS102 w _ gb249 t265 t266 t267 from by repeat (first | (with_reducible first | exact (Aside0.mk (IsS102.of BK249.out GE249.out)).out | apply IsS102.alloc | apply IsS102.drewN | apply IsS102.drew | apply IsS102.set_0 | apply IsS102.set_1 | apply IsS102.set_2 | refine IsS102.far ?_ NB249_261.out _) | exact (Aside0.mk (IsS102.of BK249.out GE249.out)).out)) (by (with_reducible repeat (first | apply Kd.S_alloc | apply Kd.S_drewN | apply Kd.S_drew)); exact HO254.out) (by decide)) hk (fun _ h => h.2)) (fun _ h => h.1)); have n1_ := Aside0.mk (Kd.R_mono (Kd.R_keep (IsS102.apart (show IsS102 w _ gb249 t265 t266 t267 from by repeat (first | (with_reducible first | exact (Aside0.mk (IsS102.of BK249.out GE249.out)).out | apply IsS102.alloc | apply IsS102.drewN | apply IsS102.drew | apply IsS102.set_0 | apply IsS102.set_1 | apply IsS102.set_2 | refine IsS102.far ?_ NB249_261.out _) | exact (Aside0.mk (IsS102.of BK249.out GE249.out)).out)) (by (with_reducible repeat (first | apply Kd.R_alloc | apply Kd.R_drewN | apply Kd.R_drew)); exact HO257.out) (by decide)) hk (fun _ h => h.2)) (fun _ h => h.1)); have n2_ := Aside0.mk (KeepBut.blk hk (g' := gb261) (o := .cells #[.int .u16 t250, .int .u16 t251, .slice Ao32 t252.length co32, .slice Ao33 t255.length co33] 109 (0, 0)) (by (with_reducible repeat (first | refine b1_ ?_ _ | refine b2_ ?_ | refine b3_ ?_ _)); exact BK261.out) NB261_249.out (by simp)); have n3_ := Aside0.mk (Kd.R_mono (Kd.R_keep (IsS102.apart (show IsS102 w _ gb249 t265 t266 t267 from by repeat (first | (with_reducible first | exact (Aside0.mk (IsS102.of BK249.out GE249.out)).out | apply IsS102.alloc | apply IsS102.drewN | apply IsS102.drew | apply IsS102.set_0 | apply IsS102.set_1 | apply IsS102.set_2 | refine IsS102.far ?_ NB249_261.out _) | exact (Aside0.mk (IsS102.of BK249.out GE249.out)).out)) (by (with_reducible repeat (first | apply Kd.R_alloc | apply Kd.R_drewN | apply Kd.R_drew)); exact HO264.out) (by decide)) hk (fun _ h => h.2)) (fun _ h => h.1)); have n4_ := Aside0.mk (hb); have n5_ := Aside0.mk (IsS102.cells hi); clear HO254; clear HO257; clear BK261; clear HO264; clear HB; clear BK249; have HO254 := n0_; have HO257 := n1_; have BK261 := n2_; have HO264 := n3_; have HB := n4_; have BK249 := n5_; clear n0_ n1_ n2_ n3_ n4_ n5_; (try clear hb); (try clear hb2); (try clear hk); (try clear hi)) | ((with_reducible refine gate_callee (f := 35) rfl ?_); refine goesL_ (some 31) rfl rfl Try.func35 (by kernel_rfl) rfl #[.pointer (some ⟨gb249, 0, none⟩), .int .i64 a3] rfl (by (try simp only [List.map_toArray, List.map_cons, List.map_nil]); first | done | rfl | (simp only [List.length_drop, List.length_take]; rfl)) ?_; (with_reducible refine (impl_builder_small.calls gb249 t269 t270 t271 a3 t272 t273 t274 false w _ ?side1 ?side2 A9.out).mono ?_); (case side1 => repeat (first | (with_reducible first | exact (Aside0.mk (IsS102.of BK249.out GE249.out)).out | apply IsS102.alloc | apply IsS102.drewN | apply IsS102.drew | apply IsS102.set_0 | apply IsS102.set_1 | apply IsS102.set_2 | refine IsS102.far ?_ NB249_261.out _) | exact (Aside0.mk (IsS102.of BK249.out GE249.out)).out)); (case side2 => repeat (first | (with_reducible first | exact HB.out | apply below_alloc | apply pw_below_drewN | apply below_drew1 | refine below_set ?_ (IsS102.ge (Aside0.mk (IsS102.of BK249.out GE249.out)).out) | refine below_set ?_ GE261.out) | exact HB.out)); rintro e w36 ⟨rfl, hi, hb, hk⟩; refine ⟨_, rfl, ?_⟩; have n0_ := Aside0.mk (Kd.S_mono (Kd.S_keep (IsS102.apartS (show IsS102 w _ gb249 t269 t270 t271 from by repeat (first | (with_reducible first | exact (Aside0.mk (IsS102.of BK249.out GE249.out)).out | apply IsS102.alloc | apply IsS102.drewN | apply IsS102.drew | apply IsS102.set_0 | apply IsS102.set_1 | apply IsS102.set_2 | refine IsS102.far ?_ NB249_261.out _) | exact (Aside0.mk (IsS102.of BK249.out GE249.out)).out)) (by (with_reducible repeat (first | apply Kd.S_alloc | apply Kd.S_drewN | apply Kd.S_drew)); exact HO254.out) (by decide)) hk (fun _ h => h.2)) (fun _ h => h.1)); have n1_ := Aside0.mk (Kd.R_mono (Kd.R_keep (IsS102.apart (show IsS102 w _ gb249 t269 t270 t271 from by repeat (first | (with_reducible first | exact (Aside0.mk (IsS102.of BK249.out GE249.out)).out | apply IsS102.alloc | apply IsS102.drewN | apply IsS102.drew | apply IsS102.set_0 | apply IsS102.set_1 | apply IsS102.set_2 | refine IsS102.far ?_ NB249_261.out _) | exact (Aside0.mk (IsS102.of BK249.out GE249.out)).out)) (by (with_reducible repeat (first | apply Kd.R_alloc | apply Kd.R_drewN | apply Kd.R_drew)); exact HO257.out) (by decide)) hk (fun _ h => h.2)) (fun _ h => h.1)); have n2_ := Aside0.mk (KeepBut.blk hk (g' := gb261) (o := .cells #[.int .u16 t250, .int .u16 t251, .slice Ao32 t252.length co32, .slice Ao33 t255.length co33] 109 (0, 0)) (by (with_reducible repeat (first | refine b1_ ?_ _ | refine b2_ ?_ | refine b3_ ?_ _)); exact BK261.out) NB261_249.out (by simp)); have n3_ := Aside0.mk (Kd.R_mono (Kd.R_keep (IsS102.apart (show IsS102 w _ gb249 t269 t270 t271 from by repeat (first | (with_reducible first | exact (Aside0.mk (IsS102.of BK249.out GE249.out)).out | apply IsS102.alloc | apply IsS102.drewN | apply IsS102.drew | apply IsS102.set_0 | apply IsS102.set_1 | apply IsS102.set_2 | refine IsS102.far ?_ NB249_261.out _) | exact (Aside0.mk (IsS102.of BK249.out GE249.out)).out)) (by (with_reducible repeat (first | apply Kd.R_alloc | apply Kd.R_drewN | apply Kd.R_drew)); exact HO264.out) (by decide)) hk (fun _ h => h.2)) (fun _ h => h.1)); have n4_ := Aside0.mk (hb); have n5_ := Aside0.mk (IsS102.cells hi); clear HO254; clear HO257; clear BK261; clear HO264; clear HB; clear BK249; have HO254 := n0_; have HO257 := n1_; have BK261 := n2_; have HO264 := n3_; have HB := n4_; have BK249 := n5_; clear n0_ n1_ n2_ n3_ n4_ n5_; (try clear hb); (try clear hb2); (try clear hk); (try clear hi)) | ((with_reducible refine gate_dst (N := 14) rfl ?_); refine box_event ?hg (N := 14) ?hd (cs := #[.int .u16 0, .int .u16 0]) (t := 115) ?hr ?_; (case hd => rfl); (case hg => rfl); (case hr => first | (go_simp; done) | (go_simp; rfl)); intro gb276 hg w37 hbox hb; have n0_ := Aside0.mk (Kd.S_below (by (with_reducible repeat (first | apply Kd.S_alloc | apply Kd.S_drewN | apply Kd.S_drew)); exact HO254.out) hb); have n1_ := Aside0.mk (Kd.R_below (by (with_reducible repeat (first | apply Kd.R_alloc | apply Kd.R_drewN | apply Kd.R_drew)); exact HO257.out) hb); have n2_ := Aside0.mk (Kd.R_below (by (with_reducible repeat (first | apply Kd.R_alloc | apply Kd.R_drewN | apply Kd.R_drew)); exact HO264.out) hb); have n3_ := Aside0.mk (blk_below (g := gb249) (o := .cells #[.int .i64 t273, .int .i64 t274, .bool false] 102 (0, 0)) (by (with_reducible repeat (first | refine b1_ ?_ _ | refine b2_ ?_ | refine b3_ ?_ _)); exact BK249.out) hb); have n4_ := Aside0.mk (blk_below (g := gb261) (o := .cells #[.int .u16 t250, .int .u16 t251, .slice Ao32 t252.length co32, .slice Ao33 t255.length co33] 109 (0, 0)) (by (with_reducible repeat (first | refine b1_ ?_ _ | refine b2_ ?_ | refine b3_ ?_ _)); exact BK261.out) hb); have n5_ := Aside0.mk (below_step (by repeat (first | (with_reducible first | exact HB.out | apply below_alloc | apply pw_below_drewN | apply below_drew1 | refine below_set ?_ GE249.out | refine below_set ?_ GE261.out) | exact HB.out)) hb); have n6_ := Aside0.mk (hbox); have n7_ := Aside0.mk ((by rw [hg]; exact (below_size (by repeat (first | (with_reducible first | exact HB.out | apply below_alloc | apply pw_below_drewN | apply below_drew1 | refine below_set ?_ GE249.out | refine below_set ?_ GE261.out) | exact HB.out))) : w.heap.size ≤ gb276)); have n8_ := Aside0.mk ((by rw [hg]; exact (below_size (by repeat (first | (with_reducible first | exact HB.out | apply below_alloc | apply pw_below_drewN | apply below_drew1 | refine below_set ?_ GE249.out | refine below_set ?_ GE261.out) | exact HB.out))) : w.heap.size ≤ gb276)); have n9_ := Aside0.mk ((by rw [hg]; exact Nat.ne_of_lt (blk_lt (g := gb249) (o := .cells #[.int .i64 t273, .int .i64 t274, .bool false] 102 (0, 0)) (by (with_reducible repeat (first | refine b1_ ?_ _ | refine b2_ ?_ | refine b3_ ?_ _)); exact BK249.out)) : gb249 ≠ gb276)); have n10_ := Aside0.mk ((by rw [hg]; exact Nat.ne_of_gt (blk_lt (g := gb249) (o := .cells #[.int .i64 t273, .int .i64 t274, .bool false] 102 (0, 0)) (by (with_reducible repeat (first | refine b1_ ?_ _ | refine b2_ ?_ | refine b3_ ?_ _)); exact BK249.out)) : gb276 ≠ gb249)); have n11_ := Aside0.mk ((by rw [hg]; exact Nat.ne_of_lt (blk_lt (g := gb261) (o := .cells #[.int .u16 t250, .int .u16 t251, .slice Ao32 t252.length co32, .slice Ao33 t255.length co33] 109 (0, 0)) (by (with_reducible repeat (first | refine b1_ ?_ _ | refine b2_ ?_ | refine b3_ ?_ _)); exact BK261.out)) : gb261 ≠ gb276)); have n12_ := Aside0.mk ((by rw [hg]; exact Nat.ne_of_gt (blk_lt (g := gb261) (o := .cells #[.int .u16 t250, .int .u16 t251, .slice Ao32 t252.length co32, .slice Ao33 t255.length co33] 109 (0, 0)) (by (with_reducible repeat (first | refine b1_ ?_ _ | refine b2_ ?_ | refine b3_ ?_ _)); exact BK261.out)) : gb276 ≠ gb261)); clear HO254; clear HO257; clear HO264; clear BK249; clear BK261; clear HB; have HO254 := n0_; have HO257 := n1_; have HO264 := n2_; have BK249 := n3_; have BK261 := n4_; have HB := n5_; have BK276 := n6_; have GW276 := n7_; have GE276 := n8_; have NB249_276 := n9_; have NB276_249 := n10_; have NB261_276 := n11_; have NB276_261 := n12_; clear n0_ n1_ n2_ n3_ n4_ n5_ n6_ n7_ n8_ n9_ n10_ n11_ n12_; clear hb hbox hg; have hnb38 := NB276_249.out; have hnc38 := NB249_276.out; have hnb39 := NB276_261.out; have hnc39 := NB261_276.out; have hcz40_0 : w37.cell? ⟨gb276, 0, none⟩ = some (.int .u16 0) := (blk_cell BK276.out 0).trans rfl; have hcz40_1 : w37.cell? ⟨gb276, 1, none⟩ = some (.int .u16 0) := (blk_cell BK276.out 1).trans rfl; have hfz40_0 := blk_frozen BK276.out 0; have hfz40_1 := blk_frozen BK276.out 1; have hcz41_0 : w37.cell? ⟨gb249, 0, none⟩ = some (.int .i64 t273) := (blk_cell BK249.out 0).trans rfl; have hcz41_1 : w37.cell? ⟨gb249, 1, none⟩ = some (.int .i64 t274) := (blk_cell BK249.out 1).trans rfl; have hcz41_2 : w37.cell? ⟨gb249, 2, none⟩ = some (.bool false) := (blk_cell BK249.out 2).trans rfl; have hfz41_0 := blk_frozen BK249.out 0; have hfz41_1 := blk_frozen BK249.out 1; have hfz41_2 := blk_frozen BK249.out 2; have hcz42_0 : w37.cell? ⟨gb261, 0, none⟩ = some (.int .u16 t250) := (blk_cell BK261.out 0).trans rfl; have hcz42_1 : w37.cell? ⟨gb261, 1, none⟩ = some (.int .u16 t251) := (blk_cell BK261.out 1).trans rfl; have hcz42_2 : w37.cell? ⟨gb261, 2, none⟩ = some (.slice Ao32 t252.length co32) := (blk_cell BK261.out 2).trans rfl; have hcz42_3 : w37.cell? ⟨gb261, 3, none⟩ = some (.slice Ao33 t255.length co33) := (blk_cell BK261.out 3).trans rfl; have hfz42_0 := blk_frozen BK261.out 0; have hfz42_1 := blk_frozen BK261.out 1; have hfz42_2 := blk_frozen BK261.out 2; have hfz42_3 := blk_frozen BK261.out 3; obtain ⟨Ao43, co43, eo43⟩ := Kd.R_slice HO264.out; subst eo43) | ((with_reducible refine gate_callee (f := 36) rfl ?_); refine goesL_ (some 40) rfl rfl Try.func36 (by kernel_rfl) rfl #[.agg #[.int .u16 t250, .int .u16 t251, .slice Ao32 t252.length co32, .slice Ao33 t255.length co33], .agg #[.int .u16 t268, .int .u16 t272], .slice Ao43 t262.length co43] rfl (by (try simp only [List.map_toArray, List.map_cons, List.map_nil]); first | done | rfl | (simp only [List.length_drop, List.length_take]; rfl)) ?_; (with_reducible refine (tables_ItemVarStore_GetDelta.calls k t250 t251 _ _ t252 _ _ t255 t268 t272 _ _ t262 t277 _ ?side1 ?side2 ?side3 ?side4 ?side5 ?side6 A26.out).mono ?_); (case side1 => refine (Kd.S_reads' (e := 182) (base := w.heap.size) (ok := fun k_ => True) (n := t252.length) (c := co32) ?_).2.2; exact (by (with_reducible repeat (first | apply Kd.S_alloc | apply Kd.S_drewN | apply Kd.S_drew)); exact (Kd.S_mono (Kd.S_far (p := ⟨gb276, 1, none⟩) (Kd.S_far (p := ⟨gb276, 0, none⟩) (Kd.S_types HO254.out BK276.out (by decide)) (fun _ hk => hk.2) (.int .u16 t268)) (fun _ hk => hk.2) (.int .u16 t272)) (fun _ h_ => h_.1)))); (case side2 => exact (Kd.S_reads' HO254.out).2.1); (case side3 => refine (Kd.R_reads' (e := 186) (base := w.heap.size) (ok := fun k_ => True) (n := t255.length) (c := co33) ?_).2.2; exact (by (with_reducible repeat (first | apply Kd.R_alloc | apply Kd.R_drewN | apply Kd.R_drew)); exact (Kd.R_mono (Kd.R_far (p := ⟨gb276, 1, none⟩) (Kd.R_far (p := ⟨gb276, 0, none⟩) (Kd.R_types HO257.out BK276.out (by decide)) (fun _ hk => hk.2) (.int .u16 t268)) (fun _ hk => hk.2) (.int .u16 t272)) (fun _ h_ => h_.1)))); (case side4 => exact (Kd.R_reads' HO257.out).2.1); (case side5 => refine (Kd.R_reads' (e := 175) (base := w.heap.size) (ok := fun k_ => True) (n := t262.length) (c := co43) ?_).2.2; exact (by (with_reducible repeat (first | apply Kd.R_alloc | apply Kd.R_drewN | apply Kd.R_drew)); exact (Kd.R_mono (Kd.R_far (p := ⟨gb276, 1, none⟩) (Kd.R_far (p := ⟨gb276, 0, none⟩) (Kd.R_types HO264.out BK276.out (by decide)) (fun _ hk => hk.2) (.int .u16 t268)) (fun _ hk => hk.2) (.int .u16 t272)) (fun _ h_ => h_.1)))); (case side6 => exact (Kd.R_reads' HO264.out).2.1); rintro e w44 ⟨rfl, hb⟩; refine ⟨_, rfl, ?_⟩; have n0_ := Aside0.mk (Kd.S_below (by (with_reducible repeat (first | apply Kd.S_alloc | apply Kd.S_drewN | apply Kd.S_drew)); exact (Kd.S_mono (Kd.S_far (p := ⟨gb276, 1, none⟩) (Kd.S_far (p := ⟨gb276, 0, none⟩) (Kd.S_types HO254.out BK276.out (by decide)) (fun _ hk => hk.2) (.int .u16 t268)) (fun _ hk => hk.2) (.int .u16 t272)) (fun _ h_ => h_.1))) hb); have n1_ := Aside0.mk (Kd.R_below (by (with_reducible repeat (first | apply Kd.R_alloc | apply Kd.R_drewN | apply Kd.R_drew)); exact (Kd.R_mono (Kd.R_far (p := ⟨gb276, 1, none⟩) (Kd.R_far (p := ⟨gb276, 0, none⟩) (Kd.R_types HO257.out BK276.out (by decide)) (fun _ hk => hk.2) (.int .u16 t268)) (fun _ hk => hk.2) (.int .u16 t272)) (fun _ h_ => h_.1))) hb); have n2_ := Aside0.mk (Kd.R_below (by (with_reducible repeat (first | apply Kd.R_alloc | apply Kd.R_drewN | apply Kd.R_drew)); exact (Kd.R_mono (Kd.R_far (p := ⟨gb276, 1, none⟩) (Kd.R_far (p := ⟨gb276, 0, none⟩) (Kd.R_types HO264.out BK276.out (by decide)) (fun _ hk => hk.2) (.int .u16 t268)) (fun _ hk => hk.2) (.int .u16 t272)) (fun _ h_ => h_.1))) hb); have n3_ := Aside0.mk (blk_below (g := gb249) (o := .cells #[.int .i64 t273, .int .i64 t274, .bool false] 102 (0, 0)) (by (with_reducible repeat (first | refine b1_ ?_ _ | refine b2_ ?_ | refine b3_ ?_ _)); refine blk_far ?_ NB249_276.out _; (with_reducible repeat (first | refine b1_ ?_ _ | refine b2_ ?_ | refine b3_ ?_ _)); refine blk_far ?_ NB249_276.out _; (with_reducible repeat (first | refine b1_ ?_ _ | refine b2_ ?_ | refine b3_ ?_ _)); exact BK249.out) hb); have n4_ := Aside0.mk (blk_below (g := gb261) (o := .cells #[.int .u16 t250, .int .u16 t251, .slice Ao32 t252.length co32, .slice Ao33 t255.length co33] 109 (0, 0)) (by (with_reducible repeat (first | refine b1_ ?_ _ | refine b2_ ?_ | refine b3_ ?_ _)); refine blk_far ?_ NB261_276.out _; (with_reducible repeat (first | refine b1_ ?_ _ | refine b2_ ?_ | refine b3_ ?_ _)); refine blk_far ?_ NB261_276.out _; (with_reducible repeat (first | refine b1_ ?_ _ | refine b2_ ?_ | refine b3_ ?_ _)); exact BK261.out) hb); have n5_ := Aside0.mk (blk_below (g := gb276) (o := .cells #[.int .u16 t268, .int .u16 t272] 115 (0, 0)) (by (with_reducible repeat (first | refine b1_ ?_ _ | refine b2_ ?_ | refine b3_ ?_ _)); refine blk_put (cs := #[.int .u16 t268, .int .u16 0]) ?_ 1 _ rfl; (with_reducible repeat (first | refine b1_ ?_ _ | refine b2_ ?_ | refine b3_ ?_ _)); refine blk_put (cs := #[.int .u16 0, .int .u16 0]) ?_ 0 _ rfl; (with_reducible repeat (first | refine b1_ ?_ _ | refine b2_ ?_ | refine b3_ ?_ _)); exact BK276.out) hb); have n6_ := Aside0.mk (below_step (by repeat (first | (with_reducible first | exact HB.out | apply below_alloc | apply pw_below_drewN | apply below_drew1 | refine below_set ?_ GE249.out | refine below_set ?_ GE261.out | refine below_set ?_ GE276.out) | exact HB.out)) hb); clear HO254; clear HO257; clear HO264; clear BK249; clear BK261; clear BK276; clear HB; have HO254 := n0_; have HO257 := n1_; have HO264 := n2_; have BK249 := n3_; have BK261 := n4_; have BK276 := n5_; have HB := n6_; clear n0_ n1_ n2_ n3_ n4_ n5_ n6_; (try clear hb); (try clear hb2); (try clear hk); (try clear hi)))
  go_ret
  exact ⟨by first | rfl | (simp [errW_none, errW_some] <;> rfl) | (simp [*, errW_none, errW_some] <;> rfl), by repeat (first | (with_reducible first | exact HB.out | apply below_alloc | apply pw_below_drewN | apply below_drew1 | refine below_set ?_ GE249.out | refine below_set ?_ GE261.out | refine below_set ?_ GE276.out) | exact HB.out)⟩

end Go.Proofs.Ytlbmfnjhpojghaa.PFnDelta
