-- Written by a program of this session (xprint) out of the translation; Lean checks it.
import Derived.Test.YtlbmfnjhpojghaaPFnAdvanceDeltax0
import Derived.Test.YtlbmfnjhpojghaaPFnAdvanceDeltax4
namespace Go.Proofs.Ytlbmfnjhpojghaa.PFnAdvanceDelta
open Go.RowKit Go.Proofs.YtlbmfnjhpojghaaW.PrintWords Go.Proofs.YtlbmfnjhpojghaaW.PrintLast Go.Proofs.YtlbmfnjhpojghaaW.PrintMore
attribute [local go_sem] max2_int min2_int max_two min_two max_three min_three max_four min_four   -- for this text's walks alone
set_option linter.unusedVariables false
set_option linter.unusedSimpArgs false

attribute [local go_sem] f_add f_sub f_mul f_quo f_conv f_same f_int f_max
/-! ### impl_builder_coords: function 34 -/
def impl_builder_coords.l0 : Nat → List Int → List Int → Int → Int → Int → Int → Bool → Option (List Int × Int × Int × Bool)
 | 0, _, _, _, _, _, _, _ => none
 | k + 1, x4, x7, x8, x9, x1000, x1001, x1002 => if x9 < x8 then (if 0 ≤ x9 then (if x9 < (x7.length : Int) then ((impl_builder_signed.f x1000 x1001 x1002 (rd x7 x9)).bind fun bt235 => (if x4.length < 70368744177664 then (impl_builder_coords.l0 k (x4 ++ [bt235.1]) x7 x8 (wrap64 (x9 + 1)) bt235.2.1 bt235.2.2.1 bt235.2.2.2) else (none))) else (none)) else (none)) else (some (x4, x1000, x1001, x1002))
def impl_builder_coords.f (k : Nat) (s0_0 : Int) (s0_1 : Int) (s0_2 : Bool) (l1 : List Int) : Option (List Int × Int × Int × Bool) := impl_builder_coords.l0 k ([] : List Int) l1 (l1.length : Int) 0 s0_0 s0_1 s0_2
theorem impl_builder_coords.mono_l : ∀ k, (∀ y0 y1 y2 y3 y4 y5 y6, LeO (impl_builder_coords.l0 k y0 y1 y2 y3 y4 y5 y6) (impl_builder_coords.l0 (k + 1) y0 y1 y2 y3 y4 y5 y6))
 | 0 => fun _ _ _ _ _ _ _ r h => by simp [impl_builder_coords.l0] at h
 | k + 1 => by
  have ih0 := impl_builder_coords.mono_l k
  ·intro y0 y1 y2 y3 y4 y5 y6
   unfold impl_builder_coords.l0
   repeat' first
   | (with_reducible exact ih0 _ _ _ _ _ _ _)
   | (with_reducible exact LeO.refl _)
   | (with_reducible exact LeO.none _)
   | (with_reducible refine LeO.ite ?_ ?_)
   | (with_reducible refine LeO.bind ?_ (fun _ => ?_))
   | exact ih0 _ _ _ _ _ _ _
   | exact LeO.none _
   | refine LeO.ite ?_ ?_
   | refine LeO.bind ?_ (fun _ => ?_)
theorem impl_builder_coords.mono : ∀ a0 a1 a2 a3 k, LeO (impl_builder_coords.f k a0 a1 a2 a3) (impl_builder_coords.f (k + 1) a0 a1 a2 a3) := by
 intro a0 a1 a2 a3 k
 have ih0 := impl_builder_coords.mono_l k
 unfold impl_builder_coords.f
 repeat' first
   | (with_reducible exact ih0 _ _ _ _ _ _ _)
   | (with_reducible exact LeO.refl _)
   | (with_reducible exact LeO.none _)
   | (with_reducible refine LeO.ite ?_ ?_)
   | (with_reducible refine LeO.bind ?_ (fun _ => ?_))
   | exact ih0 _ _ _ _ _ _ _
   | exact LeO.none _
   | refine LeO.ite ?_ ?_
   | refine LeO.bind ?_ (fun _ => ?_)
set_option maxHeartbeats 8000000 in
set_option maxRecDepth 100000 in
theorem impl_builder_coords.calls (k : Nat) (g : Nat) (s0_0 : Int) (s0_1 : Int) (s0_2 : Bool) (A1 : Option Addr) (c1 : Nat) (l1 : List Int) (r1 : List Int) (r2 : Int) (r3 : Int) (r4 : Bool) (w0 w : World) (hI : IsS102 w0 w g s0_0 s0_1 s0_2) (hB : Below w0.heap.size w0 w) (hr1 : Kd.C (Kd.int .i64) w A1 l1.length l1) (hc1 : l1.length ≤ c1) (hf1 : ∀ ad, A1 = some ad → 0 < l1.length → ad.block ≠ g) (h : impl_builder_coords.f k s0_0 s0_1 s0_2 l1 = some (r1, r2, r3, r4)) :
  Calls Try.prog 34 #[.pointer (some ⟨g, 0, none⟩), .slice A1 l1.length c1] w fun e w' => ∃ v0_ : Value, e = .returned (v0_) ∧ Kd.R (Kd.int .i16) 175 w' w.heap.size (fun _ => True) v0_ r1 ∧ IsS102 w0 w' g r2 r3 r4 ∧ Below w0.heap.size w0 w' ∧ KeepBut w w' g none := by
 have HR1 := Aside0.mk hr1
 have HC1 := Aside0.mk hc1
 clear hr1 hc1
 have HI0 := Aside0.mk hI
 have HK := Aside0.mk (KeepBut.refl w g none)
 have HL := Aside0.mk hB.size
 clear hI
 have HW0 := Aside0.mk hB.size
 have HB := Aside0.mk hB
 clear hB
 have H : (impl_builder_coords.l0 k ([] : List Int) l1 (l1.length : Int) 0 s0_0 s0_1 s0_2) = some (r1, r2, r3, r4) := h
 clear h
 have H' := Aside0.mk H
 clear H
 go_enter Try.func34, Try.ntmps34
 go_wp2
 go_loopg [4, 9] k (fun kq v4 v9 w' => ∃ (x4_1 : List Int) (x9_1 : Int) (x1000_1 : Int) (x1001_1 : Int) (x1002_1 : Bool), v9 = .int .i64 x9_1 ∧ Aside0 (impl_builder_coords.l0 kq x4_1 l1 (l1.length : Int) x9_1 x1000_1 x1001_1 x1002_1 = some (r1, r2, r3, r4)) ∧ Aside0 (kq ≤ k) ∧ Aside0 (Kd.R (Kd.int .i16) 175 w' w.heap.size (fun _ => True) v4 x4_1) ∧ Aside0 (IsS102 w0 w' g x1000_1 x1001_1 x1002_1) ∧ Aside0 (KeepBut w w' g none) ∧ Aside0 (Below w0.heap.size w0 w'))
 case atStart => exact ⟨(([] : List Int)), (0), (s0_0), (s0_1), (s0_2), (by first | rfl | (simp; done) | (simp [*]; done)), H', ⟨Nat.le_refl _⟩, ⟨by first | exact Kd.R_nil _ _ _ _ _ | exact Kd.N_nil _ _ _ _ _ | exact Kd.V_nil _ _ _ _ _ | exact Kd.Q_nil _ _ _ _ _ | exact Kd.S_nil _ _ _ _ _⟩, ⟨by repeat (first | (with_reducible first | exact HI0.out | apply IsS102.alloc | apply IsS102.drewN | apply IsS102.drew | apply IsS102.set_0 | apply IsS102.set_1 | apply IsS102.set_2) | exact HI0.out)⟩, ⟨by repeat (first | (with_reducible first | exact HK.out | apply KeepBut.set_ | apply keep_drewN | apply keep_drew | apply keep_alloc) | exact HK.out)⟩, ⟨by repeat (first | (with_reducible first | exact HB.out | apply below_alloc | apply pw_below_drewN | apply below_drew1 | refine below_set ?_ (IsS102.ge HI0.out)) | exact HB.out)⟩⟩
 case round =>
  clear H'
  try clear c1
  try clear p2
  obtain ⟨x4_1, x9_1, x1000_1, x1001_1, x1002_1, rfl, HA, HK1, HO_4, HI0, HK, HB⟩ := hrel
  cases gk with
  | zero => exact absurd HA.out (by simp [impl_builder_coords.l0])
  | succ k1 =>
   have H := HA.out
   clear HA
   simp only [impl_builder_coords.l0] at H
   by_cases c3 : x9_1 < (l1.length : Int)
   ·rw [if_pos c3] at H
    have c3b0 : decide (x9_1 < (l1.length : Int)) = true := decide_eq_true c3
    clear c3
    by_cases c4 : 0 ≤ x9_1
    ·rw [if_pos c4] at H
     have c4b0 : decide (0 ≤ x9_1) = true := decide_eq_true c4
     clear c4
     by_cases c5 : x9_1 < (l1.length : Int)
     ·rw [if_pos c5] at H
      have c5b0 : decide (x9_1 < (l1.length : Int)) = true := decide_eq_true c5
      clear c5
      replace H := Option.bind_eq_some_iff.mp H
      obtain ⟨⟨t235, t236, t237, t238⟩, A60, H⟩ := H
      replace H : (if x4_1.length < 70368744177664 then (impl_builder_coords.l0 k1 (x4_1 ++ [t235]) l1 (l1.length : Int) (wrap64 (x9_1 + 1)) t236 t237 t238) else (none)) = some (r1, r2, r3, r4) := H
      have A6 := Aside0.mk A60
      clear A60
      by_cases c7 : x4_1.length < 70368744177664
      ·rw [if_pos c7] at H
       have LMc7 := Aside0.mk c7
       clear c7
       obtain ⟨y239, hy239⟩ : ∃ y_ : List Int, y_ = (x4_1 ++ [t235]) := ⟨_, rfl⟩
       replace H : (impl_builder_coords.l0 k1 y239 l1 (l1.length : Int) (wrap64 (x9_1 + 1)) t236 t237 t238) = some (r1, r2, r3, r4) := by first | (rw [hy239]; with_reducible exact H) | (have H2_ := (Option.bind_some _ _).symm.trans H; rw [hy239]; with_reducible exact H2_) | (have H2_ := (Option.bind_some _ _).symm.trans H; with_reducible exact H2_) | with_reducible exact H | (rw [hy239]; exact H) | exact H
       have Ny239 := Aside0.mk hy239
       clear hy239
       have H' := Aside0.mk H
       clear H
       have p234 : 0 ≤ (x9_1 : Int) := of_decide_eq_true (by first | (with_reducible assumption) | assumption)
       have q234 : x9_1 < (l1.length : Int) := of_decide_eq_true (by first | (with_reducible assumption) | assumption)
       obtain ⟨ad234, e234, hx234_0⟩ := Kd.at_int HR1.out x9_1 p234 q234
       cases e234
       replace hx234_0 := keep_cell HK.out hx234_0 (by first | (rw [add_block]; exact hf1 _ rfl (by omega)) | exact hf1 _ rfl (by omega) | exact hf1 ad234 rfl (by omega))
       replace p234 := eq_true p234
       replace q234 := eq_true q234
       go_wp2_with (first | ((with_reducible refine gate_callee (f := 51) rfl ?_); refine goesL_ (some 16) rfl rfl Try.func51 (by kernel_rfl) rfl #[.pointer (some ⟨g, 0, none⟩), .int .i64 (rd l1 x9_1)] rfl (by (try simp only [List.map_toArray, List.map_cons, List.map_nil]); first | done | rfl | (simp only [List.length_drop, List.length_take]; rfl)) ?_; (with_reducible refine (impl_builder_signed.calls g x1000_1 x1001_1 x1002_1 (rd l1 x9_1) t235 t236 t237 t238 w0 _ ?side1 ?side2 A6.out).mono ?_); (case side1 => repeat (first | (with_reducible first | exact HI0.out | apply IsS102.alloc | apply IsS102.drewN | apply IsS102.drew | apply IsS102.set_0 | apply IsS102.set_1 | apply IsS102.set_2) | exact HI0.out)); (case side2 => repeat (first | (with_reducible first | exact HB.out | apply below_alloc | apply pw_below_drewN | apply below_drew1 | refine below_set ?_ (IsS102.ge HI0.out)) | exact HB.out)); rintro e w8 ⟨rfl, hi, hb, hk⟩; refine ⟨_, rfl, ?_⟩; have n0_ := Aside0.mk (Kd.R_mono (Kd.R_keep (IsS102.apart (show IsS102 w0 _ g x1000_1 x1001_1 x1002_1 from by repeat (first | (with_reducible first | exact HI0.out | apply IsS102.alloc | apply IsS102.drewN | apply IsS102.drew | apply IsS102.set_0 | apply IsS102.set_1 | apply IsS102.set_2) | exact HI0.out)) (by (with_reducible repeat (first | apply Kd.R_alloc | apply Kd.R_drewN | apply Kd.R_drew)); exact HO_4.out) (by decide)) hk (fun _ h => h.2)) (fun _ h => h.1)); have n1_ := Aside0.mk (KeepBut.trans (by repeat (first | (with_reducible first | exact HK.out | apply KeepBut.set_ | apply keep_drewN | apply keep_drew | apply keep_alloc) | exact HK.out)) hk (.inl rfl)); have n2_ := Aside0.mk (hb); have n3_ := Aside0.mk (hi); clear HO_4; clear HK; clear HB; clear HI0; have HO_4 := n0_; have HK := n1_; have HB := n2_; have HI0 := n3_; clear n0_ n1_ n2_ n3_; (try clear hb); (try clear hb2); (try clear hk); (try clear hi)) | ((with_reducible refine gate_builtin (b := .append) (xs := #[.tmp 13, .tmp 17]) rfl ?_); at_builtin; refine Kd.R_append (Kd.int .i16) w.heap.size rfl (.tmp 13) (.tmp 17) 111 175 (.int .i16 0) 2 rfl Try.underlying111 info175 rfl (by decide) (by omega) u4 x4_1 t235 [.int .i16 t235] (fun _ => True) (fun _ => False) rfl rfl ?aP (fun _ hk => hk.elim) ?aF ?aO (Below.refl _ _) ?aS ?aL ?_; (case aP => exact rfl); (case aF => exact (fun _ _ => trivial)); (case aO => exact (by (with_reducible repeat (first | apply Kd.R_alloc | apply Kd.R_drewN | apply Kd.R_drew)); exact HO_4.out)); (case aS => exact (keep_size (w := w) (g := g) (row := none) (by repeat (first | (with_reducible first | exact HK.out | apply KeepBut.set_ | apply keep_drewN | apply keep_drew | apply keep_alloc) | exact HK.out)))); (case aL => have := LMc7.out; omega); intro v240 w9 ho hb hg hat; rw [← Ny239.out] at ho; have n0_ := Aside0.mk (IsS102.grown (by repeat (first | (with_reducible first | exact HI0.out | apply IsS102.alloc | apply IsS102.drewN | apply IsS102.drew | apply IsS102.set_0 | apply IsS102.set_1 | apply IsS102.set_2) | exact HI0.out)) hg (IsS102.own_ne HI0.out HO_4.out (by decide))); have n1_ := Aside0.mk (below_weaken (by repeat (first | (with_reducible first | exact HB.out | apply below_alloc | apply pw_below_drewN | apply below_drew1 | refine below_set ?_ (IsS102.ge HI0.out)) | exact HB.out)) HL.out hb); have n2_ := Aside0.mk (KeepBut.trans (by repeat (first | (with_reducible first | exact HK.out | apply KeepBut.set_ | apply keep_drewN | apply keep_drew | apply keep_alloc) | exact HK.out)) (KeepBut.of_grown hg g) (Kd.R_base2 HO_4.out)); have n3_ := Aside0.mk (ho); clear HI0; clear HB; clear HK; clear HO_4; have HI0 := n0_; have HB := n1_; have HK := n2_; have HO241 := n3_; clear n0_ n1_ n2_ n3_; clear ho hb hg hat))
       go_roundg k1
       case measure => have := HK1.out; omega
       case rel => exact ⟨(y239), (wrap64 (x9_1 + 1)), (t236), (t237), (t238), (by first | rfl | (simp; done) | (simp [*]; done)), H', ⟨by have := HK1.out; omega⟩, ⟨by (with_reducible repeat (first | apply Kd.R_alloc | apply Kd.R_drewN | apply Kd.R_drew)); exact HO241.out⟩, ⟨by repeat (first | (with_reducible first | exact HI0.out | apply IsS102.alloc | apply IsS102.drewN | apply IsS102.drew | apply IsS102.set_0 | apply IsS102.set_1 | apply IsS102.set_2) | exact HI0.out)⟩, ⟨by repeat (first | (with_reducible first | exact HK.out | apply KeepBut.set_ | apply keep_drewN | apply keep_drew | apply keep_alloc) | exact HK.out)⟩, ⟨by repeat (first | (with_reducible first | exact HB.out | apply below_alloc | apply pw_below_drewN | apply below_drew1 | refine below_set ?_ (IsS102.ge HI0.out)) | exact HB.out)⟩⟩
      ·rw [if_neg c7] at H
       exact absurd H (by simp)
     ·rw [if_neg c5] at H
      exact absurd H (by simp)
    ·rw [if_neg c4] at H
     exact absurd H (by simp)
   ·rw [if_neg c3] at H
    have c3b0 : decide (x9_1 < (l1.length : Int)) = false := decide_eq_false c3
    clear c3
    simp only [Option.some.injEq, Prod.mk.injEq] at H
    obtain ⟨rfl, rfl, rfl, rfl⟩ := H
    go_wp2
    go_ret
    exact ⟨_, by first | rfl | (simp [errW_none, errW_some] <;> rfl) | (simp [*, errW_none, errW_some] <;> rfl), by (with_reducible repeat (first | apply Kd.R_alloc | apply Kd.R_drewN | apply Kd.R_drew)); exact HO_4.out, by repeat (first | (with_reducible first | exact HI0.out | apply IsS102.alloc | apply IsS102.drewN | apply IsS102.drew | apply IsS102.set_0 | apply IsS102.set_1 | apply IsS102.set_2) | exact HI0.out), by repeat (first | (with_reducible first | exact HB.out | apply below_alloc | apply pw_below_drewN | apply below_drew1 | refine below_set ?_ (IsS102.ge HI0.out)) | exact HB.out), by repeat (first | (with_reducible first | exact HK.out | apply KeepBut.set_ | apply keep_drewN | apply keep_drew | apply keep_alloc) | exact HK.out)⟩

/-! ### tables_RegionAxisCoordinates_evaluate: function 69 -/
def tables_RegionAxisCoordinates_evaluate.j0 : Nat → Int → Int → Int → Int → Bool → Option (Nat)
 | 0, _, _, _, _, _ => none
 | k + 1, x1, x5, x6, x7, x20 => if x20 = true then (some 1065353216) else (if x1 = 0 then (some 0) else (if x1 ≤ x5 then (some 0) else (if x7 ≤ x1 then (some 0) else (if x1 < x6 then (if fok .quo .f32 (floatOfInt .f32 (IntKind.i16.wrap (x1 - x5))) (floatOfInt .f32 (IntKind.i16.wrap (x6 - x5))) = true then (some (fv .quo .f32 (floatOfInt .f32 (IntKind.i16.wrap (x1 - x5))) (floatOfInt .f32 (IntKind.i16.wrap (x6 - x5))))) else (none)) else (if fok .quo .f32 (floatOfInt .f32 (IntKind.i16.wrap (x7 - x1))) (floatOfInt .f32 (IntKind.i16.wrap (x7 - x6))) = true then (some (fv .quo .f32 (floatOfInt .f32 (IntKind.i16.wrap (x7 - x1))) (floatOfInt .f32 (IntKind.i16.wrap (x7 - x6))))) else (none))))))
def tables_RegionAxisCoordinates_evaluate.f (k : Nat) (a0_0 : Int) (a0_1 : Int) (a0_2 : Int) (a1 : Int) : Option (Nat) := if a0_1 = 0 then (tables_RegionAxisCoordinates_evaluate.j0 k a1 a0_0 a0_1 a0_2 true) else (tables_RegionAxisCoordinates_evaluate.j0 k a1 a0_0 a0_1 a0_2 (a1 == a0_1))
theorem tables_RegionAxisCoordinates_evaluate.mono_l : ∀ k, (∀ y0 y1 y2 y3 y4, LeO (tables_RegionAxisCoordinates_evaluate.j0 k y0 y1 y2 y3 y4) (tables_RegionAxisCoordinates_evaluate.j0 (k + 1) y0 y1 y2 y3 y4))
 | 0 => fun _ _ _ _ _ r h => by simp [tables_RegionAxisCoordinates_evaluate.j0] at h
 | k + 1 => by
  have ih0 := tables_RegionAxisCoordinates_evaluate.mono_l k
  ·intro y0 y1 y2 y3 y4
   unfold tables_RegionAxisCoordinates_evaluate.j0
   repeat' first
   | (with_reducible exact ih0 _ _ _ _ _)
   | (with_reducible exact LeO.refl _)
   | (with_reducible exact LeO.none _)
   | (with_reducible refine LeO.ite ?_ ?_)
   | (with_reducible refine LeO.bind ?_ (fun _ => ?_))
   | exact ih0 _ _ _ _ _
   | exact LeO.none _
   | refine LeO.ite ?_ ?_
   | refine LeO.bind ?_ (fun _ => ?_)
theorem tables_RegionAxisCoordinates_evaluate.mono : ∀ a0 a1 a2 a3 k, LeO (tables_RegionAxisCoordinates_evaluate.f k a0 a1 a2 a3) (tables_RegionAxisCoordinates_evaluate.f (k + 1) a0 a1 a2 a3) := by
 intro a0 a1 a2 a3 k
 have ih0 := tables_RegionAxisCoordinates_evaluate.mono_l k
 unfold tables_RegionAxisCoordinates_evaluate.f
 repeat' first
   | (with_reducible exact ih0 _ _ _ _ _)
   | (with_reducible exact LeO.refl _)
   | (with_reducible exact LeO.none _)
   | (with_reducible refine LeO.ite ?_ ?_)
   | (with_reducible refine LeO.bind ?_ (fun _ => ?_))
   | exact ih0 _ _ _ _ _
   | exact LeO.none _
   | refine LeO.ite ?_ ?_
   | refine LeO.bind ?_ (fun _ => ?_)
set_option maxHeartbeats 8000000 in
set_option maxRecDepth 100000 in
theorem tables_RegionAxisCoordinates_evaluate.calls (k : Nat) (a0_0 : Int) (a0_1 : Int) (a0_2 : Int) (a1 : Int) (r : Nat) (w : World) (h : tables_RegionAxisCoordinates_evaluate.f k a0_0 a0_1 a0_2 a1 = some r) :
  Calls Try.prog 69 #[.agg #[.int .i16 a0_0, .int .i16 a0_1, .int .i16 a0_2], .int .i16 a1] w fun e w' => e = .returned (.float .f32 r) ∧ Below w.heap.size w w' := by
 have hu184 := Try.underlying184
 have HB := Aside0.mk (Below.refl w.heap.size w)
 have H : (if a0_1 = 0 then (tables_RegionAxisCoordinates_evaluate.j0 k a1 a0_0 a0_1 a0_2 true) else (tables_RegionAxisCoordinates_evaluate.j0 k a1 a0_0 a0_1 a0_2 (a1 == a0_1))) = some r := h
 clear h
 have HC3 := Aside0.mk H
 clear H
 go_enter Try.func69, Try.ntmps69
 go_upto_region 2 with (first | ((with_reducible refine gate_dst (N := 2) rfl ?_); refine box_event ?hg (N := 2) ?hd (cs := #[.int .i16 a0_0, .int .i16 a0_1, .int .i16 a0_2]) (t := 184) ?hr ?_; (case hd => rfl); (case hg => rfl); (case hr => first | (go_simp; done) | (go_simp; rfl)); intro gb242 hg w4 hbox hb; have n0_ := Aside0.mk (below_step (by repeat (first | (with_reducible first | exact HB.out | apply below_alloc | apply pw_below_drewN | apply below_drew1) | exact HB.out)) hb); have n1_ := Aside0.mk (hbox); have n2_ := Aside0.mk ((by rw [hg]; exact (below_size (by repeat (first | (with_reducible first | exact HB.out | apply below_alloc | apply pw_below_drewN | apply below_drew1) | exact HB.out))) : w.heap.size ≤ gb242)); have n3_ := Aside0.mk ((by rw [hg]; exact (below_size (by repeat (first | (with_reducible first | exact HB.out | apply below_alloc | apply pw_below_drewN | apply below_drew1) | exact HB.out))) : w.heap.size ≤ gb242)); clear HB; have HB := n0_; have BK242 := n1_; have GW242 := n2_; have GE242 := n3_; clear n0_ n1_ n2_ n3_; clear hb hbox hg; have hcz5_0 : w4.cell? ⟨gb242, 0, none⟩ = some (.int .i16 a0_0) := (blk_cell BK242.out 0).trans rfl; have hcz5_1 : w4.cell? ⟨gb242, 1, none⟩ = some (.int .i16 a0_1) := (blk_cell BK242.out 1).trans rfl; have hcz5_2 : w4.cell? ⟨gb242, 2, none⟩ = some (.int .i16 a0_2) := (blk_cell BK242.out 2).trans rfl; have hfz5_0 := blk_frozen BK242.out 0; have hfz5_1 := blk_frozen BK242.out 1; have hfz5_2 := blk_frozen BK242.out 2))
 repeat (go_quiet (first | ((with_reducible refine gate_dst (N := 2) rfl ?_); refine box_event ?hg (N := 2) ?hd (cs := #[.int .i16 a0_0, .int .i16 a0_1, .int .i16 a0_2]) (t := 184) ?hr ?_; (case hd => rfl); (case hg => rfl); (case hr => first | (go_simp; done) | (go_simp; rfl)); intro gb242 hg w4 hbox hb; have n0_ := Aside0.mk (below_step (by repeat (first | (with_reducible first | exact HB.out | apply below_alloc | apply pw_below_drewN | apply below_drew1) | exact HB.out)) hb); have n1_ := Aside0.mk (hbox); have n2_ := Aside0.mk ((by rw [hg]; exact (below_size (by repeat (first | (with_reducible first | exact HB.out | apply below_alloc | apply pw_below_drewN | apply below_drew1) | exact HB.out))) : w.heap.size ≤ gb242)); have n3_ := Aside0.mk ((by rw [hg]; exact (below_size (by repeat (first | (with_reducible first | exact HB.out | apply below_alloc | apply pw_below_drewN | apply below_drew1) | exact HB.out))) : w.heap.size ≤ gb242)); clear HB; have HB := n0_; have BK242 := n1_; have GW242 := n2_; have GE242 := n3_; clear n0_ n1_ n2_ n3_; clear hb hbox hg; have hcz5_0 : w4.cell? ⟨gb242, 0, none⟩ = some (.int .i16 a0_0) := (blk_cell BK242.out 0).trans rfl; have hcz5_1 : w4.cell? ⟨gb242, 1, none⟩ = some (.int .i16 a0_1) := (blk_cell BK242.out 1).trans rfl; have hcz5_2 : w4.cell? ⟨gb242, 2, none⟩ = some (.int .i16 a0_2) := (blk_cell BK242.out 2).trans rfl; have hfz5_0 := blk_frozen BK242.out 0; have hfz5_1 := blk_frozen BK242.out 1; have hfz5_2 := blk_frozen BK242.out 2)); go_upto_region 2 with (first | ((with_reducible refine gate_dst (N := 2) rfl ?_); refine box_event ?hg (N := 2) ?hd (cs := #[.int .i16 a0_0, .int .i16 a0_1, .int .i16 a0_2]) (t := 184) ?hr ?_; (case hd => rfl); (case hg => rfl); (case hr => first | (go_simp; done) | (go_simp; rfl)); intro gb242 hg w4 hbox hb; have n0_ := Aside0.mk (below_step (by repeat (first | (with_reducible first | exact HB.out | apply below_alloc | apply pw_below_drewN | apply below_drew1) | exact HB.out)) hb); have n1_ := Aside0.mk (hbox); have n2_ := Aside0.mk ((by rw [hg]; exact (below_size (by repeat (first | (with_reducible first | exact HB.out | apply below_alloc | apply pw_below_drewN | apply below_drew1) | exact HB.out))) : w.heap.size ≤ gb242)); have n3_ := Aside0.mk ((by rw [hg]; exact (below_size (by repeat (first | (with_reducible first | exact HB.out | apply below_alloc | apply pw_below_drewN | apply below_drew1) | exact HB.out))) : w.heap.size ≤ gb242)); clear HB; have HB := n0_; have BK242 := n1_; have GW242 := n2_; have GE242 := n3_; clear n0_ n1_ n2_ n3_; clear hb hbox hg; have hcz5_0 : w4.cell? ⟨gb242, 0, none⟩ = some (.int .i16 a0_0) := (blk_cell BK242.out 0).trans rfl; have hcz5_1 : w4.cell? ⟨gb242, 1, none⟩ = some (.int .i16 a0_1) := (blk_cell BK242.out 1).trans rfl; have hcz5_2 : w4.cell? ⟨gb242, 2, none⟩ = some (.int .i16 a0_2) := (blk_cell BK242.out 2).trans rfl; have hfz5_0 := blk_frozen BK242.out 0; have hfz5_1 := blk_frozen BK242.out 1; have hfz5_2 := blk_frozen BK242.out 2)))
 (try simp only [Act.put, L1_, L2_, L3_])
 go_cut [20] (fun v20 wc => ∃ (kq : Nat) (x20_2 : Bool), v20 = .bool x20_2 ∧ Aside0 (tables_RegionAxisCoordinates_evaluate.j0 kq a1 a0_0 a0_1 a0_2 x20_2 = some r) ∧ Aside0 (kq ≤ k) ∧ Aside0 (wc.heap[gb242]? = some (.cells #[.int .i16 a0_0, .int .i16 a0_1, .int .i16 a0_2] 184 (0, 0))) ∧ Aside0 (Below w.heap.size w wc))
 case first =>
  have H := HC3.out
  clear HC3
  by_cases c6 : a0_1 = 0
  ·rw [if_pos c6] at H
   have c6b0 : (a0_1 == 0) = true := beq_iff_eq.mpr c6
   have c6b1 : (a0_1 != 0) = false := bne_eq_false_iff_eq.mpr c6
   clear c6
   (first | rw [c6b0] | (simp only [i64_w, i32_w]; rw [c6b0]) | skip)
   have H' := Aside0.mk H
   clear H
   go_wp2
   repeat (go_quiet (fail); try go_wp2)
   go_meet
   case rel => exact ⟨_, (true), (by first | rfl | (simp; done) | (simp [*]; done)), H', ⟨by first | omega | exact Nat.le_refl _⟩, ⟨by (with_reducible repeat (first | refine b1_ ?_ _ | refine b2_ ?_ | refine b3_ ?_ _)); exact BK242.out⟩, ⟨by repeat (first | (with_reducible first | exact HB.out | apply below_alloc | apply pw_below_drewN | apply below_drew1 | refine below_set ?_ GE242.out) | exact HB.out)⟩⟩
  ·rw [if_neg c6] at H
   have c6b0 : (a0_1 == 0) = false := beq_eq_false_iff_ne.mpr c6
   have c6b1 : (a0_1 != 0) = true := bne_iff_ne.mpr c6
   (first | rw [c6b0] | (simp only [i64_w, i32_w]; rw [c6b0]) | skip)
   have H' := Aside0.mk H
   clear H
   go_wp2
   repeat (go_quiet (fail); try go_wp2)
   go_meet
   case rel => exact ⟨_, ((a1 == a0_1)), (by first | rfl | (simp; done) | (simp [*]; done)), H', ⟨by first | omega | exact Nat.le_refl _⟩, ⟨by (with_reducible repeat (first | refine b1_ ?_ _ | refine b2_ ?_ | refine b3_ ?_ _)); exact BK242.out⟩, ⟨by repeat (first | (with_reducible first | exact HB.out | apply below_alloc | apply pw_below_drewN | apply below_drew1 | refine below_set ?_ GE242.out) | exact HB.out)⟩⟩
 case rest =>
  clear HC3
  try clear p2
  try clear c6
  try clear c6b0
  try clear c6b1
  try clear hcz5_0
  try clear hcz5_1
  try clear hcz5_2
  try clear hfz5_0
  try clear hfz5_1
  try clear hfz5_2
  obtain ⟨kq, x20_2, rfl, HA, HJ2, BK242, HB⟩ := hcut
  cases kq with
  | zero => exact absurd HA.out (by simp [tables_RegionAxisCoordinates_evaluate.j0])
  | succ kj2 =>
   have H := HA.out
   clear HA
   simp only [tables_RegionAxisCoordinates_evaluate.j0] at H
   by_cases c7 : x20_2 = true
   ·subst c7
    have H1 : (some 1065353216) = some r := by rw [if_pos rfl] at H; exact H
    clear H
    have H := H1
    clear H1
    obtain rfl := Option.some.inj H
    go_wp2
    repeat (go_quiet (fail); try go_wp2)
    go_ret
    exact ⟨by first | rfl | (simp [errW_none, errW_some] <;> rfl) | (simp [*, errW_none, errW_some] <;> rfl), by repeat (first | (with_reducible first | exact HB.out | apply below_alloc | apply pw_below_drewN | apply below_drew1 | refine below_set ?_ GE242.out) | exact HB.out)⟩
   ·replace c7 := Bool.eq_false_iff.mpr c7
    subst c7
    have H1 : (if a1 = 0 then (some 0) else (if a1 ≤ a0_0 then (some 0) else (if a0_2 ≤ a1 then (some 0) else (if a1 < a0_1 then (if fok .quo .f32 (floatOfInt .f32 (IntKind.i16.wrap (a1 - a0_0))) (floatOfInt .f32 (IntKind.i16.wrap (a0_1 - a0_0))) = true then (some (fv .quo .f32 (floatOfInt .f32 (IntKind.i16.wrap (a1 - a0_0))) (floatOfInt .f32 (IntKind.i16.wrap (a0_1 - a0_0))))) else (none)) else (if fok .quo .f32 (floatOfInt .f32 (IntKind.i16.wrap (a0_2 - a1))) (floatOfInt .f32 (IntKind.i16.wrap (a0_2 - a0_1))) = true then (some (fv .quo .f32 (floatOfInt .f32 (IntKind.i16.wrap (a0_2 - a1))) (floatOfInt .f32 (IntKind.i16.wrap (a0_2 - a0_1))))) else (none)))))) = some r := by rw [if_neg (show ¬ (false = true) by decide)] at H; exact H
    clear H
    have H := H1
    clear H1
    by_cases c8 : a1 = 0
    ·rw [if_pos c8] at H
     have c8b0 : (a1 == 0) = true := beq_iff_eq.mpr c8
     have c8b1 : (a1 != 0) = false := bne_eq_false_iff_eq.mpr c8
     clear c8
     obtain rfl := Option.some.inj H
     go_wp2
     repeat (go_quiet (fail); try go_wp2)
     go_ret
     exact ⟨by first | rfl | (simp [errW_none, errW_some] <;> rfl) | (simp [*, errW_none, errW_some] <;> rfl), by repeat (first | (with_reducible first | exact HB.out | apply below_alloc | apply pw_below_drewN | apply below_drew1 | refine below_set ?_ GE242.out) | exact HB.out)⟩
    ·rw [if_neg c8] at H
     have c8b0 : (a1 == 0) = false := beq_eq_false_iff_ne.mpr c8
     have c8b1 : (a1 != 0) = true := bne_iff_ne.mpr c8
     by_cases c9 : a1 ≤ a0_0
     ·rw [if_pos c9] at H
      have c9b0 : decide (a1 ≤ a0_0) = true := decide_eq_true c9
      clear c9
      obtain rfl := Option.some.inj H
      go_wp2
      repeat (go_quiet (fail); try go_wp2)
      go_ret
      exact ⟨by first | rfl | (simp [errW_none, errW_some] <;> rfl) | (simp [*, errW_none, errW_some] <;> rfl), by repeat (first | (with_reducible first | exact HB.out | apply below_alloc | apply pw_below_drewN | apply below_drew1 | refine below_set ?_ GE242.out) | exact HB.out)⟩
     ·rw [if_neg c9] at H
      have c9b0 : decide (a1 ≤ a0_0) = false := decide_eq_false c9
      clear c9
      by_cases c10 : a0_2 ≤ a1
      ·rw [if_pos c10] at H
       have c10b0 : decide (a0_2 ≤ a1) = true := decide_eq_true c10
       clear c10
       obtain rfl := Option.some.inj H
       go_wp2
       repeat (go_quiet (fail); try go_wp2)
       go_ret
       exact ⟨by first | rfl | (simp [errW_none, errW_some] <;> rfl) | (simp [*, errW_none, errW_some] <;> rfl), by repeat (first | (with_reducible first | exact HB.out | apply below_alloc | apply pw_below_drewN | apply below_drew1 | refine below_set ?_ GE242.out) | exact HB.out)⟩
      ·rw [if_neg c10] at H
       have c10b0 : decide (a0_2 ≤ a1) = false := decide_eq_false c10
       clear c10
       by_cases c11 : a1 < a0_1
       ·rw [if_pos c11] at H
        have c11b0 : decide (a1 < a0_1) = true := decide_eq_true c11
        clear c11
        by_cases c12 : fok .quo .f32 (floatOfInt .f32 (IntKind.i16.wrap (a1 - a0_0))) (floatOfInt .f32 (IntKind.i16.wrap (a0_1 - a0_0))) = true
        ·rw [if_pos c12] at H
         have c12b0 := eq_true c12
         have c12b1 : decide (fok .quo .f32 (floatOfInt .f32 (IntKind.i16.wrap (a1 - a0_0))) (floatOfInt .f32 (IntKind.i16.wrap (a0_1 - a0_0))) = true) = true := decide_eq_true c12
         clear c12
         obtain rfl := Option.some.inj H
         go_wp2
         repeat (go_quiet (fail); try go_wp2)
         go_ret
         exact ⟨by first | rfl | (simp [errW_none, errW_some] <;> rfl) | (simp [*, errW_none, errW_some] <;> rfl), by repeat (first | (with_reducible first | exact HB.out | apply below_alloc | apply pw_below_drewN | apply below_drew1 | refine below_set ?_ GE242.out) | exact HB.out)⟩
        ·rw [if_neg c12] at H
         exact absurd H (by simp)
       ·rw [if_neg c11] at H
        have c11b0 : decide (a1 < a0_1) = false := decide_eq_false c11
        clear c11
        by_cases c13 : fok .quo .f32 (floatOfInt .f32 (IntKind.i16.wrap (a0_2 - a1))) (floatOfInt .f32 (IntKind.i16.wrap (a0_2 - a0_1))) = true
        ·rw [if_pos c13] at H
         have c13b0 := eq_true c13
         have c13b1 : decide (fok .quo .f32 (floatOfInt .f32 (IntKind.i16.wrap (a0_2 - a1))) (floatOfInt .f32 (IntKind.i16.wrap (a0_2 - a0_1))) = true) = true := decide_eq_true c13
         clear c13
         obtain rfl := Option.some.inj H
         go_wp2
         repeat (go_quiet (fail); try go_wp2)
         go_ret
         exact ⟨by first | rfl | (simp [errW_none, errW_some] <;> rfl) | (simp [*, errW_none, errW_some] <;> rfl), by repeat (first | (with_reducible first | exact HB.out | apply below_alloc | apply pw_below_drewN | apply below_drew1 | refine below_set ?_ GE242.out) | exact HB.out)⟩
        ·rw [if_neg c13] at H
         exact absurd H (by simp)

/-! ### tables_VariationRegion_Evaluate: function 58 -/
def tables_VariationRegion_Evaluate.l0 : Nat → Nat → List Int → Int → Int → List (S184) → Option (Nat)
 | 0, _, _, _, _, _ => none
 | k + 1, x5, x9, x10, x11, x244000 => if x11 < x10 then (if 0 ≤ x11 then (if x11 < (x9.length : Int) then (if x11 < (x244000.length : Int) then ((tables_RegionAxisCoordinates_evaluate.f k ((rd_T184 x244000 x11).f0) ((rd_T184 x244000 x11).f1) ((rd_T184 x244000 x11).f2) (rd x9 x11)).bind fun t246 => (if fok .mul .f32 x5 t246 = true then (tables_VariationRegion_Evaluate.l0 k (fv .mul .f32 x5 t246) x9 x10 (wrap64 (x11 + 1)) x244000) else (none))) else (none)) else (none)) else (none)) else (some x5)
def tables_VariationRegion_Evaluate.f (k : Nat) (l0_0 : List (S184)) (l1 : List Int) : Option (Nat) := tables_VariationRegion_Evaluate.l0 k 1065353216 l1 (l1.length : Int) 0 l0_0
theorem tables_VariationRegion_Evaluate.mono_l : ∀ k, (∀ y0 y1 y2 y3 y4, LeO (tables_VariationRegion_Evaluate.l0 k y0 y1 y2 y3 y4) (tables_VariationRegion_Evaluate.l0 (k + 1) y0 y1 y2 y3 y4))
 | 0 => fun _ _ _ _ _ r h => by simp [tables_VariationRegion_Evaluate.l0] at h
 | k + 1 => by
  have ih0 := tables_VariationRegion_Evaluate.mono_l k
  ·intro y0 y1 y2 y3 y4
   unfold tables_VariationRegion_Evaluate.l0
   repeat' first
   | (with_reducible exact ih0 _ _ _ _ _)
   | (with_reducible exact tables_RegionAxisCoordinates_evaluate.mono _ _ _ _ _)
   | (with_reducible exact LeO.refl _)
   | (with_reducible exact LeO.none _)
   | (with_reducible refine LeO.ite ?_ ?_)
   | (with_reducible refine LeO.bind ?_ (fun _ => ?_))
   | exact ih0 _ _ _ _ _
   | exact tables_RegionAxisCoordinates_evaluate.mono _ _ _ _ _
   | exact LeO.none _
   | refine LeO.ite ?_ ?_
   | refine LeO.bind ?_ (fun _ => ?_)
theorem tables_VariationRegion_Evaluate.mono : ∀ a0 a1 k, LeO (tables_VariationRegion_Evaluate.f k a0 a1) (tables_VariationRegion_Evaluate.f (k + 1) a0 a1) := by
 intro a0 a1 k
 have ih0 := tables_VariationRegion_Evaluate.mono_l k
 unfold tables_VariationRegion_Evaluate.f
 repeat' first
   | (with_reducible exact ih0 _ _ _ _ _)
   | (with_reducible exact tables_RegionAxisCoordinates_evaluate.mono _ _ _ _ _)
   | (with_reducible exact LeO.refl _)
   | (with_reducible exact LeO.none _)
   | (with_reducible refine LeO.ite ?_ ?_)
   | (with_reducible refine LeO.bind ?_ (fun _ => ?_))
   | exact ih0 _ _ _ _ _
   | exact tables_RegionAxisCoordinates_evaluate.mono _ _ _ _ _
   | exact LeO.none _
   | refine LeO.ite ?_ ?_
   | refine LeO.bind ?_ (fun _ => ?_)
set_option maxHeartbeats 8000000 in
set_option maxRecDepth 100000 in
theorem tables_VariationRegion_Evaluate.calls (k : Nat) (A0_0 : Option Addr) (c0_0 : Nat) (l0_0 : List (S184)) (A1 : Option Addr) (c1 : Nat) (l1 : List Int) (r : Nat) (w : World) (hr0_0 : Kd.C k184 w A0_0 l0_0.length l0_0) (hc0_0 : l0_0.length ≤ c0_0) (hr1 : Kd.C (Kd.int .i16) w A1 l1.length l1) (hc1 : l1.length ≤ c1) (h : tables_VariationRegion_Evaluate.f k l0_0 l1 = some r) :
  Calls Try.prog 58 #[.agg #[.slice A0_0 l0_0.length c0_0], .slice A1 l1.length c1] w fun e w' => e = .returned (.float .f32 r) ∧ Below w.heap.size w w' := by
 have hu182 := Try.underlying182
 have hu184 := Try.underlying184
 have HR0_0 := Aside0.mk hr0_0
 have HC0_0 := Aside0.mk hc0_0
 clear hr0_0 hc0_0
 have HR1 := Aside0.mk hr1
 have HC1 := Aside0.mk hc1
 clear hr1 hc1
 have HB := Aside0.mk (Below.refl w.heap.size w)
 have H : (tables_VariationRegion_Evaluate.l0 k 1065353216 l1 (l1.length : Int) 0 l0_0) = some r := h
 clear h
 have H' := Aside0.mk H
 clear H
 go_enter Try.func58, Try.ntmps58
 go_wp2_with (first | ((with_reducible refine gate_dst (N := 2) rfl ?_); refine box_event ?hg (N := 2) ?hd (cs := #[.slice A0_0 l0_0.length c0_0]) (t := 182) ?hr ?_; (case hd => rfl); (case hg => rfl); (case hr => first | (go_simp; done) | (go_simp; rfl)); intro gb243 hg w3 hbox hb; have n0_ := Aside0.mk (below_step (by repeat (first | (with_reducible first | exact HB.out | apply below_alloc | apply pw_below_drewN | apply below_drew1) | exact HB.out)) hb); have n1_ := Aside0.mk (hbox); have n2_ := Aside0.mk ((by rw [hg]; exact (below_size (by repeat (first | (with_reducible first | exact HB.out | apply below_alloc | apply pw_below_drewN | apply below_drew1) | exact HB.out))) : w.heap.size ≤ gb243)); have n3_ := Aside0.mk ((by rw [hg]; exact (below_size (by repeat (first | (with_reducible first | exact HB.out | apply below_alloc | apply pw_below_drewN | apply below_drew1) | exact HB.out))) : w.heap.size ≤ gb243)); clear HB; have HB := n0_; have BK243 := n1_; have GW243 := n2_; have GE243 := n3_; clear n0_ n1_ n2_ n3_; clear hb hbox hg))
 go_loopg [5, 11] k (fun kq v5 v11 w' => ∃ (x5_1 : Nat) (x11_1 : Int), v5 = .float .f32 x5_1 ∧ v11 = .int .i64 x11_1 ∧ Aside0 (tables_VariationRegion_Evaluate.l0 kq x5_1 l1 (l1.length : Int) x11_1 l0_0 = some r) ∧ Aside0 (kq ≤ k) ∧ Aside0 (w'.heap[gb243]? = some (.cells #[(.slice A0_0 l0_0.length c0_0)] 182 (0, 0))) ∧ Aside0 (Below w.heap.size w w'))
 case atStart => exact ⟨(1065353216), (0), (by first | rfl | (simp; done) | (simp [*]; done)), (by first | rfl | (simp; done) | (simp [*]; done)), H', ⟨Nat.le_refl _⟩, ⟨by (with_reducible repeat (first | refine b1_ ?_ _ | refine b2_ ?_ | refine b3_ ?_ _)); exact BK243.out⟩, ⟨by repeat (first | (with_reducible first | exact HB.out | apply below_alloc | apply pw_below_drewN | apply below_drew1 | refine below_set ?_ GE243.out) | exact HB.out)⟩⟩
 case round =>
  clear H'
  try clear c1
  try clear p2
  obtain ⟨x5_1, x11_1, rfl, rfl, HA, HK1, BK243, HB⟩ := hrel
  cases gk with
  | zero => exact absurd HA.out (by simp [tables_VariationRegion_Evaluate.l0])
  | succ k1 =>
   have H := HA.out
   clear HA
   simp only [tables_VariationRegion_Evaluate.l0] at H
   by_cases c4 : x11_1 < (l1.length : Int)
   ·rw [if_pos c4] at H
    have c4b0 : decide (x11_1 < (l1.length : Int)) = true := decide_eq_true c4
    clear c4
    by_cases c5 : 0 ≤ x11_1
    ·rw [if_pos c5] at H
     have c5b0 : decide (0 ≤ x11_1) = true := decide_eq_true c5
     clear c5
     by_cases c6 : x11_1 < (l1.length : Int)
     ·rw [if_pos c6] at H
      have c6b0 : decide (x11_1 < (l1.length : Int)) = true := decide_eq_true c6
      clear c6
      by_cases c7 : x11_1 < (l0_0.length : Int)
      ·rw [if_pos c7] at H
       have c7b0 : decide (x11_1 < (l0_0.length : Int)) = true := decide_eq_true c7
       clear c7
       replace H := Option.bind_eq_some_iff.mp H
       obtain ⟨t246, A80, H⟩ := H
       replace H : (if fok .mul .f32 x5_1 t246 = true then (tables_VariationRegion_Evaluate.l0 k1 (fv .mul .f32 x5_1 t246) l1 (l1.length : Int) (wrap64 (x11_1 + 1)) l0_0) else (none)) = some r := H
       have A8 := Aside0.mk A80
       clear A80
       by_cases c9 : fok .mul .f32 x5_1 t246 = true
       ·rw [if_pos c9] at H
        have c9b0 := eq_true c9
        have c9b1 : decide (fok .mul .f32 x5_1 t246 = true) = true := decide_eq_true c9
        clear c9
        have H' := Aside0.mk H
        clear H
        have p244 : 0 ≤ (x11_1 : Int) := of_decide_eq_true (by first | (with_reducible assumption) | assumption)
        have q244 : x11_1 < (l1.length : Int) := of_decide_eq_true (by first | (with_reducible assumption) | assumption)
        obtain ⟨ad244, e244, hx244_0⟩ := Kd.at_int HR1.out x11_1 p244 q244
        cases e244
        replace hx244_0 := (HB.out.cell (World.block_lt_of_cell? w _ hx244_0)).trans hx244_0
        replace p244 := eq_true p244
        replace q244 := eq_true q244
        have hcz10_0 : wr.cell? ⟨gb243, 0, none⟩ = some (.slice A0_0 l0_0.length c0_0) := (blk_cell BK243.out 0).trans rfl
        have hfz10_0 := blk_frozen BK243.out 0
        have p245 : 0 ≤ (x11_1 : Int) := of_decide_eq_true (by first | (with_reducible assumption) | assumption)
        have q245 : x11_1 < (l0_0.length : Int) := of_decide_eq_true (by first | (with_reducible assumption) | assumption)
        obtain ⟨ad245, e245, hx245_0, hx245_1, hx245_2⟩ := at_T184 HR0_0.out x11_1 p245 q245
        cases e245
        replace hx245_0 := (HB.out.cell (World.block_lt_of_cell? w _ hx245_0)).trans hx245_0
        replace hx245_1 := (HB.out.cell (World.block_lt_of_cell? w _ hx245_1)).trans hx245_1
        replace hx245_2 := (HB.out.cell (World.block_lt_of_cell? w _ hx245_2)).trans hx245_2
        replace p245 := eq_true p245
        replace q245 := eq_true q245
        go_wp2_with (first | ((with_reducible refine gate_callee (f := 69) rfl ?_); refine goesL_ (some 22) rfl rfl Try.func69 (by kernel_rfl) rfl #[.agg #[.int .i16 ((rd_T184 l0_0 x11_1).f0), .int .i16 ((rd_T184 l0_0 x11_1).f1), .int .i16 ((rd_T184 l0_0 x11_1).f2)], .int .i16 (rd l1 x11_1)] rfl (by (try simp only [List.map_toArray, List.map_cons, List.map_nil]); first | done | rfl | (simp only [List.length_drop, List.length_take]; rfl)) ?_; (with_reducible refine (tables_RegionAxisCoordinates_evaluate.calls k1 ((rd_T184 l0_0 x11_1).f0) ((rd_T184 l0_0 x11_1).f1) ((rd_T184 l0_0 x11_1).f2) (rd l1 x11_1) t246 _ A8.out).mono ?_); rintro e w11 ⟨rfl, hb⟩; refine ⟨_, rfl, ?_⟩; have n0_ := Aside0.mk (blk_below (g := gb243) (o := .cells #[.slice (some ad245) l0_0.length c0_0] 182 (0, 0)) (by (with_reducible repeat (first | refine b1_ ?_ _ | refine b2_ ?_ | refine b3_ ?_ _)); exact BK243.out) hb); have n1_ := Aside0.mk (below_step (by repeat (first | (with_reducible first | exact HB.out | apply below_alloc | apply pw_below_drewN | apply below_drew1 | refine below_set ?_ GE243.out) | exact HB.out)) hb); clear BK243; clear HB; have BK243 := n0_; have HB := n1_; clear n0_ n1_; (try clear hb); (try clear hb2); (try clear hk); (try clear hi)))
        go_roundg k1
        case measure => have := HK1.out; omega
        case rel => exact ⟨(fv .mul .f32 x5_1 t246), (wrap64 (x11_1 + 1)), (by first | rfl | (simp; done) | (simp [*]; done)), (by first | rfl | (simp; done) | (simp [*]; done)), H', ⟨by have := HK1.out; omega⟩, ⟨by (with_reducible repeat (first | refine b1_ ?_ _ | refine b2_ ?_ | refine b3_ ?_ _)); exact BK243.out⟩, ⟨by repeat (first | (with_reducible first | exact HB.out | apply below_alloc | apply pw_below_drewN | apply below_drew1 | refine below_set ?_ GE243.out) | exact HB.out)⟩⟩
       ·rw [if_neg c9] at H
        exact absurd H (by simp)
      ·rw [if_neg c7] at H
       exact absurd H (by simp)
     ·rw [if_neg c6] at H
      exact absurd H (by simp)
    ·rw [if_neg c5] at H
     exact absurd H (by simp)
   ·rw [if_neg c4] at H
    have c4b0 : decide (x11_1 < (l1.length : Int)) = false := decide_eq_false c4
    clear c4
    obtain rfl := Option.some.inj H
    go_wp2
    go_ret
    exact ⟨by first | rfl | (simp [errW_none, errW_some] <;> rfl) | (simp [*, errW_none, errW_some] <;> rfl), by repeat (first | (with_reducible first | exact HB.out | apply below_alloc | apply pw_below_drewN | apply below_drew1 | refine below_set ?_ GE243.out) | exact HB.out)⟩

/-! ### tables_ItemVarStore_GetDelta: function 36 -/
def tables_ItemVarStore_GetDelta.l0 : Nat → List Int → List Int → Nat → List Int → Int → Int → Int → Int → List (S182) → List (S186) → Option (Nat)
 | 0, _, _, _, _, _, _, _, _, _, _ => none
 | k + 1, x2, x8, x9, x41, x42, x43, x248000, x248001, x248002, x248003 => if x43 < x42 then (if 0 ≤ x43 then (if x43 < (x41.length : Int) then (if 0 ≤ (rd x41 x43) then (if (rd x41 x43) < (x248002.length : Int) then ((tables_VariationRegion_Evaluate.f k ((rd_T182 x248002 (rd x41 x43)).f0) x2).bind fun t255 => (if x43 < (x8.length : Int) then (if fok .mul .f32 (floatOfInt .f32 (rd x8 x43)) t255 = true then (if fok .add .f32 x9 (fv .mul .f32 (floatOfInt .f32 (rd x8 x43)) t255) = true then (tables_ItemVarStore_GetDelta.l0 k x2 x8 (fv .add .f32 x9 (fv .mul .f32 (floatOfInt .f32 (rd x8 x43)) t255)) x41 x42 (wrap64 (x43 + 1)) x248000 x248001 x248002 x248003) else (none)) else (none)) else (none))) else (none)) else (none)) else (none)) else (none)) else (some x9)
def tables_ItemVarStore_GetDelta.f (k : Nat) (a0_0 : Int) (a0_1 : Int) (l0_2 : List (S182)) (l0_3 : List (S186)) (a1_0 : Int) (a1_1 : Int) (l2 : List Int) : Option (Nat) := if (wrap64 (a1_0)) ≥ (l0_3.length : Int) then (some 0) else (if 0 ≤ a1_0 then (if a1_0 < (l0_3.length : Int) then (if (wrap64 (a1_1)) ≥ (((rd_T186 l0_3 a1_0).f4).length : Int) then (some 0) else (if 0 ≤ a1_1 then (if a1_1 < (((rd_T186 l0_3 a1_0).f4).length : Int) then (tables_ItemVarStore_GetDelta.l0 k l2 (rd_L5 ((rd_T186 l0_3 a1_0).f4) a1_1) 0 ((rd_T186 l0_3 a1_0).f3) (((rd_T186 l0_3 a1_0).f3).length : Int) 0 a0_0 a0_1 l0_2 l0_3) else (none)) else (none))) else (none)) else (none))
theorem tables_ItemVarStore_GetDelta.mono_l : ∀ k, (∀ y0 y1 y2 y3 y4 y5 y6 y7 y8 y9, LeO (tables_ItemVarStore_GetDelta.l0 k y0 y1 y2 y3 y4 y5 y6 y7 y8 y9) (tables_ItemVarStore_GetDelta.l0 (k + 1) y0 y1 y2 y3 y4 y5 y6 y7 y8 y9))
 | 0 => fun _ _ _ _ _ _ _ _ _ _ r h => by simp [tables_ItemVarStore_GetDelta.l0] at h
 | k + 1 => by
  have ih0 := tables_ItemVarStore_GetDelta.mono_l k
  ·intro y0 y1 y2 y3 y4 y5 y6 y7 y8 y9
   unfold tables_ItemVarStore_GetDelta.l0
   repeat' first
   | (with_reducible exact ih0 _ _ _ _ _ _ _ _ _ _)
   | (with_reducible exact tables_VariationRegion_Evaluate.mono _ _ _)
   | (with_reducible exact LeO.refl _)
   | (with_reducible exact LeO.none _)
   | (with_reducible refine LeO.ite ?_ ?_)
   | (with_reducible refine LeO.bind ?_ (fun _ => ?_))
   | exact ih0 _ _ _ _ _ _ _ _ _ _
   | exact tables_VariationRegion_Evaluate.mono _ _ _
   | exact LeO.none _
   | refine LeO.ite ?_ ?_
   | refine LeO.bind ?_ (fun _ => ?_)
theorem tables_ItemVarStore_GetDelta.mono : ∀ a0 a1 a2 a3 a4 a5 a6 k, LeO (tables_ItemVarStore_GetDelta.f k a0 a1 a2 a3 a4 a5 a6) (tables_ItemVarStore_GetDelta.f (k + 1) a0 a1 a2 a3 a4 a5 a6) := by
 intro a0 a1 a2 a3 a4 a5 a6 k
 have ih0 := tables_ItemVarStore_GetDelta.mono_l k
 unfold tables_ItemVarStore_GetDelta.f
 repeat' first
   | (with_reducible exact ih0 _ _ _ _ _ _ _ _ _ _)
   | (with_reducible exact tables_VariationRegion_Evaluate.mono _ _ _)
   | (with_reducible exact LeO.refl _)
   | (with_reducible exact LeO.none _)
   | (with_reducible refine LeO.ite ?_ ?_)
   | (with_reducible refine LeO.bind ?_ (fun _ => ?_))
   | exact ih0 _ _ _ _ _ _ _ _ _ _
   | exact tables_VariationRegion_Evaluate.mono _ _ _
   | exact LeO.none _
   | refine LeO.ite ?_ ?_
   | refine LeO.bind ?_ (fun _ => ?_)
set_option maxHeartbeats 8000000 in
set_option maxRecDepth 100000 in
theorem tables_ItemVarStore_GetDelta.calls (k : Nat) (a0_0 : Int) (a0_1 : Int) (A0_2 : Option Addr) (c0_2 : Nat) (l0_2 : List (S182)) (A0_3 : Option Addr) (c0_3 : Nat) (l0_3 : List (S186)) (a1_0 : Int) (a1_1 : Int) (A2 : Option Addr) (c2 : Nat) (l2 : List Int) (r : Nat) (w : World) (hr0_2 : Kd.C k182 w A0_2 l0_2.length l0_2) (hc0_2 : l0_2.length ≤ c0_2) (hr0_3 : Kd.C k186 w A0_3 l0_3.length l0_3) (hc0_3 : l0_3.length ≤ c0_3) (hr2 : Kd.C (Kd.int .i16) w A2 l2.length l2) (hc2 : l2.length ≤ c2) (h : tables_ItemVarStore_GetDelta.f k a0_0 a0_1 l0_2 l0_3 a1_0 a1_1 l2 = some r) :
  Calls Try.prog 36 #[.agg #[.int .u16 a0_0, .int .u16 a0_1, .slice A0_2 l0_2.length c0_2, .slice A0_3 l0_3.length c0_3], .agg #[.int .u16 a1_0, .int .u16 a1_1], .slice A2 l2.length c2] w fun e w' => e = .returned (.float .f32 r) ∧ Below w.heap.size w w' := by
 have hu109 := Try.underlying109
 have hu115 := Try.underlying115
 have hu186 := Try.underlying186
 have hu182 := Try.underlying182
 have HR0_2 := Aside0.mk hr0_2
 have HC0_2 := Aside0.mk hc0_2
 clear hr0_2 hc0_2
 have HR0_3 := Aside0.mk hr0_3
 have HC0_3 := Aside0.mk hc0_3
 clear hr0_3 hc0_3
 have HR2 := Aside0.mk hr2
 have HC2 := Aside0.mk hc2
 clear hr2 hc2
 have HB := Aside0.mk (Below.refl w.heap.size w)
 have H : (if (wrap64 (a1_0)) ≥ (l0_3.length : Int) then (some 0) else (if 0 ≤ a1_0 then (if a1_0 < (l0_3.length : Int) then (if (wrap64 (a1_1)) ≥ (((rd_T186 l0_3 a1_0).f4).length : Int) then (some 0) else (if 0 ≤ a1_1 then (if a1_1 < (((rd_T186 l0_3 a1_0).f4).length : Int) then (tables_ItemVarStore_GetDelta.l0 k l2 (rd_L5 ((rd_T186 l0_3 a1_0).f4) a1_1) 0 ((rd_T186 l0_3 a1_0).f3) (((rd_T186 l0_3 a1_0).f3).length : Int) 0 a0_0 a0_1 l0_2 l0_3) else (none)) else (none))) else (none)) else (none))) = some r := h
 clear h
 by_cases c4 : (wrap64 (a1_0)) ≥ (l0_3.length : Int)
 ·rw [if_pos c4] at H
  have c4b0 : decide ((l0_3.length : Int) ≤ (wrap64 (a1_0))) = true := decide_eq_true c4
  clear c4
  obtain rfl := Option.some.inj H
  go_enter Try.func36, Try.ntmps36
  go_wp2_with (first | ((with_reducible refine gate_dst (N := 3) rfl ?_); refine box_event ?hg (N := 3) ?hd (cs := #[.int .u16 a0_0, .int .u16 a0_1, .slice A0_2 l0_2.length c0_2, .slice A0_3 l0_3.length c0_3]) (t := 109) ?hr ?_; (case hd => rfl); (case hg => rfl); (case hr => first | (go_simp; done) | (go_simp; rfl)); intro gb247 hg w5 hbox hb; have n0_ := Aside0.mk (below_step (by repeat (first | (with_reducible first | exact HB.out | apply below_alloc | apply pw_below_drewN | apply below_drew1) | exact HB.out)) hb); have n1_ := Aside0.mk (hbox); have n2_ := Aside0.mk ((by rw [hg]; exact (below_size (by repeat (first | (with_reducible first | exact HB.out | apply below_alloc | apply pw_below_drewN | apply below_drew1) | exact HB.out))) : w.heap.size ≤ gb247)); have n3_ := Aside0.mk ((by rw [hg]; exact (below_size (by repeat (first | (with_reducible first | exact HB.out | apply below_alloc | apply pw_below_drewN | apply below_drew1) | exact HB.out))) : w.heap.size ≤ gb247)); clear HB; have HB := n0_; have BK247 := n1_; have GW247 := n2_; have GE247 := n3_; clear n0_ n1_ n2_ n3_; clear hb hbox hg) | ((with_reducible refine gate_dst (N := 4) rfl ?_); refine box_event ?hg (N := 4) ?hd (cs := #[.int .u16 a1_0, .int .u16 a1_1]) (t := 115) ?hr ?_; (case hd => rfl); (case hg => rfl); (case hr => first | (go_simp; done) | (go_simp; rfl)); intro gb248 hg w6 hbox hb; have n0_ := Aside0.mk (blk_below (g := gb247) (o := .cells #[.int .u16 a0_0, .int .u16 a0_1, .slice A0_2 l0_2.length c0_2, .slice A0_3 l0_3.length c0_3] 109 (0, 0)) (by (with_reducible repeat (first | refine b1_ ?_ _ | refine b2_ ?_ | refine b3_ ?_ _)); exact BK247.out) hb); have n1_ := Aside0.mk (below_step (by repeat (first | (with_reducible first | exact HB.out | apply below_alloc | apply pw_below_drewN | apply below_drew1 | refine below_set ?_ GE247.out) | exact HB.out)) hb); have n2_ := Aside0.mk (hbox); have n3_ := Aside0.mk ((by rw [hg]; exact (below_size (by repeat (first | (with_reducible first | exact HB.out | apply below_alloc | apply pw_below_drewN | apply below_drew1 | refine below_set ?_ GE247.out) | exact HB.out))) : w.heap.size ≤ gb248)); have n4_ := Aside0.mk ((by rw [hg]; exact (below_size (by repeat (first | (with_reducible first | exact HB.out | apply below_alloc | apply pw_below_drewN | apply below_drew1 | refine below_set ?_ GE247.out) | exact HB.out))) : w.heap.size ≤ gb248)); have n5_ := Aside0.mk ((by rw [hg]; exact Nat.ne_of_lt (blk_lt (g := gb247) (o := .cells #[.int .u16 a0_0, .int .u16 a0_1, .slice A0_2 l0_2.length c0_2, .slice A0_3 l0_3.length c0_3] 109 (0, 0)) (by (with_reducible repeat (first | refine b1_ ?_ _ | refine b2_ ?_ | refine b3_ ?_ _)); exact BK247.out)) : gb247 ≠ gb248)); have n6_ := Aside0.mk ((by rw [hg]; exact Nat.ne_of_gt (blk_lt (g := gb247) (o := .cells #[.int .u16 a0_0, .int .u16 a0_1, .slice A0_2 l0_2.length c0_2, .slice A0_3 l0_3.length c0_3] 109 (0, 0)) (by (with_reducible repeat (first | refine b1_ ?_ _ | refine b2_ ?_ | refine b3_ ?_ _)); exact BK247.out)) : gb248 ≠ gb247)); clear BK247; clear HB; have BK247 := n0_; have HB := n1_; have BK248 := n2_; have GW248 := n3_; have GE248 := n4_; have NB247_248 := n5_; have NB248_247 := n6_; clear n0_ n1_ n2_ n3_ n4_ n5_ n6_; clear hb hbox hg; have hnb7 := NB248_247.out; have hnc7 := NB247_248.out; have hcz8_0 : w6.cell? ⟨gb248, 0, none⟩ = some (.int .u16 a1_0) := (blk_cell BK248.out 0).trans rfl; have hcz8_1 : w6.cell? ⟨gb248, 1, none⟩ = some (.int .u16 a1_1) := (blk_cell BK248.out 1).trans rfl; have hfz8_0 := blk_frozen BK248.out 0; have hfz8_1 := blk_frozen BK248.out 1; have hcz9_0 : w6.cell? ⟨gb247, 0, none⟩ = some (.int .u16 a0_0) := (blk_cell BK247.out 0).trans rfl; have hcz9_1 : w6.cell? ⟨gb247, 1, none⟩ = some (.int .u16 a0_1) := (blk_cell BK247.out 1).trans rfl; have hcz9_2 : w6.cell? ⟨gb247, 2, none⟩ = some (.slice A0_2 l0_2.length c0_2) := (blk_cell BK247.out 2).trans rfl; have hcz9_3 : w6.cell? ⟨gb247, 3, none⟩ = some (.slice A0_3 l0_3.length c0_3) := (blk_cell BK247.out 3).trans rfl; have hfz9_0 := blk_frozen BK247.out 0; have hfz9_1 := blk_frozen BK247.out 1; have hfz9_2 := blk_frozen BK247.out 2; have hfz9_3 := blk_frozen BK247.out 3))
  go_ret
  exact ⟨by first | rfl | (simp [errW_none, errW_some] <;> rfl) | (simp [*, errW_none, errW_some] <;> rfl), by repeat (first | (with_reducible first | exact HB.out | apply below_alloc | apply pw_below_drewN | apply below_drew1 | refine below_set ?_ GE247.out | refine below_set ?_ GE248.out) | exact HB.out)⟩
 ·rw [if_neg c4] at H
  have c4b0 : decide ((l0_3.length : Int) ≤ (wrap64 (a1_0))) = false := decide_eq_false c4
  clear c4
  by_cases c10 : 0 ≤ a1_0
  ·rw [if_pos c10] at H
   have c10b0 : decide (0 ≤ a1_0) = true := decide_eq_true c10
   clear c10
   by_cases c11 : a1_0 < (l0_3.length : Int)
   ·rw [if_pos c11] at H
    have c11b0 : decide (a1_0 < (l0_3.length : Int)) = true := decide_eq_true c11
    clear c11
    by_cases c12 : (wrap64 (a1_1)) ≥ (((rd_T186 l0_3 a1_0).f4).length : Int)
    ·rw [if_pos c12] at H
     have c12b0 : decide ((((rd_T186 l0_3 a1_0).f4).length : Int) ≤ (wrap64 (a1_1))) = true := decide_eq_true c12
     clear c12
     obtain rfl := Option.some.inj H
     go_enter Try.func36, Try.ntmps36
     go_wp2_with (first | ((with_reducible refine gate_dst (N := 3) rfl ?_); refine box_event ?hg (N := 3) ?hd (cs := #[.int .u16 a0_0, .int .u16 a0_1, .slice A0_2 l0_2.length c0_2, .slice A0_3 l0_3.length c0_3]) (t := 109) ?hr ?_; (case hd => rfl); (case hg => rfl); (case hr => first | (go_simp; done) | (go_simp; rfl)); intro gb247 hg w13 hbox hb; have n0_ := Aside0.mk (below_step (by repeat (first | (with_reducible first | exact HB.out | apply below_alloc | apply pw_below_drewN | apply below_drew1) | exact HB.out)) hb); have n1_ := Aside0.mk (hbox); have n2_ := Aside0.mk ((by rw [hg]; exact (below_size (by repeat (first | (with_reducible first | exact HB.out | apply below_alloc | apply pw_below_drewN | apply below_drew1) | exact HB.out))) : w.heap.size ≤ gb247)); have n3_ := Aside0.mk ((by rw [hg]; exact (below_size (by repeat (first | (with_reducible first | exact HB.out | apply below_alloc | apply pw_below_drewN | apply below_drew1) | exact HB.out))) : w.heap.size ≤ gb247)); clear HB; have HB := n0_; have BK247 := n1_; have GW247 := n2_; have GE247 := n3_; clear n0_ n1_ n2_ n3_; clear hb hbox hg) | ((with_reducible refine gate_dst (N := 4) rfl ?_); refine box_event ?hg (N := 4) ?hd (cs := #[.int .u16 a1_0, .int .u16 a1_1]) (t := 115) ?hr ?_; (case hd => rfl); (case hg => rfl); (case hr => first | (go_simp; done) | (go_simp; rfl)); intro gb248 hg w14 hbox hb; have n0_ := Aside0.mk (blk_below (g := gb247) (o := .cells #[.int .u16 a0_0, .int .u16 a0_1, .slice A0_2 l0_2.length c0_2, .slice A0_3 l0_3.length c0_3] 109 (0, 0)) (by (with_reducible repeat (first | refine b1_ ?_ _ | refine b2_ ?_ | refine b3_ ?_ _)); exact BK247.out) hb); have n1_ := Aside0.mk (below_step (by repeat (first | (with_reducible first | exact HB.out | apply below_alloc | apply pw_below_drewN | apply below_drew1 | refine below_set ?_ GE247.out) | exact HB.out)) hb); have n2_ := Aside0.mk (hbox); have n3_ := Aside0.mk ((by rw [hg]; exact (below_size (by repeat (first | (with_reducible first | exact HB.out | apply below_alloc | apply pw_below_drewN | apply below_drew1 | refine below_set ?_ GE247.out) | exact HB.out))) : w.heap.size ≤ gb248)); have n4_ := Aside0.mk ((by rw [hg]; exact (below_size (by repeat (first | (with_reducible first | exact HB.out | apply below_alloc | apply pw_below_drewN | apply below_drew1 | refine below_set ?_ GE247.out) | exact HB.out))) : w.heap.size ≤ gb248)); have n5_ := Aside0.mk ((by rw [hg]; exact Nat.ne_of_lt (blk_lt (g := gb247) (o := .cells #[.int .u16 a0_0, .int .u16 a0_1, .slice A0_2 l0_2.length c0_2, .slice A0_3 l0_3.length c0_3] 109 (0, 0)) (by (with_reducible repeat (first | refine b1_ ?_ _ | refine b2_ ?_ | refine b3_ ?_ _)); exact BK247.out)) : gb247 ≠ gb248)); have n6_ := Aside0.mk ((by rw [hg]; exact Nat.ne_of_gt (blk_lt (g := gb247) (o := .cells #[.int .u16 a0_0, .int .u16 a0_1, .slice A0_2 l0_2.length c0_2, .slice A0_3 l0_3.length c0_3] 109 (0, 0)) (by (with_reducible repeat (first | refine b1_ ?_ _ | refine b2_ ?_ | refine b3_ ?_ _)); exact BK247.out)) : gb248 ≠ gb247)); clear BK247; clear HB; have BK247 := n0_; have HB := n1_; have BK248 := n2_; have GW248 := n3_; have GE248 := n4_; have NB247_248 := n5_; have NB248_247 := n6_; clear n0_ n1_ n2_ n3_ n4_ n5_ n6_; clear hb hbox hg; have hnb15 := NB248_247.out; have hnc15 := NB247_248.out; have hcz16_0 : w14.cell? ⟨gb248, 0, none⟩ = some (.int .u16 a1_0) := (blk_cell BK248.out 0).trans rfl; have hcz16_1 : w14.cell? ⟨gb248, 1, none⟩ = some (.int .u16 a1_1) := (blk_cell BK248.out 1).trans rfl; have hfz16_0 := blk_frozen BK248.out 0; have hfz16_1 := blk_frozen BK248.out 1; have hcz17_0 : w14.cell? ⟨gb247, 0, none⟩ = some (.int .u16 a0_0) := (blk_cell BK247.out 0).trans rfl; have hcz17_1 : w14.cell? ⟨gb247, 1, none⟩ = some (.int .u16 a0_1) := (blk_cell BK247.out 1).trans rfl; have hcz17_2 : w14.cell? ⟨gb247, 2, none⟩ = some (.slice A0_2 l0_2.length c0_2) := (blk_cell BK247.out 2).trans rfl; have hcz17_3 : w14.cell? ⟨gb247, 3, none⟩ = some (.slice A0_3 l0_3.length c0_3) := (blk_cell BK247.out 3).trans rfl; have hfz17_0 := blk_frozen BK247.out 0; have hfz17_1 := blk_frozen BK247.out 1; have hfz17_2 := blk_frozen BK247.out 2; have hfz17_3 := blk_frozen BK247.out 3; have p249 : 0 ≤ (a1_0 : Int) := of_decide_eq_true (by first | (with_reducible assumption) | assumption); have q249 : a1_0 < (l0_3.length : Int) := of_decide_eq_true (by first | (with_reducible assumption) | assumption); obtain ⟨ad249, A249_3, c249_3, A249_4, c249_4, e249, hx249_0, hx249_1, hx249_2, hx249_3, hx249_4, hl249_3, hi249_3, hl249_4, hi249_4⟩ := at_T186 HR0_3.out a1_0 p249 q249; cases e249; replace hx249_0 := (HB.out.cell (World.block_lt_of_cell? w _ hx249_0)).trans hx249_0; replace hx249_1 := (HB.out.cell (World.block_lt_of_cell? w _ hx249_1)).trans hx249_1; replace hx249_2 := (HB.out.cell (World.block_lt_of_cell? w _ hx249_2)).trans hx249_2; replace hx249_3 := (HB.out.cell (World.block_lt_of_cell? w _ hx249_3)).trans hx249_3; replace hx249_4 := (HB.out.cell (World.block_lt_of_cell? w _ hx249_4)).trans hx249_4; have HR249_3 := Aside0.mk hi249_3; have HC249_3 := Aside0.mk hl249_3; clear hi249_3 hl249_3; have HR249_4 := Aside0.mk hi249_4; have HC249_4 := Aside0.mk hl249_4; clear hi249_4 hl249_4; replace p249 := eq_true p249; replace q249 := eq_true q249) | ((with_reducible refine gate_dst (N := 7) rfl ?_); refine box_event ?hg (N := 7) ?hd (cs := #[.int .u16 0, .int .u16 0, .int .u16 0, .slice none 0 0, .slice none 0 0]) (t := 186) ?hr ?_; (case hd => rfl); (case hg => rfl); (case hr => first | (go_simp; done) | (go_simp; rfl)); intro gb250 hg w18 hbox hb; have n0_ := Aside0.mk (blk_below (g := gb247) (o := .cells #[.int .u16 a0_0, .int .u16 a0_1, .slice A0_2 l0_2.length c0_2, .slice (some ad249) l0_3.length c0_3] 109 (0, 0)) (by (with_reducible repeat (first | refine b1_ ?_ _ | refine b2_ ?_ | refine b3_ ?_ _)); exact BK247.out) hb); have n1_ := Aside0.mk (blk_below (g := gb248) (o := .cells #[.int .u16 a1_0, .int .u16 a1_1] 115 (0, 0)) (by (with_reducible repeat (first | refine b1_ ?_ _ | refine b2_ ?_ | refine b3_ ?_ _)); exact BK248.out) hb); have n2_ := Aside0.mk (below_step (by repeat (first | (with_reducible first | exact HB.out | apply below_alloc | apply pw_below_drewN | apply below_drew1 | refine below_set ?_ GE247.out | refine below_set ?_ GE248.out) | exact HB.out)) hb); have n3_ := Aside0.mk (hbox); have n4_ := Aside0.mk ((by rw [hg]; exact (below_size (by repeat (first | (with_reducible first | exact HB.out | apply below_alloc | apply pw_below_drewN | apply below_drew1 | refine below_set ?_ GE247.out | refine below_set ?_ GE248.out) | exact HB.out))) : w.heap.size ≤ gb250)); have n5_ := Aside0.mk ((by rw [hg]; exact (below_size (by repeat (first | (with_reducible first | exact HB.out | apply below_alloc | apply pw_below_drewN | apply below_drew1 | refine below_set ?_ GE247.out | refine below_set ?_ GE248.out) | exact HB.out))) : w.heap.size ≤ gb250)); have n6_ := Aside0.mk ((by rw [hg]; exact Nat.ne_of_lt (blk_lt (g := gb247) (o := .cells #[.int .u16 a0_0, .int .u16 a0_1, .slice A0_2 l0_2.length c0_2, .slice (some ad249) l0_3.length c0_3] 109 (0, 0)) (by (with_reducible repeat (first | refine b1_ ?_ _ | refine b2_ ?_ | refine b3_ ?_ _)); exact BK247.out)) : gb247 ≠ gb250)); have n7_ := Aside0.mk ((by rw [hg]; exact Nat.ne_of_gt (blk_lt (g := gb247) (o := .cells #[.int .u16 a0_0, .int .u16 a0_1, .slice A0_2 l0_2.length c0_2, .slice (some ad249) l0_3.length c0_3] 109 (0, 0)) (by (with_reducible repeat (first | refine b1_ ?_ _ | refine b2_ ?_ | refine b3_ ?_ _)); exact BK247.out)) : gb250 ≠ gb247)); have n8_ := Aside0.mk ((by rw [hg]; exact Nat.ne_of_lt (blk_lt (g := gb248) (o := .cells #[.int .u16 a1_0, .int .u16 a1_1] 115 (0, 0)) (by (with_reducible repeat (first | refine b1_ ?_ _ | refine b2_ ?_ | refine b3_ ?_ _)); exact BK248.out)) : gb248 ≠ gb250)); have n9_ := Aside0.mk ((by rw [hg]; exact Nat.ne_of_gt (blk_lt (g := gb248) (o := .cells #[.int .u16 a1_0, .int .u16 a1_1] 115 (0, 0)) (by (with_reducible repeat (first | refine b1_ ?_ _ | refine b2_ ?_ | refine b3_ ?_ _)); exact BK248.out)) : gb250 ≠ gb248)); clear BK247; clear BK248; clear HB; have BK247 := n0_; have BK248 := n1_; have HB := n2_; have BK250 := n3_; have GW250 := n4_; have GE250 := n5_; have NB247_250 := n6_; have NB250_247 := n7_; have NB248_250 := n8_; have NB250_248 := n9_; clear n0_ n1_ n2_ n3_ n4_ n5_ n6_ n7_ n8_ n9_; clear hb hbox hg; have hnb19 := NB250_247.out; have hnc19 := NB247_250.out; have hnb20 := NB250_248.out; have hnc20 := NB248_250.out; have hcz21_0 : w18.cell? ⟨gb250, 0, none⟩ = some (.int .u16 0) := (blk_cell BK250.out 0).trans rfl; have hcz21_1 : w18.cell? ⟨gb250, 1, none⟩ = some (.int .u16 0) := (blk_cell BK250.out 1).trans rfl; have hcz21_2 : w18.cell? ⟨gb250, 2, none⟩ = some (.int .u16 0) := (blk_cell BK250.out 2).trans rfl; have hcz21_3 : w18.cell? ⟨gb250, 3, none⟩ = some (.slice none 0 0) := (blk_cell BK250.out 3).trans rfl; have hcz21_4 : w18.cell? ⟨gb250, 4, none⟩ = some (.slice none 0 0) := (blk_cell BK250.out 4).trans rfl; have hfz21_0 := blk_frozen BK250.out 0; have hfz21_1 := blk_frozen BK250.out 1; have hfz21_2 := blk_frozen BK250.out 2; have hfz21_3 := blk_frozen BK250.out 3; have hfz21_4 := blk_frozen BK250.out 4; have hcz22_0 : w18.cell? ⟨gb248, 0, none⟩ = some (.int .u16 a1_0) := (blk_cell BK248.out 0).trans rfl; have hcz22_1 : w18.cell? ⟨gb248, 1, none⟩ = some (.int .u16 a1_1) := (blk_cell BK248.out 1).trans rfl; have hfz22_0 := blk_frozen BK248.out 0; have hfz22_1 := blk_frozen BK248.out 1))
     go_ret
     exact ⟨by first | rfl | (simp [errW_none, errW_some] <;> rfl) | (simp [*, errW_none, errW_some] <;> rfl), by repeat (first | (with_reducible first | exact HB.out | apply below_alloc | apply pw_below_drewN | apply below_drew1 | refine below_set ?_ GE247.out | refine below_set ?_ GE248.out | refine below_set ?_ GE250.out) | exact HB.out)⟩
    ·rw [if_neg c12] at H
     have c12b0 : decide ((((rd_T186 l0_3 a1_0).f4).length : Int) ≤ (wrap64 (a1_1))) = false := decide_eq_false c12
     clear c12
     by_cases c23 : 0 ≤ a1_1
     ·rw [if_pos c23] at H
      have c23b0 : decide (0 ≤ a1_1) = true := decide_eq_true c23
      clear c23
      by_cases c24 : a1_1 < (((rd_T186 l0_3 a1_0).f4).length : Int)
      ·rw [if_pos c24] at H
       have c24b0 : decide (a1_1 < (((rd_T186 l0_3 a1_0).f4).length : Int)) = true := decide_eq_true c24
       clear c24
       have H' := Aside0.mk H
       clear H
       go_enter Try.func36, Try.ntmps36
       go_wp2_with (first | ((with_reducible refine gate_dst (N := 3) rfl ?_); refine box_event ?hg (N := 3) ?hd (cs := #[.int .u16 a0_0, .int .u16 a0_1, .slice A0_2 l0_2.length c0_2, .slice A0_3 l0_3.length c0_3]) (t := 109) ?hr ?_; (case hd => rfl); (case hg => rfl); (case hr => first | (go_simp; done) | (go_simp; rfl)); intro gb247 hg w25 hbox hb; have n0_ := Aside0.mk (below_step (by repeat (first | (with_reducible first | exact HB.out | apply below_alloc | apply pw_below_drewN | apply below_drew1) | exact HB.out)) hb); have n1_ := Aside0.mk (hbox); have n2_ := Aside0.mk ((by rw [hg]; exact (below_size (by repeat (first | (with_reducible first | exact HB.out | apply below_alloc | apply pw_below_drewN | apply below_drew1) | exact HB.out))) : w.heap.size ≤ gb247)); have n3_ := Aside0.mk ((by rw [hg]; exact (below_size (by repeat (first | (with_reducible first | exact HB.out | apply below_alloc | apply pw_below_drewN | apply below_drew1) | exact HB.out))) : w.heap.size ≤ gb247)); clear HB; have HB := n0_; have BK247 := n1_; have GW247 := n2_; have GE247 := n3_; clear n0_ n1_ n2_ n3_; clear hb hbox hg) | ((with_reducible refine gate_dst (N := 4) rfl ?_); refine box_event ?hg (N := 4) ?hd (cs := #[.int .u16 a1_0, .int .u16 a1_1]) (t := 115) ?hr ?_; (case hd => rfl); (case hg => rfl); (case hr => first | (go_simp; done) | (go_simp; rfl)); intro gb248 hg w26 hbox hb; have n0_ := Aside0.mk (blk_below (g := gb247) (o := .cells #[.int .u16 a0_0, .int .u16 a0_1, .slice A0_2 l0_2.length c0_2, .slice A0_3 l0_3.length c0_3] 109 (0, 0)) (by (with_reducible repeat (first | refine b1_ ?_ _ | refine b2_ ?_ | refine b3_ ?_ _)); exact BK247.out) hb); have n1_ := Aside0.mk (below_step (by repeat (first | (with_reducible first | exact HB.out | apply below_alloc | apply pw_below_drewN | apply below_drew1 | refine below_set ?_ GE247.out) | exact HB.out)) hb); have n2_ := Aside0.mk (hbox); have n3_ := Aside0.mk ((by rw [hg]; exact (below_size (by repeat (first | (with_reducible first | exact HB.out | apply below_alloc | apply pw_below_drewN | apply below_drew1 | refine below_set ?_ GE247.out) | exact HB.out))) : w.heap.size ≤ gb248)); have n4_ := Aside0.mk ((by rw [hg]; exact (below_size (by repeat (first | (with_reducible first | exact HB.out | apply below_alloc | apply pw_below_drewN | apply below_drew1 | refine below_set ?_ GE247.out) | exact HB.out))) : w.heap.size ≤ gb248)); have n5_ := Aside0.mk ((by rw [hg]; exact Nat.ne_of_lt (blk_lt (g := gb247) (o := .cells #[.int .u16 a0_0, .int .u16 a0_1, .slice A0_2 l0_2.length c0_2, .slice A0_3 l0_3.length c0_3] 109 (0, 0)) (by (with_reducible repeat (first | refine b1_ ?_ _ | refine b2_ ?_ | refine b3_ ?_ _)); exact BK247.out)) : gb247 ≠ gb248)); have n6_ := Aside0.mk ((by rw [hg]; exact Nat.ne_of_gt (blk_lt (g := gb247) (o := .cells #[.int .u16 a0_0, .int .u16 a0_1, .slice A0_2 l0_2.length c0_2, .slice A0_3 l0_3.length c0_3] 109 (0, 0)) (by (with_reducible repeat (first | refine b1_ ?_ _ | refine b2_ ?_ | refine b3_ ?_ _)); exact BK247.out)) : gb248 ≠ gb247)); clear BK247; clear HB; have BK247 := n0_; have HB := n1_; have BK248 := n2_; have GW248 := n3_; have GE248 := n4_; have NB247_248 := n5_; have NB248_247 := n6_; clear n0_ n1_ n2_ n3_ n4_ n5_ n6_; clear hb hbox hg; have hnb27 := NB248_247.out; have hnc27 := NB247_248.out; have hcz28_0 : w26.cell? ⟨gb248, 0, none⟩ = some (.int .u16 a1_0) := (blk_cell BK248.out 0).trans rfl; have hcz28_1 : w26.cell? ⟨gb248, 1, none⟩ = some (.int .u16 a1_1) := (blk_cell BK248.out 1).trans rfl; have hfz28_0 := blk_frozen BK248.out 0; have hfz28_1 := blk_frozen BK248.out 1; have hcz29_0 : w26.cell? ⟨gb247, 0, none⟩ = some (.int .u16 a0_0) := (blk_cell BK247.out 0).trans rfl; have hcz29_1 : w26.cell? ⟨gb247, 1, none⟩ = some (.int .u16 a0_1) := (blk_cell BK247.out 1).trans rfl; have hcz29_2 : w26.cell? ⟨gb247, 2, none⟩ = some (.slice A0_2 l0_2.length c0_2) := (blk_cell BK247.out 2).trans rfl; have hcz29_3 : w26.cell? ⟨gb247, 3, none⟩ = some (.slice A0_3 l0_3.length c0_3) := (blk_cell BK247.out 3).trans rfl; have hfz29_0 := blk_frozen BK247.out 0; have hfz29_1 := blk_frozen BK247.out 1; have hfz29_2 := blk_frozen BK247.out 2; have hfz29_3 := blk_frozen BK247.out 3; have p249 : 0 ≤ (a1_0 : Int) := of_decide_eq_true (by first | (with_reducible assumption) | assumption); have q249 : a1_0 < (l0_3.length : Int) := of_decide_eq_true (by first | (with_reducible assumption) | assumption); obtain ⟨ad249, A249_3, c249_3, A249_4, c249_4, e249, hx249_0, hx249_1, hx249_2, hx249_3, hx249_4, hl249_3, hi249_3, hl249_4, hi249_4⟩ := at_T186 HR0_3.out a1_0 p249 q249; cases e249; replace hx249_0 := (HB.out.cell (World.block_lt_of_cell? w _ hx249_0)).trans hx249_0; replace hx249_1 := (HB.out.cell (World.block_lt_of_cell? w _ hx249_1)).trans hx249_1; replace hx249_2 := (HB.out.cell (World.block_lt_of_cell? w _ hx249_2)).trans hx249_2; replace hx249_3 := (HB.out.cell (World.block_lt_of_cell? w _ hx249_3)).trans hx249_3; replace hx249_4 := (HB.out.cell (World.block_lt_of_cell? w _ hx249_4)).trans hx249_4; have HR249_3 := Aside0.mk hi249_3; have HC249_3 := Aside0.mk hl249_3; clear hi249_3 hl249_3; have HR249_4 := Aside0.mk hi249_4; have HC249_4 := Aside0.mk hl249_4; clear hi249_4 hl249_4; replace p249 := eq_true p249; replace q249 := eq_true q249) | ((with_reducible refine gate_dst (N := 7) rfl ?_); refine box_event ?hg (N := 7) ?hd (cs := #[.int .u16 0, .int .u16 0, .int .u16 0, .slice none 0 0, .slice none 0 0]) (t := 186) ?hr ?_; (case hd => rfl); (case hg => rfl); (case hr => first | (go_simp; done) | (go_simp; rfl)); intro gb250 hg w30 hbox hb; have n0_ := Aside0.mk (blk_below (g := gb247) (o := .cells #[.int .u16 a0_0, .int .u16 a0_1, .slice A0_2 l0_2.length c0_2, .slice (some ad249) l0_3.length c0_3] 109 (0, 0)) (by (with_reducible repeat (first | refine b1_ ?_ _ | refine b2_ ?_ | refine b3_ ?_ _)); exact BK247.out) hb); have n1_ := Aside0.mk (blk_below (g := gb248) (o := .cells #[.int .u16 a1_0, .int .u16 a1_1] 115 (0, 0)) (by (with_reducible repeat (first | refine b1_ ?_ _ | refine b2_ ?_ | refine b3_ ?_ _)); exact BK248.out) hb); have n2_ := Aside0.mk (below_step (by repeat (first | (with_reducible first | exact HB.out | apply below_alloc | apply pw_below_drewN | apply below_drew1 | refine below_set ?_ GE247.out | refine below_set ?_ GE248.out) | exact HB.out)) hb); have n3_ := Aside0.mk (hbox); have n4_ := Aside0.mk ((by rw [hg]; exact (below_size (by repeat (first | (with_reducible first | exact HB.out | apply below_alloc | apply pw_below_drewN | apply below_drew1 | refine below_set ?_ GE247.out | refine below_set ?_ GE248.out) | exact HB.out))) : w.heap.size ≤ gb250)); have n5_ := Aside0.mk ((by rw [hg]; exact (below_size (by repeat (first | (with_reducible first | exact HB.out | apply below_alloc | apply pw_below_drewN | apply below_drew1 | refine below_set ?_ GE247.out | refine below_set ?_ GE248.out) | exact HB.out))) : w.heap.size ≤ gb250)); have n6_ := Aside0.mk ((by rw [hg]; exact Nat.ne_of_lt (blk_lt (g := gb247) (o := .cells #[.int .u16 a0_0, .int .u16 a0_1, .slice A0_2 l0_2.length c0_2, .slice (some ad249) l0_3.length c0_3] 109 (0, 0)) (by (with_reducible repeat (first | refine b1_ ?_ _ | refine b2_ ?_ | refine b3_ ?_ _)); exact BK247.out)) : gb247 ≠ gb250)); have n7_ := Aside0.mk ((by rw [hg]; exact Nat.ne_of_gt (blk_lt (g := gb247) (o := .cells #[.int .u16 a0_0, .int .u16 a0_1, .slice A0_2 l0_2.length c0_2, .slice (some ad249) l0_3.length c0_3] 109 (0, 0)) (by (with_reducible repeat (first | refine b1_ ?_ _ | refine b2_ ?_ | refine b3_ ?_ _)); exact BK247.out)) : gb250 ≠ gb247)); have n8_ := Aside0.mk ((by rw [hg]; exact Nat.ne_of_lt (blk_lt (g := gb248) (o := .cells #[.int .u16 a1_0, .int .u16 a1_1] 115 (0, 0)) (by (with_reducible repeat (first | refine b1_ ?_ _ | refine b2_ ?_ | refine b3_ ?_ _)); exact BK248.out)) : gb248 ≠ gb250)); have n9_ := Aside0.mk ((by rw [hg]; exact Nat.ne_of_gt (blk_lt (g := gb248) (o := .cells #[.int .u16 a1_0, .int .u16 a1_1] 115 (0, 0)) (by (with_reducible repeat (first | refine b1_ ?_ _ | refine b2_ ?_ | refine b3_ ?_ _)); exact BK248.out)) : gb250 ≠ gb248)); clear BK247; clear BK248; clear HB; have BK247 := n0_; have BK248 := n1_; have HB := n2_; have BK250 := n3_; have GW250 := n4_; have GE250 := n5_; have NB247_250 := n6_; have NB250_247 := n7_; have NB248_250 := n8_; have NB250_248 := n9_; clear n0_ n1_ n2_ n3_ n4_ n5_ n6_ n7_ n8_ n9_; clear hb hbox hg; have hnb31 := NB250_247.out; have hnc31 := NB247_250.out; have hnb32 := NB250_248.out; have hnc32 := NB248_250.out; have hcz33_0 : w30.cell? ⟨gb250, 0, none⟩ = some (.int .u16 0) := (blk_cell BK250.out 0).trans rfl; have hcz33_1 : w30.cell? ⟨gb250, 1, none⟩ = some (.int .u16 0) := (blk_cell BK250.out 1).trans rfl; have hcz33_2 : w30.cell? ⟨gb250, 2, none⟩ = some (.int .u16 0) := (blk_cell BK250.out 2).trans rfl; have hcz33_3 : w30.cell? ⟨gb250, 3, none⟩ = some (.slice none 0 0) := (blk_cell BK250.out 3).trans rfl; have hcz33_4 : w30.cell? ⟨gb250, 4, none⟩ = some (.slice none 0 0) := (blk_cell BK250.out 4).trans rfl; have hfz33_0 := blk_frozen BK250.out 0; have hfz33_1 := blk_frozen BK250.out 1; have hfz33_2 := blk_frozen BK250.out 2; have hfz33_3 := blk_frozen BK250.out 3; have hfz33_4 := blk_frozen BK250.out 4; have hcz34_0 : w30.cell? ⟨gb248, 0, none⟩ = some (.int .u16 a1_0) := (blk_cell BK248.out 0).trans rfl; have hcz34_1 : w30.cell? ⟨gb248, 1, none⟩ = some (.int .u16 a1_1) := (blk_cell BK248.out 1).trans rfl; have hfz34_0 := blk_frozen BK248.out 0; have hfz34_1 := blk_frozen BK248.out 1; have p251 : 0 ≤ (a1_1 : Int) := of_decide_eq_true (by first | (with_reducible assumption) | assumption); have q251 : a1_1 < (((rd_T186 l0_3 a1_0).f4).length : Int) := of_decide_eq_true (by first | (with_reducible assumption) | assumption); obtain ⟨ad251, A251_0, c251_0, e251, hx251_0, hl251_0, hi251_0⟩ := at_L5 HR249_4.out a1_1 p251 q251; cases e251; have hn251_0 : ad251.block ≠ gb250 := Nat.ne_of_lt (Nat.lt_of_lt_of_le (by have := World.block_lt_of_cell? _ _ hx251_0; first | rwa [add_block] at this | exact this) GW250.out); have hn251_1 : ad251.block ≠ gb250 := Nat.ne_of_lt (Nat.lt_of_lt_of_le (by have := World.block_lt_of_cell? _ _ hx251_0; first | rwa [add_block] at this | exact this) GW250.out); have hn251_2 : ad251.block ≠ gb250 := Nat.ne_of_lt (Nat.lt_of_lt_of_le (by have := World.block_lt_of_cell? _ _ hx251_0; first | rwa [add_block] at this | exact this) GW250.out); have hn251_3 : ad251.block ≠ gb250 := Nat.ne_of_lt (Nat.lt_of_lt_of_le (by have := World.block_lt_of_cell? _ _ hx251_0; first | rwa [add_block] at this | exact this) GW250.out); have hn251_4 : ad251.block ≠ gb250 := Nat.ne_of_lt (Nat.lt_of_lt_of_le (by have := World.block_lt_of_cell? _ _ hx251_0; first | rwa [add_block] at this | exact this) GW250.out); replace hx251_0 := (HB.out.cell (World.block_lt_of_cell? w _ hx251_0)).trans hx251_0; have HR251_0 := Aside0.mk hi251_0; have HC251_0 := Aside0.mk hl251_0; clear hi251_0 hl251_0; replace hx251_0 := (cell_far (p := ⟨gb250, 0, none⟩) (by first | (rw [add_block]; exact hn251_0) | (show (Addr.add _ _).block ≠ _; rw [add_block]; exact hn251_0) | exact hn251_0) (.int .u16 ((rd_T186 l0_3 a1_0).f0))).trans hx251_0; replace hx251_0 := (cell_far (p := ⟨gb250, 1, none⟩) (by first | (rw [add_block]; exact hn251_1) | (show (Addr.add _ _).block ≠ _; rw [add_block]; exact hn251_1) | exact hn251_1) (.int .u16 ((rd_T186 l0_3 a1_0).f1))).trans hx251_0; replace hx251_0 := (cell_far (p := ⟨gb250, 2, none⟩) (by first | (rw [add_block]; exact hn251_2) | (show (Addr.add _ _).block ≠ _; rw [add_block]; exact hn251_2) | exact hn251_2) (.int .u16 ((rd_T186 l0_3 a1_0).f2))).trans hx251_0; replace hx251_0 := (cell_far (p := ⟨gb250, 3, none⟩) (by first | (rw [add_block]; exact hn251_3) | (show (Addr.add _ _).block ≠ _; rw [add_block]; exact hn251_3) | exact hn251_3) (.slice A249_3 ((rd_T186 l0_3 a1_0).f3).length c249_3)).trans hx251_0; replace hx251_0 := (cell_far (p := ⟨gb250, 4, none⟩) (by first | (rw [add_block]; exact hn251_4) | (show (Addr.add _ _).block ≠ _; rw [add_block]; exact hn251_4) | exact hn251_4) (.slice (some ad251) ((rd_T186 l0_3 a1_0).f4).length c249_4)).trans hx251_0; clear hn251_0; clear hn251_1; clear hn251_2; clear hn251_3; clear hn251_4; replace p251 := eq_true p251; replace q251 := eq_true q251))
       go_loopg [9, 43] k (fun kq v9 v43 w' => ∃ (x9_1 : Nat) (x43_1 : Int), v9 = .float .f32 x9_1 ∧ v43 = .int .i64 x43_1 ∧ Aside0 (tables_ItemVarStore_GetDelta.l0 kq l2 (rd_L5 ((rd_T186 l0_3 a1_0).f4) a1_1) x9_1 ((rd_T186 l0_3 a1_0).f3) (((rd_T186 l0_3 a1_0).f3).length : Int) x43_1 a0_0 a0_1 l0_2 l0_3 = some r) ∧ Aside0 (kq ≤ k) ∧ Aside0 (w'.heap[gb247]? = some (.cells #[.int .u16 a0_0, .int .u16 a0_1, (.slice A0_2 l0_2.length c0_2), (.slice (some ad249) l0_3.length c0_3)] 109 (0, 0))) ∧ Aside0 (w'.heap[gb248]? = some (.cells #[.int .u16 a1_0, .int .u16 a1_1] 115 (0, 0))) ∧ Aside0 (w'.heap[gb250]? = some (.cells #[.int .u16 ((rd_T186 l0_3 a1_0).f0), .int .u16 ((rd_T186 l0_3 a1_0).f1), .int .u16 ((rd_T186 l0_3 a1_0).f2), (.slice A249_3 ((rd_T186 l0_3 a1_0).f3).length c249_3), (.slice (some ad251) ((rd_T186 l0_3 a1_0).f4).length c249_4)] 186 (0, 0))) ∧ Aside0 (Below w.heap.size w w'))
       case atStart => exact ⟨(0), (0), (by first | rfl | (simp; done) | (simp [*]; done)), (by first | rfl | (simp; done) | (simp [*]; done)), H', ⟨Nat.le_refl _⟩, ⟨by (with_reducible repeat (first | refine b1_ ?_ _ | refine b2_ ?_ | refine b3_ ?_ _)); refine blk_far ?_ NB247_250.out _; (with_reducible repeat (first | refine b1_ ?_ _ | refine b2_ ?_ | refine b3_ ?_ _)); refine blk_far ?_ NB247_250.out _; (with_reducible repeat (first | refine b1_ ?_ _ | refine b2_ ?_ | refine b3_ ?_ _)); refine blk_far ?_ NB247_250.out _; (with_reducible repeat (first | refine b1_ ?_ _ | refine b2_ ?_ | refine b3_ ?_ _)); refine blk_far ?_ NB247_250.out _; (with_reducible repeat (first | refine b1_ ?_ _ | refine b2_ ?_ | refine b3_ ?_ _)); refine blk_far ?_ NB247_250.out _; (with_reducible repeat (first | refine b1_ ?_ _ | refine b2_ ?_ | refine b3_ ?_ _)); exact BK247.out⟩, ⟨by (with_reducible repeat (first | refine b1_ ?_ _ | refine b2_ ?_ | refine b3_ ?_ _)); refine blk_far ?_ NB248_250.out _; (with_reducible repeat (first | refine b1_ ?_ _ | refine b2_ ?_ | refine b3_ ?_ _)); refine blk_far ?_ NB248_250.out _; (with_reducible repeat (first | refine b1_ ?_ _ | refine b2_ ?_ | refine b3_ ?_ _)); refine blk_far ?_ NB248_250.out _; (with_reducible repeat (first | refine b1_ ?_ _ | refine b2_ ?_ | refine b3_ ?_ _)); refine blk_far ?_ NB248_250.out _; (with_reducible repeat (first | refine b1_ ?_ _ | refine b2_ ?_ | refine b3_ ?_ _)); refine blk_far ?_ NB248_250.out _; (with_reducible repeat (first | refine b1_ ?_ _ | refine b2_ ?_ | refine b3_ ?_ _)); exact BK248.out⟩, ⟨by (with_reducible repeat (first | refine b1_ ?_ _ | refine b2_ ?_ | refine b3_ ?_ _)); refine blk_put (cs := #[.int .u16 ((rd_T186 l0_3 a1_0).f0), .int .u16 ((rd_T186 l0_3 a1_0).f1), .int .u16 ((rd_T186 l0_3 a1_0).f2), .slice A249_3 ((rd_T186 l0_3 a1_0).f3).length c249_3, .slice none 0 0]) ?_ 4 _ rfl; (with_reducible repeat (first | refine b1_ ?_ _ | refine b2_ ?_ | refine b3_ ?_ _)); refine blk_put (cs := #[.int .u16 ((rd_T186 l0_3 a1_0).f0), .int .u16 ((rd_T186 l0_3 a1_0).f1), .int .u16 ((rd_T186 l0_3 a1_0).f2), .slice none 0 0, .slice none 0 0]) ?_ 3 _ rfl; (with_reducible repeat (first | refine b1_ ?_ _ | refine b2_ ?_ | refine b3_ ?_ _)); refine blk_put (cs := #[.int .u16 ((rd_T186 l0_3 a1_0).f0), .int .u16 ((rd_T186 l0_3 a1_0).f1), .int .u16 0, .slice none 0 0, .slice none 0 0]) ?_ 2 _ rfl; (with_reducible repeat (first | refine b1_ ?_ _ | refine b2_ ?_ | refine b3_ ?_ _)); refine blk_put (cs := #[.int .u16 ((rd_T186 l0_3 a1_0).f0), .int .u16 0, .int .u16 0, .slice none 0 0, .slice none 0 0]) ?_ 1 _ rfl; (with_reducible repeat (first | refine b1_ ?_ _ | refine b2_ ?_ | refine b3_ ?_ _)); refine blk_put (cs := #[.int .u16 0, .int .u16 0, .int .u16 0, .slice none 0 0, .slice none 0 0]) ?_ 0 _ rfl; (with_reducible repeat (first | refine b1_ ?_ _ | refine b2_ ?_ | refine b3_ ?_ _)); exact BK250.out⟩, ⟨by repeat (first | (with_reducible first | exact HB.out | apply below_alloc | apply pw_below_drewN | apply below_drew1 | refine below_set ?_ GE247.out | refine below_set ?_ GE248.out | refine below_set ?_ GE250.out) | exact HB.out)⟩⟩
       case round =>
        clear H'
        try clear c1
        try clear c2
        try clear p2
        try clear q2
        try clear hx2
        try clear c3
        try clear c4
        try clear c4b0
        try clear p6
        try clear c7
        try clear c10
        try clear c10b0
        try clear c11
        try clear c11b0
        try clear c12
        try clear c12b0
        try clear c15
        try clear c19
        try clear c20
        try clear c23
        try clear c23b0
        try clear c24
        try clear c24b0
        try clear p24
        try clear q24
        try clear hx24
        try clear c25
        try clear p25
        try clear q25
        try clear hx25
        try clear c27
        try clear c31
        try clear c32
        try clear hcz16_0
        try clear hcz16_1
        try clear hcz17_0
        try clear hcz17_1
        try clear hcz17_2
        try clear hcz17_3
        try clear hcz21_0
        try clear hcz21_1
        try clear hcz21_2
        try clear hcz21_3
        try clear hcz21_4
        try clear hcz22_0
        try clear hcz22_1
        try clear hcz28_0
        try clear hcz28_1
        try clear hcz29_0
        try clear hcz29_1
        try clear hcz29_2
        try clear hcz29_3
        try clear hcz33_0
        try clear hcz33_1
        try clear hcz33_2
        try clear hcz33_3
        try clear hcz33_4
        try clear hcz34_0
        try clear hcz34_1
        try clear hcz8_0
        try clear hcz8_1
        try clear hcz9_0
        try clear hcz9_1
        try clear hcz9_2
        try clear hcz9_3
        try clear hfz16_0
        try clear hfz16_1
        try clear hfz17_0
        try clear hfz17_1
        try clear hfz17_2
        try clear hfz17_3
        try clear hfz21_0
        try clear hfz21_1
        try clear hfz21_2
        try clear hfz21_3
        try clear hfz21_4
        try clear hfz22_0
        try clear hfz22_1
        try clear hfz28_0
        try clear hfz28_1
        try clear hfz29_0
        try clear hfz29_1
        try clear hfz29_2
        try clear hfz29_3
        try clear hfz33_0
        try clear hfz33_1
        try clear hfz33_2
        try clear hfz33_3
        try clear hfz33_4
        try clear hfz34_0
        try clear hfz34_1
        try clear hfz8_0
        try clear hfz8_1
        try clear hfz9_0
        try clear hfz9_1
        try clear hfz9_2
        try clear hfz9_3
        try clear hx249_0
        try clear hx249_1
        try clear hx249_2
        try clear hx249_3
        try clear hx249_4
        try clear hx251_0
        try clear p249
        try clear p251
        try clear q249
        try clear q251
        obtain ⟨x9_1, x43_1, rfl, rfl, HA, HK1, BK247, BK248, BK250, HB⟩ := hrel
        cases gk with
        | zero => exact absurd HA.out (by simp [tables_ItemVarStore_GetDelta.l0])
        | succ k1 =>
         have H := HA.out
         clear HA
         simp only [tables_ItemVarStore_GetDelta.l0] at H
         by_cases c35 : x43_1 < (((rd_T186 l0_3 a1_0).f3).length : Int)
         ·rw [if_pos c35] at H
          have c35b0 : decide (x43_1 < (((rd_T186 l0_3 a1_0).f3).length : Int)) = true := decide_eq_true c35
          clear c35
          by_cases c36 : 0 ≤ x43_1
          ·rw [if_pos c36] at H
           have c36b0 : decide (0 ≤ x43_1) = true := decide_eq_true c36
           clear c36
           by_cases c37 : x43_1 < (((rd_T186 l0_3 a1_0).f3).length : Int)
           ·rw [if_pos c37] at H
            have c37b0 : decide (x43_1 < (((rd_T186 l0_3 a1_0).f3).length : Int)) = true := decide_eq_true c37
            clear c37
            by_cases c38 : 0 ≤ (rd ((rd_T186 l0_3 a1_0).f3) x43_1)
            ·rw [if_pos c38] at H
             have c38b0 : decide (0 ≤ (rd ((rd_T186 l0_3 a1_0).f3) x43_1)) = true := decide_eq_true c38
             clear c38
             by_cases c39 : (rd ((rd_T186 l0_3 a1_0).f3) x43_1) < (l0_2.length : Int)
             ·rw [if_pos c39] at H
              have c39b0 : decide ((rd ((rd_T186 l0_3 a1_0).f3) x43_1) < (l0_2.length : Int)) = true := decide_eq_true c39
              clear c39
              replace H := Option.bind_eq_some_iff.mp H
              obtain ⟨t255, A400, H⟩ := H
              replace H : (if x43_1 < ((rd_L5 ((rd_T186 l0_3 a1_0).f4) a1_1).length : Int) then (if fok .mul .f32 (floatOfInt .f32 (rd (rd_L5 ((rd_T186 l0_3 a1_0).f4) a1_1) x43_1)) t255 = true then (if fok .add .f32 x9_1 (fv .mul .f32 (floatOfInt .f32 (rd (rd_L5 ((rd_T186 l0_3 a1_0).f4) a1_1) x43_1)) t255) = true then (tables_ItemVarStore_GetDelta.l0 k1 l2 (rd_L5 ((rd_T186 l0_3 a1_0).f4) a1_1) (fv .add .f32 x9_1 (fv .mul .f32 (floatOfInt .f32 (rd (rd_L5 ((rd_T186 l0_3 a1_0).f4) a1_1) x43_1)) t255)) ((rd_T186 l0_3 a1_0).f3) (((rd_T186 l0_3 a1_0).f3).length : Int) (wrap64 (x43_1 + 1)) a0_0 a0_1 l0_2 l0_3) else (none)) else (none)) else (none)) = some r := H
              have A40 := Aside0.mk A400
              clear A400
              by_cases c41 : x43_1 < ((rd_L5 ((rd_T186 l0_3 a1_0).f4) a1_1).length : Int)
              ·rw [if_pos c41] at H
               have c41b0 : decide (x43_1 < ((rd_L5 ((rd_T186 l0_3 a1_0).f4) a1_1).length : Int)) = true := decide_eq_true c41
               clear c41
               by_cases c42 : fok .mul .f32 (floatOfInt .f32 (rd (rd_L5 ((rd_T186 l0_3 a1_0).f4) a1_1) x43_1)) t255 = true
               ·rw [if_pos c42] at H
                have c42b0 := eq_true c42
                have c42b1 : decide (fok .mul .f32 (floatOfInt .f32 (rd (rd_L5 ((rd_T186 l0_3 a1_0).f4) a1_1) x43_1)) t255 = true) = true := decide_eq_true c42
                clear c42
                by_cases c43 : fok .add .f32 x9_1 (fv .mul .f32 (floatOfInt .f32 (rd (rd_L5 ((rd_T186 l0_3 a1_0).f4) a1_1) x43_1)) t255) = true
                ·rw [if_pos c43] at H
                 have c43b0 := eq_true c43
                 have c43b1 : decide (fok .add .f32 x9_1 (fv .mul .f32 (floatOfInt .f32 (rd (rd_L5 ((rd_T186 l0_3 a1_0).f4) a1_1) x43_1)) t255) = true) = true := decide_eq_true c43
                 clear c43
                 have H' := Aside0.mk H
                 clear H
                 have p252 : 0 ≤ (x43_1 : Int) := of_decide_eq_true (by first | (with_reducible assumption) | assumption)
                 have q252 : x43_1 < (((rd_T186 l0_3 a1_0).f3).length : Int) := of_decide_eq_true (by first | (with_reducible assumption) | assumption)
                 obtain ⟨ad252, e252, hx252_0⟩ := Kd.at_int HR249_3.out x43_1 p252 q252
                 cases e252
                 replace hx252_0 := (HB.out.cell (World.block_lt_of_cell? w _ hx252_0)).trans hx252_0
                 replace p252 := eq_true p252
                 replace q252 := eq_true q252
                 have hnb44 := NB247_248.out
                 have hnc44 := NB248_247.out
                 have hnb45 := NB247_250.out
                 have hnc45 := NB250_247.out
                 have hcz46_0 : wr.cell? ⟨gb247, 0, none⟩ = some (.int .u16 a0_0) := (blk_cell BK247.out 0).trans rfl
                 have hcz46_1 : wr.cell? ⟨gb247, 1, none⟩ = some (.int .u16 a0_1) := (blk_cell BK247.out 1).trans rfl
                 have hcz46_2 : wr.cell? ⟨gb247, 2, none⟩ = some (.slice A0_2 l0_2.length c0_2) := (blk_cell BK247.out 2).trans rfl
                 have hcz46_3 : wr.cell? ⟨gb247, 3, none⟩ = some (.slice (some ad249) l0_3.length c0_3) := (blk_cell BK247.out 3).trans rfl
                 have hfz46_0 := blk_frozen BK247.out 0
                 have hfz46_1 := blk_frozen BK247.out 1
                 have hfz46_2 := blk_frozen BK247.out 2
                 have hfz46_3 := blk_frozen BK247.out 3
                 have p253 : 0 ≤ ((rd ((rd_T186 l0_3 a1_0).f3) x43_1) : Int) := of_decide_eq_true (by first | (with_reducible assumption) | assumption)
                 have q253 : (rd ((rd_T186 l0_3 a1_0).f3) x43_1) < (l0_2.length : Int) := of_decide_eq_true (by first | (with_reducible assumption) | assumption)
                 obtain ⟨ad253, A253_0, c253_0, e253, hx253_0, hl253_0, hi253_0⟩ := at_T182 HR0_2.out (rd ((rd_T186 l0_3 a1_0).f3) x43_1) p253 q253
                 cases e253
                 replace hx253_0 := (HB.out.cell (World.block_lt_of_cell? w _ hx253_0)).trans hx253_0
                 have HR253_0 := Aside0.mk hi253_0
                 have HC253_0 := Aside0.mk hl253_0
                 clear hi253_0 hl253_0
                 replace p253 := eq_true p253
                 replace q253 := eq_true q253
                 go_wp2_with (first | ((with_reducible refine gate_dst (N := 12) rfl ?_); refine box_event ?hg (N := 12) ?hd (cs := #[.slice none 0 0]) (t := 182) ?hr ?_; (case hd => rfl); (case hg => rfl); (case hr => first | (go_simp; done) | (go_simp; rfl)); intro gb254 hg w47 hbox hb; have n0_ := Aside0.mk (blk_below (g := gb247) (o := .cells #[.int .u16 a0_0, .int .u16 a0_1, .slice (some ad253) l0_2.length c0_2, .slice (some ad249) l0_3.length c0_3] 109 (0, 0)) (by (with_reducible repeat (first | refine b1_ ?_ _ | refine b2_ ?_ | refine b3_ ?_ _)); exact BK247.out) hb); have n1_ := Aside0.mk (blk_below (g := gb248) (o := .cells #[.int .u16 a1_0, .int .u16 a1_1] 115 (0, 0)) (by (with_reducible repeat (first | refine b1_ ?_ _ | refine b2_ ?_ | refine b3_ ?_ _)); exact BK248.out) hb); have n2_ := Aside0.mk (blk_below (g := gb250) (o := .cells #[.int .u16 ((rd_T186 l0_3 a1_0).f0), .int .u16 ((rd_T186 l0_3 a1_0).f1), .int .u16 ((rd_T186 l0_3 a1_0).f2), .slice (some ad252) ((rd_T186 l0_3 a1_0).f3).length c249_3, .slice (some ad251) ((rd_T186 l0_3 a1_0).f4).length c249_4] 186 (0, 0)) (by (with_reducible repeat (first | refine b1_ ?_ _ | refine b2_ ?_ | refine b3_ ?_ _)); exact BK250.out) hb); have n3_ := Aside0.mk (below_step (by repeat (first | (with_reducible first | exact HB.out | apply below_alloc | apply pw_below_drewN | apply below_drew1 | refine below_set ?_ GE247.out | refine below_set ?_ GE248.out | refine below_set ?_ GE250.out) | exact HB.out)) hb); have n4_ := Aside0.mk (hbox); have n5_ := Aside0.mk ((by rw [hg]; exact (below_size (by repeat (first | (with_reducible first | exact HB.out | apply below_alloc | apply pw_below_drewN | apply below_drew1 | refine below_set ?_ GE247.out | refine below_set ?_ GE248.out | refine below_set ?_ GE250.out) | exact HB.out))) : w.heap.size ≤ gb254)); have n6_ := Aside0.mk ((by rw [hg]; exact (below_size (by repeat (first | (with_reducible first | exact HB.out | apply below_alloc | apply pw_below_drewN | apply below_drew1 | refine below_set ?_ GE247.out | refine below_set ?_ GE248.out | refine below_set ?_ GE250.out) | exact HB.out))) : w.heap.size ≤ gb254)); have n7_ := Aside0.mk ((by rw [hg]; exact Nat.ne_of_lt (blk_lt (g := gb247) (o := .cells #[.int .u16 a0_0, .int .u16 a0_1, .slice (some ad253) l0_2.length c0_2, .slice (some ad249) l0_3.length c0_3] 109 (0, 0)) (by (with_reducible repeat (first | refine b1_ ?_ _ | refine b2_ ?_ | refine b3_ ?_ _)); exact BK247.out)) : gb247 ≠ gb254)); have n8_ := Aside0.mk ((by rw [hg]; exact Nat.ne_of_gt (blk_lt (g := gb247) (o := .cells #[.int .u16 a0_0, .int .u16 a0_1, .slice (some ad253) l0_2.length c0_2, .slice (some ad249) l0_3.length c0_3] 109 (0, 0)) (by (with_reducible repeat (first | refine b1_ ?_ _ | refine b2_ ?_ | refine b3_ ?_ _)); exact BK247.out)) : gb254 ≠ gb247)); have n9_ := Aside0.mk ((by rw [hg]; exact Nat.ne_of_lt (blk_lt (g := gb248) (o := .cells #[.int .u16 a1_0, .int .u16 a1_1] 115 (0, 0)) (by (with_reducible repeat (first | refine b1_ ?_ _ | refine b2_ ?_ | refine b3_ ?_ _)); exact BK248.out)) : gb248 ≠ gb254)); have n10_ := Aside0.mk ((by rw [hg]; exact Nat.ne_of_gt (blk_lt (g := gb248) (o := .cells #[.int .u16 a1_0, .int .u16 a1_1] 115 (0, 0)) (by (with_reducible repeat (first | refine b1_ ?_ _ | refine b2_ ?_ | refine b3_ ?_ _)); exact BK248.out)) : gb254 ≠ gb248)); have n11_ := Aside0.mk ((by rw [hg]; exact Nat.ne_of_lt (blk_lt (g := gb250) (o := .cells #[.int .u16 ((rd_T186 l0_3 a1_0).f0), .int .u16 ((rd_T186 l0_3 a1_0).f1), .int .u16 ((rd_T186 l0_3 a1_0).f2), .slice (some ad252) ((rd_T186 l0_3 a1_0).f3).length c249_3, .slice (some ad251) ((rd_T186 l0_3 a1_0).f4).length c249_4] 186 (0, 0)) (by (with_reducible repeat (first | refine b1_ ?_ _ | refine b2_ ?_ | refine b3_ ?_ _)); exact BK250.out)) : gb250 ≠ gb254)); have n12_ := Aside0.mk ((by rw [hg]; exact Nat.ne_of_gt (blk_lt (g := gb250) (o := .cells #[.int .u16 ((rd_T186 l0_3 a1_0).f0), .int .u16 ((rd_T186 l0_3 a1_0).f1), .int .u16 ((rd_T186 l0_3 a1_0).f2), .slice (some ad252) ((rd_T186 l0_3 a1_0).f3).length c249_3, .slice (some ad251) ((rd_T186 l0_3 a1_0).f4).length c249_4] 186 (0, 0)) (by (with_reducible repeat (first | refine b1_ ?_ _ | refine b2_ ?_ | refine b3_ ?_ _)); exact BK250.out)) : gb254 ≠ gb250)); clear BK247; clear BK248; clear BK250; clear HB; have BK247 := n0_; have BK248 := n1_; have BK250 := n2_; have HB := n3_; have BK254 := n4_; have GW254 := n5_; have GE254 := n6_; have NB247_254 := n7_; have NB254_247 := n8_; have NB248_254 := n9_; have NB254_248 := n10_; have NB250_254 := n11_; have NB254_250 := n12_; clear n0_ n1_ n2_ n3_ n4_ n5_ n6_ n7_ n8_ n9_ n10_ n11_ n12_; clear hb hbox hg; have hnb48 := NB254_247.out; have hnc48 := NB247_254.out; have hnb49 := NB254_248.out; have hnc49 := NB248_254.out; have hnb50 := NB254_250.out; have hnc50 := NB250_254.out; have hcz51_0 : w47.cell? ⟨gb254, 0, none⟩ = some (.slice none 0 0) := (blk_cell BK254.out 0).trans rfl; have hfz51_0 := blk_frozen BK254.out 0) | ((with_reducible refine gate_callee (f := 58) rfl ?_); refine goesL_ (some 56) rfl rfl Try.func58 (by kernel_rfl) rfl #[.agg #[.slice A253_0 ((rd_T182 l0_2 (rd ((rd_T186 l0_3 a1_0).f3) x43_1)).f0).length c253_0], .slice A2 l2.length c2] rfl (by (try simp only [List.map_toArray, List.map_cons, List.map_nil]); first | done | rfl | (simp only [List.length_drop, List.length_take]; rfl)) ?_; (with_reducible refine (tables_VariationRegion_Evaluate.calls k1 _ _ ((rd_T182 l0_2 (rd ((rd_T186 l0_3 a1_0).f3) x43_1)).f0) _ _ l2 t255 _ ?side1 ?side2 ?side3 ?side4 A40.out).mono ?_); (case side1 => exact Kd.C_below HR253_0.out (by repeat (first | (with_reducible first | exact HB.out | apply below_alloc | apply pw_below_drewN | apply below_drew1 | refine below_set ?_ GE247.out | refine below_set ?_ GE248.out | refine below_set ?_ GE250.out | refine below_set ?_ GE254.out) | exact HB.out))); (case side2 => exact HC253_0.out); (case side3 => exact Kd.C_below HR2.out (by repeat (first | (with_reducible first | exact HB.out | apply below_alloc | apply pw_below_drewN | apply below_drew1 | refine below_set ?_ GE247.out | refine below_set ?_ GE248.out | refine below_set ?_ GE250.out | refine below_set ?_ GE254.out) | exact HB.out))); (case side4 => exact HC2.out); rintro e w52 ⟨rfl, hb⟩; refine ⟨_, rfl, ?_⟩; have n0_ := Aside0.mk (blk_below (g := gb247) (o := .cells #[.int .u16 a0_0, .int .u16 a0_1, .slice (some ad253) l0_2.length c0_2, .slice (some ad249) l0_3.length c0_3] 109 (0, 0)) (by (with_reducible repeat (first | refine b1_ ?_ _ | refine b2_ ?_ | refine b3_ ?_ _)); refine blk_far ?_ NB247_254.out _; (with_reducible repeat (first | refine b1_ ?_ _ | refine b2_ ?_ | refine b3_ ?_ _)); exact BK247.out) hb); have n1_ := Aside0.mk (blk_below (g := gb248) (o := .cells #[.int .u16 a1_0, .int .u16 a1_1] 115 (0, 0)) (by (with_reducible repeat (first | refine b1_ ?_ _ | refine b2_ ?_ | refine b3_ ?_ _)); refine blk_far ?_ NB248_254.out _; (with_reducible repeat (first | refine b1_ ?_ _ | refine b2_ ?_ | refine b3_ ?_ _)); exact BK248.out) hb); have n2_ := Aside0.mk (blk_below (g := gb250) (o := .cells #[.int .u16 ((rd_T186 l0_3 a1_0).f0), .int .u16 ((rd_T186 l0_3 a1_0).f1), .int .u16 ((rd_T186 l0_3 a1_0).f2), .slice (some ad252) ((rd_T186 l0_3 a1_0).f3).length c249_3, .slice (some ad251) ((rd_T186 l0_3 a1_0).f4).length c249_4] 186 (0, 0)) (by (with_reducible repeat (first | refine b1_ ?_ _ | refine b2_ ?_ | refine b3_ ?_ _)); refine blk_far ?_ NB250_254.out _; (with_reducible repeat (first | refine b1_ ?_ _ | refine b2_ ?_ | refine b3_ ?_ _)); exact BK250.out) hb); have n3_ := Aside0.mk (blk_below (g := gb254) (o := .cells #[.slice A253_0 ((rd_T182 l0_2 (rd ((rd_T186 l0_3 a1_0).f3) x43_1)).f0).length c253_0] 182 (0, 0)) (by (with_reducible repeat (first | refine b1_ ?_ _ | refine b2_ ?_ | refine b3_ ?_ _)); refine blk_put (cs := #[.slice none 0 0]) ?_ 0 _ rfl; (with_reducible repeat (first | refine b1_ ?_ _ | refine b2_ ?_ | refine b3_ ?_ _)); exact BK254.out) hb); have n4_ := Aside0.mk (below_step (by repeat (first | (with_reducible first | exact HB.out | apply below_alloc | apply pw_below_drewN | apply below_drew1 | refine below_set ?_ GE247.out | refine below_set ?_ GE248.out | refine below_set ?_ GE250.out | refine below_set ?_ GE254.out) | exact HB.out)) hb); clear BK247; clear BK248; clear BK250; clear BK254; clear HB; have BK247 := n0_; have BK248 := n1_; have BK250 := n2_; have BK254 := n3_; have HB := n4_; clear n0_ n1_ n2_ n3_ n4_; (try clear hb); (try clear hb2); (try clear hk); (try clear hi); have p256 : 0 ≤ (x43_1 : Int) := of_decide_eq_true (by first | (with_reducible assumption) | assumption); have q256 : x43_1 < ((rd_L5 ((rd_T186 l0_3 a1_0).f4) a1_1).length : Int) := of_decide_eq_true (by first | (with_reducible assumption) | assumption); obtain ⟨ad256, e256, hx256_0⟩ := Kd.at_int HR251_0.out x43_1 p256 q256; cases e256; replace hx256_0 := (HB.out.cell (World.block_lt_of_cell? w _ hx256_0)).trans hx256_0; replace p256 := eq_true p256; replace q256 := eq_true q256))
                 go_roundg k1
                 case measure => have := HK1.out; omega
                 case rel => exact ⟨(fv .add .f32 x9_1 (fv .mul .f32 (floatOfInt .f32 (rd (rd_L5 ((rd_T186 l0_3 a1_0).f4) a1_1) x43_1)) t255)), (wrap64 (x43_1 + 1)), (by first | rfl | (simp; done) | (simp [*]; done)), (by first | rfl | (simp; done) | (simp [*]; done)), H', ⟨by have := HK1.out; omega⟩, ⟨by (with_reducible repeat (first | refine b1_ ?_ _ | refine b2_ ?_ | refine b3_ ?_ _)); exact BK247.out⟩, ⟨by (with_reducible repeat (first | refine b1_ ?_ _ | refine b2_ ?_ | refine b3_ ?_ _)); exact BK248.out⟩, ⟨by (with_reducible repeat (first | refine b1_ ?_ _ | refine b2_ ?_ | refine b3_ ?_ _)); exact BK250.out⟩, ⟨by repeat (first | (with_reducible first | exact HB.out | apply below_alloc | apply pw_below_drewN | apply below_drew1 | refine below_set ?_ GE247.out | refine below_set ?_ GE248.out | refine below_set ?_ GE250.out | refine below_set ?_ GE254.out) | exact HB.out)⟩⟩
                ·rw [if_neg c43] at H
                 exact absurd H (by simp)
               ·rw [if_neg c42] at H
                exact absurd H (by simp)
              ·rw [if_neg c41] at H
               exact absurd H (by simp)
             ·rw [if_neg c39] at H
              exact absurd H (by simp)
            ·rw [if_neg c38] at H
             exact absurd H (by simp)
           ·rw [if_neg c37] at H
            exact absurd H (by simp)
          ·rw [if_neg c36] at H
           exact absurd H (by simp)
         ·rw [if_neg c35] at H
          have c35b0 : decide (x43_1 < (((rd_T186 l0_3 a1_0).f3).length : Int)) = false := decide_eq_false c35
          clear c35
          obtain rfl := Option.some.inj H
          go_wp2
          go_ret
          exact ⟨by first | rfl | (simp [errW_none, errW_some] <;> rfl) | (simp [*, errW_none, errW_some] <;> rfl), by repeat (first | (with_reducible first | exact HB.out | apply below_alloc | apply pw_below_drewN | apply below_drew1 | refine below_set ?_ GE247.out | refine below_set ?_ GE248.out | refine below_set ?_ GE250.out) | exact HB.out)⟩
      ·rw [if_neg c24] at H
       exact absurd H (by simp)
     ·rw [if_neg c23] at H
      exact absurd H (by simp)
   ·rw [if_neg c11] at H
    exact absurd H (by simp)
  ·rw [if_neg c10] at H
   exact absurd H (by simp)

/-! ### tables_DeltaSetMapping_Index: function 59 -/
def tables_DeltaSetMapping_Index.f (a0_0 : Int) (a0_1 : Int) (l0_2 : List (S115)) (a1 : Int) : Option (Int × Int) := if (l0_2.length : Int) = 0 then (some (0, a1)) else (if (wrap64 (a1)) ≥ (l0_2.length : Int) then (if 0 ≤ (IntKind.u16.wrap (wrap64 ((l0_2.length : Int) - 1))) then (if (IntKind.u16.wrap (wrap64 ((l0_2.length : Int) - 1))) < (l0_2.length : Int) then (some ((rd_T115 l0_2 (IntKind.u16.wrap (wrap64 ((l0_2.length : Int) - 1)))).f0, (rd_T115 l0_2 (IntKind.u16.wrap (wrap64 ((l0_2.length : Int) - 1)))).f1)) else (none)) else (none)) else (if 0 ≤ a1 then (if a1 < (l0_2.length : Int) then (some ((rd_T115 l0_2 a1).f0, (rd_T115 l0_2 a1).f1)) else (none)) else (none)))
set_option maxHeartbeats 8000000 in
set_option maxRecDepth 100000 in
theorem tables_DeltaSetMapping_Index.calls (a0_0 : Int) (a0_1 : Int) (A0_2 : Option Addr) (c0_2 : Nat) (l0_2 : List (S115)) (a1 : Int) (r1 : Int) (r2 : Int) (w : World) (hr0_2 : Kd.C k115 w A0_2 l0_2.length l0_2) (hc0_2 : l0_2.length ≤ c0_2) (h : tables_DeltaSetMapping_Index.f a0_0 a0_1 l0_2 a1 = some (r1, r2)) :
  Calls Try.prog 59 #[.agg #[.int .u8 a0_0, .int .u8 a0_1, .slice A0_2 l0_2.length c0_2], .int .u16 a1] w fun e w' => e = .returned (.agg #[.int .u16 r1, .int .u16 r2]) ∧ Below w.heap.size w w' := by
 have hu119 := Try.underlying119
 have hu115 := Try.underlying115
 have HR0_2 := Aside0.mk hr0_2
 have HC0_2 := Aside0.mk hc0_2
 clear hr0_2 hc0_2
 have HB := Aside0.mk (Below.refl w.heap.size w)
 have H : (if (l0_2.length : Int) = 0 then (some (0, a1)) else (if (wrap64 (a1)) ≥ (l0_2.length : Int) then (if 0 ≤ (IntKind.u16.wrap (wrap64 ((l0_2.length : Int) - 1))) then (if (IntKind.u16.wrap (wrap64 ((l0_2.length : Int) - 1))) < (l0_2.length : Int) then (some ((rd_T115 l0_2 (IntKind.u16.wrap (wrap64 ((l0_2.length : Int) - 1)))).f0, (rd_T115 l0_2 (IntKind.u16.wrap (wrap64 ((l0_2.length : Int) - 1)))).f1)) else (none)) else (none)) else (if 0 ≤ a1 then (if a1 < (l0_2.length : Int) then (some ((rd_T115 l0_2 a1).f0, (rd_T115 l0_2 a1).f1)) else (none)) else (none)))) = some (r1, r2) := h
 clear h
 by_cases c3 : (l0_2.length : Int) = 0
 ·rw [if_pos c3] at H
  have c3b0 : ((l0_2.length : Int) == 0) = true := beq_iff_eq.mpr c3
  have c3b1 : ((l0_2.length : Int) != 0) = false := bne_eq_false_iff_eq.mpr c3
  clear c3
  simp only [Option.some.injEq, Prod.mk.injEq] at H
  obtain ⟨rfl, rfl⟩ := H
  go_enter Try.func59, Try.ntmps59
  go_wp2_with (first | ((with_reducible refine gate_dst (N := 2) rfl ?_); refine box_event ?hg (N := 2) ?hd (cs := #[.int .u8 a0_0, .int .u8 a0_1, .slice A0_2 l0_2.length c0_2]) (t := 119) ?hr ?_; (case hd => rfl); (case hg => rfl); (case hr => first | (go_simp; done) | (go_simp; rfl)); intro gb257 hg w4 hbox hb; have n0_ := Aside0.mk (below_step (by repeat (first | (with_reducible first | exact HB.out | apply below_alloc | apply pw_below_drewN | apply below_drew1) | exact HB.out)) hb); have n1_ := Aside0.mk (hbox); have n2_ := Aside0.mk ((by rw [hg]; exact (below_size (by repeat (first | (with_reducible first | exact HB.out | apply below_alloc | apply pw_below_drewN | apply below_drew1) | exact HB.out))) : w.heap.size ≤ gb257)); have n3_ := Aside0.mk ((by rw [hg]; exact (below_size (by repeat (first | (with_reducible first | exact HB.out | apply below_alloc | apply pw_below_drewN | apply below_drew1) | exact HB.out))) : w.heap.size ≤ gb257)); clear HB; have HB := n0_; have BK257 := n1_; have GW257 := n2_; have GE257 := n3_; clear n0_ n1_ n2_ n3_; clear hb hbox hg) | ((with_reducible refine gate_dst (N := 4) rfl ?_); refine box_event ?hg (N := 4) ?hd (cs := #[.int .u16 0, .int .u16 0]) (t := 115) ?hr ?_; (case hd => rfl); (case hg => rfl); (case hr => first | (go_simp; done) | (go_simp; rfl)); intro gb258 hg w5 hbox hb; have n0_ := Aside0.mk (blk_below (g := gb257) (o := .cells #[.int .u8 a0_0, .int .u8 a0_1, .slice A0_2 l0_2.length c0_2] 119 (0, 0)) (by (with_reducible repeat (first | refine b1_ ?_ _ | refine b2_ ?_ | refine b3_ ?_ _)); exact BK257.out) hb); have n1_ := Aside0.mk (below_step (by repeat (first | (with_reducible first | exact HB.out | apply below_alloc | apply pw_below_drewN | apply below_drew1 | refine below_set ?_ GE257.out) | exact HB.out)) hb); have n2_ := Aside0.mk (hbox); have n3_ := Aside0.mk ((by rw [hg]; exact (below_size (by repeat (first | (with_reducible first | exact HB.out | apply below_alloc | apply pw_below_drewN | apply below_drew1 | refine below_set ?_ GE257.out) | exact HB.out))) : w.heap.size ≤ gb258)); have n4_ := Aside0.mk ((by rw [hg]; exact (below_size (by repeat (first | (with_reducible first | exact HB.out | apply below_alloc | apply pw_below_drewN | apply below_drew1 | refine below_set ?_ GE257.out) | exact HB.out))) : w.heap.size ≤ gb258)); have n5_ := Aside0.mk ((by rw [hg]; exact Nat.ne_of_lt (blk_lt (g := gb257) (o := .cells #[.int .u8 a0_0, .int .u8 a0_1, .slice A0_2 l0_2.length c0_2] 119 (0, 0)) (by (with_reducible repeat (first | refine b1_ ?_ _ | refine b2_ ?_ | refine b3_ ?_ _)); exact BK257.out)) : gb257 ≠ gb258)); have n6_ := Aside0.mk ((by rw [hg]; exact Nat.ne_of_gt (blk_lt (g := gb257) (o := .cells #[.int .u8 a0_0, .int .u8 a0_1, .slice A0_2 l0_2.length c0_2] 119 (0, 0)) (by (with_reducible repeat (first | refine b1_ ?_ _ | refine b2_ ?_ | refine b3_ ?_ _)); exact BK257.out)) : gb258 ≠ gb257)); clear BK257; clear HB; have BK257 := n0_; have HB := n1_; have BK258 := n2_; have GW258 := n3_; have GE258 := n4_; have NB257_258 := n5_; have NB258_257 := n6_; clear n0_ n1_ n2_ n3_ n4_ n5_ n6_; clear hb hbox hg; have hnb6 := NB257_258.out; have hnc6 := NB258_257.out; have hcz7_0 : w5.cell? ⟨gb257, 0, none⟩ = some (.int .u8 a0_0) := (blk_cell BK257.out 0).trans rfl; have hcz7_1 : w5.cell? ⟨gb257, 1, none⟩ = some (.int .u8 a0_1) := (blk_cell BK257.out 1).trans rfl; have hcz7_2 : w5.cell? ⟨gb257, 2, none⟩ = some (.slice A0_2 l0_2.length c0_2) := (blk_cell BK257.out 2).trans rfl; have hfz7_0 := blk_frozen BK257.out 0; have hfz7_1 := blk_frozen BK257.out 1; have hfz7_2 := blk_frozen BK257.out 2; have hcz8_0 : w5.cell? ⟨gb258, 0, none⟩ = some (.int .u16 0) := (blk_cell BK258.out 0).trans rfl; have hcz8_1 : w5.cell? ⟨gb258, 1, none⟩ = some (.int .u16 0) := (blk_cell BK258.out 1).trans rfl; have hfz8_0 := blk_frozen BK258.out 0; have hfz8_1 := blk_frozen BK258.out 1))
  refine bodyPost_ret (results_cell_row rfl _ _ gb258 115 #[.int .u16 0, .int .u16 a1] (0, 0) _ rfl (by (with_reducible repeat (first | refine b1_ ?_ _ | refine b2_ ?_ | refine b3_ ?_ _)); refine blk_put (cs := #[.int .u16 0, .int .u16 0]) ?_ 1 _ rfl; (with_reducible repeat (first | refine b1_ ?_ _ | refine b2_ ?_ | refine b3_ ?_ _)); refine blk_put (cs := #[.int .u16 0, .int .u16 0]) ?_ 0 _ rfl; (with_reducible repeat (first | refine b1_ ?_ _ | refine b2_ ?_ | refine b3_ ?_ _)); exact BK258.out) Try.underlying115 rfl (by kernel_rfl)) rfl ?_
  exact ⟨by first | rfl | (simp [errW_none, errW_some] <;> rfl) | (simp [*, errW_none, errW_some] <;> rfl), by repeat (first | (with_reducible first | exact HB.out | apply below_alloc | apply pw_below_drewN | apply below_drew1 | refine below_set ?_ GE257.out | refine below_set ?_ GE258.out) | exact HB.out)⟩
 ·rw [if_neg c3] at H
  have c3b0 : ((l0_2.length : Int) == 0) = false := beq_eq_false_iff_ne.mpr c3
  have c3b1 : ((l0_2.length : Int) != 0) = true := bne_iff_ne.mpr c3
  have c3b2 : ¬ (l0_2 = []) := fun h_ => c3 (by rw [h_]; rfl)
  by_cases c9 : (wrap64 (a1)) ≥ (l0_2.length : Int)
  ·rw [if_pos c9] at H
   have c9b0 : decide ((l0_2.length : Int) ≤ (wrap64 (a1))) = true := decide_eq_true c9
   clear c9
   obtain ⟨ji10, hji10⟩ : ∃ j_ : Int, (IntKind.u16.wrap (wrap64 ((l0_2.length : Int) - 1))) = j_ := ⟨_, rfl⟩
   replace H : (if 0 ≤ (ji10) then (if (ji10) < (l0_2.length : Int) then (some ((rd_T115 l0_2 (ji10)).f0, (rd_T115 l0_2 (ji10)).f1)) else (none)) else (none)) = some (r1, r2) := by first | (rw [hji10] at H; exact H) | (simp only [hji10] at H ⊢; exact H)
   by_cases c11 : 0 ≤ (ji10)
   ·rw [if_pos c11] at H
    have c11b0 : decide (0 ≤ (ji10)) = true := decide_eq_true c11
    clear c11
    by_cases c12 : (ji10) < (l0_2.length : Int)
    ·rw [if_pos c12] at H
     have c12b0 : decide ((ji10) < (l0_2.length : Int)) = true := decide_eq_true c12
     clear c12
     simp only [Option.some.injEq, Prod.mk.injEq] at H
     obtain ⟨rfl, rfl⟩ := H
     go_enter Try.func59, Try.ntmps59
     go_wp2_with (first | ((with_reducible refine gate_dst (N := 2) rfl ?_); refine box_event ?hg (N := 2) ?hd (cs := #[.int .u8 a0_0, .int .u8 a0_1, .slice A0_2 l0_2.length c0_2]) (t := 119) ?hr ?_; (case hd => rfl); (case hg => rfl); (case hr => first | (go_simp; done) | (go_simp; rfl)); intro gb257 hg w13 hbox hb; have n0_ := Aside0.mk (below_step (by repeat (first | (with_reducible first | exact HB.out | apply below_alloc | apply pw_below_drewN | apply below_drew1) | exact HB.out)) hb); have n1_ := Aside0.mk (hbox); have n2_ := Aside0.mk ((by rw [hg]; exact (below_size (by repeat (first | (with_reducible first | exact HB.out | apply below_alloc | apply pw_below_drewN | apply below_drew1) | exact HB.out))) : w.heap.size ≤ gb257)); have n3_ := Aside0.mk ((by rw [hg]; exact (below_size (by repeat (first | (with_reducible first | exact HB.out | apply below_alloc | apply pw_below_drewN | apply below_drew1) | exact HB.out))) : w.heap.size ≤ gb257)); clear HB; have HB := n0_; have BK257 := n1_; have GW257 := n2_; have GE257 := n3_; clear n0_ n1_ n2_ n3_; clear hb hbox hg) | ((with_reducible refine gate_dst (N := 4) rfl ?_); refine box_event ?hg (N := 4) ?hd (cs := #[.int .u16 0, .int .u16 0]) (t := 115) ?hr ?_; (case hd => rfl); (case hg => rfl); (case hr => first | (go_simp; done) | (go_simp; rfl)); intro gb258 hg w14 hbox hb; have n0_ := Aside0.mk (blk_below (g := gb257) (o := .cells #[.int .u8 a0_0, .int .u8 a0_1, .slice A0_2 l0_2.length c0_2] 119 (0, 0)) (by (with_reducible repeat (first | refine b1_ ?_ _ | refine b2_ ?_ | refine b3_ ?_ _)); exact BK257.out) hb); have n1_ := Aside0.mk (below_step (by repeat (first | (with_reducible first | exact HB.out | apply below_alloc | apply pw_below_drewN | apply below_drew1 | refine below_set ?_ GE257.out) | exact HB.out)) hb); have n2_ := Aside0.mk (hbox); have n3_ := Aside0.mk ((by rw [hg]; exact (below_size (by repeat (first | (with_reducible first | exact HB.out | apply below_alloc | apply pw_below_drewN | apply below_drew1 | refine below_set ?_ GE257.out) | exact HB.out))) : w.heap.size ≤ gb258)); have n4_ := Aside0.mk ((by rw [hg]; exact (below_size (by repeat (first | (with_reducible first | exact HB.out | apply below_alloc | apply pw_below_drewN | apply below_drew1 | refine below_set ?_ GE257.out) | exact HB.out))) : w.heap.size ≤ gb258)); have n5_ := Aside0.mk ((by rw [hg]; exact Nat.ne_of_lt (blk_lt (g := gb257) (o := .cells #[.int .u8 a0_0, .int .u8 a0_1, .slice A0_2 l0_2.length c0_2] 119 (0, 0)) (by (with_reducible repeat (first | refine b1_ ?_ _ | refine b2_ ?_ | refine b3_ ?_ _)); exact BK257.out)) : gb257 ≠ gb258)); have n6_ := Aside0.mk ((by rw [hg]; exact Nat.ne_of_gt (blk_lt (g := gb257) (o := .cells #[.int .u8 a0_0, .int .u8 a0_1, .slice A0_2 l0_2.length c0_2] 119 (0, 0)) (by (with_reducible repeat (first | refine b1_ ?_ _ | refine b2_ ?_ | refine b3_ ?_ _)); exact BK257.out)) : gb258 ≠ gb257)); clear BK257; clear HB; have BK257 := n0_; have HB := n1_; have BK258 := n2_; have GW258 := n3_; have GE258 := n4_; have NB257_258 := n5_; have NB258_257 := n6_; clear n0_ n1_ n2_ n3_ n4_ n5_ n6_; clear hb hbox hg; have hnb15 := NB257_258.out; have hnc15 := NB258_257.out; have hcz16_0 : w14.cell? ⟨gb257, 0, none⟩ = some (.int .u8 a0_0) := (blk_cell BK257.out 0).trans rfl; have hcz16_1 : w14.cell? ⟨gb257, 1, none⟩ = some (.int .u8 a0_1) := (blk_cell BK257.out 1).trans rfl; have hcz16_2 : w14.cell? ⟨gb257, 2, none⟩ = some (.slice A0_2 l0_2.length c0_2) := (blk_cell BK257.out 2).trans rfl; have hfz16_0 := blk_frozen BK257.out 0; have hfz16_1 := blk_frozen BK257.out 1; have hfz16_2 := blk_frozen BK257.out 2; have p259 : 0 ≤ ((ji10) : Int) := of_decide_eq_true (by first | (with_reducible assumption) | assumption); have q259 : (ji10) < (l0_2.length : Int) := of_decide_eq_true (by first | (with_reducible assumption) | assumption); obtain ⟨ad259, e259, hx259_0, hx259_1⟩ := at_T115 HR0_2.out (ji10) p259 q259; cases e259; replace hx259_0 := (HB.out.cell (World.block_lt_of_cell? w _ hx259_0)).trans hx259_0; replace hx259_1 := (HB.out.cell (World.block_lt_of_cell? w _ hx259_1)).trans hx259_1; replace p259 := eq_true p259; replace q259 := eq_true q259; have hcz17_0 : w14.cell? ⟨gb258, 0, none⟩ = some (.int .u16 0) := (blk_cell BK258.out 0).trans rfl; have hcz17_1 : w14.cell? ⟨gb258, 1, none⟩ = some (.int .u16 0) := (blk_cell BK258.out 1).trans rfl; have hfz17_0 := blk_frozen BK258.out 0; have hfz17_1 := blk_frozen BK258.out 1))
     refine bodyPost_ret (results_cell_row rfl _ _ gb258 115 #[.int .u16 ((rd_T115 l0_2 (ji10)).f0), .int .u16 ((rd_T115 l0_2 (ji10)).f1)] (0, 0) _ rfl (by (with_reducible repeat (first | refine b1_ ?_ _ | refine b2_ ?_ | refine b3_ ?_ _)); refine blk_put (cs := #[.int .u16 ((rd_T115 l0_2 (ji10)).f0), .int .u16 0]) ?_ 1 _ rfl; (with_reducible repeat (first | refine b1_ ?_ _ | refine b2_ ?_ | refine b3_ ?_ _)); refine blk_put (cs := #[.int .u16 0, .int .u16 0]) ?_ 0 _ rfl; (with_reducible repeat (first | refine b1_ ?_ _ | refine b2_ ?_ | refine b3_ ?_ _)); exact BK258.out) Try.underlying115 rfl (by kernel_rfl)) rfl ?_
     exact ⟨by first | rfl | (simp [errW_none, errW_some] <;> rfl) | (simp only [← hji10]; first | rfl | (simp [errW_none, errW_some] <;> rfl)) | (simp [*, errW_none, errW_some] <;> rfl), by repeat (first | (with_reducible first | exact HB.out | apply below_alloc | apply pw_below_drewN | apply below_drew1 | refine below_set ?_ GE257.out | refine below_set ?_ GE258.out) | exact HB.out)⟩
    ·rw [if_neg c12] at H
     exact absurd H (by simp)
   ·rw [if_neg c11] at H
    exact absurd H (by simp)
  ·rw [if_neg c9] at H
   have c9b0 : decide ((l0_2.length : Int) ≤ (wrap64 (a1))) = false := decide_eq_false c9
   clear c9
   by_cases c18 : 0 ≤ a1
   ·rw [if_pos c18] at H
    have c18b0 : decide (0 ≤ a1) = true := decide_eq_true c18
    clear c18
    by_cases c19 : a1 < (l0_2.length : Int)
    ·rw [if_pos c19] at H
     have c19b0 : decide (a1 < (l0_2.length : Int)) = true := decide_eq_true c19
     clear c19
     simp only [Option.some.injEq, Prod.mk.injEq] at H
     obtain ⟨rfl, rfl⟩ := H
     go_enter Try.func59, Try.ntmps59
     go_wp2_with (first | ((with_reducible refine gate_dst (N := 2) rfl ?_); refine box_event ?hg (N := 2) ?hd (cs := #[.int .u8 a0_0, .int .u8 a0_1, .slice A0_2 l0_2.length c0_2]) (t := 119) ?hr ?_; (case hd => rfl); (case hg => rfl); (case hr => first | (go_simp; done) | (go_simp; rfl)); intro gb257 hg w20 hbox hb; have n0_ := Aside0.mk (below_step (by repeat (first | (with_reducible first | exact HB.out | apply below_alloc | apply pw_below_drewN | apply below_drew1) | exact HB.out)) hb); have n1_ := Aside0.mk (hbox); have n2_ := Aside0.mk ((by rw [hg]; exact (below_size (by repeat (first | (with_reducible first | exact HB.out | apply below_alloc | apply pw_below_drewN | apply below_drew1) | exact HB.out))) : w.heap.size ≤ gb257)); have n3_ := Aside0.mk ((by rw [hg]; exact (below_size (by repeat (first | (with_reducible first | exact HB.out | apply below_alloc | apply pw_below_drewN | apply below_drew1) | exact HB.out))) : w.heap.size ≤ gb257)); clear HB; have HB := n0_; have BK257 := n1_; have GW257 := n2_; have GE257 := n3_; clear n0_ n1_ n2_ n3_; clear hb hbox hg) | ((with_reducible refine gate_dst (N := 4) rfl ?_); refine box_event ?hg (N := 4) ?hd (cs := #[.int .u16 0, .int .u16 0]) (t := 115) ?hr ?_; (case hd => rfl); (case hg => rfl); (case hr => first | (go_simp; done) | (go_simp; rfl)); intro gb258 hg w21 hbox hb; have n0_ := Aside0.mk (blk_below (g := gb257) (o := .cells #[.int .u8 a0_0, .int .u8 a0_1, .slice A0_2 l0_2.length c0_2] 119 (0, 0)) (by (with_reducible repeat (first | refine b1_ ?_ _ | refine b2_ ?_ | refine b3_ ?_ _)); exact BK257.out) hb); have n1_ := Aside0.mk (below_step (by repeat (first | (with_reducible first | exact HB.out | apply below_alloc | apply pw_below_drewN | apply below_drew1 | refine below_set ?_ GE257.out) | exact HB.out)) hb); have n2_ := Aside0.mk (hbox); have n3_ := Aside0.mk ((by rw [hg]; exact (below_size (by repeat (first | (with_reducible first | exact HB.out | apply below_alloc | apply pw_below_drewN | apply below_drew1 | refine below_set ?_ GE257.out) | exact HB.out))) : w.heap.size ≤ gb258)); have n4_ := Aside0.mk ((by rw [hg]; exact (below_size (by repeat (first | (with_reducible first | exact HB.out | apply below_alloc | apply pw_below_drewN | apply below_drew1 | refine below_set ?_ GE257.out) | exact HB.out))) : w.heap.size ≤ gb258)); have n5_ := Aside0.mk ((by rw [hg]; exact Nat.ne_of_lt (blk_lt (g := gb257) (o := .cells #[.int .u8 a0_0, .int .u8 a0_1, .slice A0_2 l0_2.length c0_2] 119 (0, 0)) (by (with_reducible repeat (first | refine b1_ ?_ _ | refine b2_ ?_ | refine b3_ ?_ _)); exact BK257.out)) : gb257 ≠ gb258)); have n6_ := Aside0.mk ((by rw [hg]; exact Nat.ne_of_gt (blk_lt (g := gb257) (o := .cells #[.int .u8 a0_0, .int .u8 a0_1, .slice A0_2 l0_2.length c0_2] 119 (0, 0)) (by (with_reducible repeat (first | refine b1_ ?_ _ | refine b2_ ?_ | refine b3_ ?_ _)); exact BK257.out)) : gb258 ≠ gb257)); clear BK257; clear HB; have BK257 := n0_; have HB := n1_; have BK258 := n2_; have GW258 := n3_; have GE258 := n4_; have NB257_258 := n5_; have NB258_257 := n6_; clear n0_ n1_ n2_ n3_ n4_ n5_ n6_; clear hb hbox hg; have hnb22 := NB257_258.out; have hnc22 := NB258_257.out; have hcz23_0 : w21.cell? ⟨gb257, 0, none⟩ = some (.int .u8 a0_0) := (blk_cell BK257.out 0).trans rfl; have hcz23_1 : w21.cell? ⟨gb257, 1, none⟩ = some (.int .u8 a0_1) := (blk_cell BK257.out 1).trans rfl; have hcz23_2 : w21.cell? ⟨gb257, 2, none⟩ = some (.slice A0_2 l0_2.length c0_2) := (blk_cell BK257.out 2).trans rfl; have hfz23_0 := blk_frozen BK257.out 0; have hfz23_1 := blk_frozen BK257.out 1; have hfz23_2 := blk_frozen BK257.out 2; have p260 : 0 ≤ (a1 : Int) := of_decide_eq_true (by first | (with_reducible assumption) | assumption); have q260 : a1 < (l0_2.length : Int) := of_decide_eq_true (by first | (with_reducible assumption) | assumption); obtain ⟨ad260, e260, hx260_0, hx260_1⟩ := at_T115 HR0_2.out a1 p260 q260; cases e260; replace hx260_0 := (HB.out.cell (World.block_lt_of_cell? w _ hx260_0)).trans hx260_0; replace hx260_1 := (HB.out.cell (World.block_lt_of_cell? w _ hx260_1)).trans hx260_1; replace p260 := eq_true p260; replace q260 := eq_true q260; have hcz24_0 : w21.cell? ⟨gb258, 0, none⟩ = some (.int .u16 0) := (blk_cell BK258.out 0).trans rfl; have hcz24_1 : w21.cell? ⟨gb258, 1, none⟩ = some (.int .u16 0) := (blk_cell BK258.out 1).trans rfl; have hfz24_0 := blk_frozen BK258.out 0; have hfz24_1 := blk_frozen BK258.out 1))
     refine bodyPost_ret (results_cell_row rfl _ _ gb258 115 #[.int .u16 ((rd_T115 l0_2 a1).f0), .int .u16 ((rd_T115 l0_2 a1).f1)] (0, 0) _ rfl (by (with_reducible repeat (first | refine b1_ ?_ _ | refine b2_ ?_ | refine b3_ ?_ _)); refine blk_put (cs := #[.int .u16 ((rd_T115 l0_2 a1).f0), .int .u16 0]) ?_ 1 _ rfl; (with_reducible repeat (first | refine b1_ ?_ _ | refine b2_ ?_ | refine b3_ ?_ _)); refine blk_put (cs := #[.int .u16 0, .int .u16 0]) ?_ 0 _ rfl; (with_reducible repeat (first | refine b1_ ?_ _ | refine b2_ ?_ | refine b3_ ?_ _)); exact BK258.out) Try.underlying115 rfl (by kernel_rfl)) rfl ?_
     exact ⟨by first | rfl | (simp [errW_none, errW_some] <;> rfl) | (simp [*, errW_none, errW_some] <;> rfl), by repeat (first | (with_reducible first | exact HB.out | apply below_alloc | apply pw_below_drewN | apply below_drew1 | refine below_set ?_ GE257.out | refine below_set ?_ GE258.out) | exact HB.out)⟩
    ·rw [if_neg c19] at H
     exact absurd H (by simp)
   ·rw [if_neg c18] at H
    exact absurd H (by simp)

/-! ### tables_HVAR_AdvanceDelta: function 37 -/
def tables_HVAR_AdvanceDelta.f (k : Nat) (a0_0 a0_1 a0_2 a0_3 : Int) (l0_4 : List S182) (l0_5 : List S186) (a0_6 a0_7 : Int) (l0_8 : List S115) (_a0_9 _a0_10 : Unit) (a1 : Int) (l2 : List Int) : Option Nat := (tables_DeltaSetMapping_Index.f a0_6 a0_7 l0_8 a1).bind fun t => tables_ItemVarStore_GetDelta.f k a0_2 a0_3 l0_4 l0_5 t.1 t.2 l2
theorem tables_HVAR_AdvanceDelta.mono : ∀ a0 a1 a2 a3 a4 a5 a6 a7 a8 a9 a10 a11 a12 k, LeO (tables_HVAR_AdvanceDelta.f k a0 a1 a2 a3 a4 a5 a6 a7 a8 a9 a10 a11 a12) (tables_HVAR_AdvanceDelta.f (k + 1) a0 a1 a2 a3 a4 a5 a6 a7 a8 a9 a10 a11 a12) := by
  intro a0 a1 a2 a3 a4 a5 a6 a7 a8 a9 a10 a11 a12 k
  unfold tables_HVAR_AdvanceDelta.f
  cases tables_DeltaSetMapping_Index.f a6 a7 a8 a11 with
  | none => exact LeO.refl _
  | some t => exact tables_ItemVarStore_GetDelta.mono _ _ _ _ _ _ _ k
set_option maxHeartbeats 4000000 in
set_option maxRecDepth 100000 in
theorem tables_HVAR_AdvanceDelta.calls (k : Nat) (g : Nat) (a0_0 a0_1 a0_2 a0_3 : Int) (A4 : Option Addr) (c4 : Nat) (l4 : List S182) (A5 : Option Addr) (c5 : Nat) (l5 : List S186) (a0_6 a0_7 : Int) (A8 : Option Addr) (c8 : Nat) (l8 : List S115) (a0_9 a0_10 : Unit) (a1 : Int) (A2 : Option Addr) (c2 : Nat) (l2 : List Int) (r : Nat) (w : World) (hb : w.heap[g]? = some (.cells #[.int .u16 a0_0, .int .u16 a0_1, .int .u16 a0_2, .int .u16 a0_3, .slice A4 l4.length c4, .slice A5 l5.length c5, .int .u8 a0_6, .int .u8 a0_7, .slice A8 l8.length c8, .pointer none, .pointer none] 122 (0, 0))) (hC4 : Kd.C k182 w A4 l4.length l4) (hc4 : l4.length ≤ c4) (hC5 : Kd.C k186 w A5 l5.length l5) (hc5 : l5.length ≤ c5) (hC8 : Kd.C k115 w A8 l8.length l8) (hc8 : l8.length ≤ c8) (hC2 : Kd.C (Kd.int .i16) w A2 l2.length l2) (hc2 : l2.length ≤ c2) (h : tables_HVAR_AdvanceDelta.f k a0_0 a0_1 a0_2 a0_3 l4 l5 a0_6 a0_7 l8 a0_9 a0_10 a1 l2 = some r) :
    Calls Try.prog 37 #[.pointer (some ⟨g, 0, none⟩), .int .u16 a1, .slice A2 l2.length c2] w fun e w' => e = .returned (.float .f32 r) ∧ Below w.heap.size w w' := by
  have hu119 := Try.underlying119
  have hu115 := Try.underlying115
  have hu109 := Try.underlying109
  have hu122 := Try.underlying122
  unfold tables_HVAR_AdvanceDelta.f at h
  obtain ⟨⟨t1, t2⟩, hi, hg⟩ := Option.bind_eq_some_iff.mp h
  clear h
  dsimp only at hg
  have HI := Aside0.mk hi
  have HG := Aside0.mk hg
  clear hi hg
  have HBK := Aside0.mk hb
  have HB := Aside0.mk (Below.refl w.heap.size w)
  have hz0 : w.cell? ⟨g, 0, none⟩ = some (.int .u16 a0_0) := (blk_cell hb 0).trans rfl
  have hz2 : w.cell? ⟨g, 2, none⟩ = some (.int .u16 a0_2) := (blk_cell hb 2).trans rfl
  have hz3 : w.cell? ⟨g, 3, none⟩ = some (.int .u16 a0_3) := (blk_cell hb 3).trans rfl
  have hz4 : w.cell? ⟨g, 4, none⟩ = some (.slice A4 l4.length c4) := (blk_cell hb 4).trans rfl
  have hz5 : w.cell? ⟨g, 5, none⟩ = some (.slice A5 l5.length c5) := (blk_cell hb 5).trans rfl
  have hz6 : w.cell? ⟨g, 6, none⟩ = some (.int .u8 a0_6) := (blk_cell hb 6).trans rfl
  have hz7 : w.cell? ⟨g, 7, none⟩ = some (.int .u8 a0_7) := (blk_cell hb 7).trans rfl
  have hz8 : w.cell? ⟨g, 8, none⟩ = some (.slice A8 l8.length c8) := (blk_cell hb 8).trans rfl
  have hf0 := blk_frozen hb 2
  have hf1 := blk_frozen hb 6
  have HG0 := Aside0.mk (blk_lt hb)
  go_enter Try.func37, Try.ntmps37
  go_wp2_with (first
    | (go_at_call 59; (with_reducible refine (tables_DeltaSetMapping_Index.calls _ _ _ _ l8 _ t1 t2 _ (by repeat (first | exact hC8 | (with_reducible refine Kd.C_alloc ?_ _) | (with_reducible refine Kd.C_drewN ?_ _) | (with_reducible refine Kd.C_drew ?_))) hc8 HI.out).mono ?_); rintro e w1 ⟨rfl, hb1⟩; clear HI; have n0_ := Aside0.mk (below_step (by repeat (first | (with_reducible first | exact HB.out | apply below_alloc | apply pw_below_drewN | apply below_drew1) | exact HB.out)) hb1); clear HB; have HB := n0_; clear n0_; clear hz0 hz2 hz3 hz4 hz5 hz6 hz7 hz8 hf0 hf1 hb1; have HB1 := Aside0.mk (blk_below (g := g) HBK.out HB.out); have hz2 := (blk_cell HB1.out 2).trans rfl; have hz3 := (blk_cell HB1.out 3).trans rfl; have hz4 := (blk_cell HB1.out 4).trans rfl; have hz5 := (blk_cell HB1.out 5).trans rfl)
    | ((with_reducible refine gate_dst (N := 7) rfl ?_); refine box_event ?hg (N := 7) ?hd (cs := #[.int .u16 0, .int .u16 0]) (t := 115) ?hr ?_; (case hd => rfl); (case hg => rfl); (case hr => first | (go_simp; done) | (go_simp; rfl)); intro gb hg w2 hbox hb2; have HB2 := Aside0.mk (below_step HB.out hb2); have HB3 := Aside0.mk (blk_below (g := g) HB1.out hb2); have GE := Aside0.mk (show w.heap.size ≤ gb by rw [hg]; exact below_size HB.out); have NE := Aside0.mk (show gb ≠ g by rw [hg]; exact Nat.ne_of_gt (blk_lt HB1.out)); have HX := Aside0.mk hbox; clear hz2 hz3 hz4 hz5; have hz2 : w2.cell? ⟨g, 2, none⟩ = some (.int .u16 a0_2) := (blk_cell HB3.out 2).trans rfl; have hz3 : w2.cell? ⟨g, 3, none⟩ = some (.int .u16 a0_3) := (blk_cell HB3.out 3).trans rfl; have hz4 : w2.cell? ⟨g, 4, none⟩ = some (.slice A4 l4.length c4) := (blk_cell HB3.out 4).trans rfl; have hz5 : w2.cell? ⟨g, 5, none⟩ = some (.slice A5 l5.length c5) := (blk_cell HB3.out 5).trans rfl; have hy0 : w2.cell? ⟨gb, 0, none⟩ = some (.int .u16 0) := (blk_cell hbox 0).trans rfl; have hy1 : w2.cell? ⟨gb, 1, none⟩ = some (.int .u16 0) := (blk_cell hbox 1).trans rfl; have hv0 := blk_frozen hbox 0; have hv1 := blk_frozen hbox 1; have hne := NE.out; have hne2 := Ne.symm NE.out; clear hbox hb2 hg))
  have B3 : Below w.heap.size w ((w2.setCell ⟨gb, 0, none⟩ (.int .u16 t1)).setCell ⟨gb, 1, none⟩ (.int .u16 t2)) := below_set (below_set HB2.out GE.out) GE.out
  have e1 : ((w2.setCell ⟨gb, 0, none⟩ (.int .u16 t1)).setCell ⟨gb, 1, none⟩ (.int .u16 t2)).heap[g]? = some (.cells #[.int .u16 a0_0, .int .u16 a0_1, .int .u16 a0_2, .int .u16 a0_3, .slice A4 l4.length c4, .slice A5 l5.length c5, .int .u8 a0_6, .int .u8 a0_7, .slice A8 l8.length c8, .pointer none, .pointer none] 122 (0, 0)) := blk_far (blk_far HB3.out hne2 _) hne2 _
  have e2 : ((w2.setCell ⟨gb, 0, none⟩ (.int .u16 t1)).setCell ⟨gb, 1, none⟩ (.int .u16 t2)).heap[gb]? = some (.cells #[.int .u16 t1, .int .u16 t2] 115 (0, 0)) := blk_put (cs := #[.int .u16 t1, .int .u16 0]) (blk_put (cs := #[.int .u16 0, .int .u16 0]) HX.out 0 _ rfl) 1 _ rfl
  clear hz2 hz3 hz4 hz5 hy0 hy1 hv0 hv1
  generalize ((w2.setCell ⟨gb, 0, none⟩ (.int .u16 t1)).setCell ⟨gb, 1, none⟩ (.int .u16 t2)) = W3 at B3 e1 e2 ⊢
  have D4 := Kd.C_below hC4 B3
  have D5 := Kd.C_below hC5 B3
  have D2 := Kd.C_below hC2 B3
  have hz2 : W3.cell? ⟨g, 2, none⟩ = some (.int .u16 a0_2) := (blk_cell e1 2).trans rfl
  have hz3 : W3.cell? ⟨g, 3, none⟩ = some (.int .u16 a0_3) := (blk_cell e1 3).trans rfl
  have hz4 : W3.cell? ⟨g, 4, none⟩ = some (.slice A4 l4.length c4) := (blk_cell e1 4).trans rfl
  have hz5 : W3.cell? ⟨g, 5, none⟩ = some (.slice A5 l5.length c5) := (blk_cell e1 5).trans rfl
  have hy0 : W3.cell? ⟨gb, 0, none⟩ = some (.int .u16 t1) := (blk_cell e2 0).trans rfl
  have hy1 : W3.cell? ⟨gb, 1, none⟩ = some (.int .u16 t2) := (blk_cell e2 1).trans rfl
  have B3' := Aside0.mk B3
  clear B3 e1 e2 HB HB1 HB2 HB3 HX hb HBK
  go_region_with (go_at_call 36; refine (tables_ItemVarStore_GetDelta.calls k _ _ _ _ l4 _ _ l5 t1 t2 _ _ l2 r _ ?_ hc4 ?_ hc5 ?_ hc2 HG.out).mono ?_; exact Kd.C_drewN D4 _; exact Kd.C_drewN D5 _; exact Kd.C_drewN D2 _; rintro e w5 ⟨rfl, hb5⟩)
  all_goals
    go_wp2
    go_ret
    exact ⟨rfl, below_step (by first | exact B3'.out | exact pw_below_drewN B3'.out _ | exact below_drew1 B3'.out) hb5⟩

end Go.Proofs.Ytlbmfnjhpojghaa.PFnAdvanceDelta
