-- Written by a program of this session (xprint) out of the translation; Lean checks it.
import Derived.Test.YtchkmmbedgolbaaPFnKernClassesx0
import Derived.Test.YtchkmmbedgolbaaPFnKernClassesx1
import Derived.Test.YtchkmmbedgolbaaPFnKernClassesx2
namespace Go.Proofs.Ytchkmmbedgolbaa.PFnKernClasses
open Go.RowKit Go.Proofs.YtchkmmbedgolbaaW.PrintWords Go.Proofs.YtchkmmbedgolbaaW.PrintLast Go.Proofs.YtchkmmbedgolbaaW.PrintMore
attribute [local go_sem] max2_int min2_int max_two min_two max_three min_three max_four min_four   -- for this text's walks alone
set_option linter.unusedVariables false
set_option linter.unusedSimpArgs false

/-! ### impl_builder_lookup: function 30 -/
mutual
def impl_builder_lookup.j0 : Nat → Int → List (S27) → Int → Int → Bool → Option (Int × Int × Int × Int × Int × Int × (List (S184)) × Int × Int × Bool)
 | 0, _, _, _, _, _ => none
 | k + 1, x1, x2, x1000, x1001, x1002 => impl_builder_lookup.l0 k x1 x2 ([] : List Int) ([] : List Int) x2 (x2.length : Int) 0 x1000 x1001 x1002
def impl_builder_lookup.l0 : Nat → Int → List (S27) → List Int → List Int → List (S27) → Int → Int → Int → Int → Bool → Option (Int × Int × Int × Int × Int × Int × (List (S184)) × Int × Int × Bool)
 | 0, _, _, _, _, _, _, _, _, _, _ => none
 | k + 1, x1, x2, x7, x8, x23, x24, x25, x1000, x1001, x1002 => if x25 < x24 then (if 0 ≤ x25 then (if x25 < (x23.length : Int) then (if ((rd_T27 x23 x25).f0) < 65535 then (if x25 = 0 then ((impl_builder_must.f x1000 x1001 x1002 true).bind fun bt161 => (impl_builder_lookup.j2 k x1 x2 x7 x8 x23 x24 x25 bt161.1 bt161.2.1 bt161.2.2 ((rd_T27 x23 x25).f0) ((rd_T27 x23 x25).f1))) else (if 0 ≤ (wrap64 (x25 - 1)) then (if (wrap64 (x25 - 1)) < (x2.length : Int) then ((impl_builder_must.f x1000 x1001 x1002 (decide (((rd_T27 x23 x25).f0) > ((rd_T27 x2 (wrap64 (x25 - 1))).f0)))).bind fun bt165 => (impl_builder_lookup.j2 k x1 x2 x7 x8 x23 x24 x25 bt165.1 bt165.2.1 bt165.2.2 ((rd_T27 x23 x25).f0) ((rd_T27 x23 x25).f1))) else (none)) else (none))) else ((impl_builder_must.f x1000 x1001 x1002 false).bind fun bt168 => (impl_builder_lookup.j2 k x1 x2 x7 x8 x23 x24 x25 bt168.1 bt168.2.1 bt168.2.2 ((rd_T27 x23 x25).f0) ((rd_T27 x23 x25).f1)))) else (none)) else (none)) else ((tables_ZzLookup.f k x1 x7 x8).bind fun bt150 => (some (bt150.1, bt150.2.1, bt150.2.2.1, bt150.2.2.2.1, bt150.2.2.2.2.1, bt150.2.2.2.2.2.1, bt150.2.2.2.2.2.2, x1000, x1001, x1002)))
def impl_builder_lookup.j2 : Nat → Int → List (S27) → List Int → List Int → List (S27) → Int → Int → Int → Int → Bool → Int → Int → Option (Int × Int × Int × Int × Int × Int × (List (S184)) × Int × Int × Bool)
 | 0, _, _, _, _, _, _, _, _, _, _, _, _ => none
 | k + 1, x1, x2, x7, x8, x23, x24, x25, x1000, x1001, x1002, x161000, x161001 => (impl_builder_small.f x1000 x1001 x1002 x161000).bind fun bt171 => (if x7.length < 70368744177664 then ((impl_builder_small.f bt171.2.1 bt171.2.2.1 bt171.2.2.2 x161001).bind fun bt178 => (if x8.length < 70368744177664 then (impl_builder_lookup.l0 k x1 x2 (x7 ++ [bt171.1]) (x8 ++ [bt178.1]) x23 x24 (wrap64 (x25 + 1)) bt178.2.1 bt178.2.2.1 bt178.2.2.2) else (none))) else (none))
end
def impl_builder_lookup.f (k : Nat) (s0_0 : Int) (s0_1 : Int) (s0_2 : Bool) (a1 : Int) (l2 : List (S27)) : Option (Int × Int × Int × Int × Int × Int × (List (S184)) × Int × Int × Bool) := if a1 = 2 then ((impl_builder_must.f s0_0 s0_1 s0_2 true).bind fun bt141 => (impl_builder_lookup.j0 k a1 l2 bt141.1 bt141.2.1 bt141.2.2)) else (if a1 = 4 then ((impl_builder_must.f s0_0 s0_1 s0_2 true).bind fun bt144 => (impl_builder_lookup.j0 k a1 l2 bt144.1 bt144.2.1 bt144.2.2)) else ((impl_builder_must.f s0_0 s0_1 s0_2 (a1 == 6)).bind fun bt147 => (impl_builder_lookup.j0 k a1 l2 bt147.1 bt147.2.1 bt147.2.2)))
theorem impl_builder_lookup.mono_l : ∀ k, (∀ y0 y1 y2 y3 y4, LeO (impl_builder_lookup.j0 k y0 y1 y2 y3 y4) (impl_builder_lookup.j0 (k + 1) y0 y1 y2 y3 y4)) ∧ (∀ y0 y1 y2 y3 y4 y5 y6 y7 y8 y9, LeO (impl_builder_lookup.l0 k y0 y1 y2 y3 y4 y5 y6 y7 y8 y9) (impl_builder_lookup.l0 (k + 1) y0 y1 y2 y3 y4 y5 y6 y7 y8 y9)) ∧ (∀ y0 y1 y2 y3 y4 y5 y6 y7 y8 y9 y10 y11, LeO (impl_builder_lookup.j2 k y0 y1 y2 y3 y4 y5 y6 y7 y8 y9 y10 y11) (impl_builder_lookup.j2 (k + 1) y0 y1 y2 y3 y4 y5 y6 y7 y8 y9 y10 y11))
 | 0 => ⟨fun _ _ _ _ _ r h => by simp [impl_builder_lookup.j0] at h, fun _ _ _ _ _ _ _ _ _ _ r h => by simp [impl_builder_lookup.l0] at h, fun _ _ _ _ _ _ _ _ _ _ _ _ r h => by simp [impl_builder_lookup.j2] at h⟩
 | k + 1 => by
  obtain ⟨ih0, ih1, ih2⟩ := impl_builder_lookup.mono_l k
  refine ⟨?_, ?_, ?_⟩
  ·intro y0 y1 y2 y3 y4
   unfold impl_builder_lookup.j0
   repeat' first
   | (with_reducible exact ih0 _ _ _ _ _)
   | (with_reducible exact ih1 _ _ _ _ _ _ _ _ _ _)
   | (with_reducible exact ih2 _ _ _ _ _ _ _ _ _ _ _ _)
   | (with_reducible exact tables_ZzLookup.mono _ _ _ _)
   | (with_reducible exact LeO.refl _)
   | (with_reducible exact LeO.none _)
   | (with_reducible refine LeO.ite ?_ ?_)
   | (with_reducible refine LeO.bind ?_ (fun _ => ?_))
   | exact ih0 _ _ _ _ _
   | exact ih1 _ _ _ _ _ _ _ _ _ _
   | exact ih2 _ _ _ _ _ _ _ _ _ _ _ _
   | exact tables_ZzLookup.mono _ _ _ _
   | exact LeO.none _
   | refine LeO.ite ?_ ?_
   | refine LeO.bind ?_ (fun _ => ?_)
  ·intro y0 y1 y2 y3 y4 y5 y6 y7 y8 y9
   unfold impl_builder_lookup.l0
   repeat' first
   | (with_reducible exact ih0 _ _ _ _ _)
   | (with_reducible exact ih1 _ _ _ _ _ _ _ _ _ _)
   | (with_reducible exact ih2 _ _ _ _ _ _ _ _ _ _ _ _)
   | (with_reducible exact tables_ZzLookup.mono _ _ _ _)
   | (with_reducible exact LeO.refl _)
   | (with_reducible exact LeO.none _)
   | (with_reducible refine LeO.ite ?_ ?_)
   | (with_reducible refine LeO.bind ?_ (fun _ => ?_))
   | exact ih0 _ _ _ _ _
   | exact ih1 _ _ _ _ _ _ _ _ _ _
   | exact ih2 _ _ _ _ _ _ _ _ _ _ _ _
   | exact tables_ZzLookup.mono _ _ _ _
   | exact LeO.none _
   | refine LeO.ite ?_ ?_
   | refine LeO.bind ?_ (fun _ => ?_)
  ·intro y0 y1 y2 y3 y4 y5 y6 y7 y8 y9 y10 y11
   unfold impl_builder_lookup.j2
   repeat' first
   | (with_reducible exact ih0 _ _ _ _ _)
   | (with_reducible exact ih1 _ _ _ _ _ _ _ _ _ _)
   | (with_reducible exact ih2 _ _ _ _ _ _ _ _ _ _ _ _)
   | (with_reducible exact tables_ZzLookup.mono _ _ _ _)
   | (with_reducible exact LeO.refl _)
   | (with_reducible exact LeO.none _)
   | (with_reducible refine LeO.ite ?_ ?_)
   | (with_reducible refine LeO.bind ?_ (fun _ => ?_))
   | exact ih0 _ _ _ _ _
   | exact ih1 _ _ _ _ _ _ _ _ _ _
   | exact ih2 _ _ _ _ _ _ _ _ _ _ _ _
   | exact tables_ZzLookup.mono _ _ _ _
   | exact LeO.none _
   | refine LeO.ite ?_ ?_
   | refine LeO.bind ?_ (fun _ => ?_)
theorem impl_builder_lookup.mono : ∀ a0 a1 a2 a3 a4 k, LeO (impl_builder_lookup.f k a0 a1 a2 a3 a4) (impl_builder_lookup.f (k + 1) a0 a1 a2 a3 a4) := by
 intro a0 a1 a2 a3 a4 k
 obtain ⟨ih0, ih1, ih2⟩ := impl_builder_lookup.mono_l k
 unfold impl_builder_lookup.f
 repeat' first
   | (with_reducible exact ih0 _ _ _ _ _)
   | (with_reducible exact ih1 _ _ _ _ _ _ _ _ _ _)
   | (with_reducible exact ih2 _ _ _ _ _ _ _ _ _ _ _ _)
   | (with_reducible exact tables_ZzLookup.mono _ _ _ _)
   | (with_reducible exact LeO.refl _)
   | (with_reducible exact LeO.none _)
   | (with_reducible refine LeO.ite ?_ ?_)
   | (with_reducible refine LeO.bind ?_ (fun _ => ?_))
   | exact ih0 _ _ _ _ _
   | exact ih1 _ _ _ _ _ _ _ _ _ _
   | exact ih2 _ _ _ _ _ _ _ _ _ _ _ _
   | exact tables_ZzLookup.mono _ _ _ _
   | exact LeO.none _
   | refine LeO.ite ?_ ?_
   | refine LeO.bind ?_ (fun _ => ?_)
def impl_builder_lookup.T7 : Bool × List (List Nat × List Nat) := (true, [([], []), ([], []), ([1], [1]), ([2], [2]), ([3], [3]), ([4], [4]), ([5, 4], [4, 5]), ([6, 4, 4], [4, 6]), ([7], [7]), ([8, 7], [7, 8]), ([7], [7]), ([7], [7]), ([11, 7], [7, 11]), ([10, 12, 7], [7, 10, 12]), ([13, 7], [7, 13]), ([14, 7], [7, 14]), ([9, 15, 7], [7, 9, 15]), ([7, 16, 4], [4, 7, 16]), ([4, 17], [4, 17]), ([0, 18, 7], [0, 18])])
def impl_builder_lookup.B7 : List Nat := [0, 0, 2, 6, 14, 30, 62, 126, 254, 510, 254, 254, 2302, 7422, 15614, 31998, 65534, 131070, 262142, 524287]
theorem impl_builder_lookup.tab7 : rtab .any (opsOf Try.f30 7) = impl_builder_lookup.T7 := by kernel_rfl
theorem impl_builder_lookup.bits7 : waitsOk impl_builder_lookup.T7.2 impl_builder_lookup.B7 = true := by kernel_rfl
def impl_builder_lookup.T8 : Bool × List (List Nat × List Nat) := (true, [([], []), ([], []), ([], []), ([2], [2]), ([1, 3], [1, 3]), ([4], [4]), ([0, 5, 4], [0, 5]), ([], []), ([], []), ([], []), ([9], [9]), ([8, 10, 6], [8, 10]), ([11], [11]), ([7, 12, 11], [7, 12]), ([6, 13, 0, 1, 2, 3, 4, 5, 6], [0, 6]), ([13, 14, 0, 1, 2, 3, 4, 5, 6, 7, 8, 9, 10, 11, 12, 13, 14], [7, 13])])
def impl_builder_lookup.B8 : List Nat := [0, 0, 0, 4, 14, 30, 63, 0, 0, 0, 512, 1919, 3967, 8191, 16383, 32767]
theorem impl_builder_lookup.tab8 : rtab .any (opsOf Try.f30 8) = impl_builder_lookup.T8 := by kernel_rfl
theorem impl_builder_lookup.bits8 : waitsOk impl_builder_lookup.T8.2 impl_builder_lookup.B8 = true := by kernel_rfl
set_option maxHeartbeats 8000000 in
set_option maxRecDepth 100000 in
theorem impl_builder_lookup.calls (k : Nat) (g : Nat) (s0_0 : Int) (s0_1 : Int) (s0_2 : Bool) (a1 : Int) (A2 : Option Addr) (c2 : Nat) (l2 : List (S27)) (r1 : Int) (r2 : Int) (r3 : Int) (r4 : Int) (r5 : Int) (r6 : Int) (r7 : List (S184)) (r8 : Int) (r9 : Int) (r10 : Bool) (w0 w : World) (hI : IsS73 w0 w g s0_0 s0_1 s0_2) (hB : Below w0.heap.size w0 w) (hr2 : ∀ W_, KeepBut w W_ g none → Kd.C k27 W_ A2 l2.length l2) (hc2 : l2.length ≤ c2) (h : impl_builder_lookup.f k s0_0 s0_1 s0_2 a1 l2 = some (r1, r2, r3, r4, r5, r6, r7, r8, r9, r10)) :
  Calls Try.prog 30 #[.pointer (some ⟨g, 0, none⟩), .int .i64 a1, .slice A2 l2.length c2] w fun e w' => ∃ v6_ : Value, e = .returned (.iface 182 (.agg #[.int .u16 r1, .int .u16 r2, .int .u16 r3, .int .u16 r4, .int .u16 r5, .int .u16 r6, v6_])) ∧ Kd.R k184 184 w' w.heap.size (fun _ => True) v6_ r7 ∧ IsS73 w0 w' g r8 r9 r10 ∧ Below w0.heap.size w0 w' ∧ KeepBut w w' g none := by
 have hu27 := Try.underlying27
 have HR2 := Aside0.mk hr2
 have HC2 := Aside0.mk hc2
 clear hr2 hc2
 have HI0 := Aside0.mk hI
 have HK := Aside0.mk (KeepBut.refl w g none)
 have HL := Aside0.mk hB.size
 clear hI
 have HW0 := Aside0.mk hB.size
 have HB := Aside0.mk hB
 clear hB
 have H : (if a1 = 2 then ((impl_builder_must.f s0_0 s0_1 s0_2 true).bind fun bt141 => (impl_builder_lookup.j0 k a1 l2 bt141.1 bt141.2.1 bt141.2.2)) else (if a1 = 4 then ((impl_builder_must.f s0_0 s0_1 s0_2 true).bind fun bt144 => (impl_builder_lookup.j0 k a1 l2 bt144.1 bt144.2.1 bt144.2.2)) else ((impl_builder_must.f s0_0 s0_1 s0_2 (a1 == 6)).bind fun bt147 => (impl_builder_lookup.j0 k a1 l2 bt147.1 bt147.2.1 bt147.2.2)))) = some (r1, r2, r3, r4, r5, r6, r7, r8, r9, r10) := h
 clear h
 have HC4 := Aside0.mk H
 clear H
 go_enter Try.func30, Try.ntmps30
 go_upto_region 1 with (fail)
 go_cut [] (fun wc => ∃ (kq : Nat) (x1000_3 : Int) (x1001_3 : Int) (x1002_3 : Bool), Aside0 (impl_builder_lookup.j0 kq a1 l2 x1000_3 x1001_3 x1002_3 = some (r1, r2, r3, r4, r5, r6, r7, r8, r9, r10)) ∧ Aside0 (kq ≤ k) ∧ Aside0 (IsS73 w0 wc g x1000_3 x1001_3 x1002_3) ∧ Aside0 (KeepBut w wc g none) ∧ Aside0 (Below w0.heap.size w0 wc))
 case first =>
  have H := HC4.out
  clear HC4
  by_cases c5 : a1 = 2
  ·rw [if_pos c5] at H
   have c5b0 : (a1 == 2) = true := beq_iff_eq.mpr c5
   have c5b1 : (a1 != 2) = false := bne_eq_false_iff_eq.mpr c5
   clear c5
   (first | rw [c5b0] | (simp only [i64_w, i32_w]; rw [c5b0]) | skip)
   replace H := Option.bind_eq_some_iff.mp H
   obtain ⟨⟨t141, t142, t143⟩, A60, H⟩ := H
   replace H : (impl_builder_lookup.j0 k a1 l2 t141 t142 t143) = some (r1, r2, r3, r4, r5, r6, r7, r8, r9, r10) := H
   have A6 := Aside0.mk A60
   clear A60
   have H' := Aside0.mk H
   clear H
   go_wp2_with (first | ((with_reducible refine gate_callee (f := 52) rfl ?_); refine goesL_ (some 22) rfl rfl Try.func52 (by kernel_rfl) rfl #[.pointer (some ⟨g, 0, none⟩), .bool true] rfl (by (try simp only [List.map_toArray, List.map_cons, List.map_nil]); first | done | rfl | (simp only [List.length_drop, List.length_take]; rfl)) ?_; (with_reducible refine (impl_builder_must.calls g s0_0 s0_1 s0_2 true t141 t142 t143 w0 _ ?side1 ?side2 A6.out).mono ?_); (case side1 => repeat (first | (with_reducible first | exact HI0.out | apply IsS73.alloc | apply IsS73.drewN | apply IsS73.drew | apply IsS73.set_0 | apply IsS73.set_1 | apply IsS73.set_2) | exact HI0.out)); (case side2 => repeat (first | (with_reducible first | exact HB.out | apply below_alloc | apply pw_below_drewN | apply below_drew1 | refine below_set ?_ (IsS73.ge HI0.out)) | exact HB.out)); rintro e w7 ⟨rfl, hi, hb, hk⟩; refine ⟨_, rfl, ?_⟩; have n0_ := Aside0.mk (KeepBut.trans (by repeat (first | (with_reducible first | exact HK.out | apply KeepBut.set_ | apply keep_drewN | apply keep_drew | apply keep_alloc) | exact HK.out)) hk (.inl rfl)); have n1_ := Aside0.mk (hb); have n2_ := Aside0.mk (hi); clear HK; clear HB; clear HI0; have HK := n0_; have HB := n1_; have HI0 := n2_; clear n0_ n1_ n2_; (try clear hb); (try clear hb2); (try clear hk); (try clear hi)))
   go_meet
   case rel => exact ⟨_, (t141), (t142), (t143), H', ⟨by first | omega | exact Nat.le_refl _⟩, ⟨by repeat (first | (with_reducible first | exact HI0.out | apply IsS73.alloc | apply IsS73.drewN | apply IsS73.drew | apply IsS73.set_0 | apply IsS73.set_1 | apply IsS73.set_2) | exact HI0.out)⟩, ⟨by repeat (first | (with_reducible first | exact HK.out | apply KeepBut.set_ | apply keep_drewN | apply keep_drew | apply keep_alloc) | exact HK.out)⟩, ⟨by repeat (first | (with_reducible first | exact HB.out | apply below_alloc | apply pw_below_drewN | apply below_drew1 | refine below_set ?_ (IsS73.ge HI0.out)) | exact HB.out)⟩⟩
  ·rw [if_neg c5] at H
   have c5b0 : (a1 == 2) = false := beq_eq_false_iff_ne.mpr c5
   have c5b1 : (a1 != 2) = true := bne_iff_ne.mpr c5
   (first | rw [c5b0] | (simp only [i64_w, i32_w]; rw [c5b0]) | skip)
   by_cases c8 : a1 = 4
   ·rw [if_pos c8] at H
    have c8b0 : (a1 == 4) = true := beq_iff_eq.mpr c8
    have c8b1 : (a1 != 4) = false := bne_eq_false_iff_eq.mpr c8
    clear c8
    replace H := Option.bind_eq_some_iff.mp H
    obtain ⟨⟨t144, t145, t146⟩, A90, H⟩ := H
    replace H : (impl_builder_lookup.j0 k a1 l2 t144 t145 t146) = some (r1, r2, r3, r4, r5, r6, r7, r8, r9, r10) := H
    have A9 := Aside0.mk A90
    clear A90
    have H' := Aside0.mk H
    clear H
    go_wp2_with (first | ((with_reducible refine gate_callee (f := 52) rfl ?_); refine goesL_ (some 22) rfl rfl Try.func52 (by kernel_rfl) rfl #[.pointer (some ⟨g, 0, none⟩), .bool true] rfl (by (try simp only [List.map_toArray, List.map_cons, List.map_nil]); first | done | rfl | (simp only [List.length_drop, List.length_take]; rfl)) ?_; (with_reducible refine (impl_builder_must.calls g s0_0 s0_1 s0_2 true t144 t145 t146 w0 _ ?side1 ?side2 A9.out).mono ?_); (case side1 => repeat (first | (with_reducible first | exact HI0.out | apply IsS73.alloc | apply IsS73.drewN | apply IsS73.drew | apply IsS73.set_0 | apply IsS73.set_1 | apply IsS73.set_2) | exact HI0.out)); (case side2 => repeat (first | (with_reducible first | exact HB.out | apply below_alloc | apply pw_below_drewN | apply below_drew1 | refine below_set ?_ (IsS73.ge HI0.out)) | exact HB.out)); rintro e w10 ⟨rfl, hi, hb, hk⟩; refine ⟨_, rfl, ?_⟩; have n0_ := Aside0.mk (KeepBut.trans (by repeat (first | (with_reducible first | exact HK.out | apply KeepBut.set_ | apply keep_drewN | apply keep_drew | apply keep_alloc) | exact HK.out)) hk (.inl rfl)); have n1_ := Aside0.mk (hb); have n2_ := Aside0.mk (hi); clear HK; clear HB; clear HI0; have HK := n0_; have HB := n1_; have HI0 := n2_; clear n0_ n1_ n2_; (try clear hb); (try clear hb2); (try clear hk); (try clear hi)))
    go_meet
    case rel => exact ⟨_, (t144), (t145), (t146), H', ⟨by first | omega | exact Nat.le_refl _⟩, ⟨by repeat (first | (with_reducible first | exact HI0.out | apply IsS73.alloc | apply IsS73.drewN | apply IsS73.drew | apply IsS73.set_0 | apply IsS73.set_1 | apply IsS73.set_2) | exact HI0.out)⟩, ⟨by repeat (first | (with_reducible first | exact HK.out | apply KeepBut.set_ | apply keep_drewN | apply keep_drew | apply keep_alloc) | exact HK.out)⟩, ⟨by repeat (first | (with_reducible first | exact HB.out | apply below_alloc | apply pw_below_drewN | apply below_drew1 | refine below_set ?_ (IsS73.ge HI0.out)) | exact HB.out)⟩⟩
   ·rw [if_neg c8] at H
    have c8b0 : (a1 == 4) = false := beq_eq_false_iff_ne.mpr c8
    have c8b1 : (a1 != 4) = true := bne_iff_ne.mpr c8
    replace H := Option.bind_eq_some_iff.mp H
    obtain ⟨⟨t147, t148, t149⟩, A110, H⟩ := H
    replace H : (impl_builder_lookup.j0 k a1 l2 t147 t148 t149) = some (r1, r2, r3, r4, r5, r6, r7, r8, r9, r10) := H
    have A11 := Aside0.mk A110
    clear A110
    have H' := Aside0.mk H
    clear H
    go_wp2_with (first | ((with_reducible refine gate_callee (f := 52) rfl ?_); refine goesL_ (some 22) rfl rfl Try.func52 (by kernel_rfl) rfl #[.pointer (some ⟨g, 0, none⟩), .bool (a1 == 6)] rfl (by (try simp only [List.map_toArray, List.map_cons, List.map_nil]); first | done | rfl | (simp only [List.length_drop, List.length_take]; rfl)) ?_; (with_reducible refine (impl_builder_must.calls g s0_0 s0_1 s0_2 (a1 == 6) t147 t148 t149 w0 _ ?side1 ?side2 A11.out).mono ?_); (case side1 => repeat (first | (with_reducible first | exact HI0.out | apply IsS73.alloc | apply IsS73.drewN | apply IsS73.drew | apply IsS73.set_0 | apply IsS73.set_1 | apply IsS73.set_2) | exact HI0.out)); (case side2 => repeat (first | (with_reducible first | exact HB.out | apply below_alloc | apply pw_below_drewN | apply below_drew1 | refine below_set ?_ (IsS73.ge HI0.out)) | exact HB.out)); rintro e w12 ⟨rfl, hi, hb, hk⟩; refine ⟨_, rfl, ?_⟩; have n0_ := Aside0.mk (KeepBut.trans (by repeat (first | (with_reducible first | exact HK.out | apply KeepBut.set_ | apply keep_drewN | apply keep_drew | apply keep_alloc) | exact HK.out)) hk (.inl rfl)); have n1_ := Aside0.mk (hb); have n2_ := Aside0.mk (hi); clear HK; clear HB; clear HI0; have HK := n0_; have HB := n1_; have HI0 := n2_; clear n0_ n1_ n2_; (try clear hb); (try clear hb2); (try clear hk); (try clear hi)))
    go_meet
    case rel => exact ⟨_, (t147), (t148), (t149), H', ⟨by first | omega | exact Nat.le_refl _⟩, ⟨by repeat (first | (with_reducible first | exact HI0.out | apply IsS73.alloc | apply IsS73.drewN | apply IsS73.drew | apply IsS73.set_0 | apply IsS73.set_1 | apply IsS73.set_2) | exact HI0.out)⟩, ⟨by repeat (first | (with_reducible first | exact HK.out | apply KeepBut.set_ | apply keep_drewN | apply keep_drew | apply keep_alloc) | exact HK.out)⟩, ⟨by repeat (first | (with_reducible first | exact HB.out | apply below_alloc | apply pw_below_drewN | apply below_drew1 | refine below_set ?_ (IsS73.ge HI0.out)) | exact HB.out)⟩⟩
 case rest =>
  clear HC4
  try clear c2
  try clear p2
  try clear c3
  try clear c5
  try clear c5b0
  try clear c5b1
  try clear c8
  try clear c8b0
  try clear c8b1
  obtain ⟨kq, x1000_3, x1001_3, x1002_3, HA, HJ3, HI0, HK, HB⟩ := hcut
  cases kq with
  | zero => exact absurd HA.out (by simp [impl_builder_lookup.j0])
  | succ kj3 =>
   have H := HA.out
   clear HA
   simp only [impl_builder_lookup.j0] at H
   have H' := Aside0.mk H
   clear H
   go_wp2
   go_loopg [7, 8, 25] kj3 (fun kq v7 v8 v25 w' => ∃ (x7_2 : List Int) (x8_2 : List Int) (x25_2 : Int) (x1000_2 : Int) (x1001_2 : Int) (x1002_2 : Bool), v25 = .int .i64 x25_2 ∧ Aside0 (impl_builder_lookup.l0 kq a1 l2 x7_2 x8_2 l2 (l2.length : Int) x25_2 x1000_2 x1001_2 x1002_2 = some (r1, r2, r3, r4, r5, r6, r7, r8, r9, r10)) ∧ Aside0 (kq ≤ kj3) ∧ Aside0 (Kd.R (Kd.int .u16) 35 w' w.heap.size (fun k_ => some k_ ≠ (v8 : Value).ownBlock) v7 x7_2) ∧ Aside0 (Kd.R (Kd.int .u16) 35 w' w.heap.size (fun k_ => some k_ ≠ (v7 : Value).ownBlock) v8 x8_2) ∧ Aside0 (IsS73 w0 w' g x1000_2 x1001_2 x1002_2) ∧ Aside0 (KeepBut w w' g none) ∧ Aside0 (Below w0.heap.size w0 w'))
   case atStart => exact ⟨(([] : List Int)), (([] : List Int)), (0), (x1000_3), (x1001_3), (x1002_3), (by first | rfl | (simp; done) | (simp [*]; done)), H', ⟨Nat.le_refl _⟩, ⟨by first | exact Kd.R_nil _ _ _ _ _ | exact Kd.N_nil _ _ _ _ _ | exact Kd.V_nil _ _ _ _ _ | exact Kd.Q_nil _ _ _ _ _ | exact Kd.S_nil _ _ _ _ _⟩, ⟨by first | exact Kd.R_nil _ _ _ _ _ | exact Kd.N_nil _ _ _ _ _ | exact Kd.V_nil _ _ _ _ _ | exact Kd.Q_nil _ _ _ _ _ | exact Kd.S_nil _ _ _ _ _⟩, ⟨by repeat (first | (with_reducible first | exact HI0.out | apply IsS73.alloc | apply IsS73.drewN | apply IsS73.drew | apply IsS73.set_0 | apply IsS73.set_1 | apply IsS73.set_2) | exact HI0.out)⟩, ⟨by repeat (first | (with_reducible first | exact HK.out | apply KeepBut.set_ | apply keep_drewN | apply keep_drew | apply keep_alloc) | exact HK.out)⟩, ⟨by repeat (first | (with_reducible first | exact HB.out | apply below_alloc | apply pw_below_drewN | apply below_drew1 | refine below_set ?_ (IsS73.ge HI0.out)) | exact HB.out)⟩⟩
   case round =>
    clear H'
    try clear c2
    try clear p2
    try clear c3
    try clear c5
    try clear c5b0
    try clear c5b1
    try clear c8
    try clear c8b0
    try clear c8b1
    try clear p2
    obtain ⟨x7_2, x8_2, x25_2, x1000_2, x1001_2, x1002_2, rfl, HA, HK2, HO_7, HO_8, HI0, HK, HB⟩ := hrel
    cases gk with
    | zero => exact absurd HA.out (by simp [impl_builder_lookup.l0])
    | succ k2 =>
     have H := HA.out
     clear HA
     simp only [impl_builder_lookup.l0] at H
     by_cases c13 : x25_2 < (l2.length : Int)
     ·rw [if_pos c13] at H
      have c13b0 : decide (x25_2 < (l2.length : Int)) = true := decide_eq_true c13
      clear c13
      by_cases c14 : 0 ≤ x25_2
      ·rw [if_pos c14] at H
       have c14b0 : decide (0 ≤ x25_2) = true := decide_eq_true c14
       clear c14
       by_cases c15 : x25_2 < (l2.length : Int)
       ·rw [if_pos c15] at H
        have c15b0 : decide (x25_2 < (l2.length : Int)) = true := decide_eq_true c15
        clear c15
        have HC16 := Aside0.mk H
        clear H
        have p159 : 0 ≤ (x25_2 : Int) := of_decide_eq_true (by first | (with_reducible assumption) | assumption)
        have q159 : x25_2 < (l2.length : Int) := of_decide_eq_true (by first | (with_reducible assumption) | assumption)
        obtain ⟨ad159, e159, hx159_0, hx159_1⟩ := at_T27 (Kd.C_foot_now HR2.out HK.out) x25_2 p159 q159
        cases e159
        replace p159 := eq_true p159
        replace q159 := eq_true q159
        go_upto_region 7 with (first | ((with_reducible refine gate_dst (N := 10) rfl ?_); refine box_event ?hg (N := 10) ?hd (cs := #[.int .i64 0, .int .i64 0]) (t := 27) ?hr ?_; (case hd => rfl); (case hg => rfl); (case hr => first | (go_simp; done) | (go_simp; rfl)); intro gb160 hg w17 hbox hb; have n0_ := Aside0.mk (Kd.R_below (by (with_reducible repeat (first | apply Kd.R_alloc | apply Kd.R_drewN | apply Kd.R_drew)); exact HO_7.out) hb); have n1_ := Aside0.mk (Kd.R_below (by (with_reducible repeat (first | apply Kd.R_alloc | apply Kd.R_drewN | apply Kd.R_drew)); exact HO_8.out) hb); have n2_ := Aside0.mk (IsS73.below (by repeat (first | (with_reducible first | exact HI0.out | apply IsS73.alloc | apply IsS73.drewN | apply IsS73.drew | apply IsS73.set_0 | apply IsS73.set_1 | apply IsS73.set_2) | exact HI0.out)) hb); have n3_ := Aside0.mk (KeepBut.trans (by repeat (first | (with_reducible first | exact HK.out | apply KeepBut.set_ | apply keep_drewN | apply keep_drew | apply keep_alloc) | exact HK.out)) (KeepBut.of_below hb g none) (.inl rfl)); have n4_ := Aside0.mk (below_step (by repeat (first | (with_reducible first | exact HB.out | apply below_alloc | apply pw_below_drewN | apply below_drew1 | refine below_set ?_ (IsS73.ge HI0.out)) | exact HB.out)) hb); have n5_ := Aside0.mk (hbox); have n6_ := Aside0.mk ((by rw [hg]; exact (keep_size (w := w) (g := g) (row := none) (by repeat (first | (with_reducible first | exact HK.out | apply KeepBut.set_ | apply keep_drewN | apply keep_drew | apply keep_alloc) | exact HK.out))) : w.heap.size ≤ gb160)); have n7_ := Aside0.mk ((Nat.le_trans HW0.out (by rw [hg]; exact (keep_size (w := w) (g := g) (row := none) (by repeat (first | (with_reducible first | exact HK.out | apply KeepBut.set_ | apply keep_drewN | apply keep_drew | apply keep_alloc) | exact HK.out))) : w.heap.size ≤ gb160) : w0.heap.size ≤ gb160)); have n8_ := Aside0.mk ((by rw [hg]; exact Nat.ne_of_lt (IsS73.lt (show IsS73 w0 _ g x1000_2 x1001_2 x1002_2 from by repeat (first | (with_reducible first | exact HI0.out | apply IsS73.alloc | apply IsS73.drewN | apply IsS73.drew | apply IsS73.set_0 | apply IsS73.set_1 | apply IsS73.set_2) | exact HI0.out))) : g ≠ gb160)); have n9_ := Aside0.mk ((by rw [hg]; exact Nat.ne_of_gt (IsS73.lt (show IsS73 w0 _ g x1000_2 x1001_2 x1002_2 from by repeat (first | (with_reducible first | exact HI0.out | apply IsS73.alloc | apply IsS73.drewN | apply IsS73.drew | apply IsS73.set_0 | apply IsS73.set_1 | apply IsS73.set_2) | exact HI0.out))) : gb160 ≠ g)); clear HO_7; clear HO_8; clear HI0; clear HK; clear HB; have HO_7 := n0_; have HO_8 := n1_; have HI0 := n2_; have HK := n3_; have HB := n4_; have BK160 := n5_; have GW160 := n6_; have GE160 := n7_; have NB0_160 := n8_; have NB160_0 := n9_; clear n0_ n1_ n2_ n3_ n4_ n5_ n6_ n7_ n8_ n9_; clear hb hbox hg; have hnb18 := NB160_0.out; have hnc18 := NB0_160.out; have hcz19_0 : w17.cell? ⟨gb160, 0, none⟩ = some (.int .i64 0) := (blk_cell BK160.out 0).trans rfl; have hcz19_1 : w17.cell? ⟨gb160, 1, none⟩ = some (.int .i64 0) := (blk_cell BK160.out 1).trans rfl; have hfz19_0 := blk_frozen BK160.out 0; have hfz19_1 := blk_frozen BK160.out 1))
        (try simp only [Act.put, L1_, L2_, L3_])
        go_cut [] (fun wc => ∃ (kq : Nat) (x1000_15 : Int) (x1001_15 : Int) (x1002_15 : Bool), Aside0 (impl_builder_lookup.j2 kq a1 l2 x7_2 x8_2 l2 (l2.length : Int) x25_2 x1000_15 x1001_15 x1002_15 ((rd_T27 l2 x25_2).f0) ((rd_T27 l2 x25_2).f1) = some (r1, r2, r3, r4, r5, r6, r7, r8, r9, r10)) ∧ Aside0 (kq ≤ k2) ∧ Aside0 (Kd.R (Kd.int .u16) 35 wc w.heap.size (fun k_ => some k_ ≠ (u8 : Value).ownBlock) u7 x7_2) ∧ Aside0 (Kd.R (Kd.int .u16) 35 wc w.heap.size (fun k_ => some k_ ≠ (u7 : Value).ownBlock) u8 x8_2) ∧ Aside0 (wc.heap[gb160]? = some (.cells #[.int .i64 ((rd_T27 l2 x25_2).f0), .int .i64 ((rd_T27 l2 x25_2).f1)] 27 (0, 0))) ∧ Aside0 (IsS73 w0 wc g x1000_15 x1001_15 x1002_15) ∧ Aside0 (KeepBut w wc g none) ∧ Aside0 (Below w0.heap.size w0 wc))
        case first =>
         have H := HC16.out
         clear HC16
         by_cases c20 : ((rd_T27 l2 x25_2).f0) < 65535
         ·rw [if_pos c20] at H
          have c20b0 : decide (((rd_T27 l2 x25_2).f0) < 65535) = true := decide_eq_true c20
          clear c20
          (first | rw [c20b0] | (simp only [i64_w, i32_w]; rw [c20b0]) | skip)
          by_cases c21 : x25_2 = 0
          ·rw [if_pos c21] at H
           have c21b0 : (x25_2 == 0) = true := beq_iff_eq.mpr c21
           have c21b1 : (x25_2 != 0) = false := bne_eq_false_iff_eq.mpr c21
           clear c21
           replace H := Option.bind_eq_some_iff.mp H
           obtain ⟨⟨t161, t162, t163⟩, A220, H⟩ := H
           replace H : (impl_builder_lookup.j2 k2 a1 l2 x7_2 x8_2 l2 (l2.length : Int) x25_2 t161 t162 t163 ((rd_T27 l2 x25_2).f0) ((rd_T27 l2 x25_2).f1)) = some (r1, r2, r3, r4, r5, r6, r7, r8, r9, r10) := H
           have A22 := Aside0.mk A220
           clear A220
           have H' := Aside0.mk H
           clear H
           try go_wp2
           have n0_ : Aside0 (Kd.R (Kd.int .u16) 35 ((w17.setCell ⟨gb160, 0, none⟩ (.int .i64 ((rd_T27 l2 x25_2).f0))).setCell ⟨gb160, 1, none⟩ (.int .i64 ((rd_T27 l2 x25_2).f1))) w.heap.size (fun k_ => some k_ ≠ (u8 : Value).ownBlock) u7 x7_2) := ⟨by (with_reducible repeat (first | apply Kd.R_alloc | apply Kd.R_drewN | apply Kd.R_drew)); exact Kd.R_mono (Kd.R_far (p := ⟨gb160, 1, none⟩) (Kd.R_far (p := ⟨gb160, 0, none⟩) (Kd.R_types HO_7.out BK160.out (by decide)) (fun _ hk => hk.2) (.int .i64 ((rd_T27 l2 x25_2).f0))) (fun _ hk => hk.2) (.int .i64 ((rd_T27 l2 x25_2).f1))) (fun _ hk => hk.1)⟩
           have n1_ : Aside0 (Kd.R (Kd.int .u16) 35 ((w17.setCell ⟨gb160, 0, none⟩ (.int .i64 ((rd_T27 l2 x25_2).f0))).setCell ⟨gb160, 1, none⟩ (.int .i64 ((rd_T27 l2 x25_2).f1))) w.heap.size (fun k_ => some k_ ≠ (u7 : Value).ownBlock) u8 x8_2) := ⟨by (with_reducible repeat (first | apply Kd.R_alloc | apply Kd.R_drewN | apply Kd.R_drew)); exact Kd.R_mono (Kd.R_far (p := ⟨gb160, 1, none⟩) (Kd.R_far (p := ⟨gb160, 0, none⟩) (Kd.R_types HO_8.out BK160.out (by decide)) (fun _ hk => hk.2) (.int .i64 ((rd_T27 l2 x25_2).f0))) (fun _ hk => hk.2) (.int .i64 ((rd_T27 l2 x25_2).f1))) (fun _ hk => hk.1)⟩
           have n2_ : Aside0 (((w17.setCell ⟨gb160, 0, none⟩ (.int .i64 ((rd_T27 l2 x25_2).f0))).setCell ⟨gb160, 1, none⟩ (.int .i64 ((rd_T27 l2 x25_2).f1))).heap[gb160]? = some (.cells #[.int .i64 ((rd_T27 l2 x25_2).f0), .int .i64 ((rd_T27 l2 x25_2).f1)] 27 (0, 0))) := ⟨by (with_reducible repeat (first | refine b1_ ?_ _ | refine b2_ ?_ | refine b3_ ?_ _)); refine blk_put (cs := #[.int .i64 ((rd_T27 l2 x25_2).f0), .int .i64 0]) ?_ 1 _ rfl; (with_reducible repeat (first | refine b1_ ?_ _ | refine b2_ ?_ | refine b3_ ?_ _)); refine blk_put (cs := #[.int .i64 0, .int .i64 0]) ?_ 0 _ rfl; (with_reducible repeat (first | refine b1_ ?_ _ | refine b2_ ?_ | refine b3_ ?_ _)); exact BK160.out⟩
           have n3_ : Aside0 (IsS73 w0 ((w17.setCell ⟨gb160, 0, none⟩ (.int .i64 ((rd_T27 l2 x25_2).f0))).setCell ⟨gb160, 1, none⟩ (.int .i64 ((rd_T27 l2 x25_2).f1))) g x1000_2 x1001_2 x1002_2) := ⟨by repeat (first | (with_reducible first | exact HI0.out | apply IsS73.alloc | apply IsS73.drewN | apply IsS73.drew | apply IsS73.set_0 | apply IsS73.set_1 | apply IsS73.set_2 | refine IsS73.far ?_ NB0_160.out _) | exact HI0.out)⟩
           have n4_ : Aside0 (KeepBut w ((w17.setCell ⟨gb160, 0, none⟩ (.int .i64 ((rd_T27 l2 x25_2).f0))).setCell ⟨gb160, 1, none⟩ (.int .i64 ((rd_T27 l2 x25_2).f1))) g none) := ⟨by repeat (first | (with_reducible first | exact HK.out | apply KeepBut.set_ | apply keep_drewN | apply keep_drew | apply keep_alloc | refine keep_far ?_ GW160.out _) | exact HK.out)⟩
           have n5_ : Aside0 (Below w0.heap.size w0 ((w17.setCell ⟨gb160, 0, none⟩ (.int .i64 ((rd_T27 l2 x25_2).f0))).setCell ⟨gb160, 1, none⟩ (.int .i64 ((rd_T27 l2 x25_2).f1)))) := ⟨by repeat (first | (with_reducible first | exact HB.out | apply below_alloc | apply pw_below_drewN | apply below_drew1 | refine below_set ?_ (IsS73.ge HI0.out) | refine below_set ?_ GE160.out) | exact HB.out)⟩
           (try clear HO_7)
           (try clear HO_8)
           (try clear BK160)
           (try clear HI0)
           (try clear HK)
           (try clear HB)
           generalize ((w17.setCell ⟨gb160, 0, none⟩ (.int .i64 ((rd_T27 l2 x25_2).f0))).setCell ⟨gb160, 1, none⟩ (.int .i64 ((rd_T27 l2 x25_2).f1))) = w23 at n0_ n1_ n2_ n3_ n4_ n5_ ⊢
           have HO_7 := n0_
           have HO_8 := n1_
           have BK160 := n2_
           have HI0 := n3_
           have HK := n4_
           have HB := n5_
           clear n0_ n1_ n2_ n3_ n4_ n5_
           have n0_ := Aside0.mk (Kd.R_drew HO_7.out)
           have n1_ := Aside0.mk (Kd.R_drew HO_8.out)
           have n2_ := Aside0.mk (blk_drew BK160.out)
           have n3_ := Aside0.mk (IsS73.drew HI0.out)
           have n4_ := Aside0.mk (keep_drew HK.out)
           have n5_ := Aside0.mk (below_drew1 HB.out)
           clear HO_7
           clear HO_8
           clear BK160
           clear HI0
           clear HK
           clear HB
           have HO_7 := n0_
           have HO_8 := n1_
           have BK160 := n2_
           have HI0 := n3_
           have HK := n4_
           have HB := n5_
           clear n0_ n1_ n2_ n3_ n4_ n5_
           refine start_ (n := 20) (S := fun w' => w'.cell? ⟨gb160, 0, none⟩ = some (.int .i64 ((rd_T27 l2 x25_2).f0)) ∧ w'.cell? ⟨gb160, 1, none⟩ = some (.int .i64 ((rd_T27 l2 x25_2).f1))) (ds := []) #[ff,ff,ff,ff,ff,ff,ff,ff,ff,ff,ff,ff,ff,ff,ff,ff,ff,ff,ff,ff] (by kernel_rfl) rfl rfl ⟨(blk_cell BK160.out 0).trans rfl, (blk_cell BK160.out 1).trans rfl⟩ (fun hHeld => ?_); refine with_tabW impl_builder_lookup.tab7 impl_builder_lookup.bits7 (fun HT_ HW_ => ?_)
           generalize w23.drew = w24 at HO_7 HO_8 BK160 HI0 HK HB hHeld ⊢
           refine pure_ (i := 0) (N := some 30) (v := ?_) (a' := ?_) #[tt,ff,ff,ff,ff,ff,ff,ff,ff,ff,ff,ff,ff,ff,ff,ff,ff,ff,ff,ff] rfl rfl (any_of HT_.out (by kernel_rfl)) (fun _ _ _ h => h) (Or.inl ⟨by rfl, ?_⟩) ?_ ?_
           rotate_left
           ·intro w'
            go_simp
            with_reducible rfl
           rotate_left
           ·simp only [Act.put, L1_, L2_, L3_, i64_w, i32_w]
            rfl
           refine pure_ (i := 1) (N := some 31) (v := ?_) (a' := ?_) #[tt,tt,ff,ff,ff,ff,ff,ff,ff,ff,ff,ff,ff,ff,ff,ff,ff,ff,ff,ff] rfl rfl (any_of HT_.out (by kernel_rfl)) (fun _ _ _ h => h) (Or.inl ⟨by rfl, ?_⟩) ?_ ?_
           rotate_left
           ·intro w'
            go_simp
            with_reducible rfl
           rotate_left
           ·simp only [Act.put, L1_, L2_, L3_, i64_w, i32_w]
            rfl
           refine take_ (i := 2) (N := some 32) (v := ?_) (a' := ?_) #[tt,tt,tt,ff,ff,ff,ff,ff,ff,ff,ff,ff,ff,ff,ff,ff,ff,ff,ff,ff] rfl rfl (take_ofW HT_.out HW_.out (by kernel_rfl)) (fun _ _ _ h => h) (Or.inl ⟨by rfl, ?_⟩) hHeld ?_ ?_
           rotate_left
           ·rintro w' ⟨s0, s1⟩
            go_simp
            with_reducible rfl
           rotate_left
           ·simp only [Act.put, L1_, L2_, L3_, i64_w, i32_w]
            rfl
           refine pure_ (i := 3) (N := some 33) (v := ?_) (a' := ?_) #[tt,tt,tt,tt,ff,ff,ff,ff,ff,ff,ff,ff,ff,ff,ff,ff,ff,ff,ff,ff] rfl rfl (any_of HT_.out (by kernel_rfl)) (fun _ _ _ h => h) (Or.inl ⟨by rfl, ?_⟩) ?_ ?_
           rotate_left
           ·intro w'
            go_simp
            with_reducible rfl
           rotate_left
           ·(try go_ints); (try simp (disch := omega) only [n3_]); simp only [Act.put, L1_, L2_, L3_, i64_w, i32_w]
            rfl
           refine pure_ (i := 4) (N := some 34) (v := ?_) (a' := ?_) #[tt,tt,tt,tt,tt,ff,ff,ff,ff,ff,ff,ff,ff,ff,ff,ff,ff,ff,ff,ff] rfl rfl (any_of HT_.out (by kernel_rfl)) (fun _ _ _ h => h) (Or.inl ⟨by rfl, ?_⟩) ?_ ?_
           rotate_left
           ·intro w'
            go_simp
            with_reducible rfl
           rotate_left
           ·simp only [Act.put, L1_, L2_, L3_, i64_w, i32_w]
            rfl
           refine pure_ (i := 5) (N := some 35) (v := ?_) (a' := ?_) #[tt,tt,tt,tt,tt,tt,ff,ff,ff,ff,ff,ff,ff,ff,ff,ff,ff,ff,ff,ff] rfl rfl (any_of HT_.out (by kernel_rfl)) (fun _ _ _ h => h) (Or.inl ⟨by rfl, ?_⟩) ?_ ?_
           rotate_left
           ·intro w'
            go_simp
            with_reducible rfl
           rotate_left
           ·simp only [Act.put, L1_, L2_, L3_, i64_w, i32_w]
            rfl
           refine pure_ (i := 6) (N := some 36) (v := ?_) (a' := ?_) #[tt,tt,tt,tt,tt,tt,tt,ff,ff,ff,ff,ff,ff,ff,ff,ff,ff,ff,ff,ff] rfl rfl (any_of HT_.out (by kernel_rfl)) (fun _ _ _ h => h) (Or.inl ⟨by rfl, ?_⟩) ?_ ?_
           rotate_left
           ·intro w'
            go_simp
            with_reducible rfl
           rotate_left
           ·(try go_ints); (try simp (disch := omega) only [n3_]); simp only [Act.put, L1_, L2_, L3_, i64_w, i32_w]
            rfl
           refine pure_ (i := 7) (N := some 37) (v := ?_) (a' := ?_) #[tt,tt,tt,tt,tt,tt,tt,tt,ff,ff,ff,ff,ff,ff,ff,ff,ff,ff,ff,ff] rfl rfl (any_of HT_.out (by kernel_rfl)) (fun _ _ _ h => h) (Or.inl ⟨by rfl, ?_⟩) ?_ ?_
           rotate_left
           ·intro w'
            go_simp
            with_reducible rfl
           rotate_left
           ·simp only [Act.put, L1_, L2_, L3_, i64_w, i32_w]
            rfl
           refine pure_ (i := 8) (N := some 38) (v := undef) (a' := ?_) #[tt,tt,tt,tt,tt,tt,tt,tt,tt,ff,ff,ff,ff,ff,ff,ff,ff,ff,ff,ff] rfl rfl (any_of HT_.out (by kernel_rfl)) (fun _ _ _ h => h) (Or.inr ⟨by rfl, rfl⟩) ?_ ?_
           rotate_left
           ·simp only [Act.put, L1_, L2_, L3_, i64_w, i32_w]
            rfl
           refine pure_ (i := 9) (N := some 39) (v := undef) (a' := ?_) #[tt,tt,tt,tt,tt,tt,tt,tt,tt,tt,ff,ff,ff,ff,ff,ff,ff,ff,ff,ff] rfl rfl (any_of HT_.out (by kernel_rfl)) (fun _ _ _ h => h) (Or.inr ⟨by rfl, rfl⟩) ?_ ?_
           rotate_left
           ·simp only [Act.put, L1_, L2_, L3_, i64_w, i32_w]
            rfl
           refine pure_ (i := 10) (N := some 40) (v := undef) (a' := ?_) #[tt,tt,tt,tt,tt,tt,tt,tt,tt,tt,tt,ff,ff,ff,ff,ff,ff,ff,ff,ff] rfl rfl (any_of HT_.out (by kernel_rfl)) (fun _ _ _ h => h) (Or.inr ⟨by rfl, rfl⟩) ?_ ?_
           rotate_left
           ·simp only [Act.put, L1_, L2_, L3_, i64_w, i32_w]
            rfl
           refine pure_ (i := 11) (N := some 41) (v := undef) (a' := ?_) #[tt,tt,tt,tt,tt,tt,tt,tt,tt,tt,tt,tt,ff,ff,ff,ff,ff,ff,ff,ff] rfl rfl (any_of HT_.out (by kernel_rfl)) (fun _ _ _ h => h) (Or.inr ⟨by rfl, rfl⟩) ?_ ?_
           rotate_left
           ·simp only [Act.put, L1_, L2_, L3_, i64_w, i32_w]
            rfl
           refine pure_ (i := 12) (N := some 42) (v := undef) (a' := ?_) #[tt,tt,tt,tt,tt,tt,tt,tt,tt,tt,tt,tt,tt,ff,ff,ff,ff,ff,ff,ff] rfl rfl (any_of HT_.out (by kernel_rfl)) (fun _ _ _ h => h) (Or.inr ⟨by rfl, rfl⟩) ?_ ?_
           rotate_left
           ·(try go_ints); (try simp (disch := omega) only [n3_]); simp only [Act.put, L1_, L2_, L3_, i64_w, i32_w]
            rfl
           refine pure_ (i := 13) (N := some 43) (v := undef) (a' := ?_) #[tt,tt,tt,tt,tt,tt,tt,tt,tt,tt,tt,tt,tt,tt,ff,ff,ff,ff,ff,ff] rfl rfl (any_of HT_.out (by kernel_rfl)) (fun _ _ _ h => h) (Or.inr ⟨by rfl, rfl⟩) ?_ ?_
           rotate_left
           ·simp only [Act.put, L1_, L2_, L3_, i64_w, i32_w]
            rfl
           refine pure_ (i := 14) (N := some 44) (v := undef) (a' := ?_) #[tt,tt,tt,tt,tt,tt,tt,tt,tt,tt,tt,tt,tt,tt,tt,ff,ff,ff,ff,ff] rfl rfl (any_of HT_.out (by kernel_rfl)) (fun _ _ _ h => h) (Or.inr ⟨by rfl, rfl⟩) ?_ ?_
           rotate_left
           ·simp only [Act.put, L1_, L2_, L3_, i64_w, i32_w]
            rfl
           refine pure_ (i := 15) (N := some 45) (v := undef) (a' := ?_) #[tt,tt,tt,tt,tt,tt,tt,tt,tt,tt,tt,tt,tt,tt,tt,tt,ff,ff,ff,ff] rfl rfl (any_of HT_.out (by kernel_rfl)) (fun _ _ _ h => h) (Or.inr ⟨by rfl, rfl⟩) ?_ ?_
           rotate_left
           ·simp only [Act.put, L1_, L2_, L3_, i64_w, i32_w]
            rfl
           refine pure_ (i := 16) (N := some 46) (v := undef) (a' := ?_) #[tt,tt,tt,tt,tt,tt,tt,tt,tt,tt,tt,tt,tt,tt,tt,tt,tt,ff,ff,ff] rfl rfl (any_of HT_.out (by kernel_rfl)) (fun _ _ _ h => h) (Or.inr ⟨by rfl, rfl⟩) ?_ ?_
           rotate_left
           ·(try go_ints); (try simp (disch := omega) only [n3_]); simp only [Act.put, L1_, L2_, L3_, i64_w, i32_w]
            rfl
           refine pure_ (i := 17) (N := some 47) (v := ?_) (a' := ?_) #[tt,tt,tt,tt,tt,tt,tt,tt,tt,tt,tt,tt,tt,tt,tt,tt,tt,tt,ff,ff] rfl rfl (any_of HT_.out (by kernel_rfl)) (fun _ _ _ h => h) (Or.inl ⟨by rfl, ?_⟩) ?_ ?_
           rotate_left
           ·intro w'
            go_simp
            with_reducible rfl
           rotate_left
           ·simp only [Act.put, L1_, L2_, L3_, i64_w, i32_w]
            rfl
           refine pure_ (i := 18) (N := some 48) (v := ?_) (a' := ?_) #[tt,tt,tt,tt,tt,tt,tt,tt,tt,tt,tt,tt,tt,tt,tt,tt,tt,tt,tt,ff] rfl rfl (any_of HT_.out (by kernel_rfl)) (fun _ _ _ h => h) (Or.inl ⟨by rfl, ?_⟩) ?_ ?_
           rotate_left
           ·intro w'
            go_simp
            with_reducible rfl
           rotate_left
           ·simp only [Act.put, L1_, L2_, L3_, i64_w, i32_w]
            rfl
           refine one_ (i := 19) (N := some 49) #[tt,tt,tt,tt,tt,tt,tt,tt,tt,tt,tt,tt,tt,tt,tt,tt,tt,tt,tt,tt] rfl rfl (one_of HT_.out (by kernel_rfl)) (by decide) (fun K hK => ?_)
           refine goes_ Try.func52 (by kernel_rfl) rfl #[.pointer (some ⟨g, 0, none⟩), .bool true] (by rfl) rfl rfl (by (try simp only [List.map_toArray, List.map_cons, List.map_nil]); first | done | rfl | (simp only [List.length_drop, List.length_take]; rfl)) ?_
           with_reducible refine (impl_builder_must.calls g x1000_2 x1001_2 x1002_2 true t161 t162 t163 w0 _ ?side1 ?side2 A22.out).mono ?_
           (case side1 => repeat (first | (with_reducible first | exact HI0.out | apply IsS73.alloc | apply IsS73.drewN | apply IsS73.drew | apply IsS73.set_0 | apply IsS73.set_1 | apply IsS73.set_2 | refine IsS73.far ?_ NB0_160.out _) | exact HI0.out))
           (case side2 => repeat (first | (with_reducible first | exact HB.out | apply below_alloc | apply pw_below_drewN | apply below_drew1 | refine below_set ?_ (IsS73.ge HI0.out) | refine below_set ?_ GE160.out) | exact HB.out))
           rintro e w25 ⟨rfl, hi, hb, hk⟩
           refine ⟨_, rfl, ?_⟩
           have n0_ := Aside0.mk (Kd.R_mono (Kd.R_keep (IsS73.apart (show IsS73 w0 _ g x1000_2 x1001_2 x1002_2 from by repeat (first | (with_reducible first | exact HI0.out | apply IsS73.alloc | apply IsS73.drewN | apply IsS73.drew | apply IsS73.set_0 | apply IsS73.set_1 | apply IsS73.set_2 | refine IsS73.far ?_ NB0_160.out _) | exact HI0.out)) (by (with_reducible repeat (first | apply Kd.R_alloc | apply Kd.R_drewN | apply Kd.R_drew)); exact HO_7.out) (by decide)) hk (fun _ h => h.2)) (fun _ h => h.1))
           have n1_ := Aside0.mk (Kd.R_mono (Kd.R_keep (IsS73.apart (show IsS73 w0 _ g x1000_2 x1001_2 x1002_2 from by repeat (first | (with_reducible first | exact HI0.out | apply IsS73.alloc | apply IsS73.drewN | apply IsS73.drew | apply IsS73.set_0 | apply IsS73.set_1 | apply IsS73.set_2 | refine IsS73.far ?_ NB0_160.out _) | exact HI0.out)) (by (with_reducible repeat (first | apply Kd.R_alloc | apply Kd.R_drewN | apply Kd.R_drew)); exact HO_8.out) (by decide)) hk (fun _ h => h.2)) (fun _ h => h.1))
           have n2_ := Aside0.mk (KeepBut.blk hk (g' := gb160) (o := .cells #[.int .i64 ((rd_T27 l2 x25_2).f0), .int .i64 ((rd_T27 l2 x25_2).f1)] 27 (0, 0)) (by (with_reducible repeat (first | refine b1_ ?_ _ | refine b2_ ?_ | refine b3_ ?_ _)); exact BK160.out) NB160_0.out (by simp))
           have n3_ := Aside0.mk (KeepBut.trans (by repeat (first | (with_reducible first | exact HK.out | apply KeepBut.set_ | apply keep_drewN | apply keep_drew | apply keep_alloc | refine keep_far ?_ GW160.out _) | exact HK.out)) hk (.inl rfl))
           have n4_ := Aside0.mk (hb)
           have n5_ := Aside0.mk (hi)
           clear HO_7
           clear HO_8
           clear BK160
           clear HK
           clear HB
           clear HI0
           have HO_7 := n0_
           have HO_8 := n1_
           have BK160 := n2_
           have HK := n3_
           have HB := n4_
           have HI0 := n5_
           clear n0_ n1_ n2_ n3_ n4_ n5_
           (try clear hb)
           (try clear hb2)
           (try clear hk)
           (try clear hi)
           refine hK.out _ _ ⟨(blk_cell BK160.out 0).trans rfl, (blk_cell BK160.out 1).trans rfl⟩ (fun hHeld => ?_)
           clear hK K
           refine norm_ (a' := ?_) ?_ ?_
           rotate_left
           ·show Act.put _ (some 49) _ = _
            simp only [Act.put, L1_, L2_, L3_, i64_w, i32_w]
            rfl
           refine done_ (done_of HT_.out (by kernel_rfl)) ?_
           try go_wp2
           go_meet
           case rel => exact ⟨_, (t161), (t162), (t163), H', ⟨by have := HJ3.out; have := HK2.out; first | omega | exact Nat.le_refl _⟩, ⟨by (with_reducible repeat (first | apply Kd.R_alloc | apply Kd.R_drewN | apply Kd.R_drew)); exact HO_7.out⟩, ⟨by (with_reducible repeat (first | apply Kd.R_alloc | apply Kd.R_drewN | apply Kd.R_drew)); exact HO_8.out⟩, ⟨by (with_reducible repeat (first | refine b1_ ?_ _ | refine b2_ ?_ | refine b3_ ?_ _)); exact BK160.out⟩, ⟨by repeat (first | (with_reducible first | exact HI0.out | apply IsS73.alloc | apply IsS73.drewN | apply IsS73.drew | apply IsS73.set_0 | apply IsS73.set_1 | apply IsS73.set_2 | refine IsS73.far ?_ NB0_160.out _) | exact HI0.out)⟩, ⟨by repeat (first | (with_reducible first | exact HK.out | apply KeepBut.set_ | apply keep_drewN | apply keep_drew | apply keep_alloc | refine keep_far ?_ GW160.out _) | exact HK.out)⟩, ⟨by repeat (first | (with_reducible first | exact HB.out | apply below_alloc | apply pw_below_drewN | apply below_drew1 | refine below_set ?_ (IsS73.ge HI0.out) | refine below_set ?_ GE160.out) | exact HB.out)⟩⟩
          ·rw [if_neg c21] at H
           have c21b0 : (x25_2 == 0) = false := beq_eq_false_iff_ne.mpr c21
           have c21b1 : (x25_2 != 0) = true := bne_iff_ne.mpr c21
           obtain ⟨ji26, hji26⟩ : ∃ j_ : Int, (wrap64 (x25_2 - 1)) = j_ := ⟨_, rfl⟩
           replace H : (if 0 ≤ (ji26) then (if (ji26) < (l2.length : Int) then ((impl_builder_must.f x1000_2 x1001_2 x1002_2 (decide (((rd_T27 l2 x25_2).f0) > ((rd_T27 l2 (ji26)).f0)))).bind fun bt165 => (impl_builder_lookup.j2 k2 a1 l2 x7_2 x8_2 l2 (l2.length : Int) x25_2 bt165.1 bt165.2.1 bt165.2.2 ((rd_T27 l2 x25_2).f0) ((rd_T27 l2 x25_2).f1))) else (none)) else (none)) = some (r1, r2, r3, r4, r5, r6, r7, r8, r9, r10) := by first | (rw [hji26] at H; exact H) | (simp only [hji26] at H ⊢; exact H)
           have hji26w : (IntKind.i64.wrap (x25_2 - 1)) = ji26 := (i64_w _).trans hji26
           by_cases c27 : 0 ≤ (ji26)
           ·rw [if_pos c27] at H
            have c27b0 : decide (0 ≤ (ji26)) = true := decide_eq_true c27
            clear c27
            by_cases c28 : (ji26) < (l2.length : Int)
            ·rw [if_pos c28] at H
             have c28b0 : decide ((ji26) < (l2.length : Int)) = true := decide_eq_true c28
             clear c28
             replace H := Option.bind_eq_some_iff.mp H
             obtain ⟨⟨t165, t166, t167⟩, A290, H⟩ := H
             replace H : (impl_builder_lookup.j2 k2 a1 l2 x7_2 x8_2 l2 (l2.length : Int) x25_2 t165 t166 t167 ((rd_T27 l2 x25_2).f0) ((rd_T27 l2 x25_2).f1)) = some (r1, r2, r3, r4, r5, r6, r7, r8, r9, r10) := H
             have A29 := Aside0.mk A290
             clear A290
             have H' := Aside0.mk H
             clear H
             try go_wp2
             have n0_ : Aside0 (Kd.R (Kd.int .u16) 35 ((w17.setCell ⟨gb160, 0, none⟩ (.int .i64 ((rd_T27 l2 x25_2).f0))).setCell ⟨gb160, 1, none⟩ (.int .i64 ((rd_T27 l2 x25_2).f1))) w.heap.size (fun k_ => some k_ ≠ (u8 : Value).ownBlock) u7 x7_2) := ⟨by (with_reducible repeat (first | apply Kd.R_alloc | apply Kd.R_drewN | apply Kd.R_drew)); exact Kd.R_mono (Kd.R_far (p := ⟨gb160, 1, none⟩) (Kd.R_far (p := ⟨gb160, 0, none⟩) (Kd.R_types HO_7.out BK160.out (by decide)) (fun _ hk => hk.2) (.int .i64 ((rd_T27 l2 x25_2).f0))) (fun _ hk => hk.2) (.int .i64 ((rd_T27 l2 x25_2).f1))) (fun _ hk => hk.1)⟩
             have n1_ : Aside0 (Kd.R (Kd.int .u16) 35 ((w17.setCell ⟨gb160, 0, none⟩ (.int .i64 ((rd_T27 l2 x25_2).f0))).setCell ⟨gb160, 1, none⟩ (.int .i64 ((rd_T27 l2 x25_2).f1))) w.heap.size (fun k_ => some k_ ≠ (u7 : Value).ownBlock) u8 x8_2) := ⟨by (with_reducible repeat (first | apply Kd.R_alloc | apply Kd.R_drewN | apply Kd.R_drew)); exact Kd.R_mono (Kd.R_far (p := ⟨gb160, 1, none⟩) (Kd.R_far (p := ⟨gb160, 0, none⟩) (Kd.R_types HO_8.out BK160.out (by decide)) (fun _ hk => hk.2) (.int .i64 ((rd_T27 l2 x25_2).f0))) (fun _ hk => hk.2) (.int .i64 ((rd_T27 l2 x25_2).f1))) (fun _ hk => hk.1)⟩
             have n2_ : Aside0 (((w17.setCell ⟨gb160, 0, none⟩ (.int .i64 ((rd_T27 l2 x25_2).f0))).setCell ⟨gb160, 1, none⟩ (.int .i64 ((rd_T27 l2 x25_2).f1))).heap[gb160]? = some (.cells #[.int .i64 ((rd_T27 l2 x25_2).f0), .int .i64 ((rd_T27 l2 x25_2).f1)] 27 (0, 0))) := ⟨by (with_reducible repeat (first | refine b1_ ?_ _ | refine b2_ ?_ | refine b3_ ?_ _)); refine blk_put (cs := #[.int .i64 ((rd_T27 l2 x25_2).f0), .int .i64 0]) ?_ 1 _ rfl; (with_reducible repeat (first | refine b1_ ?_ _ | refine b2_ ?_ | refine b3_ ?_ _)); refine blk_put (cs := #[.int .i64 0, .int .i64 0]) ?_ 0 _ rfl; (with_reducible repeat (first | refine b1_ ?_ _ | refine b2_ ?_ | refine b3_ ?_ _)); exact BK160.out⟩
             have n3_ : Aside0 (IsS73 w0 ((w17.setCell ⟨gb160, 0, none⟩ (.int .i64 ((rd_T27 l2 x25_2).f0))).setCell ⟨gb160, 1, none⟩ (.int .i64 ((rd_T27 l2 x25_2).f1))) g x1000_2 x1001_2 x1002_2) := ⟨by repeat (first | (with_reducible first | exact HI0.out | apply IsS73.alloc | apply IsS73.drewN | apply IsS73.drew | apply IsS73.set_0 | apply IsS73.set_1 | apply IsS73.set_2 | refine IsS73.far ?_ NB0_160.out _) | exact HI0.out)⟩
             have n4_ : Aside0 (KeepBut w ((w17.setCell ⟨gb160, 0, none⟩ (.int .i64 ((rd_T27 l2 x25_2).f0))).setCell ⟨gb160, 1, none⟩ (.int .i64 ((rd_T27 l2 x25_2).f1))) g none) := ⟨by repeat (first | (with_reducible first | exact HK.out | apply KeepBut.set_ | apply keep_drewN | apply keep_drew | apply keep_alloc | refine keep_far ?_ GW160.out _) | exact HK.out)⟩
             have n5_ : Aside0 (Below w0.heap.size w0 ((w17.setCell ⟨gb160, 0, none⟩ (.int .i64 ((rd_T27 l2 x25_2).f0))).setCell ⟨gb160, 1, none⟩ (.int .i64 ((rd_T27 l2 x25_2).f1)))) := ⟨by repeat (first | (with_reducible first | exact HB.out | apply below_alloc | apply pw_below_drewN | apply below_drew1 | refine below_set ?_ (IsS73.ge HI0.out) | refine below_set ?_ GE160.out) | exact HB.out)⟩
             (try clear HO_7)
             (try clear HO_8)
             (try clear BK160)
             (try clear HI0)
             (try clear HK)
             (try clear HB)
             generalize ((w17.setCell ⟨gb160, 0, none⟩ (.int .i64 ((rd_T27 l2 x25_2).f0))).setCell ⟨gb160, 1, none⟩ (.int .i64 ((rd_T27 l2 x25_2).f1))) = w30 at n0_ n1_ n2_ n3_ n4_ n5_ ⊢
             have HO_7 := n0_
             have HO_8 := n1_
             have BK160 := n2_
             have HI0 := n3_
             have HK := n4_
             have HB := n5_
             clear n0_ n1_ n2_ n3_ n4_ n5_
             have n0_ := Aside0.mk (Kd.R_drew HO_7.out)
             have n1_ := Aside0.mk (Kd.R_drew HO_8.out)
             have n2_ := Aside0.mk (blk_drew BK160.out)
             have n3_ := Aside0.mk (IsS73.drew HI0.out)
             have n4_ := Aside0.mk (keep_drew HK.out)
             have n5_ := Aside0.mk (below_drew1 HB.out)
             clear HO_7
             clear HO_8
             clear BK160
             clear HI0
             clear HK
             clear HB
             have HO_7 := n0_
             have HO_8 := n1_
             have BK160 := n2_
             have HI0 := n3_
             have HK := n4_
             have HB := n5_
             clear n0_ n1_ n2_ n3_ n4_ n5_
             have p164 : 0 ≤ ((ji26) : Int) := of_decide_eq_true (by first | (with_reducible assumption) | assumption)
             have q164 : (ji26) < (l2.length : Int) := of_decide_eq_true (by first | (with_reducible assumption) | assumption)
             obtain ⟨ad164, e164, hx164_0, hx164_1⟩ := at_T27 (Kd.C_foot_now HR2.out HK.out) (ji26) p164 q164
             have hw164_1 := hx164_1
             have hw164_0 := hx164_0
             obtain rfl : ad159 = ad164 := (by injection e164)
             have hne164_1 := (show (⟨(ad159.add (((ji26)).toNat * 2)).block, (ad159.add (((ji26)).toNat * 2)).off + 1, none⟩ : Addr).block ≠ g from by first | (rw [add_block]; exact Kd.foot_ne HR2.out (by omega) (by decide)) | (show (Addr.add _ _).block ≠ _; rw [add_block]; exact Kd.foot_ne HR2.out (by omega) (by decide)) | exact Kd.foot_ne HR2.out (by omega) (by decide) | (dsimp only; exact Kd.foot_ne HR2.out (by omega) (by decide)))
             have hlt164_1 := (Kd.foot_lt HR2.out (by omega) (by decide))
             have hne164_0 := (show ((ad159.add (((ji26)).toNat * 2)) : Addr).block ≠ g from by first | (rw [add_block]; exact Kd.foot_ne HR2.out (by omega) (by decide)) | (show (Addr.add _ _).block ≠ _; rw [add_block]; exact Kd.foot_ne HR2.out (by omega) (by decide)) | exact Kd.foot_ne HR2.out (by omega) (by decide) | (dsimp only; exact Kd.foot_ne HR2.out (by omega) (by decide)))
             have hlt164_0 := (Kd.foot_lt HR2.out (by omega) (by decide))
             replace p164 := eq_true p164
             replace q164 := eq_true q164
             refine start_ (n := 20) (S := fun w' => w'.cell? ⟨gb160, 0, none⟩ = some (.int .i64 ((rd_T27 l2 x25_2).f0)) ∧ w'.cell? ⟨gb160, 1, none⟩ = some (.int .i64 ((rd_T27 l2 x25_2).f1)) ∧ w'.cell? (ad159.add (((ji26)).toNat * 2)) = some (.int .i64 ((rd_T27 l2 (ji26)).f0)) ∧ w'.cell? ⟨(ad159.add (((ji26)).toNat * 2)).block, (ad159.add (((ji26)).toNat * 2)).off + 1, none⟩ = some (.int .i64 ((rd_T27 l2 (ji26)).f1))) (ds := []) #[ff,ff,ff,ff,ff,ff,ff,ff,ff,ff,ff,ff,ff,ff,ff,ff,ff,ff,ff,ff] (by kernel_rfl) rfl rfl ⟨(blk_cell BK160.out 0).trans rfl, (blk_cell BK160.out 1).trans rfl, hx164_0, hx164_1⟩ (fun hHeld => ?_); refine with_tabW impl_builder_lookup.tab7 impl_builder_lookup.bits7 (fun HT_ HW_ => ?_)
             generalize w30.drew = w31 at HO_7 HO_8 BK160 HI0 HK HB hx164_0 hx164_1 hHeld ⊢
             refine pure_ (i := 0) (N := some 30) (v := ?_) (a' := ?_) #[tt,ff,ff,ff,ff,ff,ff,ff,ff,ff,ff,ff,ff,ff,ff,ff,ff,ff,ff,ff] rfl rfl (any_of HT_.out (by kernel_rfl)) (fun _ _ _ h => h) (Or.inl ⟨by rfl, ?_⟩) ?_ ?_
             rotate_left
             ·intro w'
              go_simp
              with_reducible rfl
             rotate_left
             ·simp only [Act.put, L1_, L2_, L3_, i64_w, i32_w]
              rfl
             refine pure_ (i := 1) (N := some 31) (v := ?_) (a' := ?_) #[tt,tt,ff,ff,ff,ff,ff,ff,ff,ff,ff,ff,ff,ff,ff,ff,ff,ff,ff,ff] rfl rfl (any_of HT_.out (by kernel_rfl)) (fun _ _ _ h => h) (Or.inl ⟨by rfl, ?_⟩) ?_ ?_
             rotate_left
             ·intro w'
              go_simp
              with_reducible rfl
             rotate_left
             ·simp only [Act.put, L1_, L2_, L3_, i64_w, i32_w]
              rfl
             refine take_ (i := 2) (N := some 32) (v := ?_) (a' := ?_) #[tt,tt,tt,ff,ff,ff,ff,ff,ff,ff,ff,ff,ff,ff,ff,ff,ff,ff,ff,ff] rfl rfl (take_ofW HT_.out HW_.out (by kernel_rfl)) (fun _ _ _ h => h) (Or.inl ⟨by rfl, ?_⟩) hHeld ?_ ?_
             rotate_left
             ·rintro w' ⟨s0, s1, s2, s3⟩
              go_simp
              with_reducible rfl
             rotate_left
             ·simp only [Act.put, L1_, L2_, L3_, i64_w, i32_w]
              rfl
             refine pure_ (i := 3) (N := some 33) (v := ?_) (a' := ?_) #[tt,tt,tt,tt,ff,ff,ff,ff,ff,ff,ff,ff,ff,ff,ff,ff,ff,ff,ff,ff] rfl rfl (any_of HT_.out (by kernel_rfl)) (fun _ _ _ h => h) (Or.inl ⟨by rfl, ?_⟩) ?_ ?_
             rotate_left
             ·intro w'
              go_simp
              with_reducible rfl
             rotate_left
             ·(try go_ints); (try simp (disch := omega) only [n3_]); simp only [Act.put, L1_, L2_, L3_, i64_w, i32_w]
              rfl
             refine pure_ (i := 4) (N := some 34) (v := ?_) (a' := ?_) #[tt,tt,tt,tt,tt,ff,ff,ff,ff,ff,ff,ff,ff,ff,ff,ff,ff,ff,ff,ff] rfl rfl (any_of HT_.out (by kernel_rfl)) (fun _ _ _ h => h) (Or.inl ⟨by rfl, ?_⟩) ?_ ?_
             rotate_left
             ·intro w'
              go_simp
              with_reducible rfl
             rotate_left
             ·simp only [Act.put, L1_, L2_, L3_, i64_w, i32_w]
              rfl
             refine pure_ (i := 5) (N := some 35) (v := ?_) (a' := ?_) #[tt,tt,tt,tt,tt,tt,ff,ff,ff,ff,ff,ff,ff,ff,ff,ff,ff,ff,ff,ff] rfl rfl (any_of HT_.out (by kernel_rfl)) (fun _ _ _ h => h) (Or.inl ⟨by rfl, ?_⟩) ?_ ?_
             rotate_left
             ·intro w'
              go_simp
              with_reducible rfl
             rotate_left
             ·simp only [Act.put, L1_, L2_, L3_, i64_w, i32_w]
              rfl
             refine pure_ (i := 6) (N := some 36) (v := ?_) (a' := ?_) #[tt,tt,tt,tt,tt,tt,tt,ff,ff,ff,ff,ff,ff,ff,ff,ff,ff,ff,ff,ff] rfl rfl (any_of HT_.out (by kernel_rfl)) (fun _ _ _ h => h) (Or.inl ⟨by rfl, ?_⟩) ?_ ?_
             rotate_left
             ·intro w'
              go_simp
              with_reducible rfl
             rotate_left
             ·(try go_ints); (try simp (disch := omega) only [n3_]); simp only [Act.put, L1_, L2_, L3_, i64_w, i32_w]
              rfl
             refine pure_ (i := 7) (N := some 37) (v := ?_) (a' := ?_) #[tt,tt,tt,tt,tt,tt,tt,tt,ff,ff,ff,ff,ff,ff,ff,ff,ff,ff,ff,ff] rfl rfl (any_of HT_.out (by kernel_rfl)) (fun _ _ _ h => h) (Or.inl ⟨by rfl, ?_⟩) ?_ ?_
             rotate_left
             ·intro w'
              go_simp
              with_reducible rfl
             rotate_left
             ·simp only [Act.put, L1_, L2_, L3_, i64_w, i32_w]
              rfl
             refine pure_ (i := 8) (N := some 38) (v := ?_) (a' := ?_) #[tt,tt,tt,tt,tt,tt,tt,tt,tt,ff,ff,ff,ff,ff,ff,ff,ff,ff,ff,ff] rfl rfl (any_of HT_.out (by kernel_rfl)) (fun _ _ _ h => h) (Or.inl ⟨by rfl, ?_⟩) ?_ ?_
             rotate_left
             ·intro w'
              go_simp
              with_reducible rfl
             rotate_left
             ·simp only [Act.put, L1_, L2_, L3_, i64_w, i32_w]
              rfl
             refine pure_ (i := 10) (N := some 40) (v := ?_) (a' := ?_) #[tt,tt,tt,tt,tt,tt,tt,tt,tt,ff,tt,ff,ff,ff,ff,ff,ff,ff,ff,ff] rfl rfl (any_of HT_.out (by kernel_rfl)) (fun _ _ _ h => h) (Or.inl ⟨by rfl, ?_⟩) ?_ ?_
             rotate_left
             ·intro w'
              go_simp
              with_reducible rfl
             rotate_left
             ·simp only [Act.put, L1_, L2_, L3_, i64_w, i32_w]
              rfl
             refine pure_ (i := 11) (N := some 41) (v := ?_) (a' := ?_) #[tt,tt,tt,tt,tt,tt,tt,tt,tt,ff,tt,tt,ff,ff,ff,ff,ff,ff,ff,ff] rfl rfl (any_of HT_.out (by kernel_rfl)) (fun _ _ _ h => h) (Or.inl ⟨by rfl, ?_⟩) ?_ ?_
             rotate_left
             ·intro w'
              go_simp
              with_reducible rfl
             rotate_left
             ·simp only [Act.put, L1_, L2_, L3_, i64_w, i32_w]
              rfl
             refine pure_ (i := 12) (N := some 42) (v := ?_) (a' := ?_) #[tt,tt,tt,tt,tt,tt,tt,tt,tt,ff,tt,tt,tt,ff,ff,ff,ff,ff,ff,ff] rfl rfl (any_of HT_.out (by kernel_rfl)) (fun _ _ _ h => h) (Or.inl ⟨by rfl, ?_⟩) ?_ ?_
             rotate_left
             ·intro w'
              go_simp
              with_reducible rfl
             rotate_left
             ·(try go_ints); (try simp (disch := omega) only [n3_]); simp only [Act.put, L1_, L2_, L3_, i64_w, i32_w]
              rfl
             refine pure_ (i := 13) (N := some 43) (v := ?_) (a' := ?_) #[tt,tt,tt,tt,tt,tt,tt,tt,tt,ff,tt,tt,tt,tt,ff,ff,ff,ff,ff,ff] rfl rfl (any_of HT_.out (by kernel_rfl)) (fun _ _ _ h => h) (Or.inl ⟨by rfl, ?_⟩) ?_ ?_
             rotate_left
             ·intro w'
              go_simp
              with_reducible rfl
             rotate_left
             ·simp only [Act.put, L1_, L2_, L3_, i64_w, i32_w]
              rfl
             refine pure_ (i := 14) (N := some 44) (v := ?_) (a' := ?_) #[tt,tt,tt,tt,tt,tt,tt,tt,tt,ff,tt,tt,tt,tt,tt,ff,ff,ff,ff,ff] rfl rfl (any_of HT_.out (by kernel_rfl)) (fun _ _ _ h => h) (Or.inl ⟨by rfl, ?_⟩) ?_ ?_
             rotate_left
             ·intro w'
              go_simp
              with_reducible rfl
             rotate_left
             ·simp only [Act.put, L1_, L2_, L3_, i64_w, i32_w]
              rfl
             refine take_ (i := 9) (N := some 39) (v := ?_) (a' := ?_) #[tt,tt,tt,tt,tt,tt,tt,tt,tt,tt,tt,tt,tt,tt,tt,ff,ff,ff,ff,ff] rfl rfl (take_ofW HT_.out HW_.out (by kernel_rfl)) (fun _ _ _ h => h) (Or.inl ⟨by rfl, ?_⟩) hHeld ?_ ?_
             rotate_left
             ·rintro w' ⟨s0, s1, s2, s3⟩
              go_simp
              with_reducible rfl
             rotate_left
             ·simp only [Act.put, L1_, L2_, L3_, i64_w, i32_w]
              rfl
             refine take_ (i := 15) (N := some 45) (v := ?_) (a' := ?_) #[tt,tt,tt,tt,tt,tt,tt,tt,tt,tt,tt,tt,tt,tt,tt,tt,ff,ff,ff,ff] rfl rfl (take_ofW HT_.out HW_.out (by kernel_rfl)) (fun _ _ _ h => h) (Or.inl ⟨by rfl, ?_⟩) hHeld ?_ ?_
             rotate_left
             ·rintro w' ⟨s0, s1, s2, s3⟩
              go_simp
              with_reducible rfl
             rotate_left
             ·simp only [Act.put, L1_, L2_, L3_, i64_w, i32_w]
              rfl
             refine pure_ (i := 16) (N := some 46) (v := ?_) (a' := ?_) #[tt,tt,tt,tt,tt,tt,tt,tt,tt,tt,tt,tt,tt,tt,tt,tt,tt,ff,ff,ff] rfl rfl (any_of HT_.out (by kernel_rfl)) (fun _ _ _ h => h) (Or.inl ⟨by rfl, ?_⟩) ?_ ?_
             rotate_left
             ·intro w'
              go_simp
              with_reducible rfl
             rotate_left
             ·(try go_ints); (try simp (disch := omega) only [n3_]); simp only [Act.put, L1_, L2_, L3_, i64_w, i32_w]
              rfl
             refine pure_ (i := 17) (N := some 47) (v := ?_) (a' := ?_) #[tt,tt,tt,tt,tt,tt,tt,tt,tt,tt,tt,tt,tt,tt,tt,tt,tt,tt,ff,ff] rfl rfl (any_of HT_.out (by kernel_rfl)) (fun _ _ _ h => h) (Or.inl ⟨by rfl, ?_⟩) ?_ ?_
             rotate_left
             ·intro w'
              go_simp
              with_reducible rfl
             rotate_left
             ·simp only [Act.put, L1_, L2_, L3_, i64_w, i32_w]
              rfl
             refine pure_ (i := 18) (N := some 48) (v := ?_) (a' := ?_) #[tt,tt,tt,tt,tt,tt,tt,tt,tt,tt,tt,tt,tt,tt,tt,tt,tt,tt,tt,ff] rfl rfl (any_of HT_.out (by kernel_rfl)) (fun _ _ _ h => h) (Or.inl ⟨by rfl, ?_⟩) ?_ ?_
             rotate_left
             ·intro w'
              go_simp
              with_reducible rfl
             rotate_left
             ·simp only [Act.put, L1_, L2_, L3_, i64_w, i32_w]
              rfl
             refine one_ (i := 19) (N := some 49) #[tt,tt,tt,tt,tt,tt,tt,tt,tt,tt,tt,tt,tt,tt,tt,tt,tt,tt,tt,tt] rfl rfl (one_of HT_.out (by kernel_rfl)) (by decide) (fun K hK => ?_)
             refine goes_ Try.func52 (by kernel_rfl) rfl #[.pointer (some ⟨g, 0, none⟩), .bool (decide (((rd_T27 l2 x25_2).f0) > ((rd_T27 l2 (ji26)).f0)))] (by rfl) rfl rfl (by (try simp only [List.map_toArray, List.map_cons, List.map_nil]); first | done | (simp only [hji26]; rfl) | rfl | (simp only [List.length_drop, List.length_take]; rfl)) ?_
             with_reducible refine (impl_builder_must.calls g x1000_2 x1001_2 x1002_2 (decide (((rd_T27 l2 x25_2).f0) > ((rd_T27 l2 (ji26)).f0))) t165 t166 t167 w0 _ ?side1 ?side2 A29.out).mono ?_
             (case side1 => repeat (first | (with_reducible first | exact HI0.out | apply IsS73.alloc | apply IsS73.drewN | apply IsS73.drew | apply IsS73.set_0 | apply IsS73.set_1 | apply IsS73.set_2 | refine IsS73.far ?_ NB0_160.out _) | exact HI0.out))
             (case side2 => repeat (first | (with_reducible first | exact HB.out | apply below_alloc | apply pw_below_drewN | apply below_drew1 | refine below_set ?_ (IsS73.ge HI0.out) | refine below_set ?_ GE160.out) | exact HB.out))
             rintro e w32 ⟨rfl, hi, hb, hk⟩
             have HS2_ := keep_cell hk (hHeld.2.2.1) (by first | (rw [add_block]; exact hne164_0) | (show (Addr.add _ _).block ≠ _; rw [add_block]; exact hne164_0) | exact hne164_0)
             have HS3_ := keep_cell hk (hHeld.2.2.2) (by first | (rw [add_block]; exact hne164_1) | (show (Addr.add _ _).block ≠ _; rw [add_block]; exact hne164_1) | exact hne164_1)
             refine ⟨_, rfl, ?_⟩
             have n0_ := Aside0.mk (Kd.R_mono (Kd.R_keep (IsS73.apart (show IsS73 w0 _ g x1000_2 x1001_2 x1002_2 from by repeat (first | (with_reducible first | exact HI0.out | apply IsS73.alloc | apply IsS73.drewN | apply IsS73.drew | apply IsS73.set_0 | apply IsS73.set_1 | apply IsS73.set_2 | refine IsS73.far ?_ NB0_160.out _) | exact HI0.out)) (by (with_reducible repeat (first | apply Kd.R_alloc | apply Kd.R_drewN | apply Kd.R_drew)); exact HO_7.out) (by decide)) hk (fun _ h => h.2)) (fun _ h => h.1))
             have n1_ := Aside0.mk (Kd.R_mono (Kd.R_keep (IsS73.apart (show IsS73 w0 _ g x1000_2 x1001_2 x1002_2 from by repeat (first | (with_reducible first | exact HI0.out | apply IsS73.alloc | apply IsS73.drewN | apply IsS73.drew | apply IsS73.set_0 | apply IsS73.set_1 | apply IsS73.set_2 | refine IsS73.far ?_ NB0_160.out _) | exact HI0.out)) (by (with_reducible repeat (first | apply Kd.R_alloc | apply Kd.R_drewN | apply Kd.R_drew)); exact HO_8.out) (by decide)) hk (fun _ h => h.2)) (fun _ h => h.1))
             have n2_ := Aside0.mk (KeepBut.blk hk (g' := gb160) (o := .cells #[.int .i64 ((rd_T27 l2 x25_2).f0), .int .i64 ((rd_T27 l2 x25_2).f1)] 27 (0, 0)) (by (with_reducible repeat (first | refine b1_ ?_ _ | refine b2_ ?_ | refine b3_ ?_ _)); exact BK160.out) NB160_0.out (by simp))
             have n3_ := Aside0.mk (KeepBut.trans (by repeat (first | (with_reducible first | exact HK.out | apply KeepBut.set_ | apply keep_drewN | apply keep_drew | apply keep_alloc | refine keep_far ?_ GW160.out _) | exact HK.out)) hk (.inl rfl))
             have n4_ := Aside0.mk (hb)
             have n5_ := Aside0.mk (hi)
             clear HO_7
             clear HO_8
             clear BK160
             clear HK
             clear HB
             clear HI0
             have HO_7 := n0_
             have HO_8 := n1_
             have BK160 := n2_
             have HK := n3_
             have HB := n4_
             have HI0 := n5_
             clear n0_ n1_ n2_ n3_ n4_ n5_
             (try clear hb)
             (try clear hb2)
             (try clear hk)
             (try clear hi)
             refine hK.out _ _ ⟨(blk_cell BK160.out 0).trans rfl, (blk_cell BK160.out 1).trans rfl, HS2_, HS3_⟩ (fun hHeld => ?_)
             clear hK K
             refine norm_ (a' := ?_) ?_ ?_
             rotate_left
             ·show Act.put _ (some 49) _ = _
              simp only [Act.put, L1_, L2_, L3_, i64_w, i32_w]
              rfl
             refine done_ (done_of HT_.out (by kernel_rfl)) ?_
             try go_wp2
             (try rw [← hji26])
             go_meet
             case rel => exact ⟨_, (t165), (t166), (t167), (by first | (with_reducible exact H') | (rw [hji26]; with_reducible exact H')), ⟨by have := HJ3.out; have := HK2.out; first | omega | exact Nat.le_refl _⟩, ⟨by (try rw [hji26]); (with_reducible repeat (first | apply Kd.R_alloc | apply Kd.R_drewN | apply Kd.R_drew)); exact HO_7.out⟩, ⟨by (try rw [hji26]); (with_reducible repeat (first | apply Kd.R_alloc | apply Kd.R_drewN | apply Kd.R_drew)); exact HO_8.out⟩, ⟨by (try rw [hji26]); (with_reducible repeat (first | refine b1_ ?_ _ | refine b2_ ?_ | refine b3_ ?_ _)); exact BK160.out⟩, ⟨by repeat (first | (with_reducible first | exact HI0.out | apply IsS73.alloc | apply IsS73.drewN | apply IsS73.drew | apply IsS73.set_0 | apply IsS73.set_1 | apply IsS73.set_2 | refine IsS73.far ?_ NB0_160.out _) | exact HI0.out)⟩, ⟨by repeat (first | (with_reducible first | exact HK.out | apply KeepBut.set_ | apply keep_drewN | apply keep_drew | apply keep_alloc | refine keep_far ?_ GW160.out _) | exact HK.out)⟩, ⟨by repeat (first | (with_reducible first | exact HB.out | apply below_alloc | apply pw_below_drewN | apply below_drew1 | refine below_set ?_ (IsS73.ge HI0.out) | refine below_set ?_ GE160.out) | exact HB.out)⟩⟩
            ·rw [if_neg c28] at H
             exact absurd H (by simp)
           ·rw [if_neg c27] at H
            exact absurd H (by simp)
         ·rw [if_neg c20] at H
          have c20b0 : decide (((rd_T27 l2 x25_2).f0) < 65535) = false := decide_eq_false c20
          clear c20
          (first | rw [c20b0] | (simp only [i64_w, i32_w]; rw [c20b0]) | skip)
          replace H := Option.bind_eq_some_iff.mp H
          obtain ⟨⟨t168, t169, t170⟩, A330, H⟩ := H
          replace H : (impl_builder_lookup.j2 k2 a1 l2 x7_2 x8_2 l2 (l2.length : Int) x25_2 t168 t169 t170 ((rd_T27 l2 x25_2).f0) ((rd_T27 l2 x25_2).f1)) = some (r1, r2, r3, r4, r5, r6, r7, r8, r9, r10) := H
          have A33 := Aside0.mk A330
          clear A330
          have H' := Aside0.mk H
          clear H
          try go_wp2
          have n0_ : Aside0 (Kd.R (Kd.int .u16) 35 ((w17.setCell ⟨gb160, 0, none⟩ (.int .i64 ((rd_T27 l2 x25_2).f0))).setCell ⟨gb160, 1, none⟩ (.int .i64 ((rd_T27 l2 x25_2).f1))) w.heap.size (fun k_ => some k_ ≠ (u8 : Value).ownBlock) u7 x7_2) := ⟨by (with_reducible repeat (first | apply Kd.R_alloc | apply Kd.R_drewN | apply Kd.R_drew)); exact Kd.R_mono (Kd.R_far (p := ⟨gb160, 1, none⟩) (Kd.R_far (p := ⟨gb160, 0, none⟩) (Kd.R_types HO_7.out BK160.out (by decide)) (fun _ hk => hk.2) (.int .i64 ((rd_T27 l2 x25_2).f0))) (fun _ hk => hk.2) (.int .i64 ((rd_T27 l2 x25_2).f1))) (fun _ hk => hk.1)⟩
          have n1_ : Aside0 (Kd.R (Kd.int .u16) 35 ((w17.setCell ⟨gb160, 0, none⟩ (.int .i64 ((rd_T27 l2 x25_2).f0))).setCell ⟨gb160, 1, none⟩ (.int .i64 ((rd_T27 l2 x25_2).f1))) w.heap.size (fun k_ => some k_ ≠ (u7 : Value).ownBlock) u8 x8_2) := ⟨by (with_reducible repeat (first | apply Kd.R_alloc | apply Kd.R_drewN | apply Kd.R_drew)); exact Kd.R_mono (Kd.R_far (p := ⟨gb160, 1, none⟩) (Kd.R_far (p := ⟨gb160, 0, none⟩) (Kd.R_types HO_8.out BK160.out (by decide)) (fun _ hk => hk.2) (.int .i64 ((rd_T27 l2 x25_2).f0))) (fun _ hk => hk.2) (.int .i64 ((rd_T27 l2 x25_2).f1))) (fun _ hk => hk.1)⟩
          have n2_ : Aside0 (((w17.setCell ⟨gb160, 0, none⟩ (.int .i64 ((rd_T27 l2 x25_2).f0))).setCell ⟨gb160, 1, none⟩ (.int .i64 ((rd_T27 l2 x25_2).f1))).heap[gb160]? = some (.cells #[.int .i64 ((rd_T27 l2 x25_2).f0), .int .i64 ((rd_T27 l2 x25_2).f1)] 27 (0, 0))) := ⟨by (with_reducible repeat (first | refine b1_ ?_ _ | refine b2_ ?_ | refine b3_ ?_ _)); refine blk_put (cs := #[.int .i64 ((rd_T27 l2 x25_2).f0), .int .i64 0]) ?_ 1 _ rfl; (with_reducible repeat (first | refine b1_ ?_ _ | refine b2_ ?_ | refine b3_ ?_ _)); refine blk_put (cs := #[.int .i64 0, .int .i64 0]) ?_ 0 _ rfl; (with_reducible repeat (first | refine b1_ ?_ _ | refine b2_ ?_ | refine b3_ ?_ _)); exact BK160.out⟩
          have n3_ : Aside0 (IsS73 w0 ((w17.setCell ⟨gb160, 0, none⟩ (.int .i64 ((rd_T27 l2 x25_2).f0))).setCell ⟨gb160, 1, none⟩ (.int .i64 ((rd_T27 l2 x25_2).f1))) g x1000_2 x1001_2 x1002_2) := ⟨by repeat (first | (with_reducible first | exact HI0.out | apply IsS73.alloc | apply IsS73.drewN | apply IsS73.drew | apply IsS73.set_0 | apply IsS73.set_1 | apply IsS73.set_2 | refine IsS73.far ?_ NB0_160.out _) | exact HI0.out)⟩
          have n4_ : Aside0 (KeepBut w ((w17.setCell ⟨gb160, 0, none⟩ (.int .i64 ((rd_T27 l2 x25_2).f0))).setCell ⟨gb160, 1, none⟩ (.int .i64 ((rd_T27 l2 x25_2).f1))) g none) := ⟨by repeat (first | (with_reducible first | exact HK.out | apply KeepBut.set_ | apply keep_drewN | apply keep_drew | apply keep_alloc | refine keep_far ?_ GW160.out _) | exact HK.out)⟩
          have n5_ : Aside0 (Below w0.heap.size w0 ((w17.setCell ⟨gb160, 0, none⟩ (.int .i64 ((rd_T27 l2 x25_2).f0))).setCell ⟨gb160, 1, none⟩ (.int .i64 ((rd_T27 l2 x25_2).f1)))) := ⟨by repeat (first | (with_reducible first | exact HB.out | apply below_alloc | apply pw_below_drewN | apply below_drew1 | refine below_set ?_ (IsS73.ge HI0.out) | refine below_set ?_ GE160.out) | exact HB.out)⟩
          (try clear HO_7)
          (try clear HO_8)
          (try clear BK160)
          (try clear HI0)
          (try clear HK)
          (try clear HB)
          generalize ((w17.setCell ⟨gb160, 0, none⟩ (.int .i64 ((rd_T27 l2 x25_2).f0))).setCell ⟨gb160, 1, none⟩ (.int .i64 ((rd_T27 l2 x25_2).f1))) = w34 at n0_ n1_ n2_ n3_ n4_ n5_ ⊢
          have HO_7 := n0_
          have HO_8 := n1_
          have BK160 := n2_
          have HI0 := n3_
          have HK := n4_
          have HB := n5_
          clear n0_ n1_ n2_ n3_ n4_ n5_
          have n0_ := Aside0.mk (Kd.R_drew HO_7.out)
          have n1_ := Aside0.mk (Kd.R_drew HO_8.out)
          have n2_ := Aside0.mk (blk_drew BK160.out)
          have n3_ := Aside0.mk (IsS73.drew HI0.out)
          have n4_ := Aside0.mk (keep_drew HK.out)
          have n5_ := Aside0.mk (below_drew1 HB.out)
          clear HO_7
          clear HO_8
          clear BK160
          clear HI0
          clear HK
          clear HB
          have HO_7 := n0_
          have HO_8 := n1_
          have BK160 := n2_
          have HI0 := n3_
          have HK := n4_
          have HB := n5_
          clear n0_ n1_ n2_ n3_ n4_ n5_
          refine start_ (n := 20) (S := fun w' => w'.cell? ⟨gb160, 0, none⟩ = some (.int .i64 ((rd_T27 l2 x25_2).f0)) ∧ w'.cell? ⟨gb160, 1, none⟩ = some (.int .i64 ((rd_T27 l2 x25_2).f1))) (ds := []) #[ff,ff,ff,ff,ff,ff,ff,ff,ff,ff,ff,ff,ff,ff,ff,ff,ff,ff,ff,ff] (by kernel_rfl) rfl rfl ⟨(blk_cell BK160.out 0).trans rfl, (blk_cell BK160.out 1).trans rfl⟩ (fun hHeld => ?_); refine with_tabW impl_builder_lookup.tab7 impl_builder_lookup.bits7 (fun HT_ HW_ => ?_)
          generalize w34.drew = w35 at HO_7 HO_8 BK160 HI0 HK HB hHeld ⊢
          refine pure_ (i := 0) (N := some 30) (v := ?_) (a' := ?_) #[tt,ff,ff,ff,ff,ff,ff,ff,ff,ff,ff,ff,ff,ff,ff,ff,ff,ff,ff,ff] rfl rfl (any_of HT_.out (by kernel_rfl)) (fun _ _ _ h => h) (Or.inl ⟨by rfl, ?_⟩) ?_ ?_
          rotate_left
          ·intro w'
           go_simp
           with_reducible rfl
          rotate_left
          ·simp only [Act.put, L1_, L2_, L3_, i64_w, i32_w]
           rfl
          refine pure_ (i := 1) (N := some 31) (v := ?_) (a' := ?_) #[tt,tt,ff,ff,ff,ff,ff,ff,ff,ff,ff,ff,ff,ff,ff,ff,ff,ff,ff,ff] rfl rfl (any_of HT_.out (by kernel_rfl)) (fun _ _ _ h => h) (Or.inl ⟨by rfl, ?_⟩) ?_ ?_
          rotate_left
          ·intro w'
           go_simp
           with_reducible rfl
          rotate_left
          ·simp only [Act.put, L1_, L2_, L3_, i64_w, i32_w]
           rfl
          refine take_ (i := 2) (N := some 32) (v := ?_) (a' := ?_) #[tt,tt,tt,ff,ff,ff,ff,ff,ff,ff,ff,ff,ff,ff,ff,ff,ff,ff,ff,ff] rfl rfl (take_ofW HT_.out HW_.out (by kernel_rfl)) (fun _ _ _ h => h) (Or.inl ⟨by rfl, ?_⟩) hHeld ?_ ?_
          rotate_left
          ·rintro w' ⟨s0, s1⟩
           go_simp
           with_reducible rfl
          rotate_left
          ·simp only [Act.put, L1_, L2_, L3_, i64_w, i32_w]
           rfl
          refine pure_ (i := 3) (N := some 33) (v := ?_) (a' := ?_) #[tt,tt,tt,tt,ff,ff,ff,ff,ff,ff,ff,ff,ff,ff,ff,ff,ff,ff,ff,ff] rfl rfl (any_of HT_.out (by kernel_rfl)) (fun _ _ _ h => h) (Or.inl ⟨by rfl, ?_⟩) ?_ ?_
          rotate_left
          ·intro w'
           go_simp
           with_reducible rfl
          rotate_left
          ·(try go_ints); (try simp (disch := omega) only [n3_]); simp only [Act.put, L1_, L2_, L3_, i64_w, i32_w]
           rfl
          refine pure_ (i := 4) (N := some 34) (v := ?_) (a' := ?_) #[tt,tt,tt,tt,tt,ff,ff,ff,ff,ff,ff,ff,ff,ff,ff,ff,ff,ff,ff,ff] rfl rfl (any_of HT_.out (by kernel_rfl)) (fun _ _ _ h => h) (Or.inl ⟨by rfl, ?_⟩) ?_ ?_
          rotate_left
          ·intro w'
           go_simp
           with_reducible rfl
          rotate_left
          ·simp only [Act.put, L1_, L2_, L3_, i64_w, i32_w]
           rfl
          refine pure_ (i := 5) (N := some 35) (v := undef) (a' := ?_) #[tt,tt,tt,tt,tt,tt,ff,ff,ff,ff,ff,ff,ff,ff,ff,ff,ff,ff,ff,ff] rfl rfl (any_of HT_.out (by kernel_rfl)) (fun _ _ _ h => h) (Or.inr ⟨by rfl, rfl⟩) ?_ ?_
          rotate_left
          ·simp only [Act.put, L1_, L2_, L3_, i64_w, i32_w]
           rfl
          refine pure_ (i := 6) (N := some 36) (v := undef) (a' := ?_) #[tt,tt,tt,tt,tt,tt,tt,ff,ff,ff,ff,ff,ff,ff,ff,ff,ff,ff,ff,ff] rfl rfl (any_of HT_.out (by kernel_rfl)) (fun _ _ _ h => h) (Or.inr ⟨by rfl, rfl⟩) ?_ ?_
          rotate_left
          ·(try go_ints); (try simp (disch := omega) only [n3_]); simp only [Act.put, L1_, L2_, L3_, i64_w, i32_w]
           rfl
          refine pure_ (i := 7) (N := some 37) (v := undef) (a' := ?_) #[tt,tt,tt,tt,tt,tt,tt,tt,ff,ff,ff,ff,ff,ff,ff,ff,ff,ff,ff,ff] rfl rfl (any_of HT_.out (by kernel_rfl)) (fun _ _ _ h => h) (Or.inr ⟨by rfl, rfl⟩) ?_ ?_
          rotate_left
          ·simp only [Act.put, L1_, L2_, L3_, i64_w, i32_w]
           rfl
          refine pure_ (i := 8) (N := some 38) (v := undef) (a' := ?_) #[tt,tt,tt,tt,tt,tt,tt,tt,tt,ff,ff,ff,ff,ff,ff,ff,ff,ff,ff,ff] rfl rfl (any_of HT_.out (by kernel_rfl)) (fun _ _ _ h => h) (Or.inr ⟨by rfl, rfl⟩) ?_ ?_
          rotate_left
          ·simp only [Act.put, L1_, L2_, L3_, i64_w, i32_w]
           rfl
          refine pure_ (i := 9) (N := some 39) (v := undef) (a' := ?_) #[tt,tt,tt,tt,tt,tt,tt,tt,tt,tt,ff,ff,ff,ff,ff,ff,ff,ff,ff,ff] rfl rfl (any_of HT_.out (by kernel_rfl)) (fun _ _ _ h => h) (Or.inr ⟨by rfl, rfl⟩) ?_ ?_
          rotate_left
          ·simp only [Act.put, L1_, L2_, L3_, i64_w, i32_w]
           rfl
          refine pure_ (i := 10) (N := some 40) (v := undef) (a' := ?_) #[tt,tt,tt,tt,tt,tt,tt,tt,tt,tt,tt,ff,ff,ff,ff,ff,ff,ff,ff,ff] rfl rfl (any_of HT_.out (by kernel_rfl)) (fun _ _ _ h => h) (Or.inr ⟨by rfl, rfl⟩) ?_ ?_
          rotate_left
          ·simp only [Act.put, L1_, L2_, L3_, i64_w, i32_w]
           rfl
          refine pure_ (i := 11) (N := some 41) (v := undef) (a' := ?_) #[tt,tt,tt,tt,tt,tt,tt,tt,tt,tt,tt,tt,ff,ff,ff,ff,ff,ff,ff,ff] rfl rfl (any_of HT_.out (by kernel_rfl)) (fun _ _ _ h => h) (Or.inr ⟨by rfl, rfl⟩) ?_ ?_
          rotate_left
          ·simp only [Act.put, L1_, L2_, L3_, i64_w, i32_w]
           rfl
          refine pure_ (i := 12) (N := some 42) (v := undef) (a' := ?_) #[tt,tt,tt,tt,tt,tt,tt,tt,tt,tt,tt,tt,tt,ff,ff,ff,ff,ff,ff,ff] rfl rfl (any_of HT_.out (by kernel_rfl)) (fun _ _ _ h => h) (Or.inr ⟨by rfl, rfl⟩) ?_ ?_
          rotate_left
          ·(try go_ints); (try simp (disch := omega) only [n3_]); simp only [Act.put, L1_, L2_, L3_, i64_w, i32_w]
           rfl
          refine pure_ (i := 13) (N := some 43) (v := undef) (a' := ?_) #[tt,tt,tt,tt,tt,tt,tt,tt,tt,tt,tt,tt,tt,tt,ff,ff,ff,ff,ff,ff] rfl rfl (any_of HT_.out (by kernel_rfl)) (fun _ _ _ h => h) (Or.inr ⟨by rfl, rfl⟩) ?_ ?_
          rotate_left
          ·simp only [Act.put, L1_, L2_, L3_, i64_w, i32_w]
           rfl
          refine pure_ (i := 14) (N := some 44) (v := undef) (a' := ?_) #[tt,tt,tt,tt,tt,tt,tt,tt,tt,tt,tt,tt,tt,tt,tt,ff,ff,ff,ff,ff] rfl rfl (any_of HT_.out (by kernel_rfl)) (fun _ _ _ h => h) (Or.inr ⟨by rfl, rfl⟩) ?_ ?_
          rotate_left
          ·simp only [Act.put, L1_, L2_, L3_, i64_w, i32_w]
           rfl
          refine pure_ (i := 15) (N := some 45) (v := undef) (a' := ?_) #[tt,tt,tt,tt,tt,tt,tt,tt,tt,tt,tt,tt,tt,tt,tt,tt,ff,ff,ff,ff] rfl rfl (any_of HT_.out (by kernel_rfl)) (fun _ _ _ h => h) (Or.inr ⟨by rfl, rfl⟩) ?_ ?_
          rotate_left
          ·simp only [Act.put, L1_, L2_, L3_, i64_w, i32_w]
           rfl
          refine pure_ (i := 16) (N := some 46) (v := undef) (a' := ?_) #[tt,tt,tt,tt,tt,tt,tt,tt,tt,tt,tt,tt,tt,tt,tt,tt,tt,ff,ff,ff] rfl rfl (any_of HT_.out (by kernel_rfl)) (fun _ _ _ h => h) (Or.inr ⟨by rfl, rfl⟩) ?_ ?_
          rotate_left
          ·(try go_ints); (try simp (disch := omega) only [n3_]); simp only [Act.put, L1_, L2_, L3_, i64_w, i32_w]
           rfl
          refine pure_ (i := 17) (N := some 47) (v := undef) (a' := ?_) #[tt,tt,tt,tt,tt,tt,tt,tt,tt,tt,tt,tt,tt,tt,tt,tt,tt,tt,ff,ff] rfl rfl (any_of HT_.out (by kernel_rfl)) (fun _ _ _ h => h) (Or.inr ⟨by rfl, rfl⟩) ?_ ?_
          rotate_left
          ·simp only [Act.put, L1_, L2_, L3_, i64_w, i32_w]
           rfl
          refine pure_ (i := 18) (N := some 48) (v := ?_) (a' := ?_) #[tt,tt,tt,tt,tt,tt,tt,tt,tt,tt,tt,tt,tt,tt,tt,tt,tt,tt,tt,ff] rfl rfl (any_of HT_.out (by kernel_rfl)) (fun _ _ _ h => h) (Or.inl ⟨by rfl, ?_⟩) ?_ ?_
          rotate_left
          ·intro w'
           go_simp
           with_reducible rfl
          rotate_left
          ·simp only [Act.put, L1_, L2_, L3_, i64_w, i32_w]
           rfl
          refine one_ (i := 19) (N := some 49) #[tt,tt,tt,tt,tt,tt,tt,tt,tt,tt,tt,tt,tt,tt,tt,tt,tt,tt,tt,tt] rfl rfl (one_of HT_.out (by kernel_rfl)) (by decide) (fun K hK => ?_)
          refine goes_ Try.func52 (by kernel_rfl) rfl #[.pointer (some ⟨g, 0, none⟩), .bool false] (by rfl) rfl rfl (by (try simp only [List.map_toArray, List.map_cons, List.map_nil]); first | done | rfl | (simp only [List.length_drop, List.length_take]; rfl)) ?_
          with_reducible refine (impl_builder_must.calls g x1000_2 x1001_2 x1002_2 false t168 t169 t170 w0 _ ?side1 ?side2 A33.out).mono ?_
          (case side1 => repeat (first | (with_reducible first | exact HI0.out | apply IsS73.alloc | apply IsS73.drewN | apply IsS73.drew | apply IsS73.set_0 | apply IsS73.set_1 | apply IsS73.set_2 | refine IsS73.far ?_ NB0_160.out _) | exact HI0.out))
          (case side2 => repeat (first | (with_reducible first | exact HB.out | apply below_alloc | apply pw_below_drewN | apply below_drew1 | refine below_set ?_ (IsS73.ge HI0.out) | refine below_set ?_ GE160.out) | exact HB.out))
          rintro e w36 ⟨rfl, hi, hb, hk⟩
          refine ⟨_, rfl, ?_⟩
          have n0_ := Aside0.mk (Kd.R_mono (Kd.R_keep (IsS73.apart (show IsS73 w0 _ g x1000_2 x1001_2 x1002_2 from by repeat (first | (with_reducible first | exact HI0.out | apply IsS73.alloc | apply IsS73.drewN | apply IsS73.drew | apply IsS73.set_0 | apply IsS73.set_1 | apply IsS73.set_2 | refine IsS73.far ?_ NB0_160.out _) | exact HI0.out)) (by (with_reducible repeat (first | apply Kd.R_alloc | apply Kd.R_drewN | apply Kd.R_drew)); exact HO_7.out) (by decide)) hk (fun _ h => h.2)) (fun _ h => h.1))
          have n1_ := Aside0.mk (Kd.R_mono (Kd.R_keep (IsS73.apart (show IsS73 w0 _ g x1000_2 x1001_2 x1002_2 from by repeat (first | (with_reducible first | exact HI0.out | apply IsS73.alloc | apply IsS73.drewN | apply IsS73.drew | apply IsS73.set_0 | apply IsS73.set_1 | apply IsS73.set_2 | refine IsS73.far ?_ NB0_160.out _) | exact HI0.out)) (by (with_reducible repeat (first | apply Kd.R_alloc | apply Kd.R_drewN | apply Kd.R_drew)); exact HO_8.out) (by decide)) hk (fun _ h => h.2)) (fun _ h => h.1))
          have n2_ := Aside0.mk (KeepBut.blk hk (g' := gb160) (o := .cells #[.int .i64 ((rd_T27 l2 x25_2).f0), .int .i64 ((rd_T27 l2 x25_2).f1)] 27 (0, 0)) (by (with_reducible repeat (first | refine b1_ ?_ _ | refine b2_ ?_ | refine b3_ ?_ _)); exact BK160.out) NB160_0.out (by simp))
          have n3_ := Aside0.mk (KeepBut.trans (by repeat (first | (with_reducible first | exact HK.out | apply KeepBut.set_ | apply keep_drewN | apply keep_drew | apply keep_alloc | refine keep_far ?_ GW160.out _) | exact HK.out)) hk (.inl rfl))
          have n4_ := Aside0.mk (hb)
          have n5_ := Aside0.mk (hi)
          clear HO_7
          clear HO_8
          clear BK160
          clear HK
          clear HB
          clear HI0
          have HO_7 := n0_
          have HO_8 := n1_
          have BK160 := n2_
          have HK := n3_
          have HB := n4_
          have HI0 := n5_
          clear n0_ n1_ n2_ n3_ n4_ n5_
          (try clear hb)
          (try clear hb2)
          (try clear hk)
          (try clear hi)
          refine hK.out _ _ ⟨(blk_cell BK160.out 0).trans rfl, (blk_cell BK160.out 1).trans rfl⟩ (fun hHeld => ?_)
          clear hK K
          refine norm_ (a' := ?_) ?_ ?_
          rotate_left
          ·show Act.put _ (some 49) _ = _
           simp only [Act.put, L1_, L2_, L3_, i64_w, i32_w]
           rfl
          refine done_ (done_of HT_.out (by kernel_rfl)) ?_
          try go_wp2
          go_meet
          case rel => exact ⟨_, (t168), (t169), (t170), H', ⟨by have := HJ3.out; have := HK2.out; first | omega | exact Nat.le_refl _⟩, ⟨by (with_reducible repeat (first | apply Kd.R_alloc | apply Kd.R_drewN | apply Kd.R_drew)); exact HO_7.out⟩, ⟨by (with_reducible repeat (first | apply Kd.R_alloc | apply Kd.R_drewN | apply Kd.R_drew)); exact HO_8.out⟩, ⟨by (with_reducible repeat (first | refine b1_ ?_ _ | refine b2_ ?_ | refine b3_ ?_ _)); exact BK160.out⟩, ⟨by repeat (first | (with_reducible first | exact HI0.out | apply IsS73.alloc | apply IsS73.drewN | apply IsS73.drew | apply IsS73.set_0 | apply IsS73.set_1 | apply IsS73.set_2 | refine IsS73.far ?_ NB0_160.out _) | exact HI0.out)⟩, ⟨by repeat (first | (with_reducible first | exact HK.out | apply KeepBut.set_ | apply keep_drewN | apply keep_drew | apply keep_alloc | refine keep_far ?_ GW160.out _) | exact HK.out)⟩, ⟨by repeat (first | (with_reducible first | exact HB.out | apply below_alloc | apply pw_below_drewN | apply below_drew1 | refine below_set ?_ (IsS73.ge HI0.out) | refine below_set ?_ GE160.out) | exact HB.out)⟩⟩
        case rest =>
         clear HC16
         try clear p1
         try clear q1
         try clear hx1
         try clear c2
         try clear p2
         try clear c5
         try clear p6
         try clear p16
         try clear q16
         try clear hx16
         try clear c20
         try clear c20b0
         try clear c21
         try clear c21b0
         try clear c21b1
         try clear c27
         try clear c27b0
         try clear c28
         try clear c28b0
         try clear hx164_0
         try clear hx164_1
         try clear p164
         try clear q164
         obtain ⟨kq, x1000_15, x1001_15, x1002_15, HA, HJ15, HO_7, HO_8, BK160, HI0, HK, HB⟩ := hcut
         cases kq with
         | zero => exact absurd HA.out (by simp [impl_builder_lookup.j2])
         | succ kj15 =>
          have H := HA.out
          clear HA
          simp only [impl_builder_lookup.j2] at H
          replace H := Option.bind_eq_some_iff.mp H
          obtain ⟨⟨t171, t172, t173, t174⟩, A370, H⟩ := H
          replace H : (if x7_2.length < 70368744177664 then ((impl_builder_small.f t172 t173 t174 ((rd_T27 l2 x25_2).f1)).bind fun bt178 => (if x8_2.length < 70368744177664 then (impl_builder_lookup.l0 kj15 a1 l2 (x7_2 ++ [t171]) (x8_2 ++ [bt178.1]) l2 (l2.length : Int) (wrap64 (x25_2 + 1)) bt178.2.1 bt178.2.2.1 bt178.2.2.2) else (none))) else (none)) = some (r1, r2, r3, r4, r5, r6, r7, r8, r9, r10) := H
          have A37 := Aside0.mk A370
          clear A370
          by_cases c38 : x7_2.length < 70368744177664
          ·rw [if_pos c38] at H
           have LMc38 := Aside0.mk c38
           clear c38
           obtain ⟨y175, hy175⟩ : ∃ y_ : List Int, y_ = (x7_2 ++ [t171]) := ⟨_, rfl⟩
           replace H : ((impl_builder_small.f t172 t173 t174 ((rd_T27 l2 x25_2).f1)).bind fun bt178 => (if x8_2.length < 70368744177664 then (impl_builder_lookup.l0 kj15 a1 l2 y175 (x8_2 ++ [bt178.1]) l2 (l2.length : Int) (wrap64 (x25_2 + 1)) bt178.2.1 bt178.2.2.1 bt178.2.2.2) else (none))) = some (r1, r2, r3, r4, r5, r6, r7, r8, r9, r10) := by first | (rw [hy175]; with_reducible exact H) | (have H2_ := (Option.bind_some _ _).symm.trans H; rw [hy175]; with_reducible exact H2_) | (have H2_ := (Option.bind_some _ _).symm.trans H; with_reducible exact H2_) | with_reducible exact H | (rw [hy175]; exact H) | exact H
           have Ny175 := Aside0.mk hy175
           clear hy175
           replace H := Option.bind_eq_some_iff.mp H
           obtain ⟨⟨t178, t179, t180, t181⟩, A390, H⟩ := H
           replace H : (if x8_2.length < 70368744177664 then (impl_builder_lookup.l0 kj15 a1 l2 y175 (x8_2 ++ [t178]) l2 (l2.length : Int) (wrap64 (x25_2 + 1)) t179 t180 t181) else (none)) = some (r1, r2, r3, r4, r5, r6, r7, r8, r9, r10) := H
           have A39 := Aside0.mk A390
           clear A390
           by_cases c40 : x8_2.length < 70368744177664
           ·rw [if_pos c40] at H
            have LMc40 := Aside0.mk c40
            clear c40
            obtain ⟨y182, hy182⟩ : ∃ y_ : List Int, y_ = (x8_2 ++ [t178]) := ⟨_, rfl⟩
            replace H : (impl_builder_lookup.l0 kj15 a1 l2 y175 y182 l2 (l2.length : Int) (wrap64 (x25_2 + 1)) t179 t180 t181) = some (r1, r2, r3, r4, r5, r6, r7, r8, r9, r10) := by first | (rw [hy182]; with_reducible exact H) | (have H2_ := (Option.bind_some _ _).symm.trans H; rw [hy182]; with_reducible exact H2_) | (have H2_ := (Option.bind_some _ _).symm.trans H; with_reducible exact H2_) | with_reducible exact H | (rw [hy182]; exact H) | exact H
            have Ny182 := Aside0.mk hy182
            clear hy182
            have H' := Aside0.mk H
            clear H
            try go_wp2
            have n0_ := Aside0.mk (Kd.R_drew HO_7.out)
            have n1_ := Aside0.mk (Kd.R_drew HO_8.out)
            have n2_ := Aside0.mk (blk_drew BK160.out)
            have n3_ := Aside0.mk (IsS73.drew HI0.out)
            have n4_ := Aside0.mk (keep_drew HK.out)
            have n5_ := Aside0.mk (below_drew1 HB.out)
            clear HO_7
            clear HO_8
            clear BK160
            clear HI0
            clear HK
            clear HB
            have HO_7 := n0_
            have HO_8 := n1_
            have BK160 := n2_
            have HI0 := n3_
            have HK := n4_
            have HB := n5_
            clear n0_ n1_ n2_ n3_ n4_ n5_
            refine start_ (n := 16) (S := fun w' => w'.cell? ⟨gb160, 0, none⟩ = some (.int .i64 ((rd_T27 l2 x25_2).f0)) ∧ w'.cell? ⟨gb160, 1, none⟩ = some (.int .i64 ((rd_T27 l2 x25_2).f1))) (ds := []) #[ff,ff,ff,ff,ff,ff,ff,ff,ff,ff,ff,ff,ff,ff,ff,ff] (by kernel_rfl) rfl rfl ⟨(blk_cell BK160.out 0).trans rfl, (blk_cell BK160.out 1).trans rfl⟩ (fun hHeld => ?_); refine with_tabW impl_builder_lookup.tab8 impl_builder_lookup.bits8 (fun HT_ HW_ => ?_)
            generalize wc.drew = w41 at HO_7 HO_8 BK160 HI0 HK HB hHeld ⊢
            refine pure_ (i := 0) (N := some 50) (v := ?_) (a' := ?_) #[tt,ff,ff,ff,ff,ff,ff,ff,ff,ff,ff,ff,ff,ff,ff,ff] rfl rfl (any_of HT_.out (by kernel_rfl)) (fun _ _ _ h => h) (Or.inl ⟨by rfl, ?_⟩) ?_ ?_
            rotate_left
            ·intro w'
             go_simp
             with_reducible rfl
            rotate_left
            ·simp only [Act.put, L1_, L2_, L3_, i64_w, i32_w]
             rfl
            refine pure_ (i := 1) (N := some 51) (v := ?_) (a' := ?_) #[tt,tt,ff,ff,ff,ff,ff,ff,ff,ff,ff,ff,ff,ff,ff,ff] rfl rfl (any_of HT_.out (by kernel_rfl)) (fun _ _ _ h => h) (Or.inl ⟨by rfl, ?_⟩) ?_ ?_
            rotate_left
            ·intro w'
             go_simp
             with_reducible rfl
            rotate_left
            ·simp only [Act.put, L1_, L2_, L3_, i64_w, i32_w]
             rfl
            refine pure_ (i := 2) (N := some 52) (v := ?_) (a' := ?_) #[tt,tt,tt,ff,ff,ff,ff,ff,ff,ff,ff,ff,ff,ff,ff,ff] rfl rfl (any_of HT_.out (by kernel_rfl)) (fun _ _ _ h => h) (Or.inl ⟨by rfl, ?_⟩) ?_ ?_
            rotate_left
            ·intro w'
             go_simp
             with_reducible rfl
            rotate_left
            ·simp only [Act.put, L1_, L2_, L3_, i64_w, i32_w]
             rfl
            refine pure_ (i := 7) (N := some 57) (v := ?_) (a' := ?_) #[tt,tt,tt,ff,ff,ff,ff,tt,ff,ff,ff,ff,ff,ff,ff,ff] rfl rfl (any_of HT_.out (by kernel_rfl)) (fun _ _ _ h => h) (Or.inl ⟨by rfl, ?_⟩) ?_ ?_
            rotate_left
            ·intro w'
             go_simp
             with_reducible rfl
            rotate_left
            ·simp only [Act.put, L1_, L2_, L3_, i64_w, i32_w]
             rfl
            refine pure_ (i := 8) (N := some 58) (v := ?_) (a' := ?_) #[tt,tt,tt,ff,ff,ff,ff,tt,tt,ff,ff,ff,ff,ff,ff,ff] rfl rfl (any_of HT_.out (by kernel_rfl)) (fun _ _ _ h => h) (Or.inl ⟨by rfl, ?_⟩) ?_ ?_
            rotate_left
            ·intro w'
             go_simp
             with_reducible rfl
            rotate_left
            ·simp only [Act.put, L1_, L2_, L3_, i64_w, i32_w]
             rfl
            refine pure_ (i := 9) (N := some 59) (v := ?_) (a' := ?_) #[tt,tt,tt,ff,ff,ff,ff,tt,tt,tt,ff,ff,ff,ff,ff,ff] rfl rfl (any_of HT_.out (by kernel_rfl)) (fun _ _ _ h => h) (Or.inl ⟨by rfl, ?_⟩) ?_ ?_
            rotate_left
            ·intro w'
             go_simp
             with_reducible rfl
            rotate_left
            ·simp only [Act.put, L1_, L2_, L3_, i64_w, i32_w]
             rfl
            refine take_ (i := 3) (N := some 53) (v := ?_) (a' := ?_) #[tt,tt,tt,tt,ff,ff,ff,tt,tt,tt,ff,ff,ff,ff,ff,ff] rfl rfl (take_ofW HT_.out HW_.out (by kernel_rfl)) (fun _ _ _ h => h) (Or.inl ⟨by rfl, ?_⟩) hHeld ?_ ?_
            rotate_left
            ·rintro w' ⟨s0, s1⟩
             go_simp
             with_reducible rfl
            rotate_left
            ·simp only [Act.put, L1_, L2_, L3_, i64_w, i32_w]
             rfl
            refine take_ (i := 10) (N := some 60) (v := ?_) (a' := ?_) #[tt,tt,tt,tt,ff,ff,ff,tt,tt,tt,tt,ff,ff,ff,ff,ff] rfl rfl (take_ofW HT_.out HW_.out (by kernel_rfl)) (fun _ _ _ h => h) (Or.inl ⟨by rfl, ?_⟩) hHeld ?_ ?_
            rotate_left
            ·rintro w' ⟨s0, s1⟩
             go_simp
             with_reducible rfl
            rotate_left
            ·simp only [Act.put, L1_, L2_, L3_, i64_w, i32_w]
             rfl
            refine one_ (i := 4) (N := some 54) #[tt,tt,tt,tt,tt,ff,ff,tt,tt,tt,tt,ff,ff,ff,ff,ff] rfl rfl (one_of HT_.out (by kernel_rfl)) (by decide) (fun K hK => ?_)
            refine goes_ Try.func32 (by kernel_rfl) rfl #[.pointer (some ⟨g, 0, none⟩), .int .i64 ((rd_T27 l2 x25_2).f0)] (by rfl) rfl rfl (by (try simp only [List.map_toArray, List.map_cons, List.map_nil]); first | done | rfl | (simp only [List.length_drop, List.length_take]; rfl)) ?_
            with_reducible refine (impl_builder_small.calls g x1000_15 x1001_15 x1002_15 ((rd_T27 l2 x25_2).f0) t171 t172 t173 t174 w0 _ ?side1 ?side2 A37.out).mono ?_
            (case side1 => repeat (first | (with_reducible first | exact HI0.out | apply IsS73.alloc | apply IsS73.drewN | apply IsS73.drew | apply IsS73.set_0 | apply IsS73.set_1 | apply IsS73.set_2 | refine IsS73.far ?_ NB0_160.out _) | exact HI0.out))
            (case side2 => repeat (first | (with_reducible first | exact HB.out | apply below_alloc | apply pw_below_drewN | apply below_drew1 | refine below_set ?_ (IsS73.ge HI0.out) | refine below_set ?_ GE160.out) | exact HB.out))
            rintro e w42 ⟨rfl, hi, hb, hk⟩
            refine ⟨_, rfl, ?_⟩
            have n0_ := Aside0.mk (Kd.R_mono (Kd.R_keep (IsS73.apart (show IsS73 w0 _ g x1000_15 x1001_15 x1002_15 from by repeat (first | (with_reducible first | exact HI0.out | apply IsS73.alloc | apply IsS73.drewN | apply IsS73.drew | apply IsS73.set_0 | apply IsS73.set_1 | apply IsS73.set_2 | refine IsS73.far ?_ NB0_160.out _) | exact HI0.out)) (by (with_reducible repeat (first | apply Kd.R_alloc | apply Kd.R_drewN | apply Kd.R_drew)); exact HO_7.out) (by decide)) hk (fun _ h => h.2)) (fun _ h => h.1))
            have n1_ := Aside0.mk (Kd.R_mono (Kd.R_keep (IsS73.apart (show IsS73 w0 _ g x1000_15 x1001_15 x1002_15 from by repeat (first | (with_reducible first | exact HI0.out | apply IsS73.alloc | apply IsS73.drewN | apply IsS73.drew | apply IsS73.set_0 | apply IsS73.set_1 | apply IsS73.set_2 | refine IsS73.far ?_ NB0_160.out _) | exact HI0.out)) (by (with_reducible repeat (first | apply Kd.R_alloc | apply Kd.R_drewN | apply Kd.R_drew)); exact HO_8.out) (by decide)) hk (fun _ h => h.2)) (fun _ h => h.1))
            have n2_ := Aside0.mk (KeepBut.blk hk (g' := gb160) (o := .cells #[.int .i64 ((rd_T27 l2 x25_2).f0), .int .i64 ((rd_T27 l2 x25_2).f1)] 27 (0, 0)) (by (with_reducible repeat (first | refine b1_ ?_ _ | refine b2_ ?_ | refine b3_ ?_ _)); exact BK160.out) NB160_0.out (by simp))
            have n3_ := Aside0.mk (KeepBut.trans (by repeat (first | (with_reducible first | exact HK.out | apply KeepBut.set_ | apply keep_drewN | apply keep_drew | apply keep_alloc | refine keep_far ?_ GW160.out _) | exact HK.out)) hk (.inl rfl))
            have n4_ := Aside0.mk (hb)
            have n5_ := Aside0.mk (hi)
            clear HO_7
            clear HO_8
            clear BK160
            clear HK
            clear HB
            clear HI0
            have HO_7 := n0_
            have HO_8 := n1_
            have BK160 := n2_
            have HK := n3_
            have HB := n4_
            have HI0 := n5_
            clear n0_ n1_ n2_ n3_ n4_ n5_
            (try clear hb)
            (try clear hb2)
            (try clear hk)
            (try clear hi)
            refine hK.out _ _ ⟨(blk_cell BK160.out 0).trans rfl, (blk_cell BK160.out 1).trans rfl⟩ (fun hHeld => ?_)
            clear hK K
            refine norm_ (a' := ?_) ?_ ?_
            rotate_left
            ·show Act.put _ (some 54) _ = _
             simp only [Act.put, L1_, L2_, L3_, i64_w, i32_w]
             rfl
            refine one_ (i := 5) (N := some 55) #[tt,tt,tt,tt,tt,tt,ff,tt,tt,tt,tt,ff,ff,ff,ff,ff] rfl rfl (one_of HT_.out (by kernel_rfl)) (by decide) (fun K hK => ?_)
            refine value_ (w1 := ?_) (v := ?_) (by rfl) rfl ?_ ?_
            rotate_left 2
            ·go_simp
             constructor
             ·rfl
             ·rfl
            refine hK.out _ _ ⟨(blk_cell (blk_alloc BK160.out _) 0).trans rfl, (blk_cell (blk_alloc BK160.out _) 1).trans rfl⟩ (fun hHeld => ?_)
            clear hK K
            refine norm_ (a' := ?_) ?_ ?_
            rotate_left
            ·show Act.put _ (some 55) _ = _
             simp only [Act.put, L1_, L2_, L3_, i64_w, i32_w]
             rfl
            refine one_ (i := 6) (N := some 56) #[tt,tt,tt,tt,tt,tt,tt,tt,tt,tt,tt,ff,ff,ff,ff,ff] rfl rfl (one_of HT_.out (by kernel_rfl)) (by decide) (fun K hK => ?_)
            refine Kd.R_append_step (Kd.int .u16) w.heap.size (by rfl) (.tmp 50) (.tmp 55) 34 35 (.int .u16 0) 2 rfl Try.underlying34 info35 rfl (by decide) (by omega) u7 x7_2 t171 [.int .u16 t171] (fun k_ => some k_ ≠ (u8 : Value).ownBlock) (fun _ => False) rfl rfl ?aP (fun _ hk => hk.elim) ?aF ?aO (Below.refl _ _) ?aS ?aL ?_
            (case aP => exact rfl)
            (case aF => exact (fun k_ hk => Kd.fresh' (Kd.R_lt (by (with_reducible repeat (first | apply Kd.R_alloc | apply Kd.R_drewN | apply Kd.R_drew)); exact HO_8.out)) k_ hk))
            (case aO => exact (by (with_reducible repeat (first | apply Kd.R_alloc | apply Kd.R_drewN | apply Kd.R_drew)); exact HO_7.out))
            (case aS => exact (keep_size (w := w) (g := g) (row := none) (by repeat (first | (with_reducible first | exact HK.out | apply KeepBut.set_ | apply keep_drewN | apply keep_drew | apply keep_alloc | refine keep_far ?_ GW160.out _) | exact HK.out))))
            (case aL => have := LMc38.out; omega)
            intro v176 w43 ho hb hg hat
            rw [← Ny175.out] at ho
            have n0_ := Aside0.mk (Kd.R_after (ok := (fun _ => True)) (by (with_reducible repeat (first | apply Kd.R_alloc | apply Kd.R_drewN | apply Kd.R_drew)); exact Kd.R_mono HO_8.out (fun _ hk => ⟨trivial, hk⟩)) hg hat)
            have n1_ := Aside0.mk (blk_grown (g := gb160) (o := .cells #[.int .i64 ((rd_T27 l2 x25_2).f0), .int .i64 ((rd_T27 l2 x25_2).f1)] 27 (0, 0)) (by (with_reducible repeat (first | refine b1_ ?_ _ | refine b2_ ?_ | refine b3_ ?_ _)); exact BK160.out) hg (Kd.R_ne HO_7.out BK160.out (by decide)))
            have n2_ := Aside0.mk (IsS73.grown (by repeat (first | (with_reducible first | exact HI0.out | apply IsS73.alloc | apply IsS73.drewN | apply IsS73.drew | apply IsS73.set_0 | apply IsS73.set_1 | apply IsS73.set_2 | refine IsS73.far ?_ NB0_160.out _) | exact HI0.out)) hg (IsS73.own_ne HI0.out HO_7.out (by decide)))
            have n3_ := Aside0.mk (below_weaken (by repeat (first | (with_reducible first | exact HB.out | apply below_alloc | apply pw_below_drewN | apply below_drew1 | refine below_set ?_ (IsS73.ge HI0.out) | refine below_set ?_ GE160.out) | exact HB.out)) HL.out hb)
            have n4_ := Aside0.mk (KeepBut.trans (by repeat (first | (with_reducible first | exact HK.out | apply KeepBut.set_ | apply keep_drewN | apply keep_drew | apply keep_alloc | refine keep_far ?_ GW160.out _) | exact HK.out)) (KeepBut.of_grown hg g) (Kd.R_base2 HO_7.out))
            have n5_ := Aside0.mk (ho)
            clear HO_8
            clear BK160
            clear HI0
            clear HB
            clear HK
            clear HO_7
            have HO_8 := n0_
            have BK160 := n1_
            have HI0 := n2_
            have HB := n3_
            have HK := n4_
            have HO177 := n5_
            clear n0_ n1_ n2_ n3_ n4_ n5_
            clear ho hb hg hat
            refine hK.out _ _ ⟨(blk_cell BK160.out 0).trans rfl, (blk_cell BK160.out 1).trans rfl⟩ (fun hHeld => ?_)
            clear hK K
            refine norm_ (a' := ?_) ?_ ?_
            rotate_left
            ·show Act.put _ (some 56) _ = _
             simp only [Act.put, L1_, L2_, L3_, i64_w, i32_w]
             rfl
            refine one_ (i := 11) (N := some 61) #[tt,tt,tt,tt,tt,tt,tt,tt,tt,tt,tt,tt,ff,ff,ff,ff] rfl rfl (one_of HT_.out (by kernel_rfl)) (by decide) (fun K hK => ?_)
            refine goes_ Try.func32 (by kernel_rfl) rfl #[.pointer (some ⟨g, 0, none⟩), .int .i64 ((rd_T27 l2 x25_2).f1)] (by rfl) rfl rfl (by (try simp only [List.map_toArray, List.map_cons, List.map_nil]); first | done | rfl | (simp only [List.length_drop, List.length_take]; rfl)) ?_
            with_reducible refine (impl_builder_small.calls g t172 t173 t174 ((rd_T27 l2 x25_2).f1) t178 t179 t180 t181 w0 _ ?side1 ?side2 A39.out).mono ?_
            (case side1 => repeat (first | (with_reducible first | exact HI0.out | apply IsS73.alloc | apply IsS73.drewN | apply IsS73.drew | apply IsS73.set_0 | apply IsS73.set_1 | apply IsS73.set_2 | refine IsS73.far ?_ NB0_160.out _) | exact HI0.out))
            (case side2 => repeat (first | (with_reducible first | exact HB.out | apply below_alloc | apply pw_below_drewN | apply below_drew1 | refine below_set ?_ (IsS73.ge HI0.out) | refine below_set ?_ GE160.out) | exact HB.out))
            rintro e w44 ⟨rfl, hi, hb, hk⟩
            refine ⟨_, rfl, ?_⟩
            have n0_ := Aside0.mk (Kd.R_mono (Kd.R_keep (IsS73.apart (show IsS73 w0 _ g t172 t173 t174 from by repeat (first | (with_reducible first | exact HI0.out | apply IsS73.alloc | apply IsS73.drewN | apply IsS73.drew | apply IsS73.set_0 | apply IsS73.set_1 | apply IsS73.set_2 | refine IsS73.far ?_ NB0_160.out _) | exact HI0.out)) (by (with_reducible repeat (first | apply Kd.R_alloc | apply Kd.R_drewN | apply Kd.R_drew)); exact HO_8.out) (by decide)) hk (fun _ h => h.2)) (fun _ h => h.1))
            have n1_ := Aside0.mk (KeepBut.blk hk (g' := gb160) (o := .cells #[.int .i64 ((rd_T27 l2 x25_2).f0), .int .i64 ((rd_T27 l2 x25_2).f1)] 27 (0, 0)) (by (with_reducible repeat (first | refine b1_ ?_ _ | refine b2_ ?_ | refine b3_ ?_ _)); exact BK160.out) NB160_0.out (by simp))
            have n2_ := Aside0.mk (Kd.R_mono (Kd.R_keep (IsS73.apart (show IsS73 w0 _ g t172 t173 t174 from by repeat (first | (with_reducible first | exact HI0.out | apply IsS73.alloc | apply IsS73.drewN | apply IsS73.drew | apply IsS73.set_0 | apply IsS73.set_1 | apply IsS73.set_2 | refine IsS73.far ?_ NB0_160.out _) | exact HI0.out)) (by (with_reducible repeat (first | apply Kd.R_alloc | apply Kd.R_drewN | apply Kd.R_drew)); exact HO177.out) (by decide)) hk (fun _ h => h.2)) (fun _ h => h.1))
            have n3_ := Aside0.mk (KeepBut.trans (by repeat (first | (with_reducible first | exact HK.out | apply KeepBut.set_ | apply keep_drewN | apply keep_drew | apply keep_alloc | refine keep_far ?_ GW160.out _) | exact HK.out)) hk (.inl rfl))
            have n4_ := Aside0.mk (hb)
            have n5_ := Aside0.mk (hi)
            clear HO_8
            clear BK160
            clear HO177
            clear HK
            clear HB
            clear HI0
            have HO_8 := n0_
            have BK160 := n1_
            have HO177 := n2_
            have HK := n3_
            have HB := n4_
            have HI0 := n5_
            clear n0_ n1_ n2_ n3_ n4_ n5_
            (try clear hb)
            (try clear hb2)
            (try clear hk)
            (try clear hi)
            refine hK.out _ _ ⟨(blk_cell BK160.out 0).trans rfl, (blk_cell BK160.out 1).trans rfl⟩ (fun hHeld => ?_)
            clear hK K
            refine norm_ (a' := ?_) ?_ ?_
            rotate_left
            ·show Act.put _ (some 61) _ = _
             simp only [Act.put, L1_, L2_, L3_, i64_w, i32_w]
             rfl
            refine one_ (i := 12) (N := some 62) #[tt,tt,tt,tt,tt,tt,tt,tt,tt,tt,tt,tt,tt,ff,ff,ff] rfl rfl (one_of HT_.out (by kernel_rfl)) (by decide) (fun K hK => ?_)
            refine value_ (w1 := ?_) (v := ?_) (by rfl) rfl ?_ ?_
            rotate_left 2
            ·go_simp
             constructor
             ·rfl
             ·rfl
            refine hK.out _ _ ⟨(blk_cell (blk_alloc BK160.out _) 0).trans rfl, (blk_cell (blk_alloc BK160.out _) 1).trans rfl⟩ (fun hHeld => ?_)
            clear hK K
            refine norm_ (a' := ?_) ?_ ?_
            rotate_left
            ·show Act.put _ (some 62) _ = _
             simp only [Act.put, L1_, L2_, L3_, i64_w, i32_w]
             rfl
            refine one_ (i := 13) (N := some 63) #[tt,tt,tt,tt,tt,tt,tt,tt,tt,tt,tt,tt,tt,tt,ff,ff] rfl rfl (one_of HT_.out (by kernel_rfl)) (by decide) (fun K hK => ?_)
            refine Kd.R_append_step (Kd.int .u16) w.heap.size (by rfl) (.tmp 57) (.tmp 62) 34 35 (.int .u16 0) 2 rfl Try.underlying34 info35 rfl (by decide) (by omega) u8 x8_2 t178 [.int .u16 t178] (fun k_ => some k_ ≠ (v176 : Value).ownBlock) (fun _ => False) rfl rfl ?aP (fun _ hk => hk.elim) ?aF ?aO (Below.refl _ _) ?aS ?aL ?_
            (case aP => exact rfl)
            (case aF => exact (fun k_ hk => Kd.fresh' (Kd.R_lt (by (with_reducible repeat (first | apply Kd.R_alloc | apply Kd.R_drewN | apply Kd.R_drew)); exact HO177.out)) k_ hk))
            (case aO => exact (by (with_reducible repeat (first | apply Kd.R_alloc | apply Kd.R_drewN | apply Kd.R_drew)); exact Kd.R_mono HO_8.out (fun _ hk => hk.2)))
            (case aS => exact (keep_size (w := w) (g := g) (row := none) (by repeat (first | (with_reducible first | exact HK.out | apply KeepBut.set_ | apply keep_drewN | apply keep_drew | apply keep_alloc | refine keep_far ?_ GW160.out _) | exact HK.out))))
            (case aL => have := LMc40.out; omega)
            intro v183 w45 ho hb hg hat
            rw [← Ny182.out] at ho
            have n0_ := Aside0.mk (blk_grown (g := gb160) (o := .cells #[.int .i64 ((rd_T27 l2 x25_2).f0), .int .i64 ((rd_T27 l2 x25_2).f1)] 27 (0, 0)) (by (with_reducible repeat (first | refine b1_ ?_ _ | refine b2_ ?_ | refine b3_ ?_ _)); exact BK160.out) hg (Kd.R_ne HO_8.out BK160.out (by decide)))
            have n1_ := Aside0.mk (IsS73.grown (by repeat (first | (with_reducible first | exact HI0.out | apply IsS73.alloc | apply IsS73.drewN | apply IsS73.drew | apply IsS73.set_0 | apply IsS73.set_1 | apply IsS73.set_2 | refine IsS73.far ?_ NB0_160.out _) | exact HI0.out)) hg (IsS73.own_ne HI0.out HO_8.out (by decide)))
            have n2_ := Aside0.mk (Kd.R_after (ok := (fun _ => True)) (by (with_reducible repeat (first | apply Kd.R_alloc | apply Kd.R_drewN | apply Kd.R_drew)); exact Kd.R_mono HO177.out (fun _ hk => ⟨trivial, hk⟩)) hg hat)
            have n3_ := Aside0.mk (below_weaken (by repeat (first | (with_reducible first | exact HB.out | apply below_alloc | apply pw_below_drewN | apply below_drew1 | refine below_set ?_ (IsS73.ge HI0.out) | refine below_set ?_ GE160.out) | exact HB.out)) HL.out hb)
            have n4_ := Aside0.mk (KeepBut.trans (by repeat (first | (with_reducible first | exact HK.out | apply KeepBut.set_ | apply keep_drewN | apply keep_drew | apply keep_alloc | refine keep_far ?_ GW160.out _) | exact HK.out)) (KeepBut.of_grown hg g) (Kd.R_base2 HO_8.out))
            have n5_ := Aside0.mk (ho)
            clear BK160
            clear HI0
            clear HO177
            clear HB
            clear HK
            clear HO_8
            have BK160 := n0_
            have HI0 := n1_
            have HO177 := n2_
            have HB := n3_
            have HK := n4_
            have HO184 := n5_
            clear n0_ n1_ n2_ n3_ n4_ n5_
            clear ho hb hg hat
            refine hK.out _ _ ⟨(blk_cell BK160.out 0).trans rfl, (blk_cell BK160.out 1).trans rfl⟩ (fun hHeld => ?_)
            clear hK K
            refine norm_ (a' := ?_) ?_ ?_
            rotate_left
            ·show Act.put _ (some 63) _ = _
             simp only [Act.put, L1_, L2_, L3_, i64_w, i32_w]
             rfl
            refine pure_ (i := 14) (N := some 7) (v := ?_) (a' := ?_) #[tt,tt,tt,tt,tt,tt,tt,tt,tt,tt,tt,tt,tt,tt,tt,ff] rfl rfl (any_of HT_.out (by kernel_rfl)) (fun _ _ _ h => h) (Or.inl ⟨by rfl, ?_⟩) ?_ ?_
            rotate_left
            ·intro w'
             go_simp
             with_reducible rfl
            rotate_left
            ·simp only [Act.put, L1_, L2_, L3_, i64_w, i32_w]
             rfl
            refine pure_ (i := 15) (N := some 8) (v := ?_) (a' := ?_) #[tt,tt,tt,tt,tt,tt,tt,tt,tt,tt,tt,tt,tt,tt,tt,tt] rfl rfl (any_of HT_.out (by kernel_rfl)) (fun _ _ _ h => h) (Or.inl ⟨by rfl, ?_⟩) ?_ ?_
            rotate_left
            ·intro w'
             go_simp
             with_reducible rfl
            rotate_left
            ·simp only [Act.put, L1_, L2_, L3_, i64_w, i32_w]
             rfl
            refine done_ (done_of HT_.out (by kernel_rfl)) ?_
            try go_wp2
            go_roundg kj15
            case measure => have := HJ3.out; have := HK2.out; have := HJ15.out; omega
            case rel => exact ⟨(y175), (y182), (wrap64 (x25_2 + 1)), (t179), (t180), (t181), (by first | rfl | (simp; done) | (simp [*]; done)), H', ⟨by have := HJ3.out; have := HK2.out; have := HJ15.out; omega⟩, ⟨by (with_reducible repeat (first | apply Kd.R_alloc | apply Kd.R_drewN | apply Kd.R_drew)); exact Kd.R_mono HO177.out (fun _ hk => hk.2)⟩, ⟨by (with_reducible repeat (first | apply Kd.R_alloc | apply Kd.R_drewN | apply Kd.R_drew)); exact HO184.out⟩, ⟨by repeat (first | (with_reducible first | exact HI0.out | apply IsS73.alloc | apply IsS73.drewN | apply IsS73.drew | apply IsS73.set_0 | apply IsS73.set_1 | apply IsS73.set_2 | refine IsS73.far ?_ NB0_160.out _) | exact HI0.out)⟩, ⟨by repeat (first | (with_reducible first | exact HK.out | apply KeepBut.set_ | apply keep_drewN | apply keep_drew | apply keep_alloc | refine keep_far ?_ GW160.out _) | exact HK.out)⟩, ⟨by repeat (first | (with_reducible first | exact HB.out | apply below_alloc | apply pw_below_drewN | apply below_drew1 | refine below_set ?_ (IsS73.ge HI0.out) | refine below_set ?_ GE160.out) | exact HB.out)⟩⟩
           ·rw [if_neg c40] at H
            exact absurd H (by simp)
          ·rw [if_neg c38] at H
           exact absurd H (by simp)
       ·rw [if_neg c15] at H
        exact absurd H (by simp)
      ·rw [if_neg c14] at H
       exact absurd H (by simp)
     ·rw [if_neg c13] at H
      have c13b0 : decide (x25_2 < (l2.length : Int)) = false := decide_eq_false c13
      clear c13
      replace H := Option.bind_eq_some_iff.mp H
      obtain ⟨⟨t150, t151, t152, t153, t154, t155, t156⟩, A460, H⟩ := H
      replace H : (some (t150, t151, t152, t153, t154, t155, t156, x1000_2, x1001_2, x1002_2)) = some (r1, r2, r3, r4, r5, r6, r7, r8, r9, r10) := H
      have A46 := Aside0.mk A460
      clear A460
      simp only [Option.some.injEq, Prod.mk.injEq] at H
      obtain ⟨rfl, rfl, rfl, rfl, rfl, rfl, rfl, rfl, rfl, rfl⟩ := H
      obtain ⟨Ao47, co47, eo47⟩ := Kd.R_slice HO_7.out
      subst eo47
      obtain ⟨Ao48, co48, eo48⟩ := Kd.R_slice HO_8.out
      subst eo48
      go_wp2_with (first | ((with_reducible refine gate_callee (f := 53) rfl ?_); refine goesL_ (some 68) rfl rfl Try.func53 (by kernel_rfl) rfl #[.int .i64 a1, .slice Ao47 x7_2.length co47, .slice Ao48 x8_2.length co48] rfl (by (try simp only [List.map_toArray, List.map_cons, List.map_nil]); first | done | rfl | (simp only [List.length_drop, List.length_take]; rfl)) ?_; (with_reducible refine (tables_ZzLookup.calls k2 a1 _ _ x7_2 _ _ x8_2 t150 t151 t152 t153 t154 t155 t156 _ ?side1 ?side2 ?side3 ?side4 A46.out).mono ?_); (case side1 => repeat (first | exact (Kd.R_reads' HO_7.out).2.2 | (with_reducible refine Kd.C_alloc ?_ _) | (with_reducible refine Kd.C_drewN ?_ _) | (with_reducible refine Kd.C_drew ?_))); (case side2 => exact (Kd.R_reads' HO_7.out).2.1); (case side3 => repeat (first | exact (Kd.R_reads' HO_8.out).2.2 | (with_reducible refine Kd.C_alloc ?_ _) | (with_reducible refine Kd.C_drewN ?_ _) | (with_reducible refine Kd.C_drew ?_))); (case side4 => exact (Kd.R_reads' HO_8.out).2.1); rintro e w49 ⟨v157, rfl, ho0, hb⟩; refine ⟨_, rfl, ?_⟩; have n0_ := Aside0.mk (Kd.R_below (by (with_reducible repeat (first | apply Kd.R_alloc | apply Kd.R_drewN | apply Kd.R_drew)); exact HO_7.out) hb); have n1_ := Aside0.mk (Kd.R_below (by (with_reducible repeat (first | apply Kd.R_alloc | apply Kd.R_drewN | apply Kd.R_drew)); exact HO_8.out) hb); have n2_ := Aside0.mk (Kd.R_lower ho0 (keep_size (w := w) (g := g) (row := none) (by repeat (first | (with_reducible first | exact HK.out | apply KeepBut.set_ | apply keep_drewN | apply keep_drew | apply keep_alloc) | exact HK.out)))); have n3_ := Aside0.mk (IsS73.below (by repeat (first | (with_reducible first | exact HI0.out | apply IsS73.alloc | apply IsS73.drewN | apply IsS73.drew | apply IsS73.set_0 | apply IsS73.set_1 | apply IsS73.set_2) | exact HI0.out)) hb); have n4_ := Aside0.mk (KeepBut.trans (by repeat (first | (with_reducible first | exact HK.out | apply KeepBut.set_ | apply keep_drewN | apply keep_drew | apply keep_alloc) | exact HK.out)) (KeepBut.of_below hb g none) (.inl rfl)); have n5_ := Aside0.mk (below_step (by repeat (first | (with_reducible first | exact HB.out | apply below_alloc | apply pw_below_drewN | apply below_drew1 | refine below_set ?_ (IsS73.ge HI0.out)) | exact HB.out)) hb); clear HO_7; clear HO_8; clear HI0; clear HK; clear HB; have HO_7 := n0_; have HO_8 := n1_; have HO158 := n2_; have HI0 := n3_; have HK := n4_; have HB := n5_; clear n0_ n1_ n2_ n3_ n4_ n5_; (try clear hb); (try clear hb2); (try clear hk); (try clear hi); (try clear ho0)))
      go_ret
      exact ⟨_, by first | rfl | (simp [errW_none, errW_some] <;> rfl) | (simp [*, errW_none, errW_some] <;> rfl), by (with_reducible repeat (first | apply Kd.R_alloc | apply Kd.R_drewN | apply Kd.R_drew)); exact HO158.out, by repeat (first | (with_reducible first | exact HI0.out | apply IsS73.alloc | apply IsS73.drewN | apply IsS73.drew | apply IsS73.set_0 | apply IsS73.set_1 | apply IsS73.set_2) | exact HI0.out), by repeat (first | (with_reducible first | exact HB.out | apply below_alloc | apply pw_below_drewN | apply below_drew1 | refine below_set ?_ (IsS73.ge HI0.out)) | exact HB.out), by repeat (first | (with_reducible first | exact HK.out | apply KeepBut.set_ | apply keep_drewN | apply keep_drew | apply keep_alloc) | exact HK.out)⟩

end Go.Proofs.Ytchkmmbedgolbaa.PFnKernClasses
