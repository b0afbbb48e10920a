-- Written by a program of this session (xprint) out of the translation; Lean checks it.
import Derived.Test.YtlbmfnjhpojghaaPFnAdvanceDeltax0
import Derived.Test.YtlbmfnjhpojghaaPFnAdvanceDeltax4
import Derived.Test.YtlbmfnjhpojghaaPFnAdvanceDeltax5
import Derived.Test.YtlbmfnjhpojghaaPFnAdvanceDeltax6
import Derived.Test.YtlbmfnjhpojghaaPFnAdvanceDeltax7
namespace Go.Proofs.Ytlbmfnjhpojghaa.PFnAdvanceDelta
open Go.RowKit Go.Proofs.YtlbmfnjhpojghaaW.PrintWords Go.Proofs.YtlbmfnjhpojghaaW.PrintLast Go.Proofs.YtlbmfnjhpojghaaW.PrintMore
attribute [local go_sem] max2_int min2_int max_two min_two max_three min_three max_four min_four   -- for this text's walks alone
set_option linter.unusedVariables false
set_option linter.unusedSimpArgs false

attribute [local go_sem] f_add f_sub f_mul f_quo f_conv f_same f_int f_max
/-! ### impl_AdvanceDelta: function 14 -/
def impl_AdvanceDelta.l0 : Nat → Int → List Int → List (S48) → Int → Int → Int → Int → Bool → Int → Int → Int → Int → List (S182) → List (S186) → Int → Int → List (S115) → Unit → Unit → Option (Nat × Bool)
 | 0, _, _, _, _, _, _, _, _, _, _, _, _, _, _, _, _, _, _, _ => none
 | k + 1, x3, x4, x27, x28, x29, x262000, x262001, x262002, x274000, x274001, x274002, x274003, x274004, x274005, x274006, x274007, x274008, x274009, x274010 => if x29 < x28 then (if 0 ≤ x29 then (if x29 < (x27.length : Int) then ((impl_builder_small.f x262000 x262001 x262002 ((rd_T48 x27 x29).f0)).bind fun bt276 => ((impl_builder_small.f bt276.2.1 bt276.2.2.1 bt276.2.2.2 ((rd_T48 x27 x29).f1)).bind fun bt280 => (if x274008.length < 35184372088832 then (impl_AdvanceDelta.l0 k x3 x4 x27 x28 (wrap64 (x29 + 1)) bt280.2.1 bt280.2.2.1 bt280.2.2.2 x274000 x274001 x274002 x274003 x274004 x274005 x274006 x274007 (x274008 ++ [(⟨bt276.1, bt280.1⟩ : S115)]) x274009 x274010) else (none)))) else (none)) else (none)) else ((impl_builder_small.f x262000 x262001 x262002 x3).bind fun bt287 => ((impl_builder_coords.f k bt287.2.1 bt287.2.2.1 bt287.2.2.2 x4).bind fun bt291 => (if bt291.2.2.2 = true then (some (0, false)) else ((tables_HVAR_AdvanceDelta.f k x274000 x274001 x274002 x274003 x274004 x274005 x274006 x274007 x274008 x274009 x274010 bt287.1 bt291.1).bind fun t297 => (some (t297, true))))))
def impl_AdvanceDelta.f (k : Nat) (l0 : List (List (S36))) (l1 : List (S41)) (l2 : List (S48)) (a3 : Int) (l4 : List Int) : Option (Nat × Bool) := (impl_builder_store.f k 0 0 false l0 l1 (l4.length : Int)).bind fun bt262 => (impl_AdvanceDelta.l0 k a3 l4 l2 (l2.length : Int) 0 bt262.2.2.2.2.1 bt262.2.2.2.2.2.1 bt262.2.2.2.2.2.2 0 0 bt262.1 bt262.2.1 bt262.2.2.1 bt262.2.2.2.1 0 0 ([] : List (S115)) () ())
theorem impl_AdvanceDelta.mono_l : ∀ k, (∀ y0 y1 y2 y3 y4 y5 y6 y7 y8 y9 y10 y11 y12 y13 y14 y15 y16 y17 y18, LeO (impl_AdvanceDelta.l0 k y0 y1 y2 y3 y4 y5 y6 y7 y8 y9 y10 y11 y12 y13 y14 y15 y16 y17 y18) (impl_AdvanceDelta.l0 (k + 1) y0 y1 y2 y3 y4 y5 y6 y7 y8 y9 y10 y11 y12 y13 y14 y15 y16 y17 y18))
 | 0 => fun _ _ _ _ _ _ _ _ _ _ _ _ _ _ _ _ _ _ _ r h => by simp [impl_AdvanceDelta.l0] at h
 | k + 1 => by
  have ih0 := impl_AdvanceDelta.mono_l k
  ·intro y0 y1 y2 y3 y4 y5 y6 y7 y8 y9 y10 y11 y12 y13 y14 y15 y16 y17 y18
   unfold impl_AdvanceDelta.l0
   repeat' first
   | (with_reducible exact ih0 _ _ _ _ _ _ _ _ _ _ _ _ _ _ _ _ _ _ _)
   | (with_reducible exact impl_builder_coords.mono _ _ _ _ _)
   | (with_reducible exact impl_builder_store.mono _ _ _ _ _ _ _)
   | (with_reducible exact tables_HVAR_AdvanceDelta.mono _ _ _ _ _ _ _ _ _ _ _ _ _ _)
   | (with_reducible exact LeO.refl _)
   | (with_reducible exact LeO.none _)
   | (with_reducible refine LeO.ite ?_ ?_)
   | (with_reducible refine LeO.bind ?_ (fun _ => ?_))
   | exact ih0 _ _ _ _ _ _ _ _ _ _ _ _ _ _ _ _ _ _ _
   | exact impl_builder_coords.mono _ _ _ _ _
   | exact impl_builder_store.mono _ _ _ _ _ _ _
   | exact tables_HVAR_AdvanceDelta.mono _ _ _ _ _ _ _ _ _ _ _ _ _ _
   | exact LeO.none _
   | refine LeO.ite ?_ ?_
   | refine LeO.bind ?_ (fun _ => ?_)
theorem impl_AdvanceDelta.mono : ∀ a0 a1 a2 a3 a4 k, LeO (impl_AdvanceDelta.f k a0 a1 a2 a3 a4) (impl_AdvanceDelta.f (k + 1) a0 a1 a2 a3 a4) := by
 intro a0 a1 a2 a3 a4 k
 have ih0 := impl_AdvanceDelta.mono_l k
 unfold impl_AdvanceDelta.f
 repeat' first
   | (with_reducible exact ih0 _ _ _ _ _ _ _ _ _ _ _ _ _ _ _ _ _ _ _)
   | (with_reducible exact impl_builder_coords.mono _ _ _ _ _)
   | (with_reducible exact impl_builder_store.mono _ _ _ _ _ _ _)
   | (with_reducible exact tables_HVAR_AdvanceDelta.mono _ _ _ _ _ _ _ _ _ _ _ _ _ _)
   | (with_reducible exact LeO.refl _)
   | (with_reducible exact LeO.none _)
   | (with_reducible refine LeO.ite ?_ ?_)
   | (with_reducible refine LeO.bind ?_ (fun _ => ?_))
   | exact ih0 _ _ _ _ _ _ _ _ _ _ _ _ _ _ _ _ _ _ _
   | exact impl_builder_coords.mono _ _ _ _ _
   | exact impl_builder_store.mono _ _ _ _ _ _ _
   | exact tables_HVAR_AdvanceDelta.mono _ _ _ _ _ _ _ _ _ _ _ _ _ _
   | exact LeO.none _
   | refine LeO.ite ?_ ?_
   | refine LeO.bind ?_ (fun _ => ?_)
def impl_AdvanceDelta.T6 : Bool × List (List Nat × List Nat) := (true, [([], []), ([0], [0]), ([1], [1]), ([], []), ([], []), ([4], [4]), ([3, 5], [3, 5]), ([], []), ([], []), ([8], [8]), ([7, 9, 6], [7, 9]), ([6, 10], [6, 10]), ([11], [11]), ([2, 12, 10], [2, 12]), ([0, 1, 2, 3, 4, 5, 6, 7, 8, 9, 10, 11, 12, 13], []), ([14, 0, 1, 2, 3, 4, 5, 6, 7, 8, 9, 10, 11, 12, 13], [14]), ([15, 13, 13, 0, 1, 2, 3, 4, 5, 6, 7, 8, 9, 10, 11, 12, 13], [13, 15])])
def impl_AdvanceDelta.B6 : List Nat := [0, 1, 3, 0, 0, 16, 56, 0, 0, 256, 1016, 2040, 4088, 8191, 16383, 32767, 65535]
theorem impl_AdvanceDelta.tab6 : rtab .any (opsOf Try.f14 6) = impl_AdvanceDelta.T6 := by kernel_rfl
theorem impl_AdvanceDelta.bits6 : waitsOk impl_AdvanceDelta.T6.2 impl_AdvanceDelta.B6 = true := by kernel_rfl
set_option maxHeartbeats 8000000 in
set_option maxRecDepth 100000 in
theorem impl_AdvanceDelta.calls (k : Nat) (A0 : Option Addr) (c0 : Nat) (l0 : List (List (S36))) (A1 : Option Addr) (c1 : Nat) (l1 : List (S41)) (A2 : Option Addr) (c2 : Nat) (l2 : List (S48)) (a3 : Int) (A4 : Option Addr) (c4 : Nat) (l4 : List Int) (r1 : Nat) (r2 : Bool) (w : World) (hr0 : Kd.C (Kd.slice 36 k36) w A0 l0.length l0) (hc0 : l0.length ≤ c0) (hr1 : Kd.C k41 w A1 l1.length l1) (hc1 : l1.length ≤ c1) (hr2 : Kd.C k48 w A2 l2.length l2) (hc2 : l2.length ≤ c2) (hr4 : Kd.C (Kd.int .i64) w A4 l4.length l4) (hc4 : l4.length ≤ c4) (h : impl_AdvanceDelta.f k l0 l1 l2 a3 l4 = some (r1, r2)) :
  Calls Try.prog 14 #[.slice A0 l0.length c0, .slice A1 l1.length c1, .slice A2 l2.length c2, .int .i64 a3, .slice A4 l4.length c4] w fun e w' => e = .returned (.tuple #[.float .f32 r1, .bool r2]) ∧ Below w.heap.size w w' := by
 have hu102 := Try.underlying102
 have hu122 := Try.underlying122
 have hu48 := Try.underlying48
 have hu115 := Try.underlying115
 have HR0 := Aside0.mk hr0
 have HC0 := Aside0.mk hc0
 clear hr0 hc0
 have HR1 := Aside0.mk hr1
 have HC1 := Aside0.mk hc1
 clear hr1 hc1
 have HR2 := Aside0.mk hr2
 have HC2 := Aside0.mk hc2
 clear hr2 hc2
 have HR4 := Aside0.mk hr4
 have HC4 := Aside0.mk hc4
 clear hr4 hc4
 have HB := Aside0.mk (Below.refl w.heap.size w)
 have H : ((impl_builder_store.f k 0 0 false l0 l1 (l4.length : Int)).bind fun bt262 => (impl_AdvanceDelta.l0 k a3 l4 l2 (l2.length : Int) 0 bt262.2.2.2.2.1 bt262.2.2.2.2.2.1 bt262.2.2.2.2.2.2 0 0 bt262.1 bt262.2.1 bt262.2.2.1 bt262.2.2.2.1 0 0 ([] : List (S115)) () ())) = some (r1, r2) := h
 clear h
 replace H := Option.bind_eq_some_iff.mp H
 obtain ⟨⟨t262, t263, t264, t267, t270, t271, t272⟩, A60, H⟩ := H
 replace H : (impl_AdvanceDelta.l0 k a3 l4 l2 (l2.length : Int) 0 t270 t271 t272 0 0 t262 t263 t264 t267 0 0 ([] : List (S115)) () ()) = some (r1, r2) := H
 have A6 := Aside0.mk A60
 clear A60
 have H' := Aside0.mk H
 clear H
 go_enter Try.func14, Try.ntmps14
 go_wp2_with (first | ((with_reducible refine gate_dst (N := 19) rfl ?_); refine box_event ?hg (N := 19) ?hd (cs := #[.int .i64 0, .int .i64 0, .bool false]) (t := 102) ?hr ?_; (case hd => rfl); (case hg => rfl); (case hr => first | (go_simp; done) | (go_simp; rfl)); intro gb261 hg w7 hbox hb; have n0_ := Aside0.mk (below_step (by repeat (first | (with_reducible first | exact HB.out | apply below_alloc | apply pw_below_drewN | apply below_drew1) | exact HB.out)) hb); have n1_ := Aside0.mk (hbox); have n2_ := Aside0.mk ((by rw [hg]; exact (below_size (by repeat (first | (with_reducible first | exact HB.out | apply below_alloc | apply pw_below_drewN | apply below_drew1) | exact HB.out))) : w.heap.size ≤ gb261)); have n3_ := Aside0.mk ((by rw [hg]; exact (below_size (by repeat (first | (with_reducible first | exact HB.out | apply below_alloc | apply pw_below_drewN | apply below_drew1) | exact HB.out))) : w.heap.size ≤ gb261)); clear HB; have HB := n0_; have BK261 := n1_; have GW261 := n2_; have GE261 := n3_; clear n0_ n1_ n2_ n3_; clear hb hbox hg) | ((with_reducible refine gate_callee (f := 33) rfl ?_); refine goesL_ (some 25) rfl rfl Try.func33 (by kernel_rfl) rfl #[.pointer (some ⟨gb261, 0, none⟩), .slice A0 l0.length c0, .slice A1 l1.length c1, .int .i64 (l4.length : Int)] rfl (by (try simp only [List.map_toArray, List.map_cons, List.map_nil]); first | done | rfl | (simp only [List.length_drop, List.length_take]; rfl)) ?_; (with_reducible refine (impl_builder_store.calls k gb261 0 0 false (fun k_ => k_ < w.heap.size) _ _ l0 (fun k_ => k_ < w.heap.size) _ _ l1 (l4.length : Int) t262 t263 t264 t267 t270 t271 t272 w _ ?side1 ?side2 ?side3 ?side4 A6.out).mono ?_); (case side1 => repeat (first | (with_reducible first | exact (Aside0.mk (IsS102.of BK261.out GE261.out)).out | apply IsS102.alloc | apply IsS102.drewN | apply IsS102.drew | apply IsS102.set_0 | apply IsS102.set_1 | apply IsS102.set_2) | exact (Aside0.mk (IsS102.of BK261.out GE261.out)).out)); (case side2 => repeat (first | (with_reducible first | exact HB.out | apply below_alloc | apply pw_below_drewN | apply below_drew1 | refine below_set ?_ (IsS102.ge (Aside0.mk (IsS102.of BK261.out GE261.out)).out)) | exact HB.out)); (case side3 => exact Kd.V_mono (Kd.V_mk HC0.out (Kd.F_below (Kd.C_F (Kd.heap_slice 36 k36_heap) HR0.out) (by repeat (first | (with_reducible first | exact HB.out | apply below_alloc | apply pw_below_drewN | apply below_drew1 | refine below_set ?_ (IsS102.ge (Aside0.mk (IsS102.of BK261.out GE261.out)).out)) | exact HB.out)))) (fun k_ hk_ => ⟨hk_, fun e_ => Nat.not_le.2 hk_ (by rw [e_]; exact GW261.out)⟩)); (case side4 => exact Kd.V_mono (Kd.V_mk HC1.out (Kd.F_below (Kd.C_F k41_heap HR1.out) (by repeat (first | (with_reducible first | exact HB.out | apply below_alloc | apply pw_below_drewN | apply below_drew1 | refine below_set ?_ (IsS102.ge (Aside0.mk (IsS102.of BK261.out GE261.out)).out)) | exact HB.out)))) (fun k_ hk_ => ⟨hk_, fun e_ => Nat.not_le.2 hk_ (by rw [e_]; exact GW261.out)⟩)); rintro e w8 ⟨v265, v268, rfl, ho0, ho1, hi, hb, hk⟩; refine ⟨_, rfl, ?_⟩; have n0_ := Aside0.mk (Kd.S_lower (Kd.S_mono (ok' := fun k_ => True) ho0 (fun _ hk_ => trivial)) (below_size (by repeat (first | (with_reducible first | exact HB.out | apply below_alloc | apply pw_below_drewN | apply below_drew1 | refine below_set ?_ (IsS102.ge (Aside0.mk (IsS102.of BK261.out GE261.out)).out)) | exact HB.out)))); have n1_ := Aside0.mk (Kd.R_lower (Kd.R_mono (ok' := fun k_ => True) ho1 (fun _ hk_ => trivial)) (below_size (by repeat (first | (with_reducible first | exact HB.out | apply below_alloc | apply pw_below_drewN | apply below_drew1 | refine below_set ?_ (IsS102.ge (Aside0.mk (IsS102.of BK261.out GE261.out)).out)) | exact HB.out)))); have n2_ := Aside0.mk (hb); have n3_ := Aside0.mk (IsS102.cells hi); clear HB; clear BK261; have HO266 := n0_; have HO269 := n1_; have HB := n2_; have BK261 := n3_; clear n0_ n1_ n2_ n3_; (try clear hb); (try clear hb2); (try clear hk); (try clear hi); (try clear ho0); (try clear ho1); obtain ⟨Ao9, co9, eo9⟩ := Kd.R_slice HO269.out; subst eo9; obtain ⟨Ao10, co10, eo10⟩ := Kd.S_slice HO266.out; subst eo10) | ((with_reducible refine gate_dst (N := 13) rfl ?_); refine box_event ?hg (N := 13) ?hd (cs := #[.int .u16 0, .int .u16 0, .int .u16 0, .int .u16 0, .slice none 0 0, .slice none 0 0, .int .u8 0, .int .u8 0, .slice none 0 0, .pointer none, .pointer none]) (t := 122) ?hr ?_; (case hd => rfl); (case hg => rfl); (case hr => first | (go_simp; done) | (go_simp; rfl)); intro gb273 hg w11 hbox hb; have n0_ := Aside0.mk (Kd.S_below (by (with_reducible repeat (first | apply Kd.S_alloc | apply Kd.S_drewN | apply Kd.S_drew)); exact HO266.out) hb); have n1_ := Aside0.mk (Kd.R_below (by (with_reducible repeat (first | apply Kd.R_alloc | apply Kd.R_drewN | apply Kd.R_drew)); exact HO269.out) hb); have n2_ := Aside0.mk (blk_below (g := gb261) (o := .cells #[.int .i64 t270, .int .i64 t271, .bool t272] 102 (0, 0)) (by (with_reducible repeat (first | refine b1_ ?_ _ | refine b2_ ?_ | refine b3_ ?_ _)); exact BK261.out) hb); have n3_ := Aside0.mk (below_step (by repeat (first | (with_reducible first | exact HB.out | apply below_alloc | apply pw_below_drewN | apply below_drew1 | refine below_set ?_ GE261.out) | exact HB.out)) hb); have n4_ := Aside0.mk (hbox); have n5_ := Aside0.mk ((by rw [hg]; exact (below_size (by repeat (first | (with_reducible first | exact HB.out | apply below_alloc | apply pw_below_drewN | apply below_drew1 | refine below_set ?_ GE261.out) | exact HB.out))) : w.heap.size ≤ gb273)); have n6_ := Aside0.mk ((by rw [hg]; exact (below_size (by repeat (first | (with_reducible first | exact HB.out | apply below_alloc | apply pw_below_drewN | apply below_drew1 | refine below_set ?_ GE261.out) | exact HB.out))) : w.heap.size ≤ gb273)); have n7_ := Aside0.mk ((by rw [hg]; exact Nat.ne_of_lt (blk_lt (g := gb261) (o := .cells #[.int .i64 t270, .int .i64 t271, .bool t272] 102 (0, 0)) (by (with_reducible repeat (first | refine b1_ ?_ _ | refine b2_ ?_ | refine b3_ ?_ _)); exact BK261.out)) : gb261 ≠ gb273)); have n8_ := Aside0.mk ((by rw [hg]; exact Nat.ne_of_gt (blk_lt (g := gb261) (o := .cells #[.int .i64 t270, .int .i64 t271, .bool t272] 102 (0, 0)) (by (with_reducible repeat (first | refine b1_ ?_ _ | refine b2_ ?_ | refine b3_ ?_ _)); exact BK261.out)) : gb273 ≠ gb261)); clear HO266; clear HO269; clear BK261; clear HB; have HO266 := n0_; have HO269 := n1_; have BK261 := n2_; have HB := n3_; have BK273 := n4_; have GW273 := n5_; have GE273 := n6_; have NB261_273 := n7_; have NB273_261 := n8_; clear n0_ n1_ n2_ n3_ n4_ n5_ n6_ n7_ n8_; clear hb hbox hg; have hnb12 := NB273_261.out; have hnc12 := NB261_273.out; have hcz13_0 : w11.cell? ⟨gb273, 0, none⟩ = some (.int .u16 0) := (blk_cell BK273.out 0).trans rfl; have hcz13_1 : w11.cell? ⟨gb273, 1, none⟩ = some (.int .u16 0) := (blk_cell BK273.out 1).trans rfl; have hcz13_2 : w11.cell? ⟨gb273, 2, none⟩ = some (.int .u16 0) := (blk_cell BK273.out 2).trans rfl; have hcz13_3 : w11.cell? ⟨gb273, 3, none⟩ = some (.int .u16 0) := (blk_cell BK273.out 3).trans rfl; have hcz13_4 : w11.cell? ⟨gb273, 4, none⟩ = some (.slice none 0 0) := (blk_cell BK273.out 4).trans rfl; have hcz13_5 : w11.cell? ⟨gb273, 5, none⟩ = some (.slice none 0 0) := (blk_cell BK273.out 5).trans rfl; have hcz13_6 : w11.cell? ⟨gb273, 6, none⟩ = some (.int .u8 0) := (blk_cell BK273.out 6).trans rfl; have hcz13_7 : w11.cell? ⟨gb273, 7, none⟩ = some (.int .u8 0) := (blk_cell BK273.out 7).trans rfl; have hcz13_8 : w11.cell? ⟨gb273, 8, none⟩ = some (.slice none 0 0) := (blk_cell BK273.out 8).trans rfl; have hcz13_9 : w11.cell? ⟨gb273, 9, none⟩ = some (.pointer none) := (blk_cell BK273.out 9).trans rfl; have hcz13_10 : w11.cell? ⟨gb273, 10, none⟩ = some (.pointer none) := (blk_cell BK273.out 10).trans rfl; have hfz13_0 := blk_frozen BK273.out 0; have hfz13_1 := blk_frozen BK273.out 1; have hfz13_2 := blk_frozen BK273.out 2; have hfz13_3 := blk_frozen BK273.out 3; have hfz13_4 := blk_frozen BK273.out 4; have hfz13_5 := blk_frozen BK273.out 5; have hfz13_6 := blk_frozen BK273.out 6; have hfz13_7 := blk_frozen BK273.out 7; have hfz13_8 := blk_frozen BK273.out 8; have hfz13_9 := blk_frozen BK273.out 9; have hfz13_10 := blk_frozen BK273.out 10))
 go_loopg [29] k (fun kq v29 w' => ∃ (x29_1 : Int) (x262000_1 : Int) (x262001_1 : Int) (x262002_1 : Bool) (x274008_1 : List (S115)) (u274008 : Value), v29 = .int .i64 x29_1 ∧ Aside0 (impl_AdvanceDelta.l0 kq a3 l4 l2 (l2.length : Int) x29_1 x262000_1 x262001_1 x262002_1 0 0 t262 t263 t264 t267 0 0 x274008_1 () () = some (r1, r2)) ∧ Aside0 (kq ≤ k) ∧ Aside0 (Kd.S k182 182 w' w.heap.size (fun _ => True) (.slice Ao10 t264.length co10) t264) ∧ Aside0 (Kd.R k186 186 w' w.heap.size (fun _ => True) (.slice Ao9 t267.length co9) t267) ∧ Aside0 (Kd.R k115 115 w' w.heap.size (fun _ => True) u274008 x274008_1) ∧ Aside0 (w'.heap[gb261]? = some (.cells #[.int .i64 x262000_1, .int .i64 x262001_1, .bool x262002_1] 102 (0, 0))) ∧ Aside0 (w'.heap[gb273]? = some (.cells #[.int .u16 0, .int .u16 0, .int .u16 t262, .int .u16 t263, (.slice Ao10 t264.length co10), (.slice Ao9 t267.length co9), .int .u8 0, .int .u8 0, u274008, .pointer none, .pointer none] 122 (0, 0))) ∧ Aside0 (Below w.heap.size w w'))
 case atStart => exact ⟨(0), (t270), (t271), (t272), (([] : List (S115))), (.slice none 0 0), (by first | rfl | (simp; done) | (simp [*]; done)), H', ⟨Nat.le_refl _⟩, ⟨by (with_reducible repeat (first | apply Kd.S_alloc | apply Kd.S_drewN | apply Kd.S_drew)); exact Kd.S_mono (Kd.S_far (p := ⟨gb273, 10, none⟩) (Kd.S_far (p := ⟨gb273, 9, none⟩) (Kd.S_far (p := ⟨gb273, 8, none⟩) (Kd.S_far (p := ⟨gb273, 7, none⟩) (Kd.S_far (p := ⟨gb273, 6, none⟩) (Kd.S_far (p := ⟨gb273, 5, none⟩) (Kd.S_far (p := ⟨gb273, 4, none⟩) (Kd.S_far (p := ⟨gb273, 3, none⟩) (Kd.S_far (p := ⟨gb273, 2, none⟩) (Kd.S_far (p := ⟨gb273, 1, none⟩) (Kd.S_far (p := ⟨gb273, 0, none⟩) (Kd.S_types HO266.out BK273.out (by decide)) (fun _ hk => hk.2) (.int .u16 0)) (fun _ hk => hk.2) (.int .u16 0)) (fun _ hk => hk.2) (.int .u16 t262)) (fun _ hk => hk.2) (.int .u16 t263)) (fun _ hk => hk.2) (.slice Ao10 t264.length co10)) (fun _ hk => hk.2) (.slice Ao9 t267.length co9)) (fun _ hk => hk.2) (.int .u8 0)) (fun _ hk => hk.2) (.int .u8 0)) (fun _ hk => hk.2) (.slice none 0 0)) (fun _ hk => hk.2) (.pointer none)) (fun _ hk => hk.2) (.pointer none)) (fun _ hk => trivial)⟩, ⟨by (with_reducible repeat (first | apply Kd.R_alloc | apply Kd.R_drewN | apply Kd.R_drew)); exact Kd.R_mono (Kd.R_far (p := ⟨gb273, 10, none⟩) (Kd.R_far (p := ⟨gb273, 9, none⟩) (Kd.R_far (p := ⟨gb273, 8, none⟩) (Kd.R_far (p := ⟨gb273, 7, none⟩) (Kd.R_far (p := ⟨gb273, 6, none⟩) (Kd.R_far (p := ⟨gb273, 5, none⟩) (Kd.R_far (p := ⟨gb273, 4, none⟩) (Kd.R_far (p := ⟨gb273, 3, none⟩) (Kd.R_far (p := ⟨gb273, 2, none⟩) (Kd.R_far (p := ⟨gb273, 1, none⟩) (Kd.R_far (p := ⟨gb273, 0, none⟩) (Kd.R_types HO269.out BK273.out (by decide)) (fun _ hk => hk.2) (.int .u16 0)) (fun _ hk => hk.2) (.int .u16 0)) (fun _ hk => hk.2) (.int .u16 t262)) (fun _ hk => hk.2) (.int .u16 t263)) (fun _ hk => hk.2) (.slice Ao10 t264.length co10)) (fun _ hk => hk.2) (.slice Ao9 t267.length co9)) (fun _ hk => hk.2) (.int .u8 0)) (fun _ hk => hk.2) (.int .u8 0)) (fun _ hk => hk.2) (.slice none 0 0)) (fun _ hk => hk.2) (.pointer none)) (fun _ hk => hk.2) (.pointer none)) (fun _ hk => trivial)⟩, ⟨by first | exact Kd.R_nil _ _ _ _ _ | exact Kd.N_nil _ _ _ _ _ | exact Kd.V_nil _ _ _ _ _ | exact Kd.Q_nil _ _ _ _ _ | exact Kd.S_nil _ _ _ _ _⟩, ⟨by (with_reducible repeat (first | refine b1_ ?_ _ | refine b2_ ?_ | refine b3_ ?_ _)); refine blk_far ?_ NB261_273.out _; (with_reducible repeat (first | refine b1_ ?_ _ | refine b2_ ?_ | refine b3_ ?_ _)); refine blk_far ?_ NB261_273.out _; (with_reducible repeat (first | refine b1_ ?_ _ | refine b2_ ?_ | refine b3_ ?_ _)); refine blk_far ?_ NB261_273.out _; (with_reducible repeat (first | refine b1_ ?_ _ | refine b2_ ?_ | refine b3_ ?_ _)); refine blk_far ?_ NB261_273.out _; (with_reducible repeat (first | refine b1_ ?_ _ | refine b2_ ?_ | refine b3_ ?_ _)); refine blk_far ?_ NB261_273.out _; (with_reducible repeat (first | refine b1_ ?_ _ | refine b2_ ?_ | refine b3_ ?_ _)); refine blk_far ?_ NB261_273.out _; (with_reducible repeat (first | refine b1_ ?_ _ | refine b2_ ?_ | refine b3_ ?_ _)); refine blk_far ?_ NB261_273.out _; (with_reducible repeat (first | refine b1_ ?_ _ | refine b2_ ?_ | refine b3_ ?_ _)); refine blk_far ?_ NB261_273.out _; (with_reducible repeat (first | refine b1_ ?_ _ | refine b2_ ?_ | refine b3_ ?_ _)); refine blk_far ?_ NB261_273.out _; (with_reducible repeat (first | refine b1_ ?_ _ | refine b2_ ?_ | refine b3_ ?_ _)); refine blk_far ?_ NB261_273.out _; (with_reducible repeat (first | refine b1_ ?_ _ | refine b2_ ?_ | refine b3_ ?_ _)); refine blk_far ?_ NB261_273.out _; (with_reducible repeat (first | refine b1_ ?_ _ | refine b2_ ?_ | refine b3_ ?_ _)); exact BK261.out⟩, ⟨by (with_reducible repeat (first | refine b1_ ?_ _ | refine b2_ ?_ | refine b3_ ?_ _)); refine blk_put (cs := #[.int .u16 0, .int .u16 0, .int .u16 t262, .int .u16 t263, .slice Ao10 t264.length co10, .slice Ao9 t267.length co9, .int .u8 0, .int .u8 0, .slice none 0 0, .pointer none, .pointer none]) ?_ 10 _ rfl; (with_reducible repeat (first | refine b1_ ?_ _ | refine b2_ ?_ | refine b3_ ?_ _)); refine blk_put (cs := #[.int .u16 0, .int .u16 0, .int .u16 t262, .int .u16 t263, .slice Ao10 t264.length co10, .slice Ao9 t267.length co9, .int .u8 0, .int .u8 0, .slice none 0 0, .pointer none, .pointer none]) ?_ 9 _ rfl; (with_reducible repeat (first | refine b1_ ?_ _ | refine b2_ ?_ | refine b3_ ?_ _)); refine blk_put (cs := #[.int .u16 0, .int .u16 0, .int .u16 t262, .int .u16 t263, .slice Ao10 t264.length co10, .slice Ao9 t267.length co9, .int .u8 0, .int .u8 0, .slice none 0 0, .pointer none, .pointer none]) ?_ 8 _ rfl; (with_reducible repeat (first | refine b1_ ?_ _ | refine b2_ ?_ | refine b3_ ?_ _)); refine blk_put (cs := #[.int .u16 0, .int .u16 0, .int .u16 t262, .int .u16 t263, .slice Ao10 t264.length co10, .slice Ao9 t267.length co9, .int .u8 0, .int .u8 0, .slice none 0 0, .pointer none, .pointer none]) ?_ 7 _ rfl; (with_reducible repeat (first | refine b1_ ?_ _ | refine b2_ ?_ | refine b3_ ?_ _)); refine blk_put (cs := #[.int .u16 0, .int .u16 0, .int .u16 t262, .int .u16 t263, .slice Ao10 t264.length co10, .slice Ao9 t267.length co9, .int .u8 0, .int .u8 0, .slice none 0 0, .pointer none, .pointer none]) ?_ 6 _ rfl; (with_reducible repeat (first | refine b1_ ?_ _ | refine b2_ ?_ | refine b3_ ?_ _)); refine blk_put (cs := #[.int .u16 0, .int .u16 0, .int .u16 t262, .int .u16 t263, .slice Ao10 t264.length co10, .slice none 0 0, .int .u8 0, .int .u8 0, .slice none 0 0, .pointer none, .pointer none]) ?_ 5 _ rfl; (with_reducible repeat (first | refine b1_ ?_ _ | refine b2_ ?_ | refine b3_ ?_ _)); refine blk_put (cs := #[.int .u16 0, .int .u16 0, .int .u16 t262, .int .u16 t263, .slice none 0 0, .slice none 0 0, .int .u8 0, .int .u8 0, .slice none 0 0, .pointer none, .pointer none]) ?_ 4 _ rfl; (with_reducible repeat (first | refine b1_ ?_ _ | refine b2_ ?_ | refine b3_ ?_ _)); refine blk_put (cs := #[.int .u16 0, .int .u16 0, .int .u16 t262, .int .u16 0, .slice none 0 0, .slice none 0 0, .int .u8 0, .int .u8 0, .slice none 0 0, .pointer none, .pointer none]) ?_ 3 _ rfl; (with_reducible repeat (first | refine b1_ ?_ _ | refine b2_ ?_ | refine b3_ ?_ _)); refine blk_put (cs := #[.int .u16 0, .int .u16 0, .int .u16 0, .int .u16 0, .slice none 0 0, .slice none 0 0, .int .u8 0, .int .u8 0, .slice none 0 0, .pointer none, .pointer none]) ?_ 2 _ rfl; (with_reducible repeat (first | refine b1_ ?_ _ | refine b2_ ?_ | refine b3_ ?_ _)); refine blk_put (cs := #[.int .u16 0, .int .u16 0, .int .u16 0, .int .u16 0, .slice none 0 0, .slice none 0 0, .int .u8 0, .int .u8 0, .slice none 0 0, .pointer none, .pointer none]) ?_ 1 _ rfl; (with_reducible repeat (first | refine b1_ ?_ _ | refine b2_ ?_ | refine b3_ ?_ _)); refine blk_put (cs := #[.int .u16 0, .int .u16 0, .int .u16 0, .int .u16 0, .slice none 0 0, .slice none 0 0, .int .u8 0, .int .u8 0, .slice none 0 0, .pointer none, .pointer none]) ?_ 0 _ rfl; (with_reducible repeat (first | refine b1_ ?_ _ | refine b2_ ?_ | refine b3_ ?_ _)); exact BK273.out⟩, ⟨by repeat (first | (with_reducible first | exact HB.out | apply below_alloc | apply pw_below_drewN | apply below_drew1 | refine below_set ?_ GE261.out | refine below_set ?_ GE273.out) | exact HB.out)⟩⟩
 case round =>
  clear H'
  try clear c1
  try clear c2
  try clear p2
  try clear c3
  try clear c4
  try clear c12
  try clear hcz13_0
  try clear hcz13_1
  try clear hcz13_10
  try clear hcz13_2
  try clear hcz13_3
  try clear hcz13_4
  try clear hcz13_5
  try clear hcz13_6
  try clear hcz13_7
  try clear hcz13_8
  try clear hcz13_9
  try clear hfz13_0
  try clear hfz13_1
  try clear hfz13_10
  try clear hfz13_2
  try clear hfz13_3
  try clear hfz13_4
  try clear hfz13_5
  try clear hfz13_6
  try clear hfz13_7
  try clear hfz13_8
  try clear hfz13_9
  obtain ⟨x29_1, x262000_1, x262001_1, x262002_1, x274008_1, u274008, rfl, HA, HK1, HO_274004, HO_274005, HO_274008, BK261, BK273, HB⟩ := hrel
  cases gk with
  | zero => exact absurd HA.out (by simp [impl_AdvanceDelta.l0])
  | succ k1 =>
   have H := HA.out
   clear HA
   simp only [impl_AdvanceDelta.l0] at H
   by_cases c14 : x29_1 < (l2.length : Int)
   ·rw [if_pos c14] at H
    have c14b0 : decide (x29_1 < (l2.length : Int)) = true := decide_eq_true c14
    clear c14
    by_cases c15 : 0 ≤ x29_1
    ·rw [if_pos c15] at H
     have c15b0 : decide (0 ≤ x29_1) = true := decide_eq_true c15
     clear c15
     by_cases c16 : x29_1 < (l2.length : Int)
     ·rw [if_pos c16] at H
      have c16b0 : decide (x29_1 < (l2.length : Int)) = true := decide_eq_true c16
      clear c16
      replace H := Option.bind_eq_some_iff.mp H
      obtain ⟨⟨t276, t277, t278, t279⟩, A170, H⟩ := H
      replace H : ((impl_builder_small.f t277 t278 t279 ((rd_T48 l2 x29_1).f1)).bind fun bt280 => (if x274008_1.length < 35184372088832 then (impl_AdvanceDelta.l0 k1 a3 l4 l2 (l2.length : Int) (wrap64 (x29_1 + 1)) bt280.2.1 bt280.2.2.1 bt280.2.2.2 0 0 t262 t263 t264 t267 0 0 (x274008_1 ++ [(⟨t276, bt280.1⟩ : S115)]) () ()) else (none))) = some (r1, r2) := H
      have A17 := Aside0.mk A170
      clear A170
      replace H := Option.bind_eq_some_iff.mp H
      obtain ⟨⟨t280, t281, t282, t283⟩, A180, H⟩ := H
      replace H : (if x274008_1.length < 35184372088832 then (impl_AdvanceDelta.l0 k1 a3 l4 l2 (l2.length : Int) (wrap64 (x29_1 + 1)) t281 t282 t283 0 0 t262 t263 t264 t267 0 0 (x274008_1 ++ [(⟨t276, t280⟩ : S115)]) () ()) else (none)) = some (r1, r2) := H
      have A18 := Aside0.mk A180
      clear A180
      by_cases c19 : x274008_1.length < 35184372088832
      ·rw [if_pos c19] at H
       have LMc19 := Aside0.mk c19
       clear c19
       obtain ⟨y284, hy284⟩ : ∃ y_ : List (S115), y_ = (x274008_1 ++ [(⟨t276, t280⟩ : S115)]) := ⟨_, rfl⟩
       replace H : (impl_AdvanceDelta.l0 k1 a3 l4 l2 (l2.length : Int) (wrap64 (x29_1 + 1)) t281 t282 t283 0 0 t262 t263 t264 t267 0 0 y284 () ()) = some (r1, r2) := by first | (rw [hy284]; with_reducible exact H) | (have H2_ := (Option.bind_some _ _).symm.trans H; rw [hy284]; with_reducible exact H2_) | (have H2_ := (Option.bind_some _ _).symm.trans H; with_reducible exact H2_) | with_reducible exact H | (rw [hy284]; exact H) | exact H
       have Ny284 := Aside0.mk hy284
       clear hy284
       have H' := Aside0.mk H
       clear H
       have p274 : 0 ≤ (x29_1 : Int) := of_decide_eq_true (by first | (with_reducible assumption) | assumption)
       have q274 : x29_1 < (l2.length : Int) := of_decide_eq_true (by first | (with_reducible assumption) | assumption)
       obtain ⟨ad274, e274, hx274_0, hx274_1⟩ := at_T48 HR2.out x29_1 p274 q274
       cases e274
       replace hx274_0 := (HB.out.cell (World.block_lt_of_cell? w _ hx274_0)).trans hx274_0
       replace hx274_1 := (HB.out.cell (World.block_lt_of_cell? w _ hx274_1)).trans hx274_1
       replace p274 := eq_true p274
       replace q274 := eq_true q274
       try go_wp2_with (first | ((with_reducible refine gate_dst (N := 15) rfl ?_); refine box_event ?hg (N := 15) ?hd (cs := #[.int .i64 0, .int .i64 0]) (t := 48) ?hr ?_; (case hd => rfl); (case hg => rfl); (case hr => first | (go_simp; done) | (go_simp; rfl)); intro gb275 hg w20 hbox hb; have n0_ := Aside0.mk (Kd.S_below (by (with_reducible repeat (first | apply Kd.S_alloc | apply Kd.S_drewN | apply Kd.S_drew)); exact HO_274004.out) hb); have n1_ := Aside0.mk (Kd.R_below (by (with_reducible repeat (first | apply Kd.R_alloc | apply Kd.R_drewN | apply Kd.R_drew)); exact HO_274005.out) hb); have n2_ := Aside0.mk (Kd.R_below (by (with_reducible repeat (first | apply Kd.R_alloc | apply Kd.R_drewN | apply Kd.R_drew)); exact HO_274008.out) hb); have n3_ := Aside0.mk (blk_below (g := gb261) (o := .cells #[.int .i64 x262000_1, .int .i64 x262001_1, .bool x262002_1] 102 (0, 0)) (by (with_reducible repeat (first | refine b1_ ?_ _ | refine b2_ ?_ | refine b3_ ?_ _)); exact BK261.out) hb); have n4_ := Aside0.mk (blk_below (g := gb273) (o := .cells #[.int .u16 0, .int .u16 0, .int .u16 t262, .int .u16 t263, .slice Ao10 t264.length co10, .slice Ao9 t267.length co9, .int .u8 0, .int .u8 0, u274008, .pointer none, .pointer none] 122 (0, 0)) (by (with_reducible repeat (first | refine b1_ ?_ _ | refine b2_ ?_ | refine b3_ ?_ _)); exact BK273.out) hb); have n5_ := Aside0.mk (below_step (by repeat (first | (with_reducible first | exact HB.out | apply below_alloc | apply pw_below_drewN | apply below_drew1 | refine below_set ?_ GE261.out | refine below_set ?_ GE273.out) | exact HB.out)) hb); have n6_ := Aside0.mk (hbox); have n7_ := Aside0.mk ((by rw [hg]; exact (below_size (by repeat (first | (with_reducible first | exact HB.out | apply below_alloc | apply pw_below_drewN | apply below_drew1 | refine below_set ?_ GE261.out | refine below_set ?_ GE273.out) | exact HB.out))) : w.heap.size ≤ gb275)); have n8_ := Aside0.mk ((by rw [hg]; exact (below_size (by repeat (first | (with_reducible first | exact HB.out | apply below_alloc | apply pw_below_drewN | apply below_drew1 | refine below_set ?_ GE261.out | refine below_set ?_ GE273.out) | exact HB.out))) : w.heap.size ≤ gb275)); have n9_ := Aside0.mk ((by rw [hg]; exact Nat.ne_of_lt (blk_lt (g := gb261) (o := .cells #[.int .i64 x262000_1, .int .i64 x262001_1, .bool x262002_1] 102 (0, 0)) (by (with_reducible repeat (first | refine b1_ ?_ _ | refine b2_ ?_ | refine b3_ ?_ _)); exact BK261.out)) : gb261 ≠ gb275)); have n10_ := Aside0.mk ((by rw [hg]; exact Nat.ne_of_gt (blk_lt (g := gb261) (o := .cells #[.int .i64 x262000_1, .int .i64 x262001_1, .bool x262002_1] 102 (0, 0)) (by (with_reducible repeat (first | refine b1_ ?_ _ | refine b2_ ?_ | refine b3_ ?_ _)); exact BK261.out)) : gb275 ≠ gb261)); have n11_ := Aside0.mk ((by rw [hg]; exact Nat.ne_of_lt (blk_lt (g := gb273) (o := .cells #[.int .u16 0, .int .u16 0, .int .u16 t262, .int .u16 t263, .slice Ao10 t264.length co10, .slice Ao9 t267.length co9, .int .u8 0, .int .u8 0, u274008, .pointer none, .pointer none] 122 (0, 0)) (by (with_reducible repeat (first | refine b1_ ?_ _ | refine b2_ ?_ | refine b3_ ?_ _)); exact BK273.out)) : gb273 ≠ gb275)); have n12_ := Aside0.mk ((by rw [hg]; exact Nat.ne_of_gt (blk_lt (g := gb273) (o := .cells #[.int .u16 0, .int .u16 0, .int .u16 t262, .int .u16 t263, .slice Ao10 t264.length co10, .slice Ao9 t267.length co9, .int .u8 0, .int .u8 0, u274008, .pointer none, .pointer none] 122 (0, 0)) (by (with_reducible repeat (first | refine b1_ ?_ _ | refine b2_ ?_ | refine b3_ ?_ _)); exact BK273.out)) : gb275 ≠ gb273)); clear HO_274004; clear HO_274005; clear HO_274008; clear BK261; clear BK273; clear HB; have HO_274004 := n0_; have HO_274005 := n1_; have HO_274008 := n2_; have BK261 := n3_; have BK273 := n4_; have HB := n5_; have BK275 := n6_; have GW275 := n7_; have GE275 := n8_; have NB261_275 := n9_; have NB275_261 := n10_; have NB273_275 := n11_; have NB275_273 := n12_; clear n0_ n1_ n2_ n3_ n4_ n5_ n6_ n7_ n8_ n9_ n10_ n11_ n12_; clear hb hbox hg; have hnb21 := NB275_261.out; have hnc21 := NB261_275.out; have hnb22 := NB275_273.out; have hnc22 := NB273_275.out; have hcz23_0 : w20.cell? ⟨gb275, 0, none⟩ = some (.int .i64 0) := (blk_cell BK275.out 0).trans rfl; have hcz23_1 : w20.cell? ⟨gb275, 1, none⟩ = some (.int .i64 0) := (blk_cell BK275.out 1).trans rfl; have hfz23_0 := blk_frozen BK275.out 0; have hfz23_1 := blk_frozen BK275.out 1))
       have n0_ : Aside0 (Kd.S k182 182 ((w20.setCell ⟨gb275, 0, none⟩ (.int .i64 ((rd_T48 l2 x29_1).f0))).setCell ⟨gb275, 1, none⟩ (.int .i64 ((rd_T48 l2 x29_1).f1))) w.heap.size (fun _ => True) (.slice Ao10 t264.length co10) t264) := ⟨by (with_reducible repeat (first | apply Kd.S_alloc | apply Kd.S_drewN | apply Kd.S_drew)); exact Kd.S_mono (Kd.S_far (p := ⟨gb275, 1, none⟩) (Kd.S_far (p := ⟨gb275, 0, none⟩) (Kd.S_types HO_274004.out BK275.out (by decide)) (fun _ hk => hk.2) (.int .i64 ((rd_T48 l2 x29_1).f0))) (fun _ hk => hk.2) (.int .i64 ((rd_T48 l2 x29_1).f1))) (fun _ hk => trivial)⟩
       have n1_ : Aside0 (Kd.R k186 186 ((w20.setCell ⟨gb275, 0, none⟩ (.int .i64 ((rd_T48 l2 x29_1).f0))).setCell ⟨gb275, 1, none⟩ (.int .i64 ((rd_T48 l2 x29_1).f1))) w.heap.size (fun _ => True) (.slice Ao9 t267.length co9) t267) := ⟨by (with_reducible repeat (first | apply Kd.R_alloc | apply Kd.R_drewN | apply Kd.R_drew)); exact Kd.R_mono (Kd.R_far (p := ⟨gb275, 1, none⟩) (Kd.R_far (p := ⟨gb275, 0, none⟩) (Kd.R_types HO_274005.out BK275.out (by decide)) (fun _ hk => hk.2) (.int .i64 ((rd_T48 l2 x29_1).f0))) (fun _ hk => hk.2) (.int .i64 ((rd_T48 l2 x29_1).f1))) (fun _ hk => trivial)⟩
       have n2_ : Aside0 (Kd.R k115 115 ((w20.setCell ⟨gb275, 0, none⟩ (.int .i64 ((rd_T48 l2 x29_1).f0))).setCell ⟨gb275, 1, none⟩ (.int .i64 ((rd_T48 l2 x29_1).f1))) w.heap.size (fun _ => True) u274008 x274008_1) := ⟨by (with_reducible repeat (first | apply Kd.R_alloc | apply Kd.R_drewN | apply Kd.R_drew)); exact Kd.R_mono (Kd.R_far (p := ⟨gb275, 1, none⟩) (Kd.R_far (p := ⟨gb275, 0, none⟩) (Kd.R_types HO_274008.out BK275.out (by decide)) (fun _ hk => hk.2) (.int .i64 ((rd_T48 l2 x29_1).f0))) (fun _ hk => hk.2) (.int .i64 ((rd_T48 l2 x29_1).f1))) (fun _ hk => trivial)⟩
       have n3_ : Aside0 (((w20.setCell ⟨gb275, 0, none⟩ (.int .i64 ((rd_T48 l2 x29_1).f0))).setCell ⟨gb275, 1, none⟩ (.int .i64 ((rd_T48 l2 x29_1).f1))).heap[gb261]? = some (.cells #[.int .i64 x262000_1, .int .i64 x262001_1, .bool x262002_1] 102 (0, 0))) := ⟨by (with_reducible repeat (first | refine b1_ ?_ _ | refine b2_ ?_ | refine b3_ ?_ _)); refine blk_far ?_ NB261_275.out _; (with_reducible repeat (first | refine b1_ ?_ _ | refine b2_ ?_ | refine b3_ ?_ _)); refine blk_far ?_ NB261_275.out _; (with_reducible repeat (first | refine b1_ ?_ _ | refine b2_ ?_ | refine b3_ ?_ _)); exact BK261.out⟩
       have n4_ : Aside0 (((w20.setCell ⟨gb275, 0, none⟩ (.int .i64 ((rd_T48 l2 x29_1).f0))).setCell ⟨gb275, 1, none⟩ (.int .i64 ((rd_T48 l2 x29_1).f1))).heap[gb273]? = some (.cells #[.int .u16 0, .int .u16 0, .int .u16 t262, .int .u16 t263, .slice Ao10 t264.length co10, .slice Ao9 t267.length co9, .int .u8 0, .int .u8 0, u274008, .pointer none, .pointer none] 122 (0, 0))) := ⟨by (with_reducible repeat (first | refine b1_ ?_ _ | refine b2_ ?_ | refine b3_ ?_ _)); refine blk_far ?_ NB273_275.out _; (with_reducible repeat (first | refine b1_ ?_ _ | refine b2_ ?_ | refine b3_ ?_ _)); refine blk_far ?_ NB273_275.out _; (with_reducible repeat (first | refine b1_ ?_ _ | refine b2_ ?_ | refine b3_ ?_ _)); exact BK273.out⟩
       have n5_ : Aside0 (((w20.setCell ⟨gb275, 0, none⟩ (.int .i64 ((rd_T48 l2 x29_1).f0))).setCell ⟨gb275, 1, none⟩ (.int .i64 ((rd_T48 l2 x29_1).f1))).heap[gb275]? = some (.cells #[.int .i64 ((rd_T48 l2 x29_1).f0), .int .i64 ((rd_T48 l2 x29_1).f1)] 48 (0, 0))) := ⟨by (with_reducible repeat (first | refine b1_ ?_ _ | refine b2_ ?_ | refine b3_ ?_ _)); refine blk_put (cs := #[.int .i64 ((rd_T48 l2 x29_1).f0), .int .i64 0]) ?_ 1 _ rfl; (with_reducible repeat (first | refine b1_ ?_ _ | refine b2_ ?_ | refine b3_ ?_ _)); refine blk_put (cs := #[.int .i64 0, .int .i64 0]) ?_ 0 _ rfl; (with_reducible repeat (first | refine b1_ ?_ _ | refine b2_ ?_ | refine b3_ ?_ _)); exact BK275.out⟩
       have n6_ : Aside0 (Below w.heap.size w ((w20.setCell ⟨gb275, 0, none⟩ (.int .i64 ((rd_T48 l2 x29_1).f0))).setCell ⟨gb275, 1, none⟩ (.int .i64 ((rd_T48 l2 x29_1).f1)))) := ⟨by repeat (first | (with_reducible first | exact HB.out | apply below_alloc | apply pw_below_drewN | apply below_drew1 | refine below_set ?_ GE261.out | refine below_set ?_ GE273.out | refine below_set ?_ GE275.out) | exact HB.out)⟩
       (try clear HO_274004)
       (try clear HO_274005)
       (try clear HO_274008)
       (try clear BK261)
       (try clear BK273)
       (try clear BK275)
       (try clear HB)
       generalize ((w20.setCell ⟨gb275, 0, none⟩ (.int .i64 ((rd_T48 l2 x29_1).f0))).setCell ⟨gb275, 1, none⟩ (.int .i64 ((rd_T48 l2 x29_1).f1))) = w24 at n0_ n1_ n2_ n3_ n4_ n5_ n6_ ⊢
       have HO_274004 := n0_
       have HO_274005 := n1_
       have HO_274008 := n2_
       have BK261 := n3_
       have BK273 := n4_
       have BK275 := n5_
       have HB := n6_
       clear n0_ n1_ n2_ n3_ n4_ n5_ n6_
       have n0_ := Aside0.mk (Kd.S_drew HO_274004.out)
       have n1_ := Aside0.mk (Kd.R_drew HO_274005.out)
       have n2_ := Aside0.mk (Kd.R_drew HO_274008.out)
       have n3_ := Aside0.mk (blk_drew BK261.out)
       have n4_ := Aside0.mk (blk_drew BK273.out)
       have n5_ := Aside0.mk (blk_drew BK275.out)
       have n6_ := Aside0.mk (below_drew1 HB.out)
       clear HO_274004
       clear HO_274005
       clear HO_274008
       clear BK261
       clear BK273
       clear BK275
       clear HB
       have HO_274004 := n0_
       have HO_274005 := n1_
       have HO_274008 := n2_
       have BK261 := n3_
       have BK273 := n4_
       have BK275 := n5_
       have HB := n6_
       clear n0_ n1_ n2_ n3_ n4_ n5_ n6_
       refine start_ (n := 17) (S := fun w' => w'.cell? ⟨gb273, 0, none⟩ = some (.int .u16 0) ∧ w'.cell? ⟨gb273, 1, none⟩ = some (.int .u16 0) ∧ w'.cell? ⟨gb273, 2, none⟩ = some (.int .u16 t262) ∧ w'.cell? ⟨gb273, 3, none⟩ = some (.int .u16 t263) ∧ w'.cell? ⟨gb273, 4, none⟩ = some (.slice Ao10 t264.length co10) ∧ w'.cell? ⟨gb273, 5, none⟩ = some (.slice Ao9 t267.length co9) ∧ w'.cell? ⟨gb273, 6, none⟩ = some (.int .u8 0) ∧ w'.cell? ⟨gb273, 7, none⟩ = some (.int .u8 0) ∧ w'.cell? ⟨gb273, 8, none⟩ = some (u274008) ∧ w'.cell? ⟨gb273, 9, none⟩ = some (.pointer none) ∧ w'.cell? ⟨gb273, 10, none⟩ = some (.pointer none) ∧ w'.cell? ⟨gb275, 0, none⟩ = some (.int .i64 ((rd_T48 l2 x29_1).f0)) ∧ w'.cell? ⟨gb275, 1, none⟩ = some (.int .i64 ((rd_T48 l2 x29_1).f1))) (ds := [16]) #[ff,ff,ff,ff,ff,ff,ff,ff,ff,ff,ff,ff,ff,ff,ff,ff,ff] (by kernel_rfl) rfl rfl ⟨(blk_cell BK273.out 0).trans rfl, (blk_cell BK273.out 1).trans rfl, (blk_cell BK273.out 2).trans rfl, (blk_cell BK273.out 3).trans rfl, (blk_cell BK273.out 4).trans rfl, (blk_cell BK273.out 5).trans rfl, (blk_cell BK273.out 6).trans rfl, (blk_cell BK273.out 7).trans rfl, (blk_cell BK273.out 8).trans rfl, (blk_cell BK273.out 9).trans rfl, (blk_cell BK273.out 10).trans rfl, (blk_cell BK275.out 0).trans rfl, (blk_cell BK275.out 1).trans rfl⟩ (fun hHeld => ?_); refine with_tabW impl_AdvanceDelta.tab6 impl_AdvanceDelta.bits6 (fun HT_ HW_ => ?_)
       generalize w24.drew = w25 at HO_274004 HO_274005 HO_274008 BK261 BK273 BK275 HB hHeld ⊢
       refine pure_ (i := 0) (N := some 33) (v := ?_) (a' := ?_) #[tt,ff,ff,ff,ff,ff,ff,ff,ff,ff,ff,ff,ff,ff,ff,ff,ff] rfl rfl (any_of HT_.out (by kernel_rfl)) (fun _ _ _ h => h) (Or.inl ⟨by rfl, ?_⟩) ?_ ?_
       rotate_left
       ·intro w'
        go_simp
        with_reducible rfl
       rotate_left
       ·simp only [Act.put, L1_, L2_, L3_, i64_w, i32_w]
        rfl
       refine pure_ (i := 1) (N := some 34) (v := ?_) (a' := ?_) #[tt,tt,ff,ff,ff,ff,ff,ff,ff,ff,ff,ff,ff,ff,ff,ff,ff] rfl rfl (any_of HT_.out (by kernel_rfl)) (fun _ _ _ h => h) (Or.inl ⟨by rfl, ?_⟩) ?_ ?_
       rotate_left
       ·intro w'
        go_simp
        with_reducible rfl
       rotate_left
       ·simp only [Act.put, L1_, L2_, L3_, i64_w, i32_w]
        rfl
       refine pure_ (i := 3) (N := some 36) (v := ?_) (a' := ?_) #[tt,tt,ff,tt,ff,ff,ff,ff,ff,ff,ff,ff,ff,ff,ff,ff,ff] rfl rfl (any_of HT_.out (by kernel_rfl)) (fun _ _ _ h => h) (Or.inl ⟨by rfl, ?_⟩) ?_ ?_
       rotate_left
       ·intro w'
        go_simp
        with_reducible rfl
       rotate_left
       ·simp only [Act.put, L1_, L2_, L3_, i64_w, i32_w]
        rfl
       refine pure_ (i := 4) (N := some 37) (v := ?_) (a' := ?_) #[tt,tt,ff,tt,tt,ff,ff,ff,ff,ff,ff,ff,ff,ff,ff,ff,ff] rfl rfl (any_of HT_.out (by kernel_rfl)) (fun _ _ _ h => h) (Or.inl ⟨by rfl, ?_⟩) ?_ ?_
       rotate_left
       ·intro w'
        go_simp
        with_reducible rfl
       rotate_left
       ·simp only [Act.put, L1_, L2_, L3_, i64_w, i32_w]
        rfl
       refine pure_ (i := 7) (N := some 40) (v := ?_) (a' := ?_) #[tt,tt,ff,tt,tt,ff,ff,tt,ff,ff,ff,ff,ff,ff,ff,ff,ff] rfl rfl (any_of HT_.out (by kernel_rfl)) (fun _ _ _ h => h) (Or.inl ⟨by rfl, ?_⟩) ?_ ?_
       rotate_left
       ·intro w'
        go_simp
        with_reducible rfl
       rotate_left
       ·simp only [Act.put, L1_, L2_, L3_, i64_w, i32_w]
        rfl
       refine pure_ (i := 8) (N := some 41) (v := ?_) (a' := ?_) #[tt,tt,ff,tt,tt,ff,ff,tt,tt,ff,ff,ff,ff,ff,ff,ff,ff] rfl rfl (any_of HT_.out (by kernel_rfl)) (fun _ _ _ h => h) (Or.inl ⟨by rfl, ?_⟩) ?_ ?_
       rotate_left
       ·intro w'
        go_simp
        with_reducible rfl
       rotate_left
       ·simp only [Act.put, L1_, L2_, L3_, i64_w, i32_w]
        rfl
       refine take_ (i := 2) (N := some 35) (v := ?_) (a' := ?_) #[tt,tt,tt,tt,tt,ff,ff,tt,tt,ff,ff,ff,ff,ff,ff,ff,ff] rfl rfl (take_ofW HT_.out HW_.out (by kernel_rfl)) (fun _ _ _ h => h) (Or.inl ⟨by rfl, ?_⟩) hHeld ?_ ?_
       rotate_left
       ·rintro w' ⟨s0, s1, s2, s3, s4, s5, s6, s7, s8, s9, s10, s11, s12⟩
        go_simp
        with_reducible rfl
       rotate_left
       ·simp only [Act.put, L1_, L2_, L3_, i64_w, i32_w]
        rfl
       refine take_ (i := 5) (N := some 38) (v := ?_) (a' := ?_) #[tt,tt,tt,tt,tt,tt,ff,tt,tt,ff,ff,ff,ff,ff,ff,ff,ff] rfl rfl (take_ofW HT_.out HW_.out (by kernel_rfl)) (fun _ _ _ h => h) (Or.inl ⟨by rfl, ?_⟩) hHeld ?_ ?_
       rotate_left
       ·rintro w' ⟨s0, s1, s2, s3, s4, s5, s6, s7, s8, s9, s10, s11, s12⟩
        go_simp
        with_reducible rfl
       rotate_left
       ·simp only [Act.put, L1_, L2_, L3_, i64_w, i32_w]
        rfl
       refine take_ (i := 9) (N := some 42) (v := ?_) (a' := ?_) #[tt,tt,tt,tt,tt,tt,ff,tt,tt,tt,ff,ff,ff,ff,ff,ff,ff] rfl rfl (take_ofW HT_.out HW_.out (by kernel_rfl)) (fun _ _ _ h => h) (Or.inl ⟨by rfl, ?_⟩) hHeld ?_ ?_
       rotate_left
       ·rintro w' ⟨s0, s1, s2, s3, s4, s5, s6, s7, s8, s9, s10, s11, s12⟩
        go_simp
        with_reducible rfl
       rotate_left
       ·simp only [Act.put, L1_, L2_, L3_, i64_w, i32_w]
        rfl
       refine one_ (i := 6) (N := some 39) #[tt,tt,tt,tt,tt,tt,tt,tt,tt,tt,ff,ff,ff,ff,ff,ff,ff] rfl rfl (one_of HT_.out (by kernel_rfl)) (by decide) (fun K hK => ?_)
       refine goes_ Try.func35 (by kernel_rfl) rfl #[.pointer (some ⟨gb261, 0, none⟩), .int .i64 ((rd_T48 l2 x29_1).f0)] (by rfl) rfl rfl (by (try simp only [List.map_toArray, List.map_cons, List.map_nil]); first | done | rfl | (simp only [List.length_drop, List.length_take]; rfl)) ?_
       with_reducible refine (impl_builder_small.calls gb261 x262000_1 x262001_1 x262002_1 ((rd_T48 l2 x29_1).f0) t276 t277 t278 t279 w _ ?side1 ?side2 A17.out).mono ?_
       (case side1 => repeat (first | (with_reducible first | exact (Aside0.mk (IsS102.of BK261.out GE261.out)).out | apply IsS102.alloc | apply IsS102.drewN | apply IsS102.drew | apply IsS102.set_0 | apply IsS102.set_1 | apply IsS102.set_2 | refine IsS102.far ?_ NB261_273.out _ | refine IsS102.far ?_ NB261_275.out _) | exact (Aside0.mk (IsS102.of BK261.out GE261.out)).out))
       (case side2 => repeat (first | (with_reducible first | exact HB.out | apply below_alloc | apply pw_below_drewN | apply below_drew1 | refine below_set ?_ (IsS102.ge (Aside0.mk (IsS102.of BK261.out GE261.out)).out) | refine below_set ?_ GE273.out | refine below_set ?_ GE275.out) | exact HB.out))
       rintro e w26 ⟨rfl, hi, hb, hk⟩
       refine ⟨_, rfl, ?_⟩
       have n0_ := Aside0.mk (Kd.S_mono (Kd.S_keep (IsS102.apartS (show IsS102 w _ gb261 x262000_1 x262001_1 x262002_1 from by repeat (first | (with_reducible first | exact (Aside0.mk (IsS102.of BK261.out GE261.out)).out | apply IsS102.alloc | apply IsS102.drewN | apply IsS102.drew | apply IsS102.set_0 | apply IsS102.set_1 | apply IsS102.set_2 | refine IsS102.far ?_ NB261_273.out _ | refine IsS102.far ?_ NB261_275.out _) | exact (Aside0.mk (IsS102.of BK261.out GE261.out)).out)) (by (with_reducible repeat (first | apply Kd.S_alloc | apply Kd.S_drewN | apply Kd.S_drew)); exact HO_274004.out) (by decide)) hk (fun _ h => h.2)) (fun _ h => h.1))
       have n1_ := Aside0.mk (Kd.R_mono (Kd.R_keep (IsS102.apart (show IsS102 w _ gb261 x262000_1 x262001_1 x262002_1 from by repeat (first | (with_reducible first | exact (Aside0.mk (IsS102.of BK261.out GE261.out)).out | apply IsS102.alloc | apply IsS102.drewN | apply IsS102.drew | apply IsS102.set_0 | apply IsS102.set_1 | apply IsS102.set_2 | refine IsS102.far ?_ NB261_273.out _ | refine IsS102.far ?_ NB261_275.out _) | exact (Aside0.mk (IsS102.of BK261.out GE261.out)).out)) (by (with_reducible repeat (first | apply Kd.R_alloc | apply Kd.R_drewN | apply Kd.R_drew)); exact HO_274005.out) (by decide)) hk (fun _ h => h.2)) (fun _ h => h.1))
       have n2_ := Aside0.mk (Kd.R_mono (Kd.R_keep (IsS102.apart (show IsS102 w _ gb261 x262000_1 x262001_1 x262002_1 from by repeat (first | (with_reducible first | exact (Aside0.mk (IsS102.of BK261.out GE261.out)).out | apply IsS102.alloc | apply IsS102.drewN | apply IsS102.drew | apply IsS102.set_0 | apply IsS102.set_1 | apply IsS102.set_2 | refine IsS102.far ?_ NB261_273.out _ | refine IsS102.far ?_ NB261_275.out _) | exact (Aside0.mk (IsS102.of BK261.out GE261.out)).out)) (by (with_reducible repeat (first | apply Kd.R_alloc | apply Kd.R_drewN | apply Kd.R_drew)); exact HO_274008.out) (by decide)) hk (fun _ h => h.2)) (fun _ h => h.1))
       have n3_ := Aside0.mk (KeepBut.blk hk (g' := gb273) (o := .cells #[.int .u16 0, .int .u16 0, .int .u16 t262, .int .u16 t263, .slice Ao10 t264.length co10, .slice Ao9 t267.length co9, .int .u8 0, .int .u8 0, u274008, .pointer none, .pointer none] 122 (0, 0)) (by (with_reducible repeat (first | refine b1_ ?_ _ | refine b2_ ?_ | refine b3_ ?_ _)); exact BK273.out) NB273_261.out (by simp))
       have n4_ := Aside0.mk (KeepBut.blk hk (g' := gb275) (o := .cells #[.int .i64 ((rd_T48 l2 x29_1).f0), .int .i64 ((rd_T48 l2 x29_1).f1)] 48 (0, 0)) (by (with_reducible repeat (first | refine b1_ ?_ _ | refine b2_ ?_ | refine b3_ ?_ _)); exact BK275.out) NB275_261.out (by simp))
       have n5_ := Aside0.mk (hb)
       have n6_ := Aside0.mk (IsS102.cells hi)
       clear HO_274004
       clear HO_274005
       clear HO_274008
       clear BK273
       clear BK275
       clear HB
       clear BK261
       have HO_274004 := n0_
       have HO_274005 := n1_
       have HO_274008 := n2_
       have BK273 := n3_
       have BK275 := n4_
       have HB := n5_
       have BK261 := n6_
       clear n0_ n1_ n2_ n3_ n4_ n5_ n6_
       (try clear hb)
       (try clear hb2)
       (try clear hk)
       (try clear hi)
       refine hK.out _ _ ⟨(blk_cell BK273.out 0).trans rfl, (blk_cell BK273.out 1).trans rfl, (blk_cell BK273.out 2).trans rfl, (blk_cell BK273.out 3).trans rfl, (blk_cell BK273.out 4).trans rfl, (blk_cell BK273.out 5).trans rfl, (blk_cell BK273.out 6).trans rfl, (blk_cell BK273.out 7).trans rfl, (blk_cell BK273.out 8).trans rfl, (blk_cell BK273.out 9).trans rfl, (blk_cell BK273.out 10).trans rfl, (blk_cell BK275.out 0).trans rfl, (blk_cell BK275.out 1).trans rfl⟩ (fun hHeld => ?_)
       clear hK K
       refine norm_ (a' := ?_) ?_ ?_
       rotate_left
       ·show Act.put _ (some 39) _ = _
        simp only [Act.put, L1_, L2_, L3_, i64_w, i32_w]
        rfl
       refine one_ (i := 10) (N := some 43) #[tt,tt,tt,tt,tt,tt,tt,tt,tt,tt,tt,ff,ff,ff,ff,ff,ff] rfl rfl (one_of HT_.out (by kernel_rfl)) (by decide) (fun K hK => ?_)
       refine goes_ Try.func35 (by kernel_rfl) rfl #[.pointer (some ⟨gb261, 0, none⟩), .int .i64 ((rd_T48 l2 x29_1).f1)] (by rfl) rfl rfl (by (try simp only [List.map_toArray, List.map_cons, List.map_nil]); first | done | rfl | (simp only [List.length_drop, List.length_take]; rfl)) ?_
       with_reducible refine (impl_builder_small.calls gb261 t277 t278 t279 ((rd_T48 l2 x29_1).f1) t280 t281 t282 t283 w _ ?side1 ?side2 A18.out).mono ?_
       (case side1 => repeat (first | (with_reducible first | exact (Aside0.mk (IsS102.of BK261.out GE261.out)).out | apply IsS102.alloc | apply IsS102.drewN | apply IsS102.drew | apply IsS102.set_0 | apply IsS102.set_1 | apply IsS102.set_2 | refine IsS102.far ?_ NB261_273.out _ | refine IsS102.far ?_ NB261_275.out _) | exact (Aside0.mk (IsS102.of BK261.out GE261.out)).out))
       (case side2 => repeat (first | (with_reducible first | exact HB.out | apply below_alloc | apply pw_below_drewN | apply below_drew1 | refine below_set ?_ (IsS102.ge (Aside0.mk (IsS102.of BK261.out GE261.out)).out) | refine below_set ?_ GE273.out | refine below_set ?_ GE275.out) | exact HB.out))
       rintro e w27 ⟨rfl, hi, hb, hk⟩
       refine ⟨_, rfl, ?_⟩
       have n0_ := Aside0.mk (Kd.S_mono (Kd.S_keep (IsS102.apartS (show IsS102 w _ gb261 t277 t278 t279 from by repeat (first | (with_reducible first | exact (Aside0.mk (IsS102.of BK261.out GE261.out)).out | apply IsS102.alloc | apply IsS102.drewN | apply IsS102.drew | apply IsS102.set_0 | apply IsS102.set_1 | apply IsS102.set_2 | refine IsS102.far ?_ NB261_273.out _ | refine IsS102.far ?_ NB261_275.out _) | exact (Aside0.mk (IsS102.of BK261.out GE261.out)).out)) (by (with_reducible repeat (first | apply Kd.S_alloc | apply Kd.S_drewN | apply Kd.S_drew)); exact HO_274004.out) (by decide)) hk (fun _ h => h.2)) (fun _ h => h.1))
       have n1_ := Aside0.mk (Kd.R_mono (Kd.R_keep (IsS102.apart (show IsS102 w _ gb261 t277 t278 t279 from by repeat (first | (with_reducible first | exact (Aside0.mk (IsS102.of BK261.out GE261.out)).out | apply IsS102.alloc | apply IsS102.drewN | apply IsS102.drew | apply IsS102.set_0 | apply IsS102.set_1 | apply IsS102.set_2 | refine IsS102.far ?_ NB261_273.out _ | refine IsS102.far ?_ NB261_275.out _) | exact (Aside0.mk (IsS102.of BK261.out GE261.out)).out)) (by (with_reducible repeat (first | apply Kd.R_alloc | apply Kd.R_drewN | apply Kd.R_drew)); exact HO_274005.out) (by decide)) hk (fun _ h => h.2)) (fun _ h => h.1))
       have n2_ := Aside0.mk (Kd.R_mono (Kd.R_keep (IsS102.apart (show IsS102 w _ gb261 t277 t278 t279 from by repeat (first | (with_reducible first | exact (Aside0.mk (IsS102.of BK261.out GE261.out)).out | apply IsS102.alloc | apply IsS102.drewN | apply IsS102.drew | apply IsS102.set_0 | apply IsS102.set_1 | apply IsS102.set_2 | refine IsS102.far ?_ NB261_273.out _ | refine IsS102.far ?_ NB261_275.out _) | exact (Aside0.mk (IsS102.of BK261.out GE261.out)).out)) (by (with_reducible repeat (first | apply Kd.R_alloc | apply Kd.R_drewN | apply Kd.R_drew)); exact HO_274008.out) (by decide)) hk (fun _ h => h.2)) (fun _ h => h.1))
       have n3_ := Aside0.mk (KeepBut.blk hk (g' := gb273) (o := .cells #[.int .u16 0, .int .u16 0, .int .u16 t262, .int .u16 t263, .slice Ao10 t264.length co10, .slice Ao9 t267.length co9, .int .u8 0, .int .u8 0, u274008, .pointer none, .pointer none] 122 (0, 0)) (by (with_reducible repeat (first | refine b1_ ?_ _ | refine b2_ ?_ | refine b3_ ?_ _)); exact BK273.out) NB273_261.out (by simp))
       have n4_ := Aside0.mk (KeepBut.blk hk (g' := gb275) (o := .cells #[.int .i64 ((rd_T48 l2 x29_1).f0), .int .i64 ((rd_T48 l2 x29_1).f1)] 48 (0, 0)) (by (with_reducible repeat (first | refine b1_ ?_ _ | refine b2_ ?_ | refine b3_ ?_ _)); exact BK275.out) NB275_261.out (by simp))
       have n5_ := Aside0.mk (hb)
       have n6_ := Aside0.mk (IsS102.cells hi)
       clear HO_274004
       clear HO_274005
       clear HO_274008
       clear BK273
       clear BK275
       clear HB
       clear BK261
       have HO_274004 := n0_
       have HO_274005 := n1_
       have HO_274008 := n2_
       have BK273 := n3_
       have BK275 := n4_
       have HB := n5_
       have BK261 := n6_
       clear n0_ n1_ n2_ n3_ n4_ n5_ n6_
       (try clear hb)
       (try clear hb2)
       (try clear hk)
       (try clear hi)
       refine hK.out _ _ ⟨(blk_cell BK273.out 0).trans rfl, (blk_cell BK273.out 1).trans rfl, (blk_cell BK273.out 2).trans rfl, (blk_cell BK273.out 3).trans rfl, (blk_cell BK273.out 4).trans rfl, (blk_cell BK273.out 5).trans rfl, (blk_cell BK273.out 6).trans rfl, (blk_cell BK273.out 7).trans rfl, (blk_cell BK273.out 8).trans rfl, (blk_cell BK273.out 9).trans rfl, (blk_cell BK273.out 10).trans rfl, (blk_cell BK275.out 0).trans rfl, (blk_cell BK275.out 1).trans rfl⟩ (fun hHeld => ?_)
       clear hK K
       refine norm_ (a' := ?_) ?_ ?_
       rotate_left
       ·show Act.put _ (some 43) _ = _
        simp only [Act.put, L1_, L2_, L3_, i64_w, i32_w]
        rfl
       refine pure_ (i := 11) (N := some 44) (v := ?_) (a' := ?_) #[tt,tt,tt,tt,tt,tt,tt,tt,tt,tt,tt,tt,ff,ff,ff,ff,ff] rfl rfl (any_of HT_.out (by kernel_rfl)) (fun _ _ _ h => h) (Or.inl ⟨by rfl, ?_⟩) ?_ ?_
       rotate_left
       ·intro w'
        go_simp
        with_reducible rfl
       rotate_left
       ·simp only [Act.put, L1_, L2_, L3_, i64_w, i32_w]
        rfl
       refine one_ (i := 12) (N := some 45) #[tt,tt,tt,tt,tt,tt,tt,tt,tt,tt,tt,tt,tt,ff,ff,ff,ff] rfl rfl (one_of HT_.out (by kernel_rfl)) (by decide) (fun K hK => ?_)
       refine value_ (w1 := ?_) (v := ?_) (by rfl) rfl ?_ ?_
       rotate_left 2
       ·go_simp
        constructor
        ·rfl
        ·rfl
       refine hK.out _ _ ⟨(blk_cell (blk_alloc BK273.out _) 0).trans rfl, (blk_cell (blk_alloc BK273.out _) 1).trans rfl, (blk_cell (blk_alloc BK273.out _) 2).trans rfl, (blk_cell (blk_alloc BK273.out _) 3).trans rfl, (blk_cell (blk_alloc BK273.out _) 4).trans rfl, (blk_cell (blk_alloc BK273.out _) 5).trans rfl, (blk_cell (blk_alloc BK273.out _) 6).trans rfl, (blk_cell (blk_alloc BK273.out _) 7).trans rfl, (blk_cell (blk_alloc BK273.out _) 8).trans rfl, (blk_cell (blk_alloc BK273.out _) 9).trans rfl, (blk_cell (blk_alloc BK273.out _) 10).trans rfl, (blk_cell (blk_alloc BK275.out _) 0).trans rfl, (blk_cell (blk_alloc BK275.out _) 1).trans rfl⟩ (fun hHeld => ?_)
       clear hK K
       refine norm_ (a' := ?_) ?_ ?_
       rotate_left
       ·show Act.put _ (some 45) _ = _
        simp only [Act.put, L1_, L2_, L3_, i64_w, i32_w]
        rfl
       refine one_ (i := 13) (N := some 46) #[tt,tt,tt,tt,tt,tt,tt,tt,tt,tt,tt,tt,tt,tt,ff,ff,ff] rfl rfl (one_of HT_.out (by kernel_rfl)) (by decide) (fun K hK => ?_)
       refine Kd.R_append_step k115 (w0 := w) w.heap.size (by rfl) (.tmp 35) (.tmp 45) 117 115 (.agg #[(.int .u16 0), (.int .u16 0)]) 4 rfl Try.underlying117 info115 rfl (by decide) (by omega) u274008 x274008_1 (⟨t276, t280⟩ : S115) [.int .u16 t276, .int .u16 t280] (fun _ => True) (fun _ => False) rfl rfl ?aP (fun _ hk => hk.elim) ?aF ?aO ?aB ?aS ?aL ?_
       (case aP => exact k115_mkM _ _ _ (⟨t276, t280⟩ : S115))
       (case aB => exact (by repeat (first | (with_reducible first | exact HB.out | apply below_alloc | apply pw_below_drewN | apply below_drew1 | refine below_set ?_ GE261.out | refine below_set ?_ GE273.out | refine below_set ?_ GE275.out) | exact HB.out)))
       (case aF => exact (fun _ _ => trivial))
       (case aO => exact (by (with_reducible repeat (first | apply Kd.R_alloc | apply Kd.R_drewN | apply Kd.R_drew)); exact HO_274008.out))
       (case aS => exact (below_size (by repeat (first | (with_reducible first | exact HB.out | apply below_alloc | apply pw_below_drewN | apply below_drew1 | refine below_set ?_ GE261.out | refine below_set ?_ GE273.out | refine below_set ?_ GE275.out) | exact HB.out))))
       (case aL => have := LMc19.out; omega)
       intro v285 w28 ho hb hg hat
       rw [← Ny284.out] at ho
       have n0_ := Aside0.mk (Kd.S_over' (by (with_reducible repeat (first | apply Kd.S_alloc | apply Kd.S_drewN | apply Kd.S_drew)); exact HO_274004.out) (Kd.R_typed (by (with_reducible repeat (first | apply Kd.R_alloc | apply Kd.R_drewN | apply Kd.R_drew)); exact HO_274008.out)) (by decide) hg)
       have n1_ := Aside0.mk (Kd.R_over' (by (with_reducible repeat (first | apply Kd.R_alloc | apply Kd.R_drewN | apply Kd.R_drew)); exact HO_274005.out) (Kd.R_typed (by (with_reducible repeat (first | apply Kd.R_alloc | apply Kd.R_drewN | apply Kd.R_drew)); exact HO_274008.out)) (by decide) hg)
       have n2_ := Aside0.mk (blk_grown (g := gb261) (o := .cells #[.int .i64 t281, .int .i64 t282, .bool t283] 102 (0, 0)) (by (with_reducible repeat (first | refine b1_ ?_ _ | refine b2_ ?_ | refine b3_ ?_ _)); exact BK261.out) hg (Kd.R_ne HO_274008.out BK261.out (by decide)))
       have n3_ := Aside0.mk (blk_grown (g := gb273) (o := .cells #[.int .u16 0, .int .u16 0, .int .u16 t262, .int .u16 t263, .slice Ao10 t264.length co10, .slice Ao9 t267.length co9, .int .u8 0, .int .u8 0, u274008, .pointer none, .pointer none] 122 (0, 0)) (by (with_reducible repeat (first | refine b1_ ?_ _ | refine b2_ ?_ | refine b3_ ?_ _)); exact BK273.out) hg (Kd.R_ne HO_274008.out BK273.out (by decide)))
       have n4_ := Aside0.mk (blk_grown (g := gb275) (o := .cells #[.int .i64 ((rd_T48 l2 x29_1).f0), .int .i64 ((rd_T48 l2 x29_1).f1)] 48 (0, 0)) (by (with_reducible repeat (first | refine b1_ ?_ _ | refine b2_ ?_ | refine b3_ ?_ _)); exact BK275.out) hg (Kd.R_ne HO_274008.out BK275.out (by decide)))
       have n5_ := Aside0.mk (hb)
       have n6_ := Aside0.mk (ho)
       clear HO_274004
       clear HO_274005
       clear BK261
       clear BK273
       clear BK275
       clear HB
       clear HO_274008
       have HO_274004 := n0_
       have HO_274005 := n1_
       have BK261 := n2_
       have BK273 := n3_
       have BK275 := n4_
       have HB := n5_
       have HO286 := n6_
       clear n0_ n1_ n2_ n3_ n4_ n5_ n6_
       clear ho hb hg hat
       obtain ⟨Ao29, co29, eo29⟩ := Kd.R_slice HO286.out
       (first | subst eo29 | (injection eo29 with f1_ f2_ f3_; have f4_ := f1_.symm; have f5_ := f3_.symm; clear f1_ f2_ f3_; subst f4_; subst f5_))
       refine hK.out _ _ ⟨(blk_cell BK273.out 0).trans rfl, (blk_cell BK273.out 1).trans rfl, (blk_cell BK273.out 2).trans rfl, (blk_cell BK273.out 3).trans rfl, (blk_cell BK273.out 4).trans rfl, (blk_cell BK273.out 5).trans rfl, (blk_cell BK273.out 6).trans rfl, (blk_cell BK273.out 7).trans rfl, (blk_cell BK273.out 8).trans rfl, (blk_cell BK273.out 9).trans rfl, (blk_cell BK273.out 10).trans rfl, (blk_cell BK275.out 0).trans rfl, (blk_cell BK275.out 1).trans rfl⟩ (fun hHeld => ?_)
       clear hK K
       refine norm_ (a' := ?_) ?_ ?_
       rotate_left
       ·show Act.put _ (some 46) _ = _
        simp only [Act.put, L1_, L2_, L3_, i64_w, i32_w]
        rfl
       refine pure_ (i := 14) (N := some 47) (v := ?_) (a' := ?_) #[tt,tt,tt,tt,tt,tt,tt,tt,tt,tt,tt,tt,tt,tt,tt,ff,ff] rfl rfl (any_of HT_.out (by kernel_rfl)) (fun _ _ _ h => h) (Or.inl ⟨by rfl, ?_⟩) ?_ ?_
       rotate_left
       ·intro w'
        go_simp
        with_reducible rfl
       rotate_left
       ·simp only [Act.put, L1_, L2_, L3_, i64_w, i32_w]
        rfl
       refine pure_ (i := 15) (N := some 48) (v := ?_) (a' := ?_) #[tt,tt,tt,tt,tt,tt,tt,tt,tt,tt,tt,tt,tt,tt,tt,tt,ff] rfl rfl (any_of HT_.out (by kernel_rfl)) (fun _ _ _ h => h) (Or.inl ⟨by rfl, ?_⟩) ?_ ?_
       rotate_left
       ·intro w'
        go_simp
        with_reducible rfl
       rotate_left
       ·simp only [Act.put, L1_, L2_, L3_, i64_w, i32_w]
        rfl
       refine last_ (i := 16) (N := none) #[tt,tt,tt,tt,tt,tt,tt,tt,tt,tt,tt,tt,tt,tt,tt,tt,tt] rfl rfl (one_of HT_.out (by kernel_rfl)) (by decide) (fun K hK => ?_)
       have hs30 : w28.cell? ⟨gb273, 8, none⟩ = some (u274008) := (blk_cell BK273.out 8).trans rfl
       have hfs30 := blk_frozen BK273.out 8
       have hns30_0 := NB261_273.out
       have hns30_2 := NB275_273.out
       have hms30_0 := NB273_261.out
       have hms30_2 := NB273_275.out
       refine skip_ (w1 := ?_) (by rfl) rfl ?_ ?_
       rotate_left
       ·go_simp
        rfl
       refine hK.out _ _ ?_
       clear hK K
       refine done_ (done_of HT_.out (by kernel_rfl)) ?_
       try go_wp2
       go_roundg k1
       case measure => have := HK1.out; omega
       case rel => exact ⟨(wrap64 (x29_1 + 1)), (t281), (t282), (t283), (y284), (.slice Ao29 y284.length co29), (by first | rfl | (simp; done) | (simp [*]; done)), H', ⟨by have := HK1.out; omega⟩, ⟨by (with_reducible repeat (first | apply Kd.S_alloc | apply Kd.S_drewN | apply Kd.S_drew)); exact Kd.S_mono (Kd.S_far (p := ⟨gb273, 8, none⟩) (Kd.S_types HO_274004.out BK273.out (by decide)) (fun _ hk => hk.2) (.slice Ao29 y284.length co29)) (fun _ hk => trivial)⟩, ⟨by (with_reducible repeat (first | apply Kd.R_alloc | apply Kd.R_drewN | apply Kd.R_drew)); exact Kd.R_mono (Kd.R_far (p := ⟨gb273, 8, none⟩) (Kd.R_types HO_274005.out BK273.out (by decide)) (fun _ hk => hk.2) (.slice Ao29 y284.length co29)) (fun _ hk => trivial)⟩, ⟨by (with_reducible repeat (first | apply Kd.R_alloc | apply Kd.R_drewN | apply Kd.R_drew)); exact Kd.R_mono (Kd.R_far (p := ⟨gb273, 8, none⟩) (Kd.R_types HO286.out BK273.out (by decide)) (fun _ hk => hk.2) (.slice Ao29 y284.length co29)) (fun _ hk => trivial)⟩, ⟨by (with_reducible repeat (first | refine b1_ ?_ _ | refine b2_ ?_ | refine b3_ ?_ _)); refine blk_far ?_ NB261_273.out _; (with_reducible repeat (first | refine b1_ ?_ _ | refine b2_ ?_ | refine b3_ ?_ _)); exact BK261.out⟩, ⟨by (with_reducible repeat (first | refine b1_ ?_ _ | refine b2_ ?_ | refine b3_ ?_ _)); refine blk_put (cs := #[.int .u16 0, .int .u16 0, .int .u16 t262, .int .u16 t263, .slice Ao10 t264.length co10, .slice Ao9 t267.length co9, .int .u8 0, .int .u8 0, u274008, .pointer none, .pointer none]) ?_ 8 _ rfl; (with_reducible repeat (first | refine b1_ ?_ _ | refine b2_ ?_ | refine b3_ ?_ _)); exact BK273.out⟩, ⟨by repeat (first | (with_reducible first | exact HB.out | apply below_alloc | apply pw_below_drewN | apply below_drew1 | refine below_set ?_ GE261.out | refine below_set ?_ GE273.out | refine below_set ?_ GE275.out) | exact HB.out)⟩⟩
      ·rw [if_neg c19] at H
       exact absurd H (by simp)
     ·rw [if_neg c16] at H
      exact absurd H (by simp)
    ·rw [if_neg c15] at H
     exact absurd H (by simp)
   ·rw [if_neg c14] at H
    have c14b0 : decide (x29_1 < (l2.length : Int)) = false := decide_eq_false c14
    clear c14
    replace H := Option.bind_eq_some_iff.mp H
    obtain ⟨⟨t287, t288, t289, t290⟩, A310, H⟩ := H
    replace H : ((impl_builder_coords.f k1 t288 t289 t290 l4).bind fun bt291 => (if bt291.2.2.2 = true then (some (0, false)) else ((tables_HVAR_AdvanceDelta.f k1 0 0 t262 t263 t264 t267 0 0 x274008_1 () () t287 bt291.1).bind fun t297 => (some (t297, true))))) = some (r1, r2) := H
    have A31 := Aside0.mk A310
    clear A310
    replace H := Option.bind_eq_some_iff.mp H
    obtain ⟨⟨t291, t294, t295, t296⟩, A320, H⟩ := H
    replace H : (if t296 = true then (some (0, false)) else ((tables_HVAR_AdvanceDelta.f k1 0 0 t262 t263 t264 t267 0 0 x274008_1 () () t287 t291).bind fun t297 => (some (t297, true)))) = some (r1, r2) := H
    have A32 := Aside0.mk A320
    clear A320
    by_cases c33 : t296 = true
    ·subst c33
     have H1 : (some (0, false)) = some (r1, r2) := by rw [if_pos rfl] at H; exact H
     clear H
     have H := H1
     clear H1
     simp only [Option.some.injEq, Prod.mk.injEq] at H
     obtain ⟨rfl, rfl⟩ := H
     go_wp2_with (first | ((with_reducible refine gate_callee (f := 35) rfl ?_); refine goesL_ (some 52) rfl rfl Try.func35 (by kernel_rfl) rfl #[.pointer (some ⟨gb261, 0, none⟩), .int .i64 a3] rfl (by (try simp only [List.map_toArray, List.map_cons, List.map_nil]); first | done | rfl | (simp only [List.length_drop, List.length_take]; rfl)) ?_; (with_reducible refine (impl_builder_small.calls gb261 x262000_1 x262001_1 x262002_1 a3 t287 t288 t289 t290 w _ ?side1 ?side2 A31.out).mono ?_); (case side1 => repeat (first | (with_reducible first | exact (Aside0.mk (IsS102.of BK261.out GE261.out)).out | apply IsS102.alloc | apply IsS102.drewN | apply IsS102.drew | apply IsS102.set_0 | apply IsS102.set_1 | apply IsS102.set_2 | refine IsS102.far ?_ NB261_273.out _) | exact (Aside0.mk (IsS102.of BK261.out GE261.out)).out)); (case side2 => repeat (first | (with_reducible first | exact HB.out | apply below_alloc | apply pw_below_drewN | apply below_drew1 | refine below_set ?_ (IsS102.ge (Aside0.mk (IsS102.of BK261.out GE261.out)).out) | refine below_set ?_ GE273.out) | exact HB.out)); rintro e w34 ⟨rfl, hi, hb, hk⟩; refine ⟨_, rfl, ?_⟩; have n0_ := Aside0.mk (Kd.S_mono (Kd.S_keep (IsS102.apartS (show IsS102 w _ gb261 x262000_1 x262001_1 x262002_1 from by repeat (first | (with_reducible first | exact (Aside0.mk (IsS102.of BK261.out GE261.out)).out | apply IsS102.alloc | apply IsS102.drewN | apply IsS102.drew | apply IsS102.set_0 | apply IsS102.set_1 | apply IsS102.set_2 | refine IsS102.far ?_ NB261_273.out _) | exact (Aside0.mk (IsS102.of BK261.out GE261.out)).out)) (by (with_reducible repeat (first | apply Kd.S_alloc | apply Kd.S_drewN | apply Kd.S_drew)); exact HO_274004.out) (by decide)) hk (fun _ h => h.2)) (fun _ h => h.1)); have n1_ := Aside0.mk (Kd.R_mono (Kd.R_keep (IsS102.apart (show IsS102 w _ gb261 x262000_1 x262001_1 x262002_1 from by repeat (first | (with_reducible first | exact (Aside0.mk (IsS102.of BK261.out GE261.out)).out | apply IsS102.alloc | apply IsS102.drewN | apply IsS102.drew | apply IsS102.set_0 | apply IsS102.set_1 | apply IsS102.set_2 | refine IsS102.far ?_ NB261_273.out _) | exact (Aside0.mk (IsS102.of BK261.out GE261.out)).out)) (by (with_reducible repeat (first | apply Kd.R_alloc | apply Kd.R_drewN | apply Kd.R_drew)); exact HO_274005.out) (by decide)) hk (fun _ h => h.2)) (fun _ h => h.1)); have n2_ := Aside0.mk (Kd.R_mono (Kd.R_keep (IsS102.apart (show IsS102 w _ gb261 x262000_1 x262001_1 x262002_1 from by repeat (first | (with_reducible first | exact (Aside0.mk (IsS102.of BK261.out GE261.out)).out | apply IsS102.alloc | apply IsS102.drewN | apply IsS102.drew | apply IsS102.set_0 | apply IsS102.set_1 | apply IsS102.set_2 | refine IsS102.far ?_ NB261_273.out _) | exact (Aside0.mk (IsS102.of BK261.out GE261.out)).out)) (by (with_reducible repeat (first | apply Kd.R_alloc | apply Kd.R_drewN | apply Kd.R_drew)); exact HO_274008.out) (by decide)) hk (fun _ h => h.2)) (fun _ h => h.1)); have n3_ := Aside0.mk (KeepBut.blk hk (g' := gb273) (o := .cells #[.int .u16 0, .int .u16 0, .int .u16 t262, .int .u16 t263, .slice Ao10 t264.length co10, .slice Ao9 t267.length co9, .int .u8 0, .int .u8 0, u274008, .pointer none, .pointer none] 122 (0, 0)) (by (with_reducible repeat (first | refine b1_ ?_ _ | refine b2_ ?_ | refine b3_ ?_ _)); exact BK273.out) NB273_261.out (by simp)); have n4_ := Aside0.mk (hb); have n5_ := Aside0.mk (IsS102.cells hi); clear HO_274004; clear HO_274005; clear HO_274008; clear BK273; clear HB; clear BK261; have HO_274004 := n0_; have HO_274005 := n1_; have HO_274008 := n2_; have BK273 := n3_; have HB := n4_; have BK261 := n5_; clear n0_ n1_ n2_ n3_ n4_ n5_; (try clear hb); (try clear hb2); (try clear hk); (try clear hi)) | ((with_reducible refine gate_callee (f := 34) rfl ?_); refine goesL_ (some 55) rfl rfl Try.func34 (by kernel_rfl) rfl #[.pointer (some ⟨gb261, 0, none⟩), .slice A4 l4.length c4] rfl (by (try simp only [List.map_toArray, List.map_cons, List.map_nil]); first | done | rfl | (simp only [List.length_drop, List.length_take]; rfl)) ?_; (with_reducible refine (impl_builder_coords.calls k1 gb261 t288 t289 t290 _ _ l4 t291 t294 t295 true w _ ?side1 ?side2 ?side3 ?side4 ?side5 A32.out).mono ?_); (case side1 => repeat (first | (with_reducible first | exact (Aside0.mk (IsS102.of BK261.out GE261.out)).out | apply IsS102.alloc | apply IsS102.drewN | apply IsS102.drew | apply IsS102.set_0 | apply IsS102.set_1 | apply IsS102.set_2 | refine IsS102.far ?_ NB261_273.out _) | exact (Aside0.mk (IsS102.of BK261.out GE261.out)).out)); (case side2 => repeat (first | (with_reducible first | exact HB.out | apply below_alloc | apply pw_below_drewN | apply below_drew1 | refine below_set ?_ (IsS102.ge (Aside0.mk (IsS102.of BK261.out GE261.out)).out) | refine below_set ?_ GE273.out) | exact HB.out)); (case side3 => repeat (first | exact (Kd.C_below HR4.out HB.out) | (with_reducible refine Kd.C_alloc ?_ _) | (with_reducible refine Kd.C_drewN ?_ _) | (with_reducible refine Kd.C_drew ?_))); (case side4 => exact HC4.out); (case side5 => exact Kd.far_C 0 HR4.out (IsS102.ge (Aside0.mk (IsS102.of BK261.out GE261.out)).out)); rintro e w35 ⟨v292, rfl, ho0, hi, hb, hk⟩; refine ⟨_, rfl, ?_⟩; have n0_ := Aside0.mk (Kd.S_mono (Kd.S_keep (IsS102.apartS (show IsS102 w _ gb261 t288 t289 t290 from by repeat (first | (with_reducible first | exact (Aside0.mk (IsS102.of BK261.out GE261.out)).out | apply IsS102.alloc | apply IsS102.drewN | apply IsS102.drew | apply IsS102.set_0 | apply IsS102.set_1 | apply IsS102.set_2 | refine IsS102.far ?_ NB261_273.out _) | exact (Aside0.mk (IsS102.of BK261.out GE261.out)).out)) (by (with_reducible repeat (first | apply Kd.S_alloc | apply Kd.S_drewN | apply Kd.S_drew)); exact HO_274004.out) (by decide)) hk (fun _ h => h.2)) (fun _ h => h.1)); have n1_ := Aside0.mk (Kd.R_mono (Kd.R_keep (IsS102.apart (show IsS102 w _ gb261 t288 t289 t290 from by repeat (first | (with_reducible first | exact (Aside0.mk (IsS102.of BK261.out GE261.out)).out | apply IsS102.alloc | apply IsS102.drewN | apply IsS102.drew | apply IsS102.set_0 | apply IsS102.set_1 | apply IsS102.set_2 | refine IsS102.far ?_ NB261_273.out _) | exact (Aside0.mk (IsS102.of BK261.out GE261.out)).out)) (by (with_reducible repeat (first | apply Kd.R_alloc | apply Kd.R_drewN | apply Kd.R_drew)); exact HO_274005.out) (by decide)) hk (fun _ h => h.2)) (fun _ h => h.1)); have n2_ := Aside0.mk (Kd.R_mono (Kd.R_keep (IsS102.apart (show IsS102 w _ gb261 t288 t289 t290 from by repeat (first | (with_reducible first | exact (Aside0.mk (IsS102.of BK261.out GE261.out)).out | apply IsS102.alloc | apply IsS102.drewN | apply IsS102.drew | apply IsS102.set_0 | apply IsS102.set_1 | apply IsS102.set_2 | refine IsS102.far ?_ NB261_273.out _) | exact (Aside0.mk (IsS102.of BK261.out GE261.out)).out)) (by (with_reducible repeat (first | apply Kd.R_alloc | apply Kd.R_drewN | apply Kd.R_drew)); exact HO_274008.out) (by decide)) hk (fun _ h => h.2)) (fun _ h => h.1)); have n3_ := Aside0.mk (KeepBut.blk hk (g' := gb273) (o := .cells #[.int .u16 0, .int .u16 0, .int .u16 t262, .int .u16 t263, .slice Ao10 t264.length co10, .slice Ao9 t267.length co9, .int .u8 0, .int .u8 0, u274008, .pointer none, .pointer none] 122 (0, 0)) (by (with_reducible repeat (first | refine b1_ ?_ _ | refine b2_ ?_ | refine b3_ ?_ _)); exact BK273.out) NB273_261.out (by simp)); have n4_ := Aside0.mk (Kd.R_lower ho0 (below_size (by repeat (first | (with_reducible first | exact HB.out | apply below_alloc | apply pw_below_drewN | apply below_drew1 | refine below_set ?_ (IsS102.ge (Aside0.mk (IsS102.of BK261.out GE261.out)).out) | refine below_set ?_ GE273.out) | exact HB.out)))); have n5_ := Aside0.mk (hb); have n6_ := Aside0.mk (IsS102.cells hi); clear HO_274004; clear HO_274005; clear HO_274008; clear BK273; clear HB; clear BK261; have HO_274004 := n0_; have HO_274005 := n1_; have HO_274008 := n2_; have BK273 := n3_; have HO293 := n4_; have HB := n5_; have BK261 := n6_; clear n0_ n1_ n2_ n3_ n4_ n5_ n6_; (try clear hb); (try clear hb2); (try clear hk); (try clear hi); (try clear ho0); have hnb36 := NB261_273.out; have hnc36 := NB273_261.out; have hcz37_0 : w35.cell? ⟨gb261, 0, none⟩ = some (.int .i64 t294) := (blk_cell BK261.out 0).trans rfl; have hcz37_1 : w35.cell? ⟨gb261, 1, none⟩ = some (.int .i64 t295) := (blk_cell BK261.out 1).trans rfl; have hcz37_2 : w35.cell? ⟨gb261, 2, none⟩ = some (.bool true) := (blk_cell BK261.out 2).trans rfl; have hfz37_0 := blk_frozen BK261.out 0; have hfz37_1 := blk_frozen BK261.out 1; have hfz37_2 := blk_frozen BK261.out 2))
     go_ret2
     exact ⟨by first | rfl | (simp [errW_none, errW_some] <;> rfl) | (simp [*, errW_none, errW_some] <;> rfl), by repeat (first | (with_reducible first | exact HB.out | apply below_alloc | apply pw_below_drewN | apply below_drew1 | refine below_set ?_ GE261.out | refine below_set ?_ GE273.out) | exact HB.out)⟩
    ·replace c33 := Bool.eq_false_iff.mpr c33
     subst c33
     have H1 : ((tables_HVAR_AdvanceDelta.f k1 0 0 t262 t263 t264 t267 0 0 x274008_1 () () t287 t291).bind fun t297 => (some (t297, true))) = some (r1, r2) := by rw [if_neg (show ¬ (false = true) by decide)] at H; exact H
     clear H
     have H := H1
     clear H1
     replace H := Option.bind_eq_some_iff.mp H
     obtain ⟨t297, A380, H⟩ := H
     replace H : (some (t297, true)) = some (r1, r2) := H
     have A38 := Aside0.mk A380
     clear A380
     simp only [Option.some.injEq, Prod.mk.injEq] at H
     obtain ⟨rfl, rfl⟩ := H
     go_wp2_with (first | ((with_reducible refine gate_callee (f := 35) rfl ?_); refine goesL_ (some 52) rfl rfl Try.func35 (by kernel_rfl) rfl #[.pointer (some ⟨gb261, 0, none⟩), .int .i64 a3] rfl (by (try simp only [List.map_toArray, List.map_cons, List.map_nil]); first | done | rfl | (simp only [List.length_drop, List.length_take]; rfl)) ?_; (with_reducible refine (impl_builder_small.calls gb261 x262000_1 x262001_1 x262002_1 a3 t287 t288 t289 t290 w _ ?side1 ?side2 A31.out).mono ?_); (case side1 => repeat (first | (with_reducible first | exact (Aside0.mk (IsS102.of BK261.out GE261.out)).out | apply IsS102.alloc | apply IsS102.drewN | apply IsS102.drew | apply IsS102.set_0 | apply IsS102.set_1 | apply IsS102.set_2 | refine IsS102.far ?_ NB261_273.out _) | exact (Aside0.mk (IsS102.of BK261.out GE261.out)).out)); (case side2 => repeat (first | (with_reducible first | exact HB.out | apply below_alloc | apply pw_below_drewN | apply below_drew1 | refine below_set ?_ (IsS102.ge (Aside0.mk (IsS102.of BK261.out GE261.out)).out) | refine below_set ?_ GE273.out) | exact HB.out)); rintro e w39 ⟨rfl, hi, hb, hk⟩; refine ⟨_, rfl, ?_⟩; have n0_ := Aside0.mk (Kd.S_mono (Kd.S_keep (IsS102.apartS (show IsS102 w _ gb261 x262000_1 x262001_1 x262002_1 from by repeat (first | (with_reducible first | exact (Aside0.mk (IsS102.of BK261.out GE261.out)).out | apply IsS102.alloc | apply IsS102.drewN | apply IsS102.drew | apply IsS102.set_0 | apply IsS102.set_1 | apply IsS102.set_2 | refine IsS102.far ?_ NB261_273.out _) | exact (Aside0.mk (IsS102.of BK261.out GE261.out)).out)) (by (with_reducible repeat (first | apply Kd.S_alloc | apply Kd.S_drewN | apply Kd.S_drew)); exact HO_274004.out) (by decide)) hk (fun _ h => h.2)) (fun _ h => h.1)); have n1_ := Aside0.mk (Kd.R_mono (Kd.R_keep (IsS102.apart (show IsS102 w _ gb261 x262000_1 x262001_1 x262002_1 from by repeat (first | (with_reducible first | exact (Aside0.mk (IsS102.of BK261.out GE261.out)).out | apply IsS102.alloc | apply IsS102.drewN | apply IsS102.drew | apply IsS102.set_0 | apply IsS102.set_1 | apply IsS102.set_2 | refine IsS102.far ?_ NB261_273.out _) | exact (Aside0.mk (IsS102.of BK261.out GE261.out)).out)) (by (with_reducible repeat (first | apply Kd.R_alloc | apply Kd.R_drewN | apply Kd.R_drew)); exact HO_274005.out) (by decide)) hk (fun _ h => h.2)) (fun _ h => h.1)); have n2_ := Aside0.mk (Kd.R_mono (Kd.R_keep (IsS102.apart (show IsS102 w _ gb261 x262000_1 x262001_1 x262002_1 from by repeat (first | (with_reducible first | exact (Aside0.mk (IsS102.of BK261.out GE261.out)).out | apply IsS102.alloc | apply IsS102.drewN | apply IsS102.drew | apply IsS102.set_0 | apply IsS102.set_1 | apply IsS102.set_2 | refine IsS102.far ?_ NB261_273.out _) | exact (Aside0.mk (IsS102.of BK261.out GE261.out)).out)) (by (with_reducible repeat (first | apply Kd.R_alloc | apply Kd.R_drewN | apply Kd.R_drew)); exact HO_274008.out) (by decide)) hk (fun _ h => h.2)) (fun _ h => h.1)); have n3_ := Aside0.mk (KeepBut.blk hk (g' := gb273) (o := .cells #[.int .u16 0, .int .u16 0, .int .u16 t262, .int .u16 t263, .slice Ao10 t264.length co10, .slice Ao9 t267.length co9, .int .u8 0, .int .u8 0, u274008, .pointer none, .pointer none] 122 (0, 0)) (by (with_reducible repeat (first | refine b1_ ?_ _ | refine b2_ ?_ | refine b3_ ?_ _)); exact BK273.out) NB273_261.out (by simp)); have n4_ := Aside0.mk (hb); have n5_ := Aside0.mk (IsS102.cells hi); clear HO_274004; clear HO_274005; clear HO_274008; clear BK273; clear HB; clear BK261; have HO_274004 := n0_; have HO_274005 := n1_; have HO_274008 := n2_; have BK273 := n3_; have HB := n4_; have BK261 := n5_; clear n0_ n1_ n2_ n3_ n4_ n5_; (try clear hb); (try clear hb2); (try clear hk); (try clear hi)) | ((with_reducible refine gate_callee (f := 34) rfl ?_); refine goesL_ (some 55) rfl rfl Try.func34 (by kernel_rfl) rfl #[.pointer (some ⟨gb261, 0, none⟩), .slice A4 l4.length c4] rfl (by (try simp only [List.map_toArray, List.map_cons, List.map_nil]); first | done | rfl | (simp only [List.length_drop, List.length_take]; rfl)) ?_; (with_reducible refine (impl_builder_coords.calls k1 gb261 t288 t289 t290 _ _ l4 t291 t294 t295 false w _ ?side1 ?side2 ?side3 ?side4 ?side5 A32.out).mono ?_); (case side1 => repeat (first | (with_reducible first | exact (Aside0.mk (IsS102.of BK261.out GE261.out)).out | apply IsS102.alloc | apply IsS102.drewN | apply IsS102.drew | apply IsS102.set_0 | apply IsS102.set_1 | apply IsS102.set_2 | refine IsS102.far ?_ NB261_273.out _) | exact (Aside0.mk (IsS102.of BK261.out GE261.out)).out)); (case side2 => repeat (first | (with_reducible first | exact HB.out | apply below_alloc | apply pw_below_drewN | apply below_drew1 | refine below_set ?_ (IsS102.ge (Aside0.mk (IsS102.of BK261.out GE261.out)).out) | refine below_set ?_ GE273.out) | exact HB.out)); (case side3 => repeat (first | exact (Kd.C_below HR4.out HB.out) | (with_reducible refine Kd.C_alloc ?_ _) | (with_reducible refine Kd.C_drewN ?_ _) | (with_reducible refine Kd.C_drew ?_))); (case side4 => exact HC4.out); (case side5 => exact Kd.far_C 0 HR4.out (IsS102.ge (Aside0.mk (IsS102.of BK261.out GE261.out)).out)); rintro e w40 ⟨v292, rfl, ho0, hi, hb, hk⟩; refine ⟨_, rfl, ?_⟩; have n0_ := Aside0.mk (Kd.S_mono (Kd.S_keep (IsS102.apartS (show IsS102 w _ gb261 t288 t289 t290 from by repeat (first | (with_reducible first | exact (Aside0.mk (IsS102.of BK261.out GE261.out)).out | apply IsS102.alloc | apply IsS102.drewN | apply IsS102.drew | apply IsS102.set_0 | apply IsS102.set_1 | apply IsS102.set_2 | refine IsS102.far ?_ NB261_273.out _) | exact (Aside0.mk (IsS102.of BK261.out GE261.out)).out)) (by (with_reducible repeat (first | apply Kd.S_alloc | apply Kd.S_drewN | apply Kd.S_drew)); exact HO_274004.out) (by decide)) hk (fun _ h => h.2)) (fun _ h => h.1)); have n1_ := Aside0.mk (Kd.R_mono (Kd.R_keep (IsS102.apart (show IsS102 w _ gb261 t288 t289 t290 from by repeat (first | (with_reducible first | exact (Aside0.mk (IsS102.of BK261.out GE261.out)).out | apply IsS102.alloc | apply IsS102.drewN | apply IsS102.drew | apply IsS102.set_0 | apply IsS102.set_1 | apply IsS102.set_2 | refine IsS102.far ?_ NB261_273.out _) | exact (Aside0.mk (IsS102.of BK261.out GE261.out)).out)) (by (with_reducible repeat (first | apply Kd.R_alloc | apply Kd.R_drewN | apply Kd.R_drew)); exact HO_274005.out) (by decide)) hk (fun _ h => h.2)) (fun _ h => h.1)); have n2_ := Aside0.mk (Kd.R_mono (Kd.R_keep (IsS102.apart (show IsS102 w _ gb261 t288 t289 t290 from by repeat (first | (with_reducible first | exact (Aside0.mk (IsS102.of BK261.out GE261.out)).out | apply IsS102.alloc | apply IsS102.drewN | apply IsS102.drew | apply IsS102.set_0 | apply IsS102.set_1 | apply IsS102.set_2 | refine IsS102.far ?_ NB261_273.out _) | exact (Aside0.mk (IsS102.of BK261.out GE261.out)).out)) (by (with_reducible repeat (first | apply Kd.R_alloc | apply Kd.R_drewN | apply Kd.R_drew)); exact HO_274008.out) (by decide)) hk (fun _ h => h.2)) (fun _ h => h.1)); have n3_ := Aside0.mk (KeepBut.blk hk (g' := gb273) (o := .cells #[.int .u16 0, .int .u16 0, .int .u16 t262, .int .u16 t263, .slice Ao10 t264.length co10, .slice Ao9 t267.length co9, .int .u8 0, .int .u8 0, u274008, .pointer none, .pointer none] 122 (0, 0)) (by (with_reducible repeat (first | refine b1_ ?_ _ | refine b2_ ?_ | refine b3_ ?_ _)); exact BK273.out) NB273_261.out (by simp)); have n4_ := Aside0.mk (Kd.R_lower ho0 (below_size (by repeat (first | (with_reducible first | exact HB.out | apply below_alloc | apply pw_below_drewN | apply below_drew1 | refine below_set ?_ (IsS102.ge (Aside0.mk (IsS102.of BK261.out GE261.out)).out) | refine below_set ?_ GE273.out) | exact HB.out)))); have n5_ := Aside0.mk (hb); have n6_ := Aside0.mk (IsS102.cells hi); clear HO_274004; clear HO_274005; clear HO_274008; clear BK273; clear HB; clear BK261; have HO_274004 := n0_; have HO_274005 := n1_; have HO_274008 := n2_; have BK273 := n3_; have HO293 := n4_; have HB := n5_; have BK261 := n6_; clear n0_ n1_ n2_ n3_ n4_ n5_ n6_; (try clear hb); (try clear hb2); (try clear hk); (try clear hi); (try clear ho0); have hnb41 := NB261_273.out; have hnc41 := NB273_261.out; have hcz42_0 : w40.cell? ⟨gb261, 0, none⟩ = some (.int .i64 t294) := (blk_cell BK261.out 0).trans rfl; have hcz42_1 : w40.cell? ⟨gb261, 1, none⟩ = some (.int .i64 t295) := (blk_cell BK261.out 1).trans rfl; have hcz42_2 : w40.cell? ⟨gb261, 2, none⟩ = some (.bool false) := (blk_cell BK261.out 2).trans rfl; have hfz42_0 := blk_frozen BK261.out 0; have hfz42_1 := blk_frozen BK261.out 1; have hfz42_2 := blk_frozen BK261.out 2; obtain ⟨Ao43, co43, eo43⟩ := Kd.R_slice HO_274008.out; subst eo43; obtain ⟨Ao44, co44, eo44⟩ := Kd.R_slice HO293.out; subst eo44) | ((with_reducible refine gate_callee (f := 37) rfl ?_); refine goesL_ (some 62) rfl rfl Try.func37 (by kernel_rfl) rfl #[.pointer (some ⟨gb273, 0, none⟩), .int .u16 t287, .slice Ao44 t291.length co44] rfl (by (try simp only [List.map_toArray, List.map_cons, List.map_nil]); first | done | rfl | (simp only [List.length_drop, List.length_take]; rfl)) ?_; (with_reducible refine (tables_HVAR_AdvanceDelta.calls k1 gb273 0 0 t262 t263 _ _ t264 _ _ t267 0 0 _ _ x274008_1 () () t287 _ _ t291 t297 _ ?side1 ?side2 ?side3 ?side4 ?side5 ?side6 ?side7 ?side8 ?side9 A38.out).mono ?_); (case side1 => (with_reducible repeat (first | refine b1_ ?_ _ | refine b2_ ?_ | refine b3_ ?_ _)); exact BK273.out); (case side2 => repeat (first | exact (Kd.S_reads' HO_274004.out).2.2 | (with_reducible refine Kd.C_alloc ?_ _) | (with_reducible refine Kd.C_drewN ?_ _) | (with_reducible refine Kd.C_drew ?_))); (case side3 => exact (Kd.S_reads' HO_274004.out).2.1); (case side4 => repeat (first | exact (Kd.R_reads' HO_274005.out).2.2 | (with_reducible refine Kd.C_alloc ?_ _) | (with_reducible refine Kd.C_drewN ?_ _) | (with_reducible refine Kd.C_drew ?_))); (case side5 => exact (Kd.R_reads' HO_274005.out).2.1); (case side6 => repeat (first | exact (Kd.R_reads' HO_274008.out).2.2 | (with_reducible refine Kd.C_alloc ?_ _) | (with_reducible refine Kd.C_drewN ?_ _) | (with_reducible refine Kd.C_drew ?_))); (case side7 => exact (Kd.R_reads' HO_274008.out).2.1); (case side8 => repeat (first | exact (Kd.R_reads' HO293.out).2.2 | (with_reducible refine Kd.C_alloc ?_ _) | (with_reducible refine Kd.C_drewN ?_ _) | (with_reducible refine Kd.C_drew ?_))); (case side9 => exact (Kd.R_reads' HO293.out).2.1); rintro e w45 ⟨rfl, hb⟩; refine ⟨_, rfl, ?_⟩; have n0_ := Aside0.mk (Kd.S_below (by (with_reducible repeat (first | apply Kd.S_alloc | apply Kd.S_drewN | apply Kd.S_drew)); exact HO_274004.out) hb); have n1_ := Aside0.mk (Kd.R_below (by (with_reducible repeat (first | apply Kd.R_alloc | apply Kd.R_drewN | apply Kd.R_drew)); exact HO_274005.out) hb); have n2_ := Aside0.mk (Kd.R_below (by (with_reducible repeat (first | apply Kd.R_alloc | apply Kd.R_drewN | apply Kd.R_drew)); exact HO_274008.out) hb); have n3_ := Aside0.mk (Kd.R_below (by (with_reducible repeat (first | apply Kd.R_alloc | apply Kd.R_drewN | apply Kd.R_drew)); exact HO293.out) hb); have n4_ := Aside0.mk (blk_below (g := gb261) (o := .cells #[.int .i64 t294, .int .i64 t295, .bool false] 102 (0, 0)) (by (with_reducible repeat (first | refine b1_ ?_ _ | refine b2_ ?_ | refine b3_ ?_ _)); exact BK261.out) hb); have n5_ := Aside0.mk (blk_below (g := gb273) (o := .cells #[.int .u16 0, .int .u16 0, .int .u16 t262, .int .u16 t263, .slice Ao10 t264.length co10, .slice Ao9 t267.length co9, .int .u8 0, .int .u8 0, .slice Ao43 x274008_1.length co43, .pointer none, .pointer none] 122 (0, 0)) (by (with_reducible repeat (first | refine b1_ ?_ _ | refine b2_ ?_ | refine b3_ ?_ _)); exact BK273.out) hb); have n6_ := Aside0.mk (below_step (by repeat (first | (with_reducible first | exact HB.out | apply below_alloc | apply pw_below_drewN | apply below_drew1 | refine below_set ?_ GE261.out | refine below_set ?_ GE273.out) | exact HB.out)) hb); clear HO_274004; clear HO_274005; clear HO_274008; clear HO293; clear BK261; clear BK273; clear HB; have HO_274004 := n0_; have HO_274005 := n1_; have HO_274008 := n2_; have HO293 := n3_; have BK261 := n4_; have BK273 := n5_; have HB := n6_; clear n0_ n1_ n2_ n3_ n4_ n5_ n6_; (try clear hb); (try clear hb2); (try clear hk); (try clear hi)))
     refine (tables_HVAR_AdvanceDelta.calls k1 gb273 0 0 t262 t263 _ _ t264 _ _ t267 0 0 _ _ x274008_1 () () t287 _ _ t291 t297 _ BK273.out (Kd.S_reads' HO_274004.out).2.2 (Kd.S_reads' HO_274004.out).2.1 (Kd.R_reads' HO_274005.out).2.2 (Kd.R_reads' HO_274005.out).2.1 (Kd.R_reads' HO_274008.out).2.2 (Kd.R_reads' HO_274008.out).2.1 (Kd.R_reads' HO293.out).2.2 (Kd.R_reads' HO293.out).2.1 A38.out).mono ?_
     rintro e w45b ⟨rfl, hbL⟩
     have HB := Aside0.mk (below_step HB.out hbL)
     go_wp2
     go_ret2
     exact ⟨by first | rfl | (simp [errW_none, errW_some] <;> rfl) | (simp [*, errW_none, errW_some] <;> rfl), by repeat (first | (with_reducible first | exact HB.out | apply below_alloc | apply pw_below_drewN | apply below_drew1 | refine below_set ?_ GE261.out | refine below_set ?_ GE273.out) | exact HB.out)⟩

end Go.Proofs.Ytlbmfnjhpojghaa.PFnAdvanceDelta
