-- Written by a program of this session (xprint) out of the translation; Lean checks it.
import Derived.Test.YtchkmmbedgolbaaPFnGlyphSpotsx0
import Derived.Test.YtchkmmbedgolbaaPFnGlyphSpotsx6
namespace Go.Proofs.Ytchkmmbedgolbaa.PFnGlyphSpots
open Go.RowKit Go.Proofs.YtchkmmbedgolbaaW.PrintWords Go.Proofs.YtchkmmbedgolbaaW.PrintLast Go.Proofs.YtchkmmbedgolbaaW.PrintMore
attribute [local go_sem] max2_int min2_int max_two min_two max_three min_three max_four min_four   -- for this text's walks alone
set_option linter.unusedVariables false
set_option linter.unusedSimpArgs false

/-! ### impl_GlyphSpots: function 19 -/
mutual
def impl_GlyphSpots.l0 : Nat → List (List (S51)) → Int → List Int → Int → Int → Int → Int → Int → Int → List Int → Unit → List (S123) → Option ((List (List (S51))) × Int × Int × Int × Int × Bool × Bool)
 | 0, _, _, _, _, _, _, _, _, _, _, _, _ => none
 | k + 1, x2, x11, x48, x49, x50, x165000, x165001, x165002, x165003, x182000, x182001, x182002 => if x50 < x49 then (if 0 ≤ x50 then (if x50 < (x48.length : Int) then (if (wrap64 (rd x48 x50)) < x11 then (impl_GlyphSpots.j1 k x2 x11 (rd x48 x50) x48 x49 x50 true x165000 x165001 x165002 x165003 x182000 x182001 x182002) else (impl_GlyphSpots.j1 k x2 x11 (rd x48 x50) x48 x49 x50 (decide ((wrap64 (rd x48 x50)) ≥ (x182002.length : Int))) x165000 x165001 x165002 x165003 x182000 x182001 x182002)) else (none)) else (none)) else (some (x2, x165000, x165001, x165002, x165003, true, true))
def impl_GlyphSpots.j1 : Nat → List (List (S51)) → Int → Int → List Int → Int → Int → Bool → Int → Int → Int → Int → List Int → Unit → List (S123) → Option ((List (List (S51))) × Int × Int × Int × Int × Bool × Bool)
 | 0, _, _, _, _, _, _, _, _, _, _, _, _, _, _ => none
 | k + 1, x2, x11, x13, x48, x49, x50, x65, x165000, x165001, x165002, x165003, x182000, x182001, x182002 => if x65 = true then (some (([] : List (List (S51))), x165000, x165001, x165002, x165003, true, false)) else (impl_GlyphSpots.l1 k x2 x11 x13 ([] : List (S51)) x48 x49 x50 x165000 x165001 x165002 x165003 x182000 x182001 x182002)
def impl_GlyphSpots.l1 : Nat → List (List (S51)) → Int → Int → List (S51) → List Int → Int → Int → Int → Int → Int → Int → List Int → Unit → List (S123) → Option ((List (List (S51))) × Int × Int × Int × Int × Bool × Bool)
 | 0, _, _, _, _, _, _, _, _, _, _, _, _, _, _ => none
 | k + 1, x2, x11, x13, x14, x48, x49, x50, x165000, x165001, x165002, x165003, x182000, x182001, x182002 => if x11 ≤ (wrap64 (x13)) then (if 0 ≤ x11 then (if x11 < (x182002.length : Int) then (if x14.length < 5864062014805 then (impl_GlyphSpots.l1 k x2 (wrap64 (x11 + 1)) x13 (x14 ++ [(⟨((Go.bits .and .u8 ((rd_T123 x182002 x11).f0) 1) != 0), wrap64 ((rd_T123 x182002 x11).f1), wrap64 ((rd_T123 x182002 x11).f2)⟩ : S51)]) x48 x49 x50 x165000 x165001 x165002 x165003 x182000 x182001 x182002) else (none)) else (none)) else (none)) else (if x2.length < 5864062014805 then (impl_GlyphSpots.l0 k (x2 ++ [x14]) x11 x48 x49 (wrap64 (x50 + 1)) x165000 x165001 x165002 x165003 x182000 x182001 x182002) else (none))
end
def impl_GlyphSpots.f (k : Nat) (l0 : List Int) : Option ((List (List (S51))) × Int × Int × Int × Int × Bool × Bool) := (tables_ParseGlyph.f k l0).bind fun bt165 => (if bt165.2.2.2.2.2.2.2.2.2.isNone = true then (impl_GlyphSpots.l0 k ([] : List (List (S51))) 0 bt165.2.2.2.2.2.1 (bt165.2.2.2.2.2.1.length : Int) 0 (wrap64 (bt165.2.1)) (wrap64 (bt165.2.2.1)) (wrap64 (bt165.2.2.2.1)) (wrap64 (bt165.2.2.2.2.1)) bt165.2.2.2.2.2.1 bt165.2.2.2.2.2.2.1 bt165.2.2.2.2.2.2.2.1) else (some (([] : List (List (S51))), 0, 0, 0, 0, false, false)))
theorem impl_GlyphSpots.mono_l : ∀ k, (∀ y0 y1 y2 y3 y4 y5 y6 y7 y8 y9 y10 y11, LeO (impl_GlyphSpots.l0 k y0 y1 y2 y3 y4 y5 y6 y7 y8 y9 y10 y11) (impl_GlyphSpots.l0 (k + 1) y0 y1 y2 y3 y4 y5 y6 y7 y8 y9 y10 y11)) ∧ (∀ y0 y1 y2 y3 y4 y5 y6 y7 y8 y9 y10 y11 y12 y13, LeO (impl_GlyphSpots.j1 k y0 y1 y2 y3 y4 y5 y6 y7 y8 y9 y10 y11 y12 y13) (impl_GlyphSpots.j1 (k + 1) y0 y1 y2 y3 y4 y5 y6 y7 y8 y9 y10 y11 y12 y13)) ∧ (∀ y0 y1 y2 y3 y4 y5 y6 y7 y8 y9 y10 y11 y12 y13, LeO (impl_GlyphSpots.l1 k y0 y1 y2 y3 y4 y5 y6 y7 y8 y9 y10 y11 y12 y13) (impl_GlyphSpots.l1 (k + 1) y0 y1 y2 y3 y4 y5 y6 y7 y8 y9 y10 y11 y12 y13))
 | 0 => ⟨fun _ _ _ _ _ _ _ _ _ _ _ _ r h => by simp [impl_GlyphSpots.l0] at h, fun _ _ _ _ _ _ _ _ _ _ _ _ _ _ r h => by simp [impl_GlyphSpots.j1] at h, fun _ _ _ _ _ _ _ _ _ _ _ _ _ _ r h => by simp [impl_GlyphSpots.l1] at h⟩
 | k + 1 => by
  obtain ⟨ih0, ih1, ih2⟩ := impl_GlyphSpots.mono_l k
  refine ⟨?_, ?_, ?_⟩
  ·intro y0 y1 y2 y3 y4 y5 y6 y7 y8 y9 y10 y11
   unfold impl_GlyphSpots.l0
   repeat' first
   | (with_reducible exact ih0 _ _ _ _ _ _ _ _ _ _ _ _)
   | (with_reducible exact ih1 _ _ _ _ _ _ _ _ _ _ _ _ _ _)
   | (with_reducible exact ih2 _ _ _ _ _ _ _ _ _ _ _ _ _ _)
   | (with_reducible exact tables_ParseGlyph.mono _ _)
   | (with_reducible exact LeO.refl _)
   | (with_reducible exact LeO.none _)
   | (with_reducible refine LeO.ite ?_ ?_)
   | (with_reducible refine LeO.bind ?_ (fun _ => ?_))
   | exact ih0 _ _ _ _ _ _ _ _ _ _ _ _
   | exact ih1 _ _ _ _ _ _ _ _ _ _ _ _ _ _
   | exact ih2 _ _ _ _ _ _ _ _ _ _ _ _ _ _
   | exact tables_ParseGlyph.mono _ _
   | exact LeO.none _
   | refine LeO.ite ?_ ?_
   | refine LeO.bind ?_ (fun _ => ?_)
  ·intro y0 y1 y2 y3 y4 y5 y6 y7 y8 y9 y10 y11 y12 y13
   unfold impl_GlyphSpots.j1
   repeat' first
   | (with_reducible exact ih0 _ _ _ _ _ _ _ _ _ _ _ _)
   | (with_reducible exact ih1 _ _ _ _ _ _ _ _ _ _ _ _ _ _)
   | (with_reducible exact ih2 _ _ _ _ _ _ _ _ _ _ _ _ _ _)
   | (with_reducible exact tables_ParseGlyph.mono _ _)
   | (with_reducible exact LeO.refl _)
   | (with_reducible exact LeO.none _)
   | (with_reducible refine LeO.ite ?_ ?_)
   | (with_reducible refine LeO.bind ?_ (fun _ => ?_))
   | exact ih0 _ _ _ _ _ _ _ _ _ _ _ _
   | exact ih1 _ _ _ _ _ _ _ _ _ _ _ _ _ _
   | exact ih2 _ _ _ _ _ _ _ _ _ _ _ _ _ _
   | exact tables_ParseGlyph.mono _ _
   | exact LeO.none _
   | refine LeO.ite ?_ ?_
   | refine LeO.bind ?_ (fun _ => ?_)
  ·intro y0 y1 y2 y3 y4 y5 y6 y7 y8 y9 y10 y11 y12 y13
   unfold impl_GlyphSpots.l1
   repeat' first
   | (with_reducible exact ih0 _ _ _ _ _ _ _ _ _ _ _ _)
   | (with_reducible exact ih1 _ _ _ _ _ _ _ _ _ _ _ _ _ _)
   | (with_reducible exact ih2 _ _ _ _ _ _ _ _ _ _ _ _ _ _)
   | (with_reducible exact tables_ParseGlyph.mono _ _)
   | (with_reducible exact LeO.refl _)
   | (with_reducible exact LeO.none _)
   | (with_reducible refine LeO.ite ?_ ?_)
   | (with_reducible refine LeO.bind ?_ (fun _ => ?_))
   | exact ih0 _ _ _ _ _ _ _ _ _ _ _ _
   | exact ih1 _ _ _ _ _ _ _ _ _ _ _ _ _ _
   | exact ih2 _ _ _ _ _ _ _ _ _ _ _ _ _ _
   | exact tables_ParseGlyph.mono _ _
   | exact LeO.none _
   | refine LeO.ite ?_ ?_
   | refine LeO.bind ?_ (fun _ => ?_)
theorem impl_GlyphSpots.mono : ∀ a0 k, LeO (impl_GlyphSpots.f k a0) (impl_GlyphSpots.f (k + 1) a0) := by
 intro a0 k
 obtain ⟨ih0, ih1, ih2⟩ := impl_GlyphSpots.mono_l k
 unfold impl_GlyphSpots.f
 repeat' first
   | (with_reducible exact ih0 _ _ _ _ _ _ _ _ _ _ _ _)
   | (with_reducible exact ih1 _ _ _ _ _ _ _ _ _ _ _ _ _ _)
   | (with_reducible exact ih2 _ _ _ _ _ _ _ _ _ _ _ _ _ _)
   | (with_reducible exact tables_ParseGlyph.mono _ _)
   | (with_reducible exact LeO.refl _)
   | (with_reducible exact LeO.none _)
   | (with_reducible refine LeO.ite ?_ ?_)
   | (with_reducible refine LeO.bind ?_ (fun _ => ?_))
   | exact ih0 _ _ _ _ _ _ _ _ _ _ _ _
   | exact ih1 _ _ _ _ _ _ _ _ _ _ _ _ _ _
   | exact ih2 _ _ _ _ _ _ _ _ _ _ _ _ _ _
   | exact tables_ParseGlyph.mono _ _
   | exact LeO.none _
   | refine LeO.ite ?_ ?_
   | refine LeO.bind ?_ (fun _ => ?_)
set_option maxHeartbeats 8000000 in
set_option maxRecDepth 100000 in
theorem impl_GlyphSpots.calls (k : Nat) (A0 : Option Addr) (c0 : Nat) (l0 : List Int) (r1 : List (List (S51))) (r2 : Int) (r3 : Int) (r4 : Int) (r5 : Int) (r6 : Bool) (r7 : Bool) (w : World) (hr0 : Kd.C (Kd.int .u8) w A0 l0.length l0) (hc0 : l0.length ≤ c0) (h : impl_GlyphSpots.f k l0 = some (r1, r2, r3, r4, r5, r6, r7)) :
  Calls Try.prog 19 #[.slice A0 l0.length c0] w fun e w' => ∃ v0_ : Value, e = .returned (.tuple #[v0_, .agg #[.int .i64 r2, .int .i64 r3, .int .i64 r4, .int .i64 r5], .bool r6, .bool r7]) ∧ Kd.S (Kd.slice 51 k51) 52 w' w.heap.size (fun _ => True) v0_ r1 ∧ Below w.heap.size w w' := by
 have hu49 := Try.underlying49
 have hu113 := Try.underlying113
 have hu111 := Try.underlying111
 have hu120 := Try.underlying120
 have hu123 := Try.underlying123
 have hu51 := Try.underlying51
 have hu115 := Try.underlying115
 have hta111 : ∀ (v : Value) (W : World), (Instr.typeAssert (.iface 120 v) 111 120 true).run Try.prog W = .ok (.tuple #[v, .bool true]) W := fun v W => by rfl
 have HR0 := Aside0.mk hr0
 have HC0 := Aside0.mk hc0
 clear hr0 hc0
 have HB := Aside0.mk (Below.refl w.heap.size w)
 have H : ((tables_ParseGlyph.f k l0).bind fun bt165 => (if bt165.2.2.2.2.2.2.2.2.2.isNone = true then (impl_GlyphSpots.l0 k ([] : List (List (S51))) 0 bt165.2.2.2.2.2.1 (bt165.2.2.2.2.2.1.length : Int) 0 (wrap64 (bt165.2.1)) (wrap64 (bt165.2.2.1)) (wrap64 (bt165.2.2.2.1)) (wrap64 (bt165.2.2.2.2.1)) bt165.2.2.2.2.2.1 bt165.2.2.2.2.2.2.1 bt165.2.2.2.2.2.2.2.1) else (some (([] : List (List (S51))), 0, 0, 0, 0, false, false)))) = some (r1, r2, r3, r4, r5, r6, r7) := h
 clear h
 replace H := Option.bind_eq_some_iff.mp H
 obtain ⟨⟨t165, t166, t167, t168, t169, t170, t173, t174, t177, t178⟩, A20, H⟩ := H
 replace H : (if t178.isNone = true then (impl_GlyphSpots.l0 k ([] : List (List (S51))) 0 t170 (t170.length : Int) 0 (wrap64 (t166)) (wrap64 (t167)) (wrap64 (t168)) (wrap64 (t169)) t170 t173 t174) else (some (([] : List (List (S51))), 0, 0, 0, 0, false, false))) = some (r1, r2, r3, r4, r5, r6, r7) := H
 have A2 := Aside0.mk A20
 clear A20
 rcases t178 with _ | q180
 ·have H1 : (impl_GlyphSpots.l0 k ([] : List (List (S51))) 0 t170 (t170.length : Int) 0 (wrap64 (t166)) (wrap64 (t167)) (wrap64 (t168)) (wrap64 (t169)) t170 t173 t174) = some (r1, r2, r3, r4, r5, r6, r7) := by rw [if_pos (show (none : Option Int).isNone = true by rfl)] at H; exact H
  clear H
  have H := H1
  clear H1
  try simp only [errW_none, errW_some]
  have H' := Aside0.mk H
  clear H
  go_enter Try.func19, Try.ntmps19
  go_wp2_with (first | ((with_reducible refine gate_dst (N := 3) rfl ?_); (try (refine gate_guard (by rfl) ?_; dsimp only)); refine box_event ?hg (N := 3) ?hd (cs := #[.int .i64 0, .int .i64 0, .int .i64 0, .int .i64 0]) (t := 49) ?hr ?_; (case hd => rfl); (case hg => rfl); (case hr => first | (go_simp; done) | (go_simp; rfl)); intro gb164 hg w3 hbox hb; have n0_ := Aside0.mk (below_step (by repeat (first | (with_reducible first | exact HB.out | apply below_alloc | apply pw_below_drewN | apply below_drew1) | exact HB.out)) hb); have n1_ := Aside0.mk (hbox); have n2_ := Aside0.mk ((by rw [hg]; exact (below_size (by repeat (first | (with_reducible first | exact HB.out | apply below_alloc | apply pw_below_drewN | apply below_drew1) | exact HB.out))) : w.heap.size ≤ gb164)); have n3_ := Aside0.mk ((by rw [hg]; exact (below_size (by repeat (first | (with_reducible first | exact HB.out | apply below_alloc | apply pw_below_drewN | apply below_drew1) | exact HB.out))) : w.heap.size ≤ gb164)); clear HB; have HB := n0_; have BK164 := n1_; have GW164 := n2_; have GE164 := n3_; clear n0_ n1_ n2_ n3_; clear hb hbox hg) | ((with_reducible refine gate_callee (f := 39) rfl ?_); refine goesL_ (some 18) rfl rfl Try.func39 (by kernel_rfl) rfl #[.slice A0 l0.length c0] rfl (by (try simp only [List.map_toArray, List.map_cons, List.map_nil]); first | done | rfl | (simp only [List.length_drop, List.length_take]; rfl)) ?_; (with_reducible refine (tables_ParseGlyph.calls k _ _ l0 t165 t166 t167 t168 t169 t170 t173 t174 t177 none _ ?side1 ?side2 A2.out).mono ?_); (case side1 => repeat (first | exact (Kd.C_below HR0.out HB.out) | (with_reducible refine Kd.C_alloc ?_ _) | (with_reducible refine Kd.C_drewN ?_ _) | (with_reducible refine Kd.C_drew ?_))); (case side2 => exact HC0.out); rintro e w6 ⟨v171, A6_, nI6_, c6_, v175, ev4, rfl, ho0, ho1, he5, hb⟩; refine ⟨_, rfl, ?_⟩; have n0_ := Aside0.mk (Kd.R_lower ho0 (below_size (by repeat (first | (with_reducible first | exact HB.out | apply below_alloc | apply pw_below_drewN | apply below_drew1 | refine below_set ?_ GE164.out) | exact HB.out)))); have n1_ := Aside0.mk (Kd.R_lower ho1 (below_size (by repeat (first | (with_reducible first | exact HB.out | apply below_alloc | apply pw_below_drewN | apply below_drew1 | refine below_set ?_ GE164.out) | exact HB.out)))); have n2_ := Aside0.mk (blk_below (g := gb164) (o := .cells #[.int .i64 0, .int .i64 0, .int .i64 0, .int .i64 0] 49 (0, 0)) (by (with_reducible repeat (first | refine b1_ ?_ _ | refine b2_ ?_ | refine b3_ ?_ _)); exact BK164.out) hb); have n3_ := Aside0.mk (below_step (by repeat (first | (with_reducible first | exact HB.out | apply below_alloc | apply pw_below_drewN | apply below_drew1 | refine below_set ?_ GE164.out) | exact HB.out)) hb); clear BK164; clear HB; have HO172 := n0_; have HO176 := n1_; have BK164 := n2_; have HB := n3_; clear n0_ n1_ n2_ n3_; (try clear hb); (try clear hb2); (try clear hk); (try clear hi); (try clear ho0); (try clear ho1); (first | (obtain rfl := EV_none he5) | (obtain ⟨te_, pe_, rfl⟩ := EV_some he5) | skip)) | ((with_reducible refine gate_dst (N := 6) rfl ?_); refine box_event ?hg (N := 6) ?hd (cs := #[.int .i16 0, .int .i16 0, .int .i16 0, .int .i16 0, .int .i16 0, .nilIface]) (t := 113) ?hr ?_; (case hd => rfl); (case hg => rfl); (case hr => first | (go_simp; done) | (go_simp; rfl)); intro gb179 hg w7 hbox hb; have n0_ := Aside0.mk (Kd.R_below HO172.out hb); have n1_ := Aside0.mk (Kd.R_below HO176.out hb); have n2_ := Aside0.mk (blk_below BK164.out hb); have n3_ := Aside0.mk (below_step HB.out hb); have n4_ := Aside0.mk hbox; have GW179 := Aside0.mk (show w.heap.size ≤ gb179 by rw [hg]; exact HB.out.size); have GE179 := Aside0.mk (show w.heap.size ≤ gb179 by rw [hg]; exact HB.out.size); have NB164_179 := Aside0.mk (show gb164 ≠ gb179 by rw [hg]; exact Nat.ne_of_lt (blk_lt BK164.out)); have NB179_164 := Aside0.mk (Ne.symm NB164_179.out); clear HO172 HO176 BK164 HB; have HO172 := n0_; have HO176 := n1_; have BK164 := n2_; have HB := n3_; have BK179 := n4_; clear n0_ n1_ n2_ n3_ n4_; clear hb hbox hg; have hnb_ := NB179_164.out; have hnc_ := NB164_179.out; obtain ⟨Ao10, co10, e1o_⟩ := Kd.R_slice HO172.out; subst e1o_; obtain ⟨Ao11, co11, e2o_⟩ := Kd.R_slice HO176.out; subst e2o_; have hz179_0 : w7.cell? ⟨gb179, 0, none⟩ = some (.int .i16 0) := (blk_cell BK179.out 0).trans rfl; have hf179_0 := blk_frozen BK179.out 0; have hz179_1 : w7.cell? ⟨gb179, 1, none⟩ = some (.int .i16 0) := (blk_cell BK179.out 1).trans rfl; have hf179_1 := blk_frozen BK179.out 1; have hz179_2 : w7.cell? ⟨gb179, 2, none⟩ = some (.int .i16 0) := (blk_cell BK179.out 2).trans rfl; have hf179_2 := blk_frozen BK179.out 2; have hz179_3 : w7.cell? ⟨gb179, 3, none⟩ = some (.int .i16 0) := (blk_cell BK179.out 3).trans rfl; have hf179_3 := blk_frozen BK179.out 3; have hz179_4 : w7.cell? ⟨gb179, 4, none⟩ = some (.int .i16 0) := (blk_cell BK179.out 4).trans rfl; have hf179_4 := blk_frozen BK179.out 4; have hz179_5 : w7.cell? ⟨gb179, 5, none⟩ = some (.nilIface) := (blk_cell BK179.out 5).trans rfl; have hf179_5 := blk_frozen BK179.out 5; have hz164_0 : w7.cell? ⟨gb164, 0, none⟩ = some (.int .i64 0) := (blk_cell BK164.out 0).trans rfl; have hf164_0 := blk_frozen BK164.out 0; have hz164_1 : w7.cell? ⟨gb164, 1, none⟩ = some (.int .i64 0) := (blk_cell BK164.out 1).trans rfl; have hf164_1 := blk_frozen BK164.out 1; have hz164_2 : w7.cell? ⟨gb164, 2, none⟩ = some (.int .i64 0) := (blk_cell BK164.out 2).trans rfl; have hf164_2 := blk_frozen BK164.out 2; have hz164_3 : w7.cell? ⟨gb164, 3, none⟩ = some (.int .i64 0) := (blk_cell BK164.out 3).trans rfl; have hf164_3 := blk_frozen BK164.out 3) | ((with_reducible refine gate_dst (N := 9) rfl ?_); refine box_event ?hg (N := 9) ?hd (cs := #[.slice none 0 0, .slice none 0 0, .slice none 0 0]) (t := 120) ?hr ?_; (case hd => rfl); (case hg => rfl); (case hr => first | (go_simp; done) | (go_simp; rfl)); have m0_ := (Kd.R_mono (ok' := fun _ => True) (Kd.R_far (p := ⟨gb164, 3, none⟩) (Kd.R_far (p := ⟨gb164, 2, none⟩) (Kd.R_far (p := ⟨gb164, 1, none⟩) (Kd.R_far (p := ⟨gb164, 0, none⟩) (Kd.R_far (p := ⟨gb179, 5, none⟩) (Kd.R_far (p := ⟨gb179, 4, none⟩) (Kd.R_far (p := ⟨gb179, 3, none⟩) (Kd.R_far (p := ⟨gb179, 2, none⟩) (Kd.R_far (p := ⟨gb179, 1, none⟩) (Kd.R_far (p := ⟨gb179, 0, none⟩) (Kd.R_types (Kd.R_types HO172.out BK179.out (by decide)) BK164.out (by decide)) (fun _ hk => hk.1.2) (.int .i16 t165)) (fun _ hk => hk.1.2) (.int .i16 t166)) (fun _ hk => hk.1.2) (.int .i16 t167)) (fun _ hk => hk.1.2) (.int .i16 t168)) (fun _ hk => hk.1.2) (.int .i16 t169)) (fun _ hk => hk.1.2) (.iface 120 (.agg #[.slice Ao10 t170.length co10, .slice A6_ nI6_ c6_, .slice Ao11 t174.length co11]))) (fun _ hk => hk.2) (.int .i64 (wrap64 (t166)))) (fun _ hk => hk.2) (.int .i64 (wrap64 (t167)))) (fun _ hk => hk.2) (.int .i64 (wrap64 (t168)))) (fun _ hk => hk.2) (.int .i64 (wrap64 (t169)))) (fun _ _ => trivial)); have m1_ := (Kd.R_mono (ok' := fun _ => True) (Kd.R_far (p := ⟨gb164, 3, none⟩) (Kd.R_far (p := ⟨gb164, 2, none⟩) (Kd.R_far (p := ⟨gb164, 1, none⟩) (Kd.R_far (p := ⟨gb164, 0, none⟩) (Kd.R_far (p := ⟨gb179, 5, none⟩) (Kd.R_far (p := ⟨gb179, 4, none⟩) (Kd.R_far (p := ⟨gb179, 3, none⟩) (Kd.R_far (p := ⟨gb179, 2, none⟩) (Kd.R_far (p := ⟨gb179, 1, none⟩) (Kd.R_far (p := ⟨gb179, 0, none⟩) (Kd.R_types (Kd.R_types HO176.out BK179.out (by decide)) BK164.out (by decide)) (fun _ hk => hk.1.2) (.int .i16 t165)) (fun _ hk => hk.1.2) (.int .i16 t166)) (fun _ hk => hk.1.2) (.int .i16 t167)) (fun _ hk => hk.1.2) (.int .i16 t168)) (fun _ hk => hk.1.2) (.int .i16 t169)) (fun _ hk => hk.1.2) (.iface 120 (.agg #[.slice Ao10 t170.length co10, .slice A6_ nI6_ c6_, .slice Ao11 t174.length co11]))) (fun _ hk => hk.2) (.int .i64 (wrap64 (t166)))) (fun _ hk => hk.2) (.int .i64 (wrap64 (t167)))) (fun _ hk => hk.2) (.int .i64 (wrap64 (t168)))) (fun _ hk => hk.2) (.int .i64 (wrap64 (t169)))) (fun _ _ => trivial)); have m2_ := (blk_put (cs' := #[.int .i64 (wrap64 (t166)), .int .i64 (wrap64 (t167)), .int .i64 (wrap64 (t168)), .int .i64 (wrap64 (t169))]) (blk_put (cs' := #[.int .i64 (wrap64 (t166)), .int .i64 (wrap64 (t167)), .int .i64 (wrap64 (t168)), .int .i64 0]) (blk_put (cs' := #[.int .i64 (wrap64 (t166)), .int .i64 (wrap64 (t167)), .int .i64 0, .int .i64 0]) (blk_put (cs' := #[.int .i64 (wrap64 (t166)), .int .i64 0, .int .i64 0, .int .i64 0]) (blk_far (p := ⟨gb179, 5, none⟩) (blk_far (p := ⟨gb179, 4, none⟩) (blk_far (p := ⟨gb179, 3, none⟩) (blk_far (p := ⟨gb179, 2, none⟩) (blk_far (p := ⟨gb179, 1, none⟩) (blk_far (p := ⟨gb179, 0, none⟩) BK164.out NB164_179.out (.int .i16 t165)) NB164_179.out (.int .i16 t166)) NB164_179.out (.int .i16 t167)) NB164_179.out (.int .i16 t168)) NB164_179.out (.int .i16 t169)) NB164_179.out (.iface 120 (.agg #[.slice Ao10 t170.length co10, .slice A6_ nI6_ c6_, .slice Ao11 t174.length co11]))) 0 (.int .i64 (wrap64 (t166))) rfl) 1 (.int .i64 (wrap64 (t167))) rfl) 2 (.int .i64 (wrap64 (t168))) rfl) 3 (.int .i64 (wrap64 (t169))) rfl); have m3_ := (blk_far (p := ⟨gb164, 3, none⟩) (blk_far (p := ⟨gb164, 2, none⟩) (blk_far (p := ⟨gb164, 1, none⟩) (blk_far (p := ⟨gb164, 0, none⟩) (blk_put (cs' := #[.int .i16 t165, .int .i16 t166, .int .i16 t167, .int .i16 t168, .int .i16 t169, .iface 120 (.agg #[.slice Ao10 t170.length co10, .slice A6_ nI6_ c6_, .slice Ao11 t174.length co11])]) (blk_put (cs' := #[.int .i16 t165, .int .i16 t166, .int .i16 t167, .int .i16 t168, .int .i16 t169, .nilIface]) (blk_put (cs' := #[.int .i16 t165, .int .i16 t166, .int .i16 t167, .int .i16 t168, .int .i16 0, .nilIface]) (blk_put (cs' := #[.int .i16 t165, .int .i16 t166, .int .i16 t167, .int .i16 0, .int .i16 0, .nilIface]) (blk_put (cs' := #[.int .i16 t165, .int .i16 t166, .int .i16 0, .int .i16 0, .int .i16 0, .nilIface]) (blk_put (cs' := #[.int .i16 t165, .int .i16 0, .int .i16 0, .int .i16 0, .int .i16 0, .nilIface]) BK179.out 0 (.int .i16 t165) rfl) 1 (.int .i16 t166) rfl) 2 (.int .i16 t167) rfl) 3 (.int .i16 t168) rfl) 4 (.int .i16 t169) rfl) 5 (.iface 120 (.agg #[.slice Ao10 t170.length co10, .slice A6_ nI6_ c6_, .slice Ao11 t174.length co11])) rfl) NB179_164.out (.int .i64 (wrap64 (t166)))) NB179_164.out (.int .i64 (wrap64 (t167)))) NB179_164.out (.int .i64 (wrap64 (t168)))) NB179_164.out (.int .i64 (wrap64 (t169)))); have m4_ := (below_set (j := 3) (v := .int .i64 (wrap64 (t169))) (below_set (j := 2) (v := .int .i64 (wrap64 (t168))) (below_set (j := 1) (v := .int .i64 (wrap64 (t167))) (below_set (j := 0) (v := .int .i64 (wrap64 (t166))) (below_set (j := 5) (v := .iface 120 (.agg #[.slice Ao10 t170.length co10, .slice A6_ nI6_ c6_, .slice Ao11 t174.length co11])) (below_set (j := 4) (v := .int .i16 t169) (below_set (j := 3) (v := .int .i16 t168) (below_set (j := 2) (v := .int .i16 t167) (below_set (j := 1) (v := .int .i16 t166) (below_set (j := 0) (v := .int .i16 t165) HB.out GE179.out) GE179.out) GE179.out) GE179.out) GE179.out) GE179.out) GE164.out) GE164.out) GE164.out) GE164.out); intro gb181 hg w13 hbox hb; have n0_ := Aside0.mk (Kd.R_below m0_ hb); have n1_ := Aside0.mk (Kd.R_below m1_ hb); have n2_ := Aside0.mk (blk_below m2_ hb); have n3_ := Aside0.mk (blk_below m3_ hb); have n4_ := Aside0.mk (below_step m4_ hb); have n5_ := Aside0.mk hbox; have GW181 := Aside0.mk (show w.heap.size ≤ gb181 by rw [hg]; exact m4_.size); have GE181 := Aside0.mk (show w.heap.size ≤ gb181 by rw [hg]; exact m4_.size); have NB164_181 := Aside0.mk (show gb164 ≠ gb181 by rw [hg]; exact Nat.ne_of_lt (blk_lt m2_)); have NB181_164 := Aside0.mk (Ne.symm NB164_181.out); have NB179_181 := Aside0.mk (show gb179 ≠ gb181 by rw [hg]; exact Nat.ne_of_lt (blk_lt m3_)); have NB181_179 := Aside0.mk (Ne.symm NB179_181.out); clear m0_ m1_ m2_ m3_ m4_ HO172 HO176 BK164 BK179 HB; have HO172 := n0_; have HO176 := n1_; have BK164 := n2_; have BK179 := n3_; have HB := n4_; have BK181 := n5_; clear n0_ n1_ n2_ n3_ n4_ n5_; clear hb hbox hg; have hz181_0 : w13.cell? ⟨gb181, 0, none⟩ = some (.slice none 0 0) := (blk_cell BK181.out 0).trans rfl; have hf181_0 := blk_frozen BK181.out 0; have hz181_1 : w13.cell? ⟨gb181, 1, none⟩ = some (.slice none 0 0) := (blk_cell BK181.out 1).trans rfl; have hf181_1 := blk_frozen BK181.out 1; have hz181_2 : w13.cell? ⟨gb181, 2, none⟩ = some (.slice none 0 0) := (blk_cell BK181.out 2).trans rfl; have hf181_2 := blk_frozen BK181.out 2))
  go_loopg [2, 11, 50] k (fun kq v2 v11 v50 w' => ∃ (x2_1 : List (List (S51))) (x11_1 : Int) (x50_1 : Int) (x165000_1 : Int) (x165001_1 : Int) (x165002_1 : Int) (x165003_1 : Int), v11 = .int .i64 x11_1 ∧ v50 = .int .i64 x50_1 ∧ Aside0 (impl_GlyphSpots.l0 kq x2_1 x11_1 t170 (t170.length : Int) x50_1 x165000_1 x165001_1 x165002_1 x165003_1 t170 t173 t174 = some (r1, r2, r3, r4, r5, r6, r7)) ∧ Aside0 (kq ≤ k) ∧ Aside0 (Kd.S (Kd.slice 51 k51) 52 w' w.heap.size (fun _ => True) v2 x2_1) ∧ Aside0 (Kd.R (Kd.int .u16) 35 w' w.heap.size (fun _ => True) (.slice Ao10 t170.length co10) t170) ∧ Aside0 (Kd.R (Kd.int .u16) 35 w' w.heap.size (fun _ => True) (.slice Ao10 t170.length co10) t170) ∧ Aside0 (Kd.R k123 123 w' w.heap.size (fun _ => True) (.slice Ao11 t174.length co11) t174) ∧ Aside0 (Kd.R (Kd.int .u16) 35 w' w.heap.size (fun _ => True) (.slice Ao10 t170.length co10) t170) ∧ Aside0 (Kd.R k123 123 w' w.heap.size (fun _ => True) (.slice Ao11 t174.length co11) t174) ∧ Aside0 (w'.heap[gb164]? = some (.cells #[.int .i64 x165000_1, .int .i64 x165001_1, .int .i64 x165002_1, .int .i64 x165003_1] 49 (0, 0))) ∧ Aside0 (w'.heap[gb179]? = some (.cells #[.int .i16 t165, .int .i16 t166, .int .i16 t167, .int .i16 t168, .int .i16 t169, .iface 120 (.agg #[.slice Ao10 t170.length co10, .slice A6_ nI6_ c6_, .slice Ao11 t174.length co11])] 113 (0, 0))) ∧ Aside0 (w'.heap[gb181]? = some (.cells #[.slice Ao10 t170.length co10, .slice A6_ nI6_ c6_, .slice Ao11 t174.length co11] 120 (0, 0))) ∧ Aside0 (Below w.heap.size w w'))
  case atStart => exact ⟨(([] : List (List (S51)))), (0), (0), (wrap64 (t166)), (wrap64 (t167)), (wrap64 (t168)), (wrap64 (t169)), rfl, rfl, H', ⟨Nat.le_refl _⟩, ⟨Kd.S_nil _ _ _ _ _⟩, ⟨Kd.R_mono (ok' := fun _ => True) (Kd.R_far (p := ⟨gb181, 2, none⟩) (Kd.R_far (p := ⟨gb181, 1, none⟩) (Kd.R_far (p := ⟨gb181, 0, none⟩) (Kd.R_types HO172.out BK181.out (by decide)) (fun _ hk => hk.2) (.slice Ao10 t170.length co10)) (fun _ hk => hk.2) (.slice A6_ nI6_ c6_)) (fun _ hk => hk.2) (.slice Ao11 t174.length co11)) (fun _ _ => trivial)⟩, ⟨Kd.R_mono (ok' := fun _ => True) (Kd.R_far (p := ⟨gb181, 2, none⟩) (Kd.R_far (p := ⟨gb181, 1, none⟩) (Kd.R_far (p := ⟨gb181, 0, none⟩) (Kd.R_types HO172.out BK181.out (by decide)) (fun _ hk => hk.2) (.slice Ao10 t170.length co10)) (fun _ hk => hk.2) (.slice A6_ nI6_ c6_)) (fun _ hk => hk.2) (.slice Ao11 t174.length co11)) (fun _ _ => trivial)⟩, ⟨Kd.R_mono (ok' := fun _ => True) (Kd.R_far (p := ⟨gb181, 2, none⟩) (Kd.R_far (p := ⟨gb181, 1, none⟩) (Kd.R_far (p := ⟨gb181, 0, none⟩) (Kd.R_types HO176.out BK181.out (by decide)) (fun _ hk => hk.2) (.slice Ao10 t170.length co10)) (fun _ hk => hk.2) (.slice A6_ nI6_ c6_)) (fun _ hk => hk.2) (.slice Ao11 t174.length co11)) (fun _ _ => trivial)⟩, ⟨Kd.R_mono (ok' := fun _ => True) (Kd.R_far (p := ⟨gb181, 2, none⟩) (Kd.R_far (p := ⟨gb181, 1, none⟩) (Kd.R_far (p := ⟨gb181, 0, none⟩) (Kd.R_types HO172.out BK181.out (by decide)) (fun _ hk => hk.2) (.slice Ao10 t170.length co10)) (fun _ hk => hk.2) (.slice A6_ nI6_ c6_)) (fun _ hk => hk.2) (.slice Ao11 t174.length co11)) (fun _ _ => trivial)⟩, ⟨Kd.R_mono (ok' := fun _ => True) (Kd.R_far (p := ⟨gb181, 2, none⟩) (Kd.R_far (p := ⟨gb181, 1, none⟩) (Kd.R_far (p := ⟨gb181, 0, none⟩) (Kd.R_types HO176.out BK181.out (by decide)) (fun _ hk => hk.2) (.slice Ao10 t170.length co10)) (fun _ hk => hk.2) (.slice A6_ nI6_ c6_)) (fun _ hk => hk.2) (.slice Ao11 t174.length co11)) (fun _ _ => trivial)⟩, ⟨(blk_far (p := ⟨gb181, 2, none⟩) (blk_far (p := ⟨gb181, 1, none⟩) (blk_far (p := ⟨gb181, 0, none⟩) BK164.out NB164_181.out (.slice Ao10 t170.length co10)) NB164_181.out (.slice A6_ nI6_ c6_)) NB164_181.out (.slice Ao11 t174.length co11))⟩, ⟨(blk_far (p := ⟨gb181, 2, none⟩) (blk_far (p := ⟨gb181, 1, none⟩) (blk_far (p := ⟨gb181, 0, none⟩) BK179.out NB179_181.out (.slice Ao10 t170.length co10)) NB179_181.out (.slice A6_ nI6_ c6_)) NB179_181.out (.slice Ao11 t174.length co11))⟩, ⟨(blk_put (cs' := #[.slice Ao10 t170.length co10, .slice A6_ nI6_ c6_, .slice Ao11 t174.length co11]) (blk_put (cs' := #[.slice Ao10 t170.length co10, .slice A6_ nI6_ c6_, .slice none 0 0]) (blk_put (cs' := #[.slice Ao10 t170.length co10, .slice none 0 0, .slice none 0 0]) BK181.out 0 (.slice Ao10 t170.length co10) rfl) 1 (.slice A6_ nI6_ c6_) rfl) 2 (.slice Ao11 t174.length co11) rfl)⟩, ⟨(below_set (j := 2) (v := .slice Ao11 t174.length co11) (below_set (j := 1) (v := .slice A6_ nI6_ c6_) (below_set (j := 0) (v := .slice Ao10 t170.length co10) HB.out GE181.out) GE181.out) GE181.out)⟩⟩
  case round =>
   clear H'
   try clear c1
   try clear q1
   try clear p2
   try clear c3
   try clear p6
   try clear c8
   try clear c14
   try clear c15
   try clear hcz12_0
   try clear hcz12_1
   try clear hcz12_2
   try clear hcz12_3
   try clear hcz16_0
   try clear hcz16_1
   try clear hcz16_2
   try clear hcz9_0
   try clear hcz9_1
   try clear hcz9_2
   try clear hcz9_3
   try clear hcz9_4
   try clear hcz9_5
   try clear hcz9_6
   try clear hcz9_7
   try clear hfz12_0
   try clear hfz12_1
   try clear hfz12_2
   try clear hfz12_3
   try clear hfz16_0
   try clear hfz16_1
   try clear hfz16_2
   try clear hfz9_0
   try clear hfz9_1
   try clear hfz9_2
   try clear hfz9_3
   try clear hfz9_4
   try clear hfz9_5
   try clear hfz9_6
   try clear hfz9_7
   try clear q180
   obtain ⟨x2_1, x11_1, x50_1, x165000_1, x165001_1, x165002_1, x165003_1, rfl, rfl, HA, HK1, HO_2, HO_48, HO_180005, HO_180007, HO_182000, HO_182002, BK164, BK179, BK181, HB⟩ := hrel
   cases gk with
   | zero => exact absurd HA.out (by simp [impl_GlyphSpots.l0])
   | succ k1 =>
    have H := HA.out
    clear HA
    simp only [impl_GlyphSpots.l0] at H
    by_cases c17 : x50_1 < (t170.length : Int)
    ·rw [if_pos c17] at H
     have c17b0 : decide (x50_1 < (t170.length : Int)) = true := decide_eq_true c17
     clear c17
     by_cases c18 : 0 ≤ x50_1
     ·rw [if_pos c18] at H
      have c18b0 : decide (0 ≤ x50_1) = true := decide_eq_true c18
      clear c18
      by_cases c19 : x50_1 < (t170.length : Int)
      ·rw [if_pos c19] at H
       have c19b0 : decide (x50_1 < (t170.length : Int)) = true := decide_eq_true c19
       clear c19
       have HC20 := Aside0.mk H
       clear H
       have p182 : 0 ≤ (x50_1 : Int) := of_decide_eq_true (by first | (with_reducible assumption) | assumption)
       have q182 : x50_1 < (t170.length : Int) := of_decide_eq_true (by first | (with_reducible assumption) | assumption)
       obtain ⟨ad182, e182, hx182_0⟩ := Kd.at_int (Kd.R_reads' HO_48.out).2.2 x50_1 p182 q182
       cases e182
       replace p182 := eq_true p182
       replace q182 := eq_true q182
       go_upto_region 12 with (fail)
       go_cut [65] (fun v65 wc => ∃ (kq : Nat) (x65_19 : Bool), v65 = .bool x65_19 ∧ Aside0 (impl_GlyphSpots.j1 kq x2_1 x11_1 (rd t170 x50_1) t170 (t170.length : Int) x50_1 x65_19 x165000_1 x165001_1 x165002_1 x165003_1 t170 t173 t174 = some (r1, r2, r3, r4, r5, r6, r7)) ∧ Aside0 (kq ≤ k1) ∧ Aside0 (Kd.S (Kd.slice 51 k51) 52 wc w.heap.size (fun _ => True) u2 x2_1) ∧ Aside0 (Kd.R (Kd.int .u16) 35 wc w.heap.size (fun _ => True) (.slice (some ad182) t170.length co10) t170) ∧ Aside0 (Kd.R (Kd.int .u16) 35 wc w.heap.size (fun _ => True) (.slice (some ad182) t170.length co10) t170) ∧ Aside0 (Kd.R k123 123 wc w.heap.size (fun _ => True) (.slice Ao11 t174.length co11) t174) ∧ Aside0 (Kd.R (Kd.int .u16) 35 wc w.heap.size (fun _ => True) (.slice (some ad182) t170.length co10) t170) ∧ Aside0 (Kd.R k123 123 wc w.heap.size (fun _ => True) (.slice Ao11 t174.length co11) t174) ∧ Aside0 (wc.heap[gb164]? = some (.cells #[.int .i64 x165000_1, .int .i64 x165001_1, .int .i64 x165002_1, .int .i64 x165003_1] 49 (0, 0))) ∧ Aside0 (wc.heap[gb179]? = some (.cells #[.int .i16 t165, .int .i16 t166, .int .i16 t167, .int .i16 t168, .int .i16 t169, .iface 120 (.agg #[.slice (some ad182) t170.length co10, .slice A6_ nI6_ c6_, .slice Ao11 t174.length co11])] 113 (0, 0))) ∧ Aside0 (wc.heap[gb181]? = some (.cells #[.slice (some ad182) t170.length co10, .slice A6_ nI6_ c6_, .slice Ao11 t174.length co11] 120 (0, 0))) ∧ Aside0 (Below w.heap.size w wc))
       case first =>
        have H := HC20.out
        clear HC20
        by_cases c21 : (wrap64 (rd t170 x50_1)) < x11_1
        ·rw [if_pos c21] at H
         have c21b0 : decide ((wrap64 (rd t170 x50_1)) < x11_1) = true := decide_eq_true c21
         clear c21
         (first | rw [c21b0] | (simp only [i64_w, i32_w]; rw [c21b0]) | skip)
         have H' := Aside0.mk H
         clear H
         go_wp2
         go_meet
         case rel => exact ⟨_, (true), (by first | rfl | (simp; done) | (simp [*]; done)), H', ⟨by have := HK1.out; first | omega | exact Nat.le_refl _⟩, ⟨by (with_reducible repeat (first | apply Kd.S_alloc | apply Kd.S_drewN | apply Kd.S_drew)); exact HO_2.out⟩, ⟨by (with_reducible repeat (first | apply Kd.R_alloc | apply Kd.R_drewN | apply Kd.R_drew)); exact HO_48.out⟩, ⟨by (with_reducible repeat (first | apply Kd.R_alloc | apply Kd.R_drewN | apply Kd.R_drew)); exact HO_180005.out⟩, ⟨by (with_reducible repeat (first | apply Kd.R_alloc | apply Kd.R_drewN | apply Kd.R_drew)); exact HO_180007.out⟩, ⟨by (with_reducible repeat (first | apply Kd.R_alloc | apply Kd.R_drewN | apply Kd.R_drew)); exact HO_182000.out⟩, ⟨by (with_reducible repeat (first | apply Kd.R_alloc | apply Kd.R_drewN | apply Kd.R_drew)); exact HO_182002.out⟩, ⟨by (with_reducible repeat (first | refine b1_ ?_ _ | refine b2_ ?_ | refine b3_ ?_ _)); exact BK164.out⟩, ⟨by (with_reducible repeat (first | refine b1_ ?_ _ | refine b2_ ?_ | refine b3_ ?_ _)); exact BK179.out⟩, ⟨by (with_reducible repeat (first | refine b1_ ?_ _ | refine b2_ ?_ | refine b3_ ?_ _)); exact BK181.out⟩, ⟨by repeat (first | (with_reducible first | exact HB.out | apply below_alloc | apply pw_below_drewN | apply below_drew1 | refine below_set ?_ GE164.out | refine below_set ?_ GE179.out | refine below_set ?_ GE181.out) | exact HB.out)⟩⟩
        ·rw [if_neg c21] at H
         have c21b0 : decide ((wrap64 (rd t170 x50_1)) < x11_1) = false := decide_eq_false c21
         clear c21
         (first | rw [c21b0] | (simp only [i64_w, i32_w]; rw [c21b0]) | skip)
         have H' := Aside0.mk H
         clear H
         have hnb22 := NB181_164.out
         have hnc22 := NB164_181.out
         have hnb23 := NB181_179.out
         have hnc23 := NB179_181.out
         have hcz24_0 : wr.cell? ⟨gb181, 0, none⟩ = some (.slice (some ad182) t170.length co10) := (blk_cell BK181.out 0).trans rfl
         have hcz24_1 : wr.cell? ⟨gb181, 1, none⟩ = some (.slice A6_ nI6_ c6_) := (blk_cell BK181.out 1).trans rfl
         have hcz24_2 : wr.cell? ⟨gb181, 2, none⟩ = some (.slice Ao11 t174.length co11) := (blk_cell BK181.out 2).trans rfl
         have hfz24_0 := blk_frozen BK181.out 0
         have hfz24_1 := blk_frozen BK181.out 1
         have hfz24_2 := blk_frozen BK181.out 2
         go_wp2
         go_meet
         case rel => exact ⟨_, (decide ((wrap64 (rd t170 x50_1)) ≥ (t174.length : Int))), (by first | rfl | (simp; done) | (simp [*]; done)), H', ⟨by have := HK1.out; first | omega | exact Nat.le_refl _⟩, ⟨by (with_reducible repeat (first | apply Kd.S_alloc | apply Kd.S_drewN | apply Kd.S_drew)); exact HO_2.out⟩, ⟨by (with_reducible repeat (first | apply Kd.R_alloc | apply Kd.R_drewN | apply Kd.R_drew)); exact HO_48.out⟩, ⟨by (with_reducible repeat (first | apply Kd.R_alloc | apply Kd.R_drewN | apply Kd.R_drew)); exact HO_180005.out⟩, ⟨by (with_reducible repeat (first | apply Kd.R_alloc | apply Kd.R_drewN | apply Kd.R_drew)); exact HO_180007.out⟩, ⟨by (with_reducible repeat (first | apply Kd.R_alloc | apply Kd.R_drewN | apply Kd.R_drew)); exact HO_182000.out⟩, ⟨by (with_reducible repeat (first | apply Kd.R_alloc | apply Kd.R_drewN | apply Kd.R_drew)); exact HO_182002.out⟩, ⟨by (with_reducible repeat (first | refine b1_ ?_ _ | refine b2_ ?_ | refine b3_ ?_ _)); exact BK164.out⟩, ⟨by (with_reducible repeat (first | refine b1_ ?_ _ | refine b2_ ?_ | refine b3_ ?_ _)); exact BK179.out⟩, ⟨by (with_reducible repeat (first | refine b1_ ?_ _ | refine b2_ ?_ | refine b3_ ?_ _)); exact BK181.out⟩, ⟨by repeat (first | (with_reducible first | exact HB.out | apply below_alloc | apply pw_below_drewN | apply below_drew1 | refine below_set ?_ GE164.out | refine below_set ?_ GE179.out | refine below_set ?_ GE181.out) | exact HB.out)⟩⟩
       case rest =>
        clear HC20
        try clear c1
        try clear p1
        try clear q1
        try clear hx1
        try clear c2
        try clear p2
        try clear c3
        try clear p6
        try clear c8
        try clear c14
        try clear c15
        try clear c17
        try clear c17b0
        try clear c18
        try clear c18b0
        try clear p18
        try clear q18
        try clear hx18
        try clear c19
        try clear c19b0
        try clear c21
        try clear c21b0
        try clear c22
        try clear c23
        try clear hcz12_0
        try clear hcz12_1
        try clear hcz12_2
        try clear hcz12_3
        try clear hcz16_0
        try clear hcz16_1
        try clear hcz16_2
        try clear hcz24_0
        try clear hcz24_1
        try clear hcz24_2
        try clear hcz9_0
        try clear hcz9_1
        try clear hcz9_2
        try clear hcz9_3
        try clear hcz9_4
        try clear hcz9_5
        try clear hcz9_6
        try clear hcz9_7
        try clear hfz12_0
        try clear hfz12_1
        try clear hfz12_2
        try clear hfz12_3
        try clear hfz16_0
        try clear hfz16_1
        try clear hfz16_2
        try clear hfz24_0
        try clear hfz24_1
        try clear hfz24_2
        try clear hfz9_0
        try clear hfz9_1
        try clear hfz9_2
        try clear hfz9_3
        try clear hfz9_4
        try clear hfz9_5
        try clear hfz9_6
        try clear hfz9_7
        try clear hx182_0
        try clear p182
        try clear p2
        try clear p6
        try clear q1
        try clear q180
        try clear q182
        obtain ⟨kq, x65_19, rfl, HA, HJ19, HO_2, HO_48, HO_180005, HO_180007, HO_182000, HO_182002, BK164, BK179, BK181, HB⟩ := hcut
        cases kq with
        | zero => exact absurd HA.out (by simp [impl_GlyphSpots.j1])
        | succ kj19 =>
         have H := HA.out
         clear HA
         simp only [impl_GlyphSpots.j1] at H
         by_cases c25 : x65_19 = true
         ·subst c25
          have H1 : (some (([] : List (List (S51))), x165000_1, x165001_1, x165002_1, x165003_1, true, false)) = some (r1, r2, r3, r4, r5, r6, r7) := by rw [if_pos rfl] at H; exact H
          clear H
          have H := H1
          clear H1
          simp only [Option.some.injEq, Prod.mk.injEq] at H
          obtain ⟨rfl, rfl, rfl, rfl, rfl, rfl, rfl⟩ := H
          try go_wp2
          have n0_ := Aside0.mk (Kd.S_drew HO_2.out)
          have n1_ := Aside0.mk (Kd.R_drew HO_48.out)
          have n2_ := Aside0.mk (Kd.R_drew HO_180005.out)
          have n3_ := Aside0.mk (Kd.R_drew HO_180007.out)
          have n4_ := Aside0.mk (Kd.R_drew HO_182000.out)
          have n5_ := Aside0.mk (Kd.R_drew HO_182002.out)
          have n6_ := Aside0.mk (blk_drew BK164.out)
          have n7_ := Aside0.mk (blk_drew BK179.out)
          have n8_ := Aside0.mk (blk_drew BK181.out)
          have n9_ := Aside0.mk (below_drew1 HB.out)
          clear HO_2
          clear HO_48
          clear HO_180005
          clear HO_180007
          clear HO_182000
          clear HO_182002
          clear BK164
          clear BK179
          clear BK181
          clear HB
          have HO_2 := n0_
          have HO_48 := n1_
          have HO_180005 := n2_
          have HO_180007 := n3_
          have HO_182000 := n4_
          have HO_182002 := n5_
          have BK164 := n6_
          have BK179 := n7_
          have BK181 := n8_
          have HB := n9_
          clear n0_ n1_ n2_ n3_ n4_ n5_ n6_ n7_ n8_ n9_
          refine start_ (n := 5) (S := fun w' => w'.cell? ⟨gb164, 0, none⟩ = some (.int .i64 x165000_1) ∧ w'.cell? ⟨gb164, 1, none⟩ = some (.int .i64 x165001_1) ∧ w'.cell? ⟨gb164, 2, none⟩ = some (.int .i64 x165002_1) ∧ w'.cell? ⟨gb164, 3, none⟩ = some (.int .i64 x165003_1)) (ds := [2]) #[false, false, false, false, false] (by kernel_rfl) rfl rfl ⟨(blk_cell BK164.out 0).trans rfl, (blk_cell BK164.out 1).trans rfl, (blk_cell BK164.out 2).trans rfl, (blk_cell BK164.out 3).trans rfl⟩ (fun hHeld => ?_)
          generalize wc.drew = w26 at HO_2 HO_48 HO_180005 HO_180007 HO_182000 HO_182002 BK164 BK179 BK181 HB hHeld ⊢
          refine pure_ (i := 1) (N := some 2) (v := ?_) (a' := ?_) #[false, true, false, false, false] rfl rfl (by kernel_rfl) (fun _ _ _ h => h) (Or.inl ⟨by rfl, ?_⟩) ?_ ?_
          rotate_left
          ·intro w'
           go_simp
           with_reducible rfl
          rotate_left
          ·simp only [Act.put, L1_, L2_, L3_, i64_w, i32_w]
           rfl
          refine take_ (i := 0) (N := some 66) (v := ?_) (a' := ?_) #[true, true, false, false, false] rfl rfl (by kernel_rfl) (fun _ _ _ h => h) (Or.inl ⟨by rfl, ?_⟩) hHeld ?_ ?_
          rotate_left
          ·rintro w' ⟨s0, s1, s2, s3⟩
           go_simp
           with_reducible rfl
          rotate_left
          ·simp only [Act.put, L1_, L2_, L3_, i64_w, i32_w]
           rfl
          refine last_ (i := 2) (N := none) #[true, true, true, false, false] rfl rfl (by kernel_rfl) (by decide) (fun K hK => ?_)
          have hs27 : w26.cell? ⟨gb164, 0, none⟩ = some (.int .i64 x165000_1) := (blk_cell BK164.out 0).trans rfl
          have hfs27 := blk_frozen BK164.out 0
          have hns27_1 := NB179_164.out
          have hns27_2 := NB181_164.out
          have hms27_1 := NB164_179.out
          have hms27_2 := NB164_181.out
          have hs28 : w26.cell? ⟨gb164, 1, none⟩ = some (.int .i64 x165001_1) := (blk_cell BK164.out 1).trans rfl
          have hfs28 := blk_frozen BK164.out 1
          have hns28_1 := NB179_164.out
          have hns28_2 := NB181_164.out
          have hms28_1 := NB164_179.out
          have hms28_2 := NB164_181.out
          have hs29 : w26.cell? ⟨gb164, 2, none⟩ = some (.int .i64 x165002_1) := (blk_cell BK164.out 2).trans rfl
          have hfs29 := blk_frozen BK164.out 2
          have hns29_1 := NB179_164.out
          have hns29_2 := NB181_164.out
          have hms29_1 := NB164_179.out
          have hms29_2 := NB164_181.out
          have hs30 : w26.cell? ⟨gb164, 3, none⟩ = some (.int .i64 x165003_1) := (blk_cell BK164.out 3).trans rfl
          have hfs30 := blk_frozen BK164.out 3
          have hns30_1 := NB179_164.out
          have hns30_2 := NB181_164.out
          have hms30_1 := NB164_179.out
          have hms30_2 := NB164_181.out
          refine skip_ (w1 := ?_) (by rfl) rfl ?_ ?_
          rotate_left
          ·go_simp
           rfl
          refine hK.out _ _ ?_
          clear hK K
          refine pure_ (i := 3) (N := some 4) (v := ?_) (a' := ?_) #[true, true, true, true, false] rfl rfl (by kernel_rfl) (fun _ _ _ h => h) (Or.inl ⟨by rfl, ?_⟩) ?_ ?_
          rotate_left
          ·intro w'
           go_simp
           with_reducible rfl
          rotate_left
          ·simp only [Act.put, L1_, L2_, L3_, i64_w, i32_w]
           rfl
          refine pure_ (i := 4) (N := some 5) (v := ?_) (a' := ?_) #[true, true, true, true, true] rfl rfl (by kernel_rfl) (fun _ _ _ h => h) (Or.inl ⟨by rfl, ?_⟩) ?_ ?_
          rotate_left
          ·intro w'
           go_simp
           with_reducible rfl
          rotate_left
          ·simp only [Act.put, L1_, L2_, L3_, i64_w, i32_w]
           rfl
          refine done_ (by kernel_rfl) ?_
          try go_wp2
          refine bodyPost_ret (results_list (rs := [.tmp 2, .cell 3 49, .tmp 4, .tmp 5]) rfl (by simp) (.tmp (.cell gb164 49 #[.int .i64 x165000_1, .int .i64 x165001_1, .int .i64 x165002_1, .int .i64 x165003_1] (0, 0) _ rfl (by (with_reducible repeat (first | refine b1_ ?_ _ | refine b2_ ?_ | refine b3_ ?_ _)); refine blk_put (cs := #[.int .i64 x165000_1, .int .i64 x165001_1, .int .i64 x165002_1, .int .i64 x165003_1]) ?_ 3 _ rfl; (with_reducible repeat (first | refine b1_ ?_ _ | refine b2_ ?_ | refine b3_ ?_ _)); refine blk_put (cs := #[.int .i64 x165000_1, .int .i64 x165001_1, .int .i64 x165002_1, .int .i64 x165003_1]) ?_ 2 _ rfl; (with_reducible repeat (first | refine b1_ ?_ _ | refine b2_ ?_ | refine b3_ ?_ _)); refine blk_put (cs := #[.int .i64 x165000_1, .int .i64 x165001_1, .int .i64 x165002_1, .int .i64 x165003_1]) ?_ 1 _ rfl; (with_reducible repeat (first | refine b1_ ?_ _ | refine b2_ ?_ | refine b3_ ?_ _)); refine blk_put (cs := #[.int .i64 x165000_1, .int .i64 x165001_1, .int .i64 x165002_1, .int .i64 x165003_1]) ?_ 0 _ rfl; (with_reducible repeat (first | refine b1_ ?_ _ | refine b2_ ?_ | refine b3_ ?_ _)); exact BK164.out) Try.underlying49 rfl (by kernel_rfl) (.tmp (.tmp .nil))))) rfl ?_
          exact ⟨_, by first | rfl | (simp [errW_none, errW_some] <;> rfl) | (simp [*, errW_none, errW_some] <;> rfl), by first | exact Kd.S_nil _ _ _ _ _ | exact Kd.N_nil _ _ _ _ _ | exact Kd.V_nil _ _ _ _ _ | exact Kd.Q_nil _ _ _ _ _ | exact Kd.R_nil _ _ _ _ _, by repeat (first | (with_reducible first | exact HB.out | apply below_alloc | apply pw_below_drewN | apply below_drew1 | refine below_set ?_ GE164.out | refine below_set ?_ GE179.out | refine below_set ?_ GE181.out) | exact HB.out)⟩
         ·replace c25 := Bool.eq_false_iff.mpr c25
          subst c25
          have H1 : (impl_GlyphSpots.l1 kj19 x2_1 x11_1 (rd t170 x50_1) ([] : List (S51)) t170 (t170.length : Int) x50_1 x165000_1 x165001_1 x165002_1 x165003_1 t170 t173 t174) = some (r1, r2, r3, r4, r5, r6, r7) := by rw [if_neg (show ¬ (false = true) by decide)] at H; exact H
          clear H
          have H := H1
          clear H1
          have H' := Aside0.mk H
          clear H
          go_wp2
          go_loopg [11, 14] kj19 (fun kq v11 v14 w' => ∃ (x11_3 : Int) (x14_3 : List (S51)), v11 = .int .i64 x11_3 ∧ Aside0 (impl_GlyphSpots.l1 kq x2_1 x11_3 (rd t170 x50_1) x14_3 t170 (t170.length : Int) x50_1 x165000_1 x165001_1 x165002_1 x165003_1 t170 t173 t174 = some (r1, r2, r3, r4, r5, r6, r7)) ∧ Aside0 (kq ≤ kj19) ∧ Aside0 (Kd.S (Kd.slice 51 k51) 52 w' w.heap.size (fun k_ => some k_ ≠ (v14 : Value).ownBlock) u2 x2_1) ∧ Aside0 (Kd.R k51 51 w' w.heap.size (fun _ => True) v14 x14_3) ∧ Aside0 (Kd.R (Kd.int .u16) 35 w' w.heap.size (fun _ => True) (.slice (some ad182) t170.length co10) t170) ∧ Aside0 (Kd.R (Kd.int .u16) 35 w' w.heap.size (fun _ => True) (.slice (some ad182) t170.length co10) t170) ∧ Aside0 (Kd.R k123 123 w' w.heap.size (fun _ => True) (.slice Ao11 t174.length co11) t174) ∧ Aside0 (Kd.R (Kd.int .u16) 35 w' w.heap.size (fun _ => True) (.slice (some ad182) t170.length co10) t170) ∧ Aside0 (Kd.R k123 123 w' w.heap.size (fun _ => True) (.slice Ao11 t174.length co11) t174) ∧ Aside0 (w'.heap[gb164]? = some (.cells #[.int .i64 x165000_1, .int .i64 x165001_1, .int .i64 x165002_1, .int .i64 x165003_1] 49 (0, 0))) ∧ Aside0 (w'.heap[gb179]? = some (.cells #[.int .i16 t165, .int .i16 t166, .int .i16 t167, .int .i16 t168, .int .i16 t169, .iface 120 (.agg #[.slice (some ad182) t170.length co10, .slice A6_ nI6_ c6_, .slice Ao11 t174.length co11])] 113 (0, 0))) ∧ Aside0 (w'.heap[gb181]? = some (.cells #[.slice (some ad182) t170.length co10, .slice A6_ nI6_ c6_, .slice Ao11 t174.length co11] 120 (0, 0))) ∧ Aside0 (Below w.heap.size w w'))
          case atStart => exact ⟨(x11_1), (([] : List (S51))), (by first | rfl | (simp; done) | (simp [*]; done)), H', ⟨Nat.le_refl _⟩, ⟨by (with_reducible repeat (first | apply Kd.S_alloc | apply Kd.S_drewN | apply Kd.S_drew)); exact Kd.S_mono HO_2.out (fun _ hk => (by simp [Value.ownBlock]))⟩, ⟨by first | exact Kd.R_nil _ _ _ _ _ | exact Kd.N_nil _ _ _ _ _ | exact Kd.V_nil _ _ _ _ _ | exact Kd.Q_nil _ _ _ _ _ | exact Kd.S_nil _ _ _ _ _⟩, ⟨by (with_reducible repeat (first | apply Kd.R_alloc | apply Kd.R_drewN | apply Kd.R_drew)); exact HO_48.out⟩, ⟨by (with_reducible repeat (first | apply Kd.R_alloc | apply Kd.R_drewN | apply Kd.R_drew)); exact HO_180005.out⟩, ⟨by (with_reducible repeat (first | apply Kd.R_alloc | apply Kd.R_drewN | apply Kd.R_drew)); exact HO_180007.out⟩, ⟨by (with_reducible repeat (first | apply Kd.R_alloc | apply Kd.R_drewN | apply Kd.R_drew)); exact HO_182000.out⟩, ⟨by (with_reducible repeat (first | apply Kd.R_alloc | apply Kd.R_drewN | apply Kd.R_drew)); exact HO_182002.out⟩, ⟨by (with_reducible repeat (first | refine b1_ ?_ _ | refine b2_ ?_ | refine b3_ ?_ _)); exact BK164.out⟩, ⟨by (with_reducible repeat (first | refine b1_ ?_ _ | refine b2_ ?_ | refine b3_ ?_ _)); exact BK179.out⟩, ⟨by (with_reducible repeat (first | refine b1_ ?_ _ | refine b2_ ?_ | refine b3_ ?_ _)); exact BK181.out⟩, ⟨by repeat (first | (with_reducible first | exact HB.out | apply below_alloc | apply pw_below_drewN | apply below_drew1 | refine below_set ?_ GE164.out | refine below_set ?_ GE179.out | refine below_set ?_ GE181.out) | exact HB.out)⟩⟩
          case round =>
           clear H'
           try clear c1
           try clear p1
           try clear q1
           try clear hx1
           try clear c2
           try clear p2
           try clear c3
           try clear p6
           try clear c8
           try clear c14
           try clear c15
           try clear c17
           try clear c17b0
           try clear c18
           try clear c18b0
           try clear p18
           try clear q18
           try clear hx18
           try clear c19
           try clear c19b0
           try clear c21
           try clear c21b0
           try clear c22
           try clear c23
           try clear c25
           try clear hcz12_0
           try clear hcz12_1
           try clear hcz12_2
           try clear hcz12_3
           try clear hcz16_0
           try clear hcz16_1
           try clear hcz16_2
           try clear hcz24_0
           try clear hcz24_1
           try clear hcz24_2
           try clear hcz9_0
           try clear hcz9_1
           try clear hcz9_2
           try clear hcz9_3
           try clear hcz9_4
           try clear hcz9_5
           try clear hcz9_6
           try clear hcz9_7
           try clear hfz12_0
           try clear hfz12_1
           try clear hfz12_2
           try clear hfz12_3
           try clear hfz16_0
           try clear hfz16_1
           try clear hfz16_2
           try clear hfz24_0
           try clear hfz24_1
           try clear hfz24_2
           try clear hfz9_0
           try clear hfz9_1
           try clear hfz9_2
           try clear hfz9_3
           try clear hfz9_4
           try clear hfz9_5
           try clear hfz9_6
           try clear hfz9_7
           try clear hx182_0
           try clear p1
           try clear p18
           try clear p182
           try clear p2
           try clear p6
           try clear q1
           try clear q18
           try clear q180
           try clear q182
           obtain ⟨x11_3, x14_3, rfl, HA, HK3, HO_2, HO_14, HO_48, HO_180005, HO_180007, HO_182000, HO_182002, BK164, BK179, BK181, HB⟩ := hrel
           cases gk with
           | zero => exact absurd HA.out (by simp [impl_GlyphSpots.l1])
           | succ k3 =>
            have H := HA.out
            clear HA
            simp only [impl_GlyphSpots.l1] at H
            by_cases c31 : x11_3 ≤ (wrap64 ((rd t170 x50_1)))
            ·rw [if_pos c31] at H
             have c31b0 : decide (x11_3 ≤ (wrap64 ((rd t170 x50_1)))) = true := decide_eq_true c31
             clear c31
             by_cases c32 : 0 ≤ x11_3
             ·rw [if_pos c32] at H
              have c32b0 : decide (0 ≤ x11_3) = true := decide_eq_true c32
              clear c32
              by_cases c33 : x11_3 < (t174.length : Int)
              ·rw [if_pos c33] at H
               have c33b0 : decide (x11_3 < (t174.length : Int)) = true := decide_eq_true c33
               clear c33
               by_cases c34 : x14_3.length < 5864062014805
               ·rw [if_pos c34] at H
                have LMc34 := Aside0.mk c34
                clear c34
                obtain ⟨y185, hy185⟩ : ∃ y_ : List (S51), y_ = (x14_3 ++ [(⟨((Go.bits .and .u8 ((rd_T123 t174 x11_3).f0) 1) != 0), wrap64 ((rd_T123 t174 x11_3).f1), wrap64 ((rd_T123 t174 x11_3).f2)⟩ : S51)]) := ⟨_, rfl⟩
                replace H : (impl_GlyphSpots.l1 k3 x2_1 (wrap64 (x11_3 + 1)) (rd t170 x50_1) y185 t170 (t170.length : Int) x50_1 x165000_1 x165001_1 x165002_1 x165003_1 t170 t173 t174) = some (r1, r2, r3, r4, r5, r6, r7) := by first | (rw [hy185]; with_reducible exact H) | (have H2_ := (Option.bind_some _ _).symm.trans H; rw [hy185]; with_reducible exact H2_) | (have H2_ := (Option.bind_some _ _).symm.trans H; with_reducible exact H2_) | with_reducible exact H | (rw [hy185]; exact H) | exact H
                have Ny185 := Aside0.mk hy185
                clear hy185
                have H' := Aside0.mk H
                clear H
                have hnb35 := NB181_164.out
                have hnc35 := NB164_181.out
                have hnb36 := NB181_179.out
                have hnc36 := NB179_181.out
                have hcz37_0 : wr.cell? ⟨gb181, 0, none⟩ = some (.slice (some ad182) t170.length co10) := (blk_cell BK181.out 0).trans rfl
                have hcz37_1 : wr.cell? ⟨gb181, 1, none⟩ = some (.slice A6_ nI6_ c6_) := (blk_cell BK181.out 1).trans rfl
                have hcz37_2 : wr.cell? ⟨gb181, 2, none⟩ = some (.slice Ao11 t174.length co11) := (blk_cell BK181.out 2).trans rfl
                have hfz37_0 := blk_frozen BK181.out 0
                have hfz37_1 := blk_frozen BK181.out 1
                have hfz37_2 := blk_frozen BK181.out 2
                have p183 : 0 ≤ (x11_3 : Int) := of_decide_eq_true (by first | (with_reducible assumption) | assumption)
                have q183 : x11_3 < (t174.length : Int) := of_decide_eq_true (by first | (with_reducible assumption) | assumption)
                obtain ⟨ad183, e183, hx183_0, hx183_1, hx183_2⟩ := at_T123 (Kd.R_reads' HO_182002.out).2.2 x11_3 p183 q183
                cases e183
                replace p183 := eq_true p183
                replace q183 := eq_true q183
                go_wp2_with (first | ((with_reducible refine gate_dst (N := 15) rfl ?_); (try (refine gate_guard (by rfl) ?_; dsimp only)); refine box_event ?hg (N := 15) ?hd (cs := #[.int .u8 0, .int .i16 0, .int .i16 0]) (t := 123) ?hr ?_; (case hd => rfl); (case hg => rfl); (case hr => first | (go_simp; done) | (go_simp; rfl)); intro gb184 hg w38 hbox hb; have n0_ := Aside0.mk (Kd.S_below (by (with_reducible repeat (first | apply Kd.S_alloc | apply Kd.S_drewN | apply Kd.S_drew)); exact HO_2.out) hb); have n1_ := Aside0.mk (Kd.R_below (by (with_reducible repeat (first | apply Kd.R_alloc | apply Kd.R_drewN | apply Kd.R_drew)); exact HO_14.out) hb); have n2_ := Aside0.mk (Kd.R_below (by (with_reducible repeat (first | apply Kd.R_alloc | apply Kd.R_drewN | apply Kd.R_drew)); exact HO_48.out) hb); have n3_ := Aside0.mk (Kd.R_below (by (with_reducible repeat (first | apply Kd.R_alloc | apply Kd.R_drewN | apply Kd.R_drew)); exact HO_180005.out) hb); have n4_ := Aside0.mk (Kd.R_below (Kd.R_elderB (by (with_reducible repeat (first | apply Kd.R_alloc | apply Kd.R_drewN | apply Kd.R_drew)); exact HO_180007.out) gb184 (Nat.le_of_eq hg.symm)) hb); have n5_ := Aside0.mk (Kd.R_below (by (with_reducible repeat (first | apply Kd.R_alloc | apply Kd.R_drewN | apply Kd.R_drew)); exact HO_182000.out) hb); have n6_ := Aside0.mk (Kd.R_below (Kd.R_elderB (by (with_reducible repeat (first | apply Kd.R_alloc | apply Kd.R_drewN | apply Kd.R_drew)); exact HO_182002.out) gb184 (Nat.le_of_eq hg.symm)) hb); have n7_ := Aside0.mk (blk_below (g := gb164) (o := .cells #[.int .i64 x165000_1, .int .i64 x165001_1, .int .i64 x165002_1, .int .i64 x165003_1] 49 (0, 0)) (by (with_reducible repeat (first | refine b1_ ?_ _ | refine b2_ ?_ | refine b3_ ?_ _)); exact BK164.out) hb); have n8_ := Aside0.mk (blk_below (g := gb179) (o := .cells #[.int .i16 t165, .int .i16 t166, .int .i16 t167, .int .i16 t168, .int .i16 t169, .iface 120 (.agg #[.slice (some ad182) t170.length co10, .slice A6_ nI6_ c6_, .slice (some ad183) t174.length co11])] 113 (0, 0)) (by (with_reducible repeat (first | refine b1_ ?_ _ | refine b2_ ?_ | refine b3_ ?_ _)); exact BK179.out) hb); have n9_ := Aside0.mk (blk_below (g := gb181) (o := .cells #[.slice (some ad182) t170.length co10, .slice A6_ nI6_ c6_, .slice (some ad183) t174.length co11] 120 (0, 0)) (by (with_reducible repeat (first | refine b1_ ?_ _ | refine b2_ ?_ | refine b3_ ?_ _)); exact BK181.out) hb); have n10_ := Aside0.mk (below_step (by repeat (first | (with_reducible first | exact HB.out | apply below_alloc | apply pw_below_drewN | apply below_drew1 | refine below_set ?_ GE164.out | refine below_set ?_ GE179.out | refine below_set ?_ GE181.out) | exact HB.out)) hb); have n11_ := Aside0.mk (hbox); have n12_ := Aside0.mk ((by rw [hg]; exact (below_size (by repeat (first | (with_reducible first | exact HB.out | apply below_alloc | apply pw_below_drewN | apply below_drew1 | refine below_set ?_ GE164.out | refine below_set ?_ GE179.out | refine below_set ?_ GE181.out) | exact HB.out))) : w.heap.size ≤ gb184)); have n13_ := Aside0.mk ((by rw [hg]; exact (below_size (by repeat (first | (with_reducible first | exact HB.out | apply below_alloc | apply pw_below_drewN | apply below_drew1 | refine below_set ?_ GE164.out | refine below_set ?_ GE179.out | refine below_set ?_ GE181.out) | exact HB.out))) : w.heap.size ≤ gb184)); have n14_ := Aside0.mk ((by rw [hg]; exact Nat.ne_of_lt (blk_lt (g := gb164) (o := .cells #[.int .i64 x165000_1, .int .i64 x165001_1, .int .i64 x165002_1, .int .i64 x165003_1] 49 (0, 0)) (by (with_reducible repeat (first | refine b1_ ?_ _ | refine b2_ ?_ | refine b3_ ?_ _)); exact BK164.out)) : gb164 ≠ gb184)); have n15_ := Aside0.mk ((by rw [hg]; exact Nat.ne_of_gt (blk_lt (g := gb164) (o := .cells #[.int .i64 x165000_1, .int .i64 x165001_1, .int .i64 x165002_1, .int .i64 x165003_1] 49 (0, 0)) (by (with_reducible repeat (first | refine b1_ ?_ _ | refine b2_ ?_ | refine b3_ ?_ _)); exact BK164.out)) : gb184 ≠ gb164)); have n16_ := Aside0.mk ((by rw [hg]; exact Nat.ne_of_lt (blk_lt (g := gb179) (o := .cells #[.int .i16 t165, .int .i16 t166, .int .i16 t167, .int .i16 t168, .int .i16 t169, .iface 120 (.agg #[.slice (some ad182) t170.length co10, .slice A6_ nI6_ c6_, .slice (some ad183) t174.length co11])] 113 (0, 0)) (by (with_reducible repeat (first | refine b1_ ?_ _ | refine b2_ ?_ | refine b3_ ?_ _)); exact BK179.out)) : gb179 ≠ gb184)); have n17_ := Aside0.mk ((by rw [hg]; exact Nat.ne_of_gt (blk_lt (g := gb179) (o := .cells #[.int .i16 t165, .int .i16 t166, .int .i16 t167, .int .i16 t168, .int .i16 t169, .iface 120 (.agg #[.slice (some ad182) t170.length co10, .slice A6_ nI6_ c6_, .slice (some ad183) t174.length co11])] 113 (0, 0)) (by (with_reducible repeat (first | refine b1_ ?_ _ | refine b2_ ?_ | refine b3_ ?_ _)); exact BK179.out)) : gb184 ≠ gb179)); have n18_ := Aside0.mk ((by rw [hg]; exact Nat.ne_of_lt (blk_lt (g := gb181) (o := .cells #[.slice (some ad182) t170.length co10, .slice A6_ nI6_ c6_, .slice (some ad183) t174.length co11] 120 (0, 0)) (by (with_reducible repeat (first | refine b1_ ?_ _ | refine b2_ ?_ | refine b3_ ?_ _)); exact BK181.out)) : gb181 ≠ gb184)); have n19_ := Aside0.mk ((by rw [hg]; exact Nat.ne_of_gt (blk_lt (g := gb181) (o := .cells #[.slice (some ad182) t170.length co10, .slice A6_ nI6_ c6_, .slice (some ad183) t174.length co11] 120 (0, 0)) (by (with_reducible repeat (first | refine b1_ ?_ _ | refine b2_ ?_ | refine b3_ ?_ _)); exact BK181.out)) : gb184 ≠ gb181)); clear HO_2; clear HO_14; clear HO_48; clear HO_180005; clear HO_180007; clear HO_182000; clear HO_182002; clear BK164; clear BK179; clear BK181; clear HB; have HO_2 := n0_; have HO_14 := n1_; have HO_48 := n2_; have HO_180005 := n3_; have HO_180007 := n4_; have HO_182000 := n5_; have HO_182002 := n6_; have BK164 := n7_; have BK179 := n8_; have BK181 := n9_; have HB := n10_; have BK184 := n11_; have GW184 := n12_; have GE184 := n13_; have NB164_184 := n14_; have NB184_164 := n15_; have NB179_184 := n16_; have NB184_179 := n17_; have NB181_184 := n18_; have NB184_181 := n19_; clear n0_ n1_ n2_ n3_ n4_ n5_ n6_ n7_ n8_ n9_ n10_ n11_ n12_ n13_ n14_ n15_ n16_ n17_ n18_ n19_; clear hb hbox hg; have hnb39 := NB184_164.out; have hnc39 := NB164_184.out; have hnb40 := NB184_179.out; have hnc40 := NB179_184.out; have hnb41 := NB184_181.out; have hnc41 := NB181_184.out; have hcz42_0 : w38.cell? ⟨gb184, 0, none⟩ = some (.int .u8 0) := (blk_cell BK184.out 0).trans rfl; have hcz42_1 : w38.cell? ⟨gb184, 1, none⟩ = some (.int .i16 0) := (blk_cell BK184.out 1).trans rfl; have hcz42_2 : w38.cell? ⟨gb184, 2, none⟩ = some (.int .i16 0) := (blk_cell BK184.out 2).trans rfl; have hfz42_0 := blk_frozen BK184.out 0; have hfz42_1 := blk_frozen BK184.out 1; have hfz42_2 := blk_frozen BK184.out 2) | ((with_reducible refine gate_builtin (b := .append) (xs := #[.tmp 78, .tmp 90]) rfl ?_); (try (refine gate_guard (by rfl) ?_; dsimp only)); at_builtin; refine Kd.R_append k51 (w0 := w) w.heap.size rfl (.tmp 78) (.tmp 90) 52 51 (.agg #[(.bool false), (.int .i64 0), (.int .i64 0)]) 24 rfl Try.underlying52 info51 rfl (by decide) (by omega) u14 x14_3 (⟨((Go.bits .and .u8 ((rd_T123 t174 x11_3).f0) 1) != 0), wrap64 ((rd_T123 t174 x11_3).f1), wrap64 ((rd_T123 t174 x11_3).f2)⟩ : S51) [.bool ((Go.bits .and .u8 ((rd_T123 t174 x11_3).f0) 1) != 0), .int .i64 (wrap64 ((rd_T123 t174 x11_3).f1)), .int .i64 (wrap64 ((rd_T123 t174 x11_3).f2))] (fun _ => True) (fun _ => False) rfl (by first | (go_simp; done) | (go_simp; rfl)) ?aP (fun _ hk => hk.elim) ?aF ?aO ?aB ?aS ?aL ?_; (case aP => exact k51_mkM _ _ _ (⟨((Go.bits .and .u8 ((rd_T123 t174 x11_3).f0) 1) != 0), wrap64 ((rd_T123 t174 x11_3).f1), wrap64 ((rd_T123 t174 x11_3).f2)⟩ : S51)); (case aB => exact (by repeat (first | (with_reducible first | exact HB.out | apply below_alloc | apply pw_below_drewN | apply below_drew1 | refine below_set ?_ GE164.out | refine below_set ?_ GE179.out | refine below_set ?_ GE181.out | refine below_set ?_ GE184.out) | exact HB.out))); (case aF => exact (fun _ _ => trivial)); (case aO => exact (by (with_reducible repeat (first | apply Kd.R_alloc | apply Kd.R_drewN | apply Kd.R_drew)); exact Kd.R_mono (Kd.R_far (p := ⟨gb184, 2, none⟩) (Kd.R_far (p := ⟨gb184, 1, none⟩) (Kd.R_far (p := ⟨gb184, 0, none⟩) (Kd.R_types HO_14.out BK184.out (by decide)) (fun _ hk => hk.2) (.int .u8 ((rd_T123 t174 x11_3).f0))) (fun _ hk => hk.2) (.int .i16 ((rd_T123 t174 x11_3).f1))) (fun _ hk => hk.2) (.int .i16 ((rd_T123 t174 x11_3).f2))) (fun _ hk => trivial))); (case aS => exact (below_size (by repeat (first | (with_reducible first | exact HB.out | apply below_alloc | apply pw_below_drewN | apply below_drew1 | refine below_set ?_ GE164.out | refine below_set ?_ GE179.out | refine below_set ?_ GE181.out | refine below_set ?_ GE184.out) | exact HB.out)))); (case aL => have := LMc34.out; omega); intro v186 w43 ho hb hg hat; rw [← Ny185.out] at ho; have n0_ := Aside0.mk (Kd.S_after (ok := (fun _ => True)) (by (with_reducible repeat (first | apply Kd.S_alloc | apply Kd.S_drewN | apply Kd.S_drew)); exact Kd.S_mono (Kd.S_far (p := ⟨gb184, 2, none⟩) (Kd.S_far (p := ⟨gb184, 1, none⟩) (Kd.S_far (p := ⟨gb184, 0, none⟩) (Kd.S_types HO_2.out BK184.out (by decide)) (fun _ hk => hk.2) (.int .u8 ((rd_T123 t174 x11_3).f0))) (fun _ hk => hk.2) (.int .i16 ((rd_T123 t174 x11_3).f1))) (fun _ hk => hk.2) (.int .i16 ((rd_T123 t174 x11_3).f2))) (fun _ hk => ⟨trivial, hk.1⟩)) hg hat); have n1_ := Aside0.mk (Kd.R_over' (by (with_reducible repeat (first | apply Kd.R_alloc | apply Kd.R_drewN | apply Kd.R_drew)); exact (Kd.R_mono (Kd.R_far (p := ⟨gb184, 2, none⟩) (Kd.R_far (p := ⟨gb184, 1, none⟩) (Kd.R_far (p := ⟨gb184, 0, none⟩) (Kd.R_types HO_48.out BK184.out (by decide)) (fun _ hk => hk.2) (.int .u8 ((rd_T123 t174 x11_3).f0))) (fun _ hk => hk.2) (.int .i16 ((rd_T123 t174 x11_3).f1))) (fun _ hk => hk.2) (.int .i16 ((rd_T123 t174 x11_3).f2))) (fun _ h_ => h_.1))) (Kd.R_typed (by (with_reducible repeat (first | apply Kd.R_alloc | apply Kd.R_drewN | apply Kd.R_drew)); exact (Kd.R_mono (Kd.R_far (p := ⟨gb184, 2, none⟩) (Kd.R_far (p := ⟨gb184, 1, none⟩) (Kd.R_far (p := ⟨gb184, 0, none⟩) (Kd.R_types HO_14.out BK184.out (by decide)) (fun _ hk => hk.2) (.int .u8 ((rd_T123 t174 x11_3).f0))) (fun _ hk => hk.2) (.int .i16 ((rd_T123 t174 x11_3).f1))) (fun _ hk => hk.2) (.int .i16 ((rd_T123 t174 x11_3).f2))) (fun _ h_ => h_.1)))) (by decide) hg); have n2_ := Aside0.mk (Kd.R_over' (by (with_reducible repeat (first | apply Kd.R_alloc | apply Kd.R_drewN | apply Kd.R_drew)); exact (Kd.R_mono (Kd.R_far (p := ⟨gb184, 2, none⟩) (Kd.R_far (p := ⟨gb184, 1, none⟩) (Kd.R_far (p := ⟨gb184, 0, none⟩) (Kd.R_types HO_180005.out BK184.out (by decide)) (fun _ hk => hk.2) (.int .u8 ((rd_T123 t174 x11_3).f0))) (fun _ hk => hk.2) (.int .i16 ((rd_T123 t174 x11_3).f1))) (fun _ hk => hk.2) (.int .i16 ((rd_T123 t174 x11_3).f2))) (fun _ h_ => h_.1))) (Kd.R_typed (by (with_reducible repeat (first | apply Kd.R_alloc | apply Kd.R_drewN | apply Kd.R_drew)); exact (Kd.R_mono (Kd.R_far (p := ⟨gb184, 2, none⟩) (Kd.R_far (p := ⟨gb184, 1, none⟩) (Kd.R_far (p := ⟨gb184, 0, none⟩) (Kd.R_types HO_14.out BK184.out (by decide)) (fun _ hk => hk.2) (.int .u8 ((rd_T123 t174 x11_3).f0))) (fun _ hk => hk.2) (.int .i16 ((rd_T123 t174 x11_3).f1))) (fun _ hk => hk.2) (.int .i16 ((rd_T123 t174 x11_3).f2))) (fun _ h_ => h_.1)))) (by decide) hg); have n3_ := Aside0.mk (Kd.R_over' (by (with_reducible repeat (first | apply Kd.R_alloc | apply Kd.R_drewN | apply Kd.R_drew)); exact (Kd.R_mono (Kd.R_far (p := ⟨gb184, 2, none⟩) (Kd.R_far (p := ⟨gb184, 1, none⟩) (Kd.R_far (p := ⟨gb184, 0, none⟩) (Kd.R_mono HO_180007.out (fun k_ hk => (⟨hk, hk.2⟩ : _ ∧ k_ ≠ gb184))) (fun _ hk => hk.2) (.int .u8 ((rd_T123 t174 x11_3).f0))) (fun _ hk => hk.2) (.int .i16 ((rd_T123 t174 x11_3).f1))) (fun _ hk => hk.2) (.int .i16 ((rd_T123 t174 x11_3).f2))) (fun _ h_ => h_.1))) (Kd.R_typed (by (with_reducible repeat (first | apply Kd.R_alloc | apply Kd.R_drewN | apply Kd.R_drew)); exact (Kd.R_mono (Kd.R_far (p := ⟨gb184, 2, none⟩) (Kd.R_far (p := ⟨gb184, 1, none⟩) (Kd.R_far (p := ⟨gb184, 0, none⟩) (Kd.R_types HO_14.out BK184.out (by decide)) (fun _ hk => hk.2) (.int .u8 ((rd_T123 t174 x11_3).f0))) (fun _ hk => hk.2) (.int .i16 ((rd_T123 t174 x11_3).f1))) (fun _ hk => hk.2) (.int .i16 ((rd_T123 t174 x11_3).f2))) (fun _ h_ => h_.1)))) (by decide) hg); have n4_ := Aside0.mk (Kd.R_over' (by (with_reducible repeat (first | apply Kd.R_alloc | apply Kd.R_drewN | apply Kd.R_drew)); exact (Kd.R_mono (Kd.R_far (p := ⟨gb184, 2, none⟩) (Kd.R_far (p := ⟨gb184, 1, none⟩) (Kd.R_far (p := ⟨gb184, 0, none⟩) (Kd.R_types HO_182000.out BK184.out (by decide)) (fun _ hk => hk.2) (.int .u8 ((rd_T123 t174 x11_3).f0))) (fun _ hk => hk.2) (.int .i16 ((rd_T123 t174 x11_3).f1))) (fun _ hk => hk.2) (.int .i16 ((rd_T123 t174 x11_3).f2))) (fun _ h_ => h_.1))) (Kd.R_typed (by (with_reducible repeat (first | apply Kd.R_alloc | apply Kd.R_drewN | apply Kd.R_drew)); exact (Kd.R_mono (Kd.R_far (p := ⟨gb184, 2, none⟩) (Kd.R_far (p := ⟨gb184, 1, none⟩) (Kd.R_far (p := ⟨gb184, 0, none⟩) (Kd.R_types HO_14.out BK184.out (by decide)) (fun _ hk => hk.2) (.int .u8 ((rd_T123 t174 x11_3).f0))) (fun _ hk => hk.2) (.int .i16 ((rd_T123 t174 x11_3).f1))) (fun _ hk => hk.2) (.int .i16 ((rd_T123 t174 x11_3).f2))) (fun _ h_ => h_.1)))) (by decide) hg); have n5_ := Aside0.mk (Kd.R_over' (by (with_reducible repeat (first | apply Kd.R_alloc | apply Kd.R_drewN | apply Kd.R_drew)); exact (Kd.R_mono (Kd.R_far (p := ⟨gb184, 2, none⟩) (Kd.R_far (p := ⟨gb184, 1, none⟩) (Kd.R_far (p := ⟨gb184, 0, none⟩) (Kd.R_mono HO_182002.out (fun k_ hk => (⟨hk, hk.2⟩ : _ ∧ k_ ≠ gb184))) (fun _ hk => hk.2) (.int .u8 ((rd_T123 t174 x11_3).f0))) (fun _ hk => hk.2) (.int .i16 ((rd_T123 t174 x11_3).f1))) (fun _ hk => hk.2) (.int .i16 ((rd_T123 t174 x11_3).f2))) (fun _ h_ => h_.1))) (Kd.R_typed (by (with_reducible repeat (first | apply Kd.R_alloc | apply Kd.R_drewN | apply Kd.R_drew)); exact (Kd.R_mono (Kd.R_far (p := ⟨gb184, 2, none⟩) (Kd.R_far (p := ⟨gb184, 1, none⟩) (Kd.R_far (p := ⟨gb184, 0, none⟩) (Kd.R_types HO_14.out BK184.out (by decide)) (fun _ hk => hk.2) (.int .u8 ((rd_T123 t174 x11_3).f0))) (fun _ hk => hk.2) (.int .i16 ((rd_T123 t174 x11_3).f1))) (fun _ hk => hk.2) (.int .i16 ((rd_T123 t174 x11_3).f2))) (fun _ h_ => h_.1)))) (by decide) hg); have n6_ := Aside0.mk (blk_grown (g := gb164) (o := .cells #[.int .i64 x165000_1, .int .i64 x165001_1, .int .i64 x165002_1, .int .i64 x165003_1] 49 (0, 0)) (by (with_reducible repeat (first | refine b1_ ?_ _ | refine b2_ ?_ | refine b3_ ?_ _)); refine blk_far ?_ NB164_184.out _; (with_reducible repeat (first | refine b1_ ?_ _ | refine b2_ ?_ | refine b3_ ?_ _)); refine blk_far ?_ NB164_184.out _; (with_reducible repeat (first | refine b1_ ?_ _ | refine b2_ ?_ | refine b3_ ?_ _)); refine blk_far ?_ NB164_184.out _; (with_reducible repeat (first | refine b1_ ?_ _ | refine b2_ ?_ | refine b3_ ?_ _)); exact BK164.out) hg (Kd.R_ne HO_14.out BK164.out (by decide))); have n7_ := Aside0.mk (blk_grown (g := gb179) (o := .cells #[.int .i16 t165, .int .i16 t166, .int .i16 t167, .int .i16 t168, .int .i16 t169, .iface 120 (.agg #[.slice (some ad182) t170.length co10, .slice A6_ nI6_ c6_, .slice (some ad183) t174.length co11])] 113 (0, 0)) (by (with_reducible repeat (first | refine b1_ ?_ _ | refine b2_ ?_ | refine b3_ ?_ _)); refine blk_far ?_ NB179_184.out _; (with_reducible repeat (first | refine b1_ ?_ _ | refine b2_ ?_ | refine b3_ ?_ _)); refine blk_far ?_ NB179_184.out _; (with_reducible repeat (first | refine b1_ ?_ _ | refine b2_ ?_ | refine b3_ ?_ _)); refine blk_far ?_ NB179_184.out _; (with_reducible repeat (first | refine b1_ ?_ _ | refine b2_ ?_ | refine b3_ ?_ _)); exact BK179.out) hg (Kd.R_ne HO_14.out BK179.out (by decide))); have n8_ := Aside0.mk (blk_grown (g := gb181) (o := .cells #[.slice (some ad182) t170.length co10, .slice A6_ nI6_ c6_, .slice (some ad183) t174.length co11] 120 (0, 0)) (by (with_reducible repeat (first | refine b1_ ?_ _ | refine b2_ ?_ | refine b3_ ?_ _)); refine blk_far ?_ NB181_184.out _; (with_reducible repeat (first | refine b1_ ?_ _ | refine b2_ ?_ | refine b3_ ?_ _)); refine blk_far ?_ NB181_184.out _; (with_reducible repeat (first | refine b1_ ?_ _ | refine b2_ ?_ | refine b3_ ?_ _)); refine blk_far ?_ NB181_184.out _; (with_reducible repeat (first | refine b1_ ?_ _ | refine b2_ ?_ | refine b3_ ?_ _)); exact BK181.out) hg (Kd.R_ne HO_14.out BK181.out (by decide))); have n9_ := Aside0.mk (blk_grown (g := gb184) (o := .cells #[.int .u8 ((rd_T123 t174 x11_3).f0), .int .i16 ((rd_T123 t174 x11_3).f1), .int .i16 ((rd_T123 t174 x11_3).f2)] 123 (0, 0)) (by (with_reducible repeat (first | refine b1_ ?_ _ | refine b2_ ?_ | refine b3_ ?_ _)); refine blk_put (cs := #[.int .u8 ((rd_T123 t174 x11_3).f0), .int .i16 ((rd_T123 t174 x11_3).f1), .int .i16 0]) ?_ 2 _ rfl; (with_reducible repeat (first | refine b1_ ?_ _ | refine b2_ ?_ | refine b3_ ?_ _)); refine blk_put (cs := #[.int .u8 ((rd_T123 t174 x11_3).f0), .int .i16 0, .int .i16 0]) ?_ 1 _ rfl; (with_reducible repeat (first | refine b1_ ?_ _ | refine b2_ ?_ | refine b3_ ?_ _)); refine blk_put (cs := #[.int .u8 0, .int .i16 0, .int .i16 0]) ?_ 0 _ rfl; (with_reducible repeat (first | refine b1_ ?_ _ | refine b2_ ?_ | refine b3_ ?_ _)); exact BK184.out) hg (Kd.R_ne HO_14.out BK184.out (by decide))); have n10_ := Aside0.mk (hb); have n11_ := Aside0.mk (ho); clear HO_2; clear HO_48; clear HO_180005; clear HO_180007; clear HO_182000; clear HO_182002; clear BK164; clear BK179; clear BK181; clear BK184; clear HB; clear HO_14; have HO_2 := n0_; have HO_48 := n1_; have HO_180005 := n2_; have HO_180007 := n3_; have HO_182000 := n4_; have HO_182002 := n5_; have BK164 := n6_; have BK179 := n7_; have BK181 := n8_; have BK184 := n9_; have HB := n10_; have HO187 := n11_; clear n0_ n1_ n2_ n3_ n4_ n5_ n6_ n7_ n8_ n9_ n10_ n11_; clear ho hb hg hat))
                go_roundg k3
                case measure => have := HK1.out; have := HJ19.out; have := HK3.out; omega
                case rel => exact ⟨(wrap64 (x11_3 + 1)), (y185), (by first | rfl | (simp; done) | (simp [*]; done)), H', ⟨by have := HK1.out; have := HJ19.out; have := HK3.out; omega⟩, ⟨by (with_reducible repeat (first | apply Kd.S_alloc | apply Kd.S_drewN | apply Kd.S_drew)); exact Kd.S_mono HO_2.out (fun _ hk => hk.2)⟩, ⟨by (with_reducible repeat (first | apply Kd.R_alloc | apply Kd.R_drewN | apply Kd.R_drew)); exact HO187.out⟩, ⟨by (with_reducible repeat (first | apply Kd.R_alloc | apply Kd.R_drewN | apply Kd.R_drew)); exact HO_48.out⟩, ⟨by (with_reducible repeat (first | apply Kd.R_alloc | apply Kd.R_drewN | apply Kd.R_drew)); exact HO_180005.out⟩, ⟨by (with_reducible repeat (first | apply Kd.R_alloc | apply Kd.R_drewN | apply Kd.R_drew)); exact Kd.R_mono HO_180007.out (fun _ hk => trivial)⟩, ⟨by (with_reducible repeat (first | apply Kd.R_alloc | apply Kd.R_drewN | apply Kd.R_drew)); exact HO_182000.out⟩, ⟨by (with_reducible repeat (first | apply Kd.R_alloc | apply Kd.R_drewN | apply Kd.R_drew)); exact Kd.R_mono HO_182002.out (fun _ hk => trivial)⟩, ⟨by (with_reducible repeat (first | refine b1_ ?_ _ | refine b2_ ?_ | refine b3_ ?_ _)); exact BK164.out⟩, ⟨by (with_reducible repeat (first | refine b1_ ?_ _ | refine b2_ ?_ | refine b3_ ?_ _)); exact BK179.out⟩, ⟨by (with_reducible repeat (first | refine b1_ ?_ _ | refine b2_ ?_ | refine b3_ ?_ _)); exact BK181.out⟩, ⟨by repeat (first | (with_reducible first | exact HB.out | apply below_alloc | apply pw_below_drewN | apply below_drew1 | refine below_set ?_ GE164.out | refine below_set ?_ GE179.out | refine below_set ?_ GE181.out | refine below_set ?_ GE184.out) | exact HB.out)⟩⟩
               ·rw [if_neg c34] at H
                exact absurd H (by simp)
              ·rw [if_neg c33] at H
               exact absurd H (by simp)
             ·rw [if_neg c32] at H
              exact absurd H (by simp)
            ·rw [if_neg c31] at H
             have c31b0 : decide (x11_3 ≤ (wrap64 ((rd t170 x50_1)))) = false := decide_eq_false c31
             clear c31
             by_cases c44 : x2_1.length < 5864062014805
             ·rw [if_pos c44] at H
              have LMc44 := Aside0.mk c44
              clear c44
              obtain ⟨y188, hy188⟩ : ∃ y_ : List (List (S51)), y_ = (x2_1 ++ [x14_3]) := ⟨_, rfl⟩
              replace H : (impl_GlyphSpots.l0 k3 y188 x11_3 t170 (t170.length : Int) (wrap64 (x50_1 + 1)) x165000_1 x165001_1 x165002_1 x165003_1 t170 t173 t174) = some (r1, r2, r3, r4, r5, r6, r7) := by first | (rw [hy188]; with_reducible exact H) | (have H2_ := (Option.bind_some _ _).symm.trans H; rw [hy188]; with_reducible exact H2_) | (have H2_ := (Option.bind_some _ _).symm.trans H; with_reducible exact H2_) | with_reducible exact H | (rw [hy188]; exact H) | exact H
              have Ny188 := Aside0.mk hy188
              clear hy188
              have H' := Aside0.mk H
              clear H
              obtain ⟨Ao46, co46, eo46⟩ := Kd.R_slice HO_14.out
              subst eo46
              go_wp2_with (first | ((with_reducible refine gate_builtin (b := .append) (xs := #[.tmp 92, .tmp 94]) rfl ?_); (try (refine gate_guard (by rfl) ?_; dsimp only)); at_builtin; refine Kd.S_append (Kd.slice 51 k51) (w0 := w) w.heap.size rfl (.tmp 92) (.tmp 94) 45 52 (.slice none 0 0) 24 rfl Try.underlying45 info52 rfl (by decide) (by omega) u2 x2_1 x14_3 [.slice Ao46 x14_3.length co46] (fun _ => True) (fun k_ => some k_ = (.slice Ao46 x14_3.length co46 : Value).ownBlock) rfl rfl ?aP (fun k_ hk_ => ((Kd.R_mono (ok' := fun k_ => ((fun _ => True)) k_ ∧ some k_ ≠ (u2 : Value).ownBlock) (Kd.R_apart' (HO_14.out) (Kd.S_typed HO_2.out) (by decide)) (fun k_ hk => ⟨trivial, hk.2⟩))).1 k_ hk_.symm) ?aF ?aO ?aB ?aS ?aL ?_; (case aP => exact Kd.M_row (Kd.R_mono (Kd.R_tight rfl (Kd.R_mono (ok' := fun k_ => ((fun _ => True)) k_ ∧ some k_ ≠ (u2 : Value).ownBlock) (Kd.R_apart' (HO_14.out) (Kd.S_typed HO_2.out) (by decide)) (fun k_ hk => ⟨trivial, hk.2⟩))) (fun _ h_ => h_))); (case aB => exact (by repeat (first | (with_reducible first | exact HB.out | apply below_alloc | apply pw_below_drewN | apply below_drew1 | refine below_set ?_ GE164.out | refine below_set ?_ GE179.out | refine below_set ?_ GE181.out) | exact HB.out))); (case aF => exact (fun _ _ => trivial)); (case aO => exact (by (with_reducible repeat (first | apply Kd.S_alloc | apply Kd.S_drewN | apply Kd.S_drew)); exact Kd.S_mono HO_2.out (fun k_ hk => ⟨trivial, fun e_ => hk e_⟩))); (case aS => exact (below_size (by repeat (first | (with_reducible first | exact HB.out | apply below_alloc | apply pw_below_drewN | apply below_drew1 | refine below_set ?_ GE164.out | refine below_set ?_ GE179.out | refine below_set ?_ GE181.out) | exact HB.out)))); (case aL => have := LMc44.out; omega); intro v189 w45 ho hb hg hat; rw [← Ny188.out] at ho; have n0_ := Aside0.mk (Kd.R_over' (by (with_reducible repeat (first | apply Kd.R_alloc | apply Kd.R_drewN | apply Kd.R_drew)); exact HO_48.out) (Kd.S_typed (by (with_reducible repeat (first | apply Kd.S_alloc | apply Kd.S_drewN | apply Kd.S_drew)); exact HO_2.out)) (by decide) hg); have n1_ := Aside0.mk (Kd.R_over' (by (with_reducible repeat (first | apply Kd.R_alloc | apply Kd.R_drewN | apply Kd.R_drew)); exact HO_180005.out) (Kd.S_typed (by (with_reducible repeat (first | apply Kd.S_alloc | apply Kd.S_drewN | apply Kd.S_drew)); exact HO_2.out)) (by decide) hg); have n2_ := Aside0.mk (Kd.R_over' (by (with_reducible repeat (first | apply Kd.R_alloc | apply Kd.R_drewN | apply Kd.R_drew)); exact HO_180007.out) (Kd.S_typed (by (with_reducible repeat (first | apply Kd.S_alloc | apply Kd.S_drewN | apply Kd.S_drew)); exact HO_2.out)) (by decide) hg); have n3_ := Aside0.mk (Kd.R_over' (by (with_reducible repeat (first | apply Kd.R_alloc | apply Kd.R_drewN | apply Kd.R_drew)); exact HO_182000.out) (Kd.S_typed (by (with_reducible repeat (first | apply Kd.S_alloc | apply Kd.S_drewN | apply Kd.S_drew)); exact HO_2.out)) (by decide) hg); have n4_ := Aside0.mk (Kd.R_over' (by (with_reducible repeat (first | apply Kd.R_alloc | apply Kd.R_drewN | apply Kd.R_drew)); exact HO_182002.out) (Kd.S_typed (by (with_reducible repeat (first | apply Kd.S_alloc | apply Kd.S_drewN | apply Kd.S_drew)); exact HO_2.out)) (by decide) hg); have n5_ := Aside0.mk (blk_grown (g := gb164) (o := .cells #[.int .i64 x165000_1, .int .i64 x165001_1, .int .i64 x165002_1, .int .i64 x165003_1] 49 (0, 0)) (by (with_reducible repeat (first | refine b1_ ?_ _ | refine b2_ ?_ | refine b3_ ?_ _)); exact BK164.out) hg (Kd.S_ne HO_2.out BK164.out (by decide))); have n6_ := Aside0.mk (blk_grown (g := gb179) (o := .cells #[.int .i16 t165, .int .i16 t166, .int .i16 t167, .int .i16 t168, .int .i16 t169, .iface 120 (.agg #[.slice (some ad182) t170.length co10, .slice A6_ nI6_ c6_, .slice Ao11 t174.length co11])] 113 (0, 0)) (by (with_reducible repeat (first | refine b1_ ?_ _ | refine b2_ ?_ | refine b3_ ?_ _)); exact BK179.out) hg (Kd.S_ne HO_2.out BK179.out (by decide))); have n7_ := Aside0.mk (blk_grown (g := gb181) (o := .cells #[.slice (some ad182) t170.length co10, .slice A6_ nI6_ c6_, .slice Ao11 t174.length co11] 120 (0, 0)) (by (with_reducible repeat (first | refine b1_ ?_ _ | refine b2_ ?_ | refine b3_ ?_ _)); exact BK181.out) hg (Kd.S_ne HO_2.out BK181.out (by decide))); have n8_ := Aside0.mk (hb); have n9_ := Aside0.mk (ho); clear HO_48; clear HO_180005; clear HO_180007; clear HO_182000; clear HO_182002; clear BK164; clear BK179; clear BK181; clear HB; clear HO_2; clear HO_14; have HO_48 := n0_; have HO_180005 := n1_; have HO_180007 := n2_; have HO_182000 := n3_; have HO_182002 := n4_; have BK164 := n5_; have BK179 := n6_; have BK181 := n7_; have HB := n8_; have HO190 := n9_; clear n0_ n1_ n2_ n3_ n4_ n5_ n6_ n7_ n8_ n9_; clear ho hb hg hat))
              go_roundg k3
              case measure => have := HK1.out; have := HJ19.out; have := HK3.out; omega
              case rel => exact ⟨(y188), (x11_3), (wrap64 (x50_1 + 1)), (x165000_1), (x165001_1), (x165002_1), (x165003_1), (by first | rfl | (simp; done) | (simp [*]; done)), (by first | rfl | (simp; done) | (simp [*]; done)), H', ⟨by have := HK1.out; have := HJ19.out; have := HK3.out; omega⟩, ⟨by (with_reducible repeat (first | apply Kd.S_alloc | apply Kd.S_drewN | apply Kd.S_drew)); exact HO190.out⟩, ⟨by (with_reducible repeat (first | apply Kd.R_alloc | apply Kd.R_drewN | apply Kd.R_drew)); exact HO_48.out⟩, ⟨by (with_reducible repeat (first | apply Kd.R_alloc | apply Kd.R_drewN | apply Kd.R_drew)); exact HO_180005.out⟩, ⟨by (with_reducible repeat (first | apply Kd.R_alloc | apply Kd.R_drewN | apply Kd.R_drew)); exact HO_180007.out⟩, ⟨by (with_reducible repeat (first | apply Kd.R_alloc | apply Kd.R_drewN | apply Kd.R_drew)); exact HO_182000.out⟩, ⟨by (with_reducible repeat (first | apply Kd.R_alloc | apply Kd.R_drewN | apply Kd.R_drew)); exact HO_182002.out⟩, ⟨by (with_reducible repeat (first | refine b1_ ?_ _ | refine b2_ ?_ | refine b3_ ?_ _)); exact BK164.out⟩, ⟨by (with_reducible repeat (first | refine b1_ ?_ _ | refine b2_ ?_ | refine b3_ ?_ _)); exact BK179.out⟩, ⟨by (with_reducible repeat (first | refine b1_ ?_ _ | refine b2_ ?_ | refine b3_ ?_ _)); exact BK181.out⟩, ⟨by repeat (first | (with_reducible first | exact HB.out | apply below_alloc | apply pw_below_drewN | apply below_drew1 | refine below_set ?_ GE164.out | refine below_set ?_ GE179.out | refine below_set ?_ GE181.out) | exact HB.out)⟩⟩
             ·rw [if_neg c44] at H
              exact absurd H (by simp)
      ·rw [if_neg c19] at H
       exact absurd H (by simp)
     ·rw [if_neg c18] at H
      exact absurd H (by simp)
    ·rw [if_neg c17] at H
     have c17b0 : decide (x50_1 < (t170.length : Int)) = false := decide_eq_false c17
     clear c17
     simp only [Option.some.injEq, Prod.mk.injEq] at H
     obtain ⟨rfl, rfl, rfl, rfl, rfl, rfl, rfl⟩ := H
     try go_wp2
     have n0_ := Aside0.mk (Kd.S_drew HO_2.out)
     have n1_ := Aside0.mk (Kd.R_drew HO_48.out)
     have n2_ := Aside0.mk (Kd.R_drew HO_180005.out)
     have n3_ := Aside0.mk (Kd.R_drew HO_180007.out)
     have n4_ := Aside0.mk (Kd.R_drew HO_182000.out)
     have n5_ := Aside0.mk (Kd.R_drew HO_182002.out)
     have n6_ := Aside0.mk (blk_drew BK164.out)
     have n7_ := Aside0.mk (blk_drew BK179.out)
     have n8_ := Aside0.mk (blk_drew BK181.out)
     have n9_ := Aside0.mk (below_drew1 HB.out)
     clear HO_2
     clear HO_48
     clear HO_180005
     clear HO_180007
     clear HO_182000
     clear HO_182002
     clear BK164
     clear BK179
     clear BK181
     clear HB
     have HO_2 := n0_
     have HO_48 := n1_
     have HO_180005 := n2_
     have HO_180007 := n3_
     have HO_182000 := n4_
     have HO_182002 := n5_
     have BK164 := n6_
     have BK179 := n7_
     have BK181 := n8_
     have HB := n9_
     clear n0_ n1_ n2_ n3_ n4_ n5_ n6_ n7_ n8_ n9_
     refine start_ (n := 6) (S := fun w' => w'.cell? ⟨gb164, 0, none⟩ = some (.int .i64 x165000_1) ∧ w'.cell? ⟨gb164, 1, none⟩ = some (.int .i64 x165001_1) ∧ w'.cell? ⟨gb164, 2, none⟩ = some (.int .i64 x165002_1) ∧ w'.cell? ⟨gb164, 3, none⟩ = some (.int .i64 x165003_1)) (ds := [3]) #[false, false, false, false, false, false] (by kernel_rfl) rfl rfl ⟨(blk_cell BK164.out 0).trans rfl, (blk_cell BK164.out 1).trans rfl, (blk_cell BK164.out 2).trans rfl, (blk_cell BK164.out 3).trans rfl⟩ (fun hHeld => ?_)
     generalize wr.drew = w47 at HO_2 HO_48 HO_180005 HO_180007 HO_182000 HO_182002 BK164 BK179 BK181 HB hHeld ⊢
     refine pure_ (i := 0) (N := some 97) (v := ?_) (a' := ?_) #[true, false, false, false, false, false] rfl rfl (by kernel_rfl) (fun _ _ _ h => h) (Or.inl ⟨by rfl, ?_⟩) ?_ ?_
     rotate_left
     ·intro w'
      go_simp
      with_reducible rfl
     rotate_left
     ·simp only [Act.put, L1_, L2_, L3_, i64_w, i32_w]
      rfl
     refine pure_ (i := 2) (N := some 2) (v := ?_) (a' := ?_) #[true, false, true, false, false, false] rfl rfl (by kernel_rfl) (fun _ _ _ h => h) (Or.inl ⟨by rfl, ?_⟩) ?_ ?_
     rotate_left
     ·intro w'
      go_simp
      with_reducible rfl
     rotate_left
     ·simp only [Act.put, L1_, L2_, L3_, i64_w, i32_w]
      rfl
     refine take_ (i := 1) (N := some 98) (v := ?_) (a' := ?_) #[true, true, true, false, false, false] rfl rfl (by kernel_rfl) (fun _ _ _ h => h) (Or.inl ⟨by rfl, ?_⟩) hHeld ?_ ?_
     rotate_left
     ·rintro w' ⟨s0, s1, s2, s3⟩
      go_simp
      with_reducible rfl
     rotate_left
     ·simp only [Act.put, L1_, L2_, L3_, i64_w, i32_w]
      rfl
     refine last_ (i := 3) (N := none) #[true, true, true, true, false, false] rfl rfl (by kernel_rfl) (by decide) (fun K hK => ?_)
     have hs48 : w47.cell? ⟨gb164, 0, none⟩ = some (.int .i64 x165000_1) := (blk_cell BK164.out 0).trans rfl
     have hfs48 := blk_frozen BK164.out 0
     have hns48_1 := NB179_164.out
     have hns48_2 := NB181_164.out
     have hms48_1 := NB164_179.out
     have hms48_2 := NB164_181.out
     have hs49 : w47.cell? ⟨gb164, 1, none⟩ = some (.int .i64 x165001_1) := (blk_cell BK164.out 1).trans rfl
     have hfs49 := blk_frozen BK164.out 1
     have hns49_1 := NB179_164.out
     have hns49_2 := NB181_164.out
     have hms49_1 := NB164_179.out
     have hms49_2 := NB164_181.out
     have hs50 : w47.cell? ⟨gb164, 2, none⟩ = some (.int .i64 x165002_1) := (blk_cell BK164.out 2).trans rfl
     have hfs50 := blk_frozen BK164.out 2
     have hns50_1 := NB179_164.out
     have hns50_2 := NB181_164.out
     have hms50_1 := NB164_179.out
     have hms50_2 := NB164_181.out
     have hs51 : w47.cell? ⟨gb164, 3, none⟩ = some (.int .i64 x165003_1) := (blk_cell BK164.out 3).trans rfl
     have hfs51 := blk_frozen BK164.out 3
     have hns51_1 := NB179_164.out
     have hns51_2 := NB181_164.out
     have hms51_1 := NB164_179.out
     have hms51_2 := NB164_181.out
     refine skip_ (w1 := ?_) (by rfl) rfl ?_ ?_
     rotate_left
     ·go_simp
      rfl
     refine hK.out _ _ ?_
     clear hK K
     refine pure_ (i := 4) (N := some 4) (v := ?_) (a' := ?_) #[true, true, true, true, true, false] rfl rfl (by kernel_rfl) (fun _ _ _ h => h) (Or.inl ⟨by rfl, ?_⟩) ?_ ?_
     rotate_left
     ·intro w'
      go_simp
      with_reducible rfl
     rotate_left
     ·simp only [Act.put, L1_, L2_, L3_, i64_w, i32_w]
      rfl
     refine pure_ (i := 5) (N := some 5) (v := ?_) (a' := ?_) #[true, true, true, true, true, true] rfl rfl (by kernel_rfl) (fun _ _ _ h => h) (Or.inl ⟨by rfl, ?_⟩) ?_ ?_
     rotate_left
     ·intro w'
      go_simp
      with_reducible rfl
     rotate_left
     ·simp only [Act.put, L1_, L2_, L3_, i64_w, i32_w]
      rfl
     refine done_ (by kernel_rfl) ?_
     try go_wp2
     refine bodyPost_ret (results_list (rs := [.tmp 2, .cell 3 49, .tmp 4, .tmp 5]) rfl (by simp) (.tmp (.cell gb164 49 #[.int .i64 x165000_1, .int .i64 x165001_1, .int .i64 x165002_1, .int .i64 x165003_1] (0, 0) _ rfl (by (with_reducible repeat (first | refine b1_ ?_ _ | refine b2_ ?_ | refine b3_ ?_ _)); refine blk_put (cs := #[.int .i64 x165000_1, .int .i64 x165001_1, .int .i64 x165002_1, .int .i64 x165003_1]) ?_ 3 _ rfl; (with_reducible repeat (first | refine b1_ ?_ _ | refine b2_ ?_ | refine b3_ ?_ _)); refine blk_put (cs := #[.int .i64 x165000_1, .int .i64 x165001_1, .int .i64 x165002_1, .int .i64 x165003_1]) ?_ 2 _ rfl; (with_reducible repeat (first | refine b1_ ?_ _ | refine b2_ ?_ | refine b3_ ?_ _)); refine blk_put (cs := #[.int .i64 x165000_1, .int .i64 x165001_1, .int .i64 x165002_1, .int .i64 x165003_1]) ?_ 1 _ rfl; (with_reducible repeat (first | refine b1_ ?_ _ | refine b2_ ?_ | refine b3_ ?_ _)); refine blk_put (cs := #[.int .i64 x165000_1, .int .i64 x165001_1, .int .i64 x165002_1, .int .i64 x165003_1]) ?_ 0 _ rfl; (with_reducible repeat (first | refine b1_ ?_ _ | refine b2_ ?_ | refine b3_ ?_ _)); exact BK164.out) Try.underlying49 rfl (by kernel_rfl) (.tmp (.tmp .nil))))) rfl ?_
     exact ⟨_, by first | rfl | (simp [errW_none, errW_some] <;> rfl) | (simp [*, errW_none, errW_some] <;> rfl), by (with_reducible repeat (first | apply Kd.S_alloc | apply Kd.S_drewN | apply Kd.S_drew)); exact Kd.S_mono (Kd.S_far (p := ⟨gb164, 3, none⟩) (Kd.S_far (p := ⟨gb164, 2, none⟩) (Kd.S_far (p := ⟨gb164, 1, none⟩) (Kd.S_far (p := ⟨gb164, 0, none⟩) (Kd.S_types HO_2.out BK164.out (by decide)) (fun _ hk => hk.2) (.int .i64 x165000_1)) (fun _ hk => hk.2) (.int .i64 x165001_1)) (fun _ hk => hk.2) (.int .i64 x165002_1)) (fun _ hk => hk.2) (.int .i64 x165003_1)) (fun _ hk => trivial), by repeat (first | (with_reducible first | exact HB.out | apply below_alloc | apply pw_below_drewN | apply below_drew1 | refine below_set ?_ GE164.out | refine below_set ?_ GE179.out | refine below_set ?_ GE181.out) | exact HB.out)⟩
 ·exact absurd (tables_ParseGlyph.ok A2.out) (by simp)

end Go.Proofs.Ytchkmmbedgolbaa.PFnGlyphSpots
