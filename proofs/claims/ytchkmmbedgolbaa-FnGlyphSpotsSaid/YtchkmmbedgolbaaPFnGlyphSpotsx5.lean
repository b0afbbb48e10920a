-- Written by a program of this session (xprint) out of the translation; Lean checks it.
import Derived.Test.YtchkmmbedgolbaaPFnGlyphSpotsx4
import Derived.Test.YtchkmmbedgolbaaPFnGlyphSpotsx0
import Derived.Test.YtchkmmbedgolbaaPFnGlyphSpotsx2
namespace Go.Proofs.Ytchkmmbedgolbaa.PFnGlyphSpots
open Go.RowKit Go.Proofs.YtchkmmbedgolbaaW.PrintWords Go.Proofs.YtchkmmbedgolbaaW.PrintLast Go.Proofs.YtchkmmbedgolbaaW.PrintMore
attribute [local go_sem] max2_int min2_int max_two min_two max_three min_three max_four min_four   -- for this text's walks alone
set_option linter.unusedVariables false
set_option linter.unusedSimpArgs false

/-! ### tables_ParseSimpleGlyph: function 74 -/
def tables_ParseSimpleGlyph.l0 : Nat → List Int → Int → Int → Int → Int → List Int → Unit → Option (List Int × Unit × (List (S123)) × Int × Option Int)
 | 0, _, _, _, _, _, _, _ => none
 | k + 1, x0, x1, x8, x28, x29, x145000, x145001 => if x29 < x28 then (if 0 ≤ (wrap64 (x29 * 2)) then (if (wrap64 (x29 * 2)) ≤ (x0.length : Int) then ((binary_bigEndian_Uint16.f (x0.drop ((wrap64 (x29 * 2)) : Int).toNat)).bind fun t150 => (if 0 ≤ x29 then (if x29 < (x145000.length : Int) then (tables_ParseSimpleGlyph.l0 k x0 x1 x8 x28 (wrap64 (x29 + 1)) (x145000.set (x29 : Int).toNat t150) x145001) else (none)) else (none))) else (none)) else (none)) else (if (x0.length : Int) < (wrap64 ((wrap64 (x8 + (wrap64 (x1 * 2)))) + 2)) then ((errors_New.f (⟨#[114, 101, 97, 100, 105, 110, 103, 32, 83, 105, 109, 112, 108, 101, 71, 108, 121, 112, 104, 58, 32, 69, 79, 70, 58, 32, 101, 120, 112, 101, 99, 116, 101, 100, 32, 108, 101, 110, 103, 116, 104, 58, 32, 110, 32, 43, 32, 50, 44, 32, 103, 111, 116, 32, 37, 100]⟩ : ByteArray)).bind fun t152 => (some (x145000, x145001, ([] : List (S123)), 0, t152))) else (if 0 ≤ (wrap64 (x8 + (wrap64 (x1 * 2)))) then (if (wrap64 (x8 + (wrap64 (x1 * 2)))) ≤ (x0.length : Int) then ((binary_bigEndian_Uint16.f (x0.drop ((wrap64 (x8 + (wrap64 (x1 * 2)))) : Int).toNat)).bind fun t154 => (if (x0.length : Int) < (wrap64 ((wrap64 ((wrap64 (x8 + (wrap64 (x1 * 2)))) + 2)) + (wrap64 (t154)))) then ((errors_New.f (⟨#[114, 101, 97, 100, 105, 110, 103, 32, 83, 105, 109, 112, 108, 101, 71, 108, 121, 112, 104, 58, 32, 69, 79, 70, 58, 32, 101, 120, 112, 101, 99, 116, 101, 100, 32, 108, 101, 110, 103, 116, 104, 58, 32, 37, 100, 44, 32, 103, 111, 116, 32, 37, 100]⟩ : ByteArray)).bind fun t155 => (some (x145000, x145001, ([] : List (S123)), 0, t155))) else (if 0 ≤ (wrap64 ((wrap64 (x8 + (wrap64 (x1 * 2)))) + 2)) then (if (wrap64 ((wrap64 (x8 + (wrap64 (x1 * 2)))) + 2)) ≤ (wrap64 ((wrap64 ((wrap64 (x8 + (wrap64 (x1 * 2)))) + 2)) + (wrap64 (t154)))) then (if (wrap64 ((wrap64 ((wrap64 (x8 + (wrap64 (x1 * 2)))) + 2)) + (wrap64 (t154)))) ≤ (x0.length : Int) then (if 0 ≤ (wrap64 ((wrap64 ((wrap64 (x8 + (wrap64 (x1 * 2)))) + 2)) + (wrap64 (t154)))) then ((tables_parsePts.f k x145000 (x0.drop ((wrap64 ((wrap64 ((wrap64 (x8 + (wrap64 (x1 * 2)))) + 2)) + (wrap64 (t154)))) : Int).toNat) x1).bind fun bt158 => (if bt158.1.isNone = true then (some (x145000, x145001, bt158.2, wrap64 ((wrap64 ((wrap64 (x8 + (wrap64 (x1 * 2)))) + 2)) + (wrap64 (t154))), none)) else ((errors_New.f (⟨#[114, 101, 97, 100, 105, 110, 103, 32, 83, 105, 109, 112, 108, 101, 71, 108, 121, 112, 104, 58, 32, 37, 115]⟩ : ByteArray)).bind fun t163 => (some (x145000, x145001, bt158.2, 0, t163))))) else (none)) else (none)) else (none)) else (none)))) else (none)) else (none)))
def tables_ParseSimpleGlyph.f (k : Nat) (l0 : List Int) (a1 : Int) : Option (List Int × Unit × (List (S123)) × Int × Option Int) := if (l0.length : Int) < (wrap64 (a1 * 2)) then ((errors_New.f (⟨#[114, 101, 97, 100, 105, 110, 103, 32, 83, 105, 109, 112, 108, 101, 71, 108, 121, 112, 104, 58, 32, 69, 79, 70, 58, 32, 101, 120, 112, 101, 99, 116, 101, 100, 32, 108, 101, 110, 103, 116, 104, 58, 32, 37, 100, 44, 32, 103, 111, 116, 32, 37, 100]⟩ : ByteArray)).bind fun t145 => (some (([] : List Int), (), ([] : List (S123)), 0, t145))) else (if 0 ≤ a1 then (if (a1 : Int).toNat ≤ 140737488355328 then ((some (List.replicate (a1 : Int).toNat 0 : List Int)).bind fun y146 => (tables_ParseSimpleGlyph.l0 k l0 a1 0 (y146.length : Int) 0 y146 ())) else (none)) else (none))
theorem tables_ParseSimpleGlyph.mono_l : ∀ k, (∀ y0 y1 y2 y3 y4 y5 y6, LeO (tables_ParseSimpleGlyph.l0 k y0 y1 y2 y3 y4 y5 y6) (tables_ParseSimpleGlyph.l0 (k + 1) y0 y1 y2 y3 y4 y5 y6))
 | 0 => fun _ _ _ _ _ _ _ r h => by simp [tables_ParseSimpleGlyph.l0] at h
 | k + 1 => by
  have ih0 := tables_ParseSimpleGlyph.mono_l k
  ·intro y0 y1 y2 y3 y4 y5 y6
   unfold tables_ParseSimpleGlyph.l0
   repeat' first
   | (with_reducible exact ih0 _ _ _ _ _ _ _)
   | (with_reducible exact tables_parsePts.mono _ _ _ _)
   | (with_reducible exact LeO.refl _)
   | (with_reducible exact LeO.none _)
   | (with_reducible refine LeO.ite ?_ ?_)
   | (with_reducible refine LeO.bind ?_ (fun _ => ?_))
   | exact ih0 _ _ _ _ _ _ _
   | exact tables_parsePts.mono _ _ _ _
   | exact LeO.none _
   | refine LeO.ite ?_ ?_
   | refine LeO.bind ?_ (fun _ => ?_)
theorem tables_ParseSimpleGlyph.mono : ∀ a0 a1 k, LeO (tables_ParseSimpleGlyph.f k a0 a1) (tables_ParseSimpleGlyph.f (k + 1) a0 a1) := by
 intro a0 a1 k
 have ih0 := tables_ParseSimpleGlyph.mono_l k
 unfold tables_ParseSimpleGlyph.f
 repeat' first
   | (with_reducible exact ih0 _ _ _ _ _ _ _)
   | (with_reducible exact tables_parsePts.mono _ _ _ _)
   | (with_reducible exact LeO.refl _)
   | (with_reducible exact LeO.none _)
   | (with_reducible refine LeO.ite ?_ ?_)
   | (with_reducible refine LeO.bind ?_ (fun _ => ?_))
   | exact ih0 _ _ _ _ _ _ _
   | exact tables_parsePts.mono _ _ _ _
   | exact LeO.none _
   | refine LeO.ite ?_ ?_
   | refine LeO.bind ?_ (fun _ => ?_)
def tables_ParseSimpleGlyph.T10 : Bool × List (List Nat × List Nat) := (true, [([], []), ([0], [0]), ([], []), ([], []), ([], []), ([], []), ([5], [5]), ([4, 6], [4, 6]), ([3, 7], [3, 7]), ([1, 2, 0, 1, 2, 3, 4, 5, 6, 7, 8], [1, 2]), ([9, 8, 8, 0, 1, 2, 3, 4, 5, 6, 7, 8], [8, 9])])
def tables_ParseSimpleGlyph.B10 : List Nat := [0, 1, 0, 0, 0, 0, 32, 112, 248, 511, 1023]
theorem tables_ParseSimpleGlyph.tab10 : rtab .any (opsOf Try.f74 10) = tables_ParseSimpleGlyph.T10 := by kernel_rfl
theorem tables_ParseSimpleGlyph.bits10 : waitsOk tables_ParseSimpleGlyph.T10.2 tables_ParseSimpleGlyph.B10 = true := by kernel_rfl
set_option maxHeartbeats 8000000 in
set_option maxRecDepth 100000 in
theorem tables_ParseSimpleGlyph.calls (k : Nat) (A0 : Option Addr) (c0 : Nat) (l0 : List Int) (a1 : Int) (r1 : List Int) (r2 : Unit) (r3 : List (S123)) (r4 : Int) (r5 : Option Int) (w : World) (hr0 : Kd.C (Kd.int .u8) w A0 l0.length l0) (hc0 : l0.length ≤ c0) (h : tables_ParseSimpleGlyph.f k l0 a1 = some (r1, r2, r3, r4, r5)) :
  Calls Try.prog 74 #[.slice A0 l0.length c0, .int .i64 a1] w fun e w' => ∃ (v0_ : Value) (A1_ : Option Addr) (n1_ c1_ : Nat) (v2_ : Value), ∃ e4_ : Value, e = .returned (.tuple #[.agg #[v0_, .slice A1_ n1_ c1_, v2_], .int .i64 r4, e4_]) ∧ Kd.R (Kd.int .u16) 35 w' w.heap.size (fun _ => True) v0_ r1 ∧ Kd.R k123 123 w' w.heap.size (fun _ => True) v2_ r3 ∧ EV e4_ r5 ∧ Below w.heap.size w w' := by
 have hu120 := Try.underlying120
 have hu115 := Try.underlying115
 have HR0 := Aside0.mk hr0
 have HC0 := Aside0.mk hc0
 clear hr0 hc0
 have HB := Aside0.mk (Below.refl w.heap.size w)
 have H : (if (l0.length : Int) < (wrap64 (a1 * 2)) then ((errors_New.f (⟨#[114, 101, 97, 100, 105, 110, 103, 32, 83, 105, 109, 112, 108, 101, 71, 108, 121, 112, 104, 58, 32, 69, 79, 70, 58, 32, 101, 120, 112, 101, 99, 116, 101, 100, 32, 108, 101, 110, 103, 116, 104, 58, 32, 37, 100, 44, 32, 103, 111, 116, 32, 37, 100]⟩ : ByteArray)).bind fun t145 => (some (([] : List Int), (), ([] : List (S123)), 0, t145))) else (if 0 ≤ a1 then (if (a1 : Int).toNat ≤ 140737488355328 then ((some (List.replicate (a1 : Int).toNat 0 : List Int)).bind fun y146 => (tables_ParseSimpleGlyph.l0 k l0 a1 0 (y146.length : Int) 0 y146 ())) else (none)) else (none))) = some (r1, r2, r3, r4, r5) := h
 clear h
 by_cases c3 : (l0.length : Int) < (wrap64 (a1 * 2))
 ·rw [if_pos c3] at H
  have c3b0 : decide ((l0.length : Int) < (wrap64 (a1 * 2))) = true := decide_eq_true c3
  clear c3
  replace H := Option.bind_eq_some_iff.mp H
  obtain ⟨t145, A40, H⟩ := H
  replace H : (some (([] : List Int), (), ([] : List (S123)), 0, t145)) = some (r1, r2, r3, r4, r5) := H
  have A4 := Aside0.mk A40
  clear A40
  simp only [Option.some.injEq, Prod.mk.injEq] at H
  obtain ⟨rfl, -, rfl, rfl, rfl⟩ := H
  go_enter Try.func74, Try.ntmps74
  try go_wp2_with (first | ((with_reducible refine gate_dst (N := 4) rfl ?_); refine box_event ?hg (N := 4) ?hd (cs := #[.slice none 0 0, .slice none 0 0, .slice none 0 0]) (t := 120) ?hr ?_; (case hd => rfl); (case hg => rfl); (case hr => first | (go_simp; done) | (go_simp; rfl)); intro gb143 hg w5 hbox hb; have n0_ := Aside0.mk (below_step (by repeat (first | (with_reducible first | exact HB.out | apply below_alloc | apply pw_below_drewN | apply below_drew1) | exact HB.out)) hb); have n1_ := Aside0.mk (hbox); have n2_ := Aside0.mk ((by rw [hg]; exact (below_size (by repeat (first | (with_reducible first | exact HB.out | apply below_alloc | apply pw_below_drewN | apply below_drew1) | exact HB.out))) : w.heap.size ≤ gb143)); have n3_ := Aside0.mk ((by rw [hg]; exact (below_size (by repeat (first | (with_reducible first | exact HB.out | apply below_alloc | apply pw_below_drewN | apply below_drew1) | exact HB.out))) : w.heap.size ≤ gb143)); clear HB; have HB := n0_; have BK143 := n1_; have GW143 := n2_; have GE143 := n3_; clear n0_ n1_ n2_ n3_; clear hb hbox hg) | ((with_reducible refine gate_dst (N := 7) rfl ?_); refine box_event ?hg (N := 7) ?hd (cs := #[.slice none 0 0, .slice none 0 0, .slice none 0 0]) (t := 120) ?hr ?_; (case hd => rfl); (case hg => rfl); (case hr => first | (go_simp; done) | (go_simp; rfl)); intro gb144 hg w6 hbox hb; have n0_ := Aside0.mk (blk_below (g := gb143) (o := .cells #[.slice none 0 0, .slice none 0 0, .slice none 0 0] 120 (0, 0)) (by (with_reducible repeat (first | refine b1_ ?_ _ | refine b2_ ?_ | refine b3_ ?_ _)); exact BK143.out) hb); have n1_ := Aside0.mk (below_step (by repeat (first | (with_reducible first | exact HB.out | apply below_alloc | apply pw_below_drewN | apply below_drew1 | refine below_set ?_ GE143.out) | exact HB.out)) hb); have n2_ := Aside0.mk (hbox); have n3_ := Aside0.mk ((by rw [hg]; exact (below_size (by repeat (first | (with_reducible first | exact HB.out | apply below_alloc | apply pw_below_drewN | apply below_drew1 | refine below_set ?_ GE143.out) | exact HB.out))) : w.heap.size ≤ gb144)); have n4_ := Aside0.mk ((by rw [hg]; exact (below_size (by repeat (first | (with_reducible first | exact HB.out | apply below_alloc | apply pw_below_drewN | apply below_drew1 | refine below_set ?_ GE143.out) | exact HB.out))) : w.heap.size ≤ gb144)); have n5_ := Aside0.mk ((by rw [hg]; exact Nat.ne_of_lt (blk_lt (g := gb143) (o := .cells #[.slice none 0 0, .slice none 0 0, .slice none 0 0] 120 (0, 0)) (by (with_reducible repeat (first | refine b1_ ?_ _ | refine b2_ ?_ | refine b3_ ?_ _)); exact BK143.out)) : gb143 ≠ gb144)); have n6_ := Aside0.mk ((by rw [hg]; exact Nat.ne_of_gt (blk_lt (g := gb143) (o := .cells #[.slice none 0 0, .slice none 0 0, .slice none 0 0] 120 (0, 0)) (by (with_reducible repeat (first | refine b1_ ?_ _ | refine b2_ ?_ | refine b3_ ?_ _)); exact BK143.out)) : gb144 ≠ gb143)); clear BK143; clear HB; have BK143 := n0_; have HB := n1_; have BK144 := n2_; have GW144 := n3_; have GE144 := n4_; have NB143_144 := n5_; have NB144_143 := n6_; clear n0_ n1_ n2_ n3_ n4_ n5_ n6_; clear hb hbox hg))
  have n0_ := Aside0.mk (blk_drew BK143.out)
  have n1_ := Aside0.mk (blk_drew BK144.out)
  have n2_ := Aside0.mk (below_drew1 HB.out)
  clear BK143
  clear BK144
  clear HB
  have BK143 := n0_
  have BK144 := n1_
  have HB := n2_
  clear n0_ n1_ n2_
  refine start_ (n := 5) (S := fun w' => w'.cell? ⟨gb144, 0, none⟩ = some (.slice none 0 0) ∧ w'.cell? ⟨gb144, 1, none⟩ = some (.slice none 0 0) ∧ w'.cell? ⟨gb144, 2, none⟩ = some (.slice none 0 0)) (ds := []) #[false, false, false, false, false] (by kernel_rfl) rfl rfl ⟨(blk_cell BK144.out 0).trans rfl, (blk_cell BK144.out 1).trans rfl, (blk_cell BK144.out 2).trans rfl⟩ (fun hHeld => ?_)
  generalize w6.drew = w7 at BK143 BK144 HB hHeld ⊢
  refine take_ (i := 0) (N := some 21) (v := ?_) (a' := ?_) #[true, false, false, false, false] rfl rfl (by kernel_rfl) (fun _ _ _ h => h) (Or.inl ⟨by rfl, ?_⟩) hHeld ?_ ?_
  rotate_left
  ·rintro w' ⟨s0, s1, s2⟩
   go_simp
   with_reducible rfl
  rotate_left
  ·simp only [Act.put, L1_, L2_, L3_, i64_w, i32_w]
   rfl
  refine one_ (i := 1) (N := some 22) #[true, true, false, false, false] rfl rfl (by kernel_rfl) (by decide) (fun K hK => ?_)
  refine goes_ Try.func56 (by kernel_rfl) rfl #[.string (⟨#[114, 101, 97, 100, 105, 110, 103, 32, 83, 105, 109, 112, 108, 101, 71, 108, 121, 112, 104, 58, 32, 69, 79, 70, 58, 32, 101, 120, 112, 101, 99, 116, 101, 100, 32, 108, 101, 110, 103, 116, 104, 58, 32, 37, 100, 44, 32, 103, 111, 116, 32, 37, 100]⟩ : ByteArray)] (by rfl) rfl rfl (by (try simp only [List.map_toArray, List.map_cons, List.map_nil]); first | done | rfl | (simp only [List.length_drop, List.length_take]; rfl)) ?_
  with_reducible refine (errors_New.calls (⟨#[114, 101, 97, 100, 105, 110, 103, 32, 83, 105, 109, 112, 108, 101, 71, 108, 121, 112, 104, 58, 32, 69, 79, 70, 58, 32, 101, 120, 112, 101, 99, 116, 101, 100, 32, 108, 101, 110, 103, 116, 104, 58, 32, 37, 100, 44, 32, 103, 111, 116, 32, 37, 100]⟩ : ByteArray) t145 _ A4.out).mono ?_
  rintro e w10 ⟨ev8, rfl, he9, hb⟩
  refine ⟨_, rfl, ?_⟩
  have n0_ := Aside0.mk (blk_below (g := gb143) (o := .cells #[.slice none 0 0, .slice none 0 0, .slice none 0 0] 120 (0, 0)) (by (with_reducible repeat (first | refine b1_ ?_ _ | refine b2_ ?_ | refine b3_ ?_ _)); exact BK143.out) hb)
  have n1_ := Aside0.mk (blk_below (g := gb144) (o := .cells #[.slice none 0 0, .slice none 0 0, .slice none 0 0] 120 (0, 0)) (by (with_reducible repeat (first | refine b1_ ?_ _ | refine b2_ ?_ | refine b3_ ?_ _)); exact BK144.out) hb)
  have n2_ := Aside0.mk (below_step (by repeat (first | (with_reducible first | exact HB.out | apply below_alloc | apply pw_below_drewN | apply below_drew1 | refine below_set ?_ GE143.out | refine below_set ?_ GE144.out) | exact HB.out)) hb)
  clear BK143
  clear BK144
  clear HB
  have BK143 := n0_
  have BK144 := n1_
  have HB := n2_
  clear n0_ n1_ n2_
  (try clear hb)
  (try clear hb2)
  (try clear hk)
  (try clear hi)
  (first | (obtain rfl := EV_none he9) | (obtain ⟨te_, pe_, rfl⟩ := EV_some he9) | skip)
  refine hK.out _ _ ⟨(blk_cell BK144.out 0).trans rfl, (blk_cell BK144.out 1).trans rfl, (blk_cell BK144.out 2).trans rfl⟩ (fun hHeld => ?_)
  clear hK K
  refine norm_ (a' := ?_) ?_ ?_
  rotate_left
  ·show Act.put _ (some 22) _ = _
   simp only [Act.put, L1_, L2_, L3_, i64_w, i32_w]
   rfl
  refine one_ (i := 2) (N := none) #[true, true, true, false, false] rfl rfl (by kernel_rfl) (by decide) (fun K hK => ?_)
  have hs11 : w10.cell? ⟨gb143, 0, none⟩ = some (.slice none 0 0) := (blk_cell BK143.out 0).trans rfl
  have hfs11 := blk_frozen BK143.out 0
  have hns11_1 := NB144_143.out
  have hms11_1 := NB143_144.out
  have hs12 : w10.cell? ⟨gb143, 1, none⟩ = some (.slice none 0 0) := (blk_cell BK143.out 1).trans rfl
  have hfs12 := blk_frozen BK143.out 1
  have hns12_1 := NB144_143.out
  have hms12_1 := NB143_144.out
  have hs13 : w10.cell? ⟨gb143, 2, none⟩ = some (.slice none 0 0) := (blk_cell BK143.out 2).trans rfl
  have hfs13 := blk_frozen BK143.out 2
  have hns13_1 := NB144_143.out
  have hms13_1 := NB143_144.out
  refine skip_ (w1 := ?_) (by rfl) rfl ?_ ?_
  rotate_left
  ·go_simp
   rfl
  refine hK.out _ _ ⟨((cell_far (p := ⟨gb143, _, none⟩) NB144_143.out _).trans (((cell_far (p := ⟨gb143, _, none⟩) NB144_143.out _).trans (((cell_far (p := ⟨gb143, _, none⟩) NB144_143.out _).trans (hHeld.1)))))), ((cell_far (p := ⟨gb143, _, none⟩) NB144_143.out _).trans (((cell_far (p := ⟨gb143, _, none⟩) NB144_143.out _).trans (((cell_far (p := ⟨gb143, _, none⟩) NB144_143.out _).trans (hHeld.2.1)))))), ((cell_far (p := ⟨gb143, _, none⟩) NB144_143.out _).trans (((cell_far (p := ⟨gb143, _, none⟩) NB144_143.out _).trans (((cell_far (p := ⟨gb143, _, none⟩) NB144_143.out _).trans (hHeld.2.2))))))⟩ (fun hHeld => ?_)
  clear hK K
  refine pure_ (i := 3) (N := some 5) (v := ?_) (a' := ?_) #[true, true, true, true, false] rfl rfl (by kernel_rfl) (fun _ _ _ h => h) (Or.inl ⟨by rfl, ?_⟩) ?_ ?_
  rotate_left
  ·intro w'
   go_simp
   with_reducible rfl
  rotate_left
  ·simp only [Act.put, L1_, L2_, L3_, i64_w, i32_w]
   rfl
  refine pure_ (i := 4) (N := some 6) (v := ?_) (a' := ?_) #[true, true, true, true, true] rfl rfl (by kernel_rfl) (fun _ _ _ h => h) (Or.inl ⟨by rfl, ?_⟩) ?_ ?_
  rotate_left
  ·intro w'
   go_simp
   with_reducible rfl
  rotate_left
  ·simp only [Act.put, L1_, L2_, L3_, i64_w, i32_w]
   rfl
  refine done_ (by kernel_rfl) ?_
  try go_wp2
  refine bodyPost_ret (results_ctt rfl _ _ gb143 120 #[.slice none 0 0, .slice none 0 0, .slice none 0 0] (0, 0) _ rfl (by (with_reducible repeat (first | refine b1_ ?_ _ | refine b2_ ?_ | refine b3_ ?_ _)); refine blk_put (cs := #[.slice none 0 0, .slice none 0 0, .slice none 0 0]) ?_ 2 _ rfl; (with_reducible repeat (first | refine b1_ ?_ _ | refine b2_ ?_ | refine b3_ ?_ _)); refine blk_put (cs := #[.slice none 0 0, .slice none 0 0, .slice none 0 0]) ?_ 1 _ rfl; (with_reducible repeat (first | refine b1_ ?_ _ | refine b2_ ?_ | refine b3_ ?_ _)); refine blk_put (cs := #[.slice none 0 0, .slice none 0 0, .slice none 0 0]) ?_ 0 _ rfl; (with_reducible repeat (first | refine b1_ ?_ _ | refine b2_ ?_ | refine b3_ ?_ _)); exact BK143.out) Try.underlying120 rfl (by kernel_rfl)) rfl ?_
  exact ⟨_, _, _, _, _, _, by first | rfl | (simp [errW_none, errW_some] <;> rfl) | (simp [*, errW_none, errW_some] <;> rfl), by first | exact Kd.R_nil _ _ _ _ _ | exact Kd.N_nil _ _ _ _ _ | exact Kd.V_nil _ _ _ _ _ | exact Kd.Q_nil _ _ _ _ _ | exact Kd.S_nil _ _ _ _ _, by first | exact Kd.R_nil _ _ _ _ _ | exact Kd.N_nil _ _ _ _ _ | exact Kd.V_nil _ _ _ _ _ | exact Kd.Q_nil _ _ _ _ _ | exact Kd.S_nil _ _ _ _ _, (by first | assumption | exact rfl | exact ⟨_, _, rfl⟩), by repeat (first | (with_reducible first | exact HB.out | apply below_alloc | apply pw_below_drewN | apply below_drew1 | refine below_set ?_ GE143.out | refine below_set ?_ GE144.out) | exact HB.out)⟩
 ·rw [if_neg c3] at H
  have c3b0 : decide ((l0.length : Int) < (wrap64 (a1 * 2))) = false := decide_eq_false c3
  clear c3
  by_cases c14 : 0 ≤ a1
  ·rw [if_pos c14] at H
   have c14b0 := eq_true c14
   have c14b1 : decide (0 ≤ a1) = true := decide_eq_true c14
   clear c14
   by_cases c15 : (a1 : Int).toNat ≤ 140737488355328
   ·rw [if_pos c15] at H
    have c15b0 := eq_true c15
    have c15b1 : decide ((a1 : Int).toNat ≤ 140737488355328) = true := decide_eq_true c15
    clear c15
    obtain ⟨y146, hy146⟩ : ∃ y_ : List Int, y_ = (List.replicate (a1 : Int).toNat 0) := ⟨_, rfl⟩
    replace H : (tables_ParseSimpleGlyph.l0 k l0 a1 0 (y146.length : Int) 0 y146 ()) = some (r1, r2, r3, r4, r5) := by first | (rw [hy146]; with_reducible exact H) | (have H2_ := (Option.bind_some _ _).symm.trans H; rw [hy146]; with_reducible exact H2_) | (have H2_ := (Option.bind_some _ _).symm.trans H; with_reducible exact H2_) | with_reducible exact H | (rw [hy146]; exact H) | exact H
    have Ny146 := Aside0.mk hy146
    clear hy146
    have H' := Aside0.mk H
    clear H
    go_enter Try.func74, Try.ntmps74
    go_wp2_with (first | ((with_reducible refine gate_dst (N := 4) rfl ?_); refine box_event ?hg (N := 4) ?hd (cs := #[.slice none 0 0, .slice none 0 0, .slice none 0 0]) (t := 120) ?hr ?_; (case hd => rfl); (case hg => rfl); (case hr => first | (go_simp; done) | (go_simp; rfl)); intro gb143 hg w16 hbox hb; have n0_ := Aside0.mk (below_step (by repeat (first | (with_reducible first | exact HB.out | apply below_alloc | apply pw_below_drewN | apply below_drew1) | exact HB.out)) hb); have n1_ := Aside0.mk (hbox); have n2_ := Aside0.mk ((by rw [hg]; exact (below_size (by repeat (first | (with_reducible first | exact HB.out | apply below_alloc | apply pw_below_drewN | apply below_drew1) | exact HB.out))) : w.heap.size ≤ gb143)); have n3_ := Aside0.mk ((by rw [hg]; exact (below_size (by repeat (first | (with_reducible first | exact HB.out | apply below_alloc | apply pw_below_drewN | apply below_drew1) | exact HB.out))) : w.heap.size ≤ gb143)); clear HB; have HB := n0_; have BK143 := n1_; have GW143 := n2_; have GE143 := n3_; clear n0_ n1_ n2_ n3_; clear hb hbox hg) | ((with_reducible refine gate_dst (N := 7) rfl ?_); refine box_event ?hg (N := 7) ?hd (cs := #[.slice none 0 0, .slice none 0 0, .slice none 0 0]) (t := 120) ?hr ?_; (case hd => rfl); (case hg => rfl); (case hr => first | (go_simp; done) | (go_simp; rfl)); intro gb144 hg w17 hbox hb; have n0_ := Aside0.mk (blk_below (g := gb143) (o := .cells #[.slice none 0 0, .slice none 0 0, .slice none 0 0] 120 (0, 0)) (by (with_reducible repeat (first | refine b1_ ?_ _ | refine b2_ ?_ | refine b3_ ?_ _)); exact BK143.out) hb); have n1_ := Aside0.mk (below_step (by repeat (first | (with_reducible first | exact HB.out | apply below_alloc | apply pw_below_drewN | apply below_drew1 | refine below_set ?_ GE143.out) | exact HB.out)) hb); have n2_ := Aside0.mk (hbox); have n3_ := Aside0.mk ((by rw [hg]; exact (below_size (by repeat (first | (with_reducible first | exact HB.out | apply below_alloc | apply pw_below_drewN | apply below_drew1 | refine below_set ?_ GE143.out) | exact HB.out))) : w.heap.size ≤ gb144)); have n4_ := Aside0.mk ((by rw [hg]; exact (below_size (by repeat (first | (with_reducible first | exact HB.out | apply below_alloc | apply pw_below_drewN | apply below_drew1 | refine below_set ?_ GE143.out) | exact HB.out))) : w.heap.size ≤ gb144)); have n5_ := Aside0.mk ((by rw [hg]; exact Nat.ne_of_lt (blk_lt (g := gb143) (o := .cells #[.slice none 0 0, .slice none 0 0, .slice none 0 0] 120 (0, 0)) (by (with_reducible repeat (first | refine b1_ ?_ _ | refine b2_ ?_ | refine b3_ ?_ _)); exact BK143.out)) : gb143 ≠ gb144)); have n6_ := Aside0.mk ((by rw [hg]; exact Nat.ne_of_gt (blk_lt (g := gb143) (o := .cells #[.slice none 0 0, .slice none 0 0, .slice none 0 0] 120 (0, 0)) (by (with_reducible repeat (first | refine b1_ ?_ _ | refine b2_ ?_ | refine b3_ ?_ _)); exact BK143.out)) : gb144 ≠ gb143)); clear BK143; clear HB; have BK143 := n0_; have HB := n1_; have BK144 := n2_; have GW144 := n3_; have GE144 := n4_; have NB143_144 := n5_; have NB144_143 := n6_; clear n0_ n1_ n2_ n3_ n4_ n5_ n6_; clear hb hbox hg) | ((with_reducible refine gate_dst (N := 24) rfl ?_); refine Kd.R_make (Kd.int .u16) _ 35 rfl (N := 24) rfl 34 _ _ rfl a1 rfl rfl Try.underlying34 (.int .u16 0) 2 info35 rfl (by decide) (by omega) 0 (ok := fun _ => True) (okp := fun _ => True) rfl (fun _ hk => hk) trivial (of_decide_eq_true (by first | (with_reducible assumption) | assumption)) (Nat.le_trans (Nat.mul_le_mul_right _ (of_decide_eq_true (by first | (with_reducible assumption) | assumption) : a1.toNat ≤ 140737488355328)) (by omega)) (Below.refl _ _) (Nat.le_refl _) ?_; intro v147 w18 ho19 hb hg_ hnew_; clear hg_ hnew_; (first | rw [← Ny146.out] at ho19 | (simp only [Int.reduceToNat] at ho19; rw [← Ny146.out] at ho19)); have n0_ := Aside0.mk (Kd.R_lower ho19 (below_size (by repeat (first | (with_reducible first | exact HB.out | apply below_alloc | apply pw_below_drewN | apply below_drew1 | refine below_set ?_ GE143.out | refine below_set ?_ GE144.out) | exact HB.out)))); have n1_ := Aside0.mk (blk_below (g := gb143) (o := .cells #[.slice none 0 0, .slice none 0 0, .slice none 0 0] 120 (0, 0)) (by (with_reducible repeat (first | refine b1_ ?_ _ | refine b2_ ?_ | refine b3_ ?_ _)); exact BK143.out) hb); have n2_ := Aside0.mk (blk_below (g := gb144) (o := .cells #[.slice none 0 0, .slice none 0 0, .slice none 0 0] 120 (0, 0)) (by (with_reducible repeat (first | refine b1_ ?_ _ | refine b2_ ?_ | refine b3_ ?_ _)); exact BK144.out) hb); have n3_ := Aside0.mk (below_step (by repeat (first | (with_reducible first | exact HB.out | apply below_alloc | apply pw_below_drewN | apply below_drew1 | refine below_set ?_ GE143.out | refine below_set ?_ GE144.out) | exact HB.out)) hb); clear BK143; clear BK144; clear HB; have HO148 := n0_; have BK143 := n1_; have BK144 := n2_; have HB := n3_; clear n0_ n1_ n2_ n3_; clear hb ho19; obtain ⟨Ao20, co20, eo20⟩ := Kd.R_slice HO148.out; subst eo20; have hnb21 := NB144_143.out; have hnc21 := NB143_144.out; have hcz22_0 : w18.cell? ⟨gb144, 0, none⟩ = some (.slice none 0 0) := (blk_cell BK144.out 0).trans rfl; have hcz22_1 : w18.cell? ⟨gb144, 1, none⟩ = some (.slice none 0 0) := (blk_cell BK144.out 1).trans rfl; have hcz22_2 : w18.cell? ⟨gb144, 2, none⟩ = some (.slice none 0 0) := (blk_cell BK144.out 2).trans rfl; have hfz22_0 := blk_frozen BK144.out 0; have hfz22_1 := blk_frozen BK144.out 1; have hfz22_2 := blk_frozen BK144.out 2))
    go_loopg [29] k (fun kq v29 w' => ∃ (x29_1 : Int) (x145000_1 : List Int) (u145000 : Value), v29 = .int .i64 x29_1 ∧ Aside0 (tables_ParseSimpleGlyph.l0 kq l0 a1 0 (y146.length : Int) x29_1 x145000_1 () = some (r1, r2, r3, r4, r5)) ∧ Aside0 (kq ≤ k) ∧ Aside0 (Kd.R (Kd.int .u16) 35 w' w.heap.size (fun _ => True) u145000 x145000_1) ∧ Aside0 (w'.heap[gb143]? = some (.cells #[(.slice none 0 0), .slice none 0 0, (.slice none 0 0)] 120 (0, 0))) ∧ Aside0 (w'.heap[gb144]? = some (.cells #[u145000, .slice none 0 0, (.slice none 0 0)] 120 (0, 0))) ∧ Aside0 (Below w.heap.size w w'))
    case atStart => exact ⟨(0), (y146), (.slice Ao20 y146.length co20), (by first | rfl | (simp; done) | (simp [*]; done)), H', ⟨Nat.le_refl _⟩, ⟨by (with_reducible repeat (first | apply Kd.R_alloc | apply Kd.R_drewN | apply Kd.R_drew)); exact Kd.R_mono (Kd.R_far (p := ⟨gb144, 0, none⟩) (Kd.R_types HO148.out BK144.out (by decide)) (fun _ hk => hk.2) (.slice Ao20 y146.length co20)) (fun _ hk => trivial)⟩, ⟨by (with_reducible repeat (first | refine b1_ ?_ _ | refine b2_ ?_ | refine b3_ ?_ _)); refine blk_far ?_ NB143_144.out _; (with_reducible repeat (first | refine b1_ ?_ _ | refine b2_ ?_ | refine b3_ ?_ _)); exact BK143.out⟩, ⟨by (with_reducible repeat (first | refine b1_ ?_ _ | refine b2_ ?_ | refine b3_ ?_ _)); refine blk_put (cs := #[.slice none 0 0, .slice none 0 0, .slice none 0 0]) ?_ 0 _ rfl; (with_reducible repeat (first | refine b1_ ?_ _ | refine b2_ ?_ | refine b3_ ?_ _)); exact BK144.out⟩, ⟨by repeat (first | (with_reducible first | exact HB.out | apply below_alloc | apply pw_below_drewN | apply below_drew1 | refine below_set ?_ GE143.out | refine below_set ?_ GE144.out) | exact HB.out)⟩⟩
    case round =>
     clear H'
     try clear c1
     try clear c2
     try clear p2
     try clear c3
     try clear c3b0
     try clear c5
     try clear p6
     try clear c7
     try clear c14
     try clear c14b0
     try clear c14b1
     try clear c15
     try clear c15b0
     try clear c15b1
     try clear c21
     try clear hcz22_0
     try clear hcz22_1
     try clear hcz22_2
     try clear hfz22_0
     try clear hfz22_1
     try clear hfz22_2
     obtain ⟨x29_1, x145000_1, u145000, rfl, HA, HK1, HO_145000, BK143, BK144, HB⟩ := hrel
     cases gk with
     | zero => exact absurd HA.out (by simp [tables_ParseSimpleGlyph.l0])
     | succ k1 =>
      have H := HA.out
      clear HA
      simp only [tables_ParseSimpleGlyph.l0] at H
      simp only [Int.zero_add] at H
      by_cases c23 : x29_1 < (y146.length : Int)
      ·rw [if_pos c23] at H
       have c23b0 : decide (x29_1 < (y146.length : Int)) = true := decide_eq_true c23
       clear c23
       obtain ⟨ji24, hji24⟩ : ∃ j_ : Int, (wrap64 (x29_1 * 2)) = j_ := ⟨_, rfl⟩
       replace H : (if 0 ≤ (ji24) then (if (ji24) ≤ (l0.length : Int) then ((binary_bigEndian_Uint16.f (l0.drop ((ji24) : Int).toNat)).bind fun t150 => (if 0 ≤ x29_1 then (if x29_1 < (x145000_1.length : Int) then (tables_ParseSimpleGlyph.l0 k1 l0 a1 0 (y146.length : Int) (wrap64 (x29_1 + 1)) (x145000_1.set (x29_1 : Int).toNat t150) ()) else (none)) else (none))) else (none)) else (none)) = some (r1, r2, r3, r4, r5) := by first | (rw [hji24] at H; exact H) | (simp only [hji24] at H ⊢; exact H)
       have hji24w : (IntKind.i64.wrap (x29_1 * 2)) = ji24 := (i64_w _).trans hji24
       by_cases c25 : 0 ≤ (ji24)
       ·rw [if_pos c25] at H
        have c25b0 := eq_true c25
        have c25b1 : decide (0 ≤ (ji24)) = true := decide_eq_true c25
        clear c25
        by_cases c26 : (ji24) ≤ (l0.length : Int)
        ·rw [if_pos c26] at H
         have c26b0 := eq_true c26
         have c26b1 : decide ((ji24) ≤ (l0.length : Int)) = true := decide_eq_true c26
         clear c26
         replace H := Option.bind_eq_some_iff.mp H
         obtain ⟨t150, A270, H⟩ := H
         replace H : (if 0 ≤ x29_1 then (if x29_1 < (x145000_1.length : Int) then (tables_ParseSimpleGlyph.l0 k1 l0 a1 0 (y146.length : Int) (wrap64 (x29_1 + 1)) (x145000_1.set (x29_1 : Int).toNat t150) ()) else (none)) else (none)) = some (r1, r2, r3, r4, r5) := H
         have A27 := Aside0.mk A270
         clear A270
         by_cases c28 : 0 ≤ x29_1
         ·rw [if_pos c28] at H
          have c28b0 : decide (0 ≤ x29_1) = true := decide_eq_true c28
          clear c28
          by_cases c29 : x29_1 < (x145000_1.length : Int)
          ·rw [if_pos c29] at H
           have c29b0 : decide (x29_1 < (x145000_1.length : Int)) = true := decide_eq_true c29
           clear c29
           obtain ⟨y151, hy151⟩ : ∃ y_ : List Int, y_ = (x145000_1.set (x29_1 : Int).toNat t150) := ⟨_, rfl⟩
           replace H : (tables_ParseSimpleGlyph.l0 k1 l0 a1 0 (y146.length : Int) (wrap64 (x29_1 + 1)) y151 ()) = some (r1, r2, r3, r4, r5) := by first | (rw [hy151]; with_reducible exact H) | (have H2_ := (Option.bind_some _ _).symm.trans H; rw [hy151]; with_reducible exact H2_) | (have H2_ := (Option.bind_some _ _).symm.trans H; with_reducible exact H2_) | with_reducible exact H | (rw [hy151]; exact H) | exact H
           have Ny151 := Aside0.mk hy151
           clear hy151
           have H' := Aside0.mk H
           clear H
           try go_wp2
           have n0_ := Aside0.mk (Kd.R_drew HO_145000.out)
           have n1_ := Aside0.mk (blk_drew BK143.out)
           have n2_ := Aside0.mk (blk_drew BK144.out)
           have n3_ := Aside0.mk (below_drew1 HB.out)
           clear HO_145000
           clear BK143
           clear BK144
           clear HB
           have HO_145000 := n0_
           have BK143 := n1_
           have BK144 := n2_
           have HB := n3_
           clear n0_ n1_ n2_ n3_
           obtain ⟨i032, hi032, _, hsz32, _⟩ := info_parts info5
           obtain ⟨A32, hcut32, hA32, hC32⟩ := print_drop_of (P := Try.prog) (Value.int .u8) 0 22 5 .i64 Try.underlying22 hi032 hsz32 A0 c0 l0 (ji24) (of_decide_eq_true (by first | (with_reducible assumption) | assumption)) (of_decide_eq_true (by first | (with_reducible assumption) | assumption)) HC0.out
           have HR149 := Aside0.mk (Kd.C_of_reads (h1 := fun _ => rfl) (hA32 _ (Kd.reads_of_C HR0.out)))
           have HC149 := Aside0.mk hC32
           clear hA32 hC32 hi032 hsz32
           refine start_ (n := 11) (S := fun w' => w'.cell? ⟨gb144, 0, none⟩ = some (u145000) ∧ w'.cell? ⟨gb144, 1, none⟩ = some (.slice none 0 0) ∧ w'.cell? ⟨gb144, 2, none⟩ = some (.slice none 0 0)) (ds := [10]) #[ff,ff,ff,ff,ff,ff,ff,ff,ff,ff,ff] (by kernel_rfl) rfl rfl ⟨(blk_cell BK144.out 0).trans rfl, (blk_cell BK144.out 1).trans rfl, (blk_cell BK144.out 2).trans rfl⟩ (fun hHeld => ?_); refine with_tabW tables_ParseSimpleGlyph.tab10 tables_ParseSimpleGlyph.bits10 (fun HT_ HW_ => ?_)
           generalize wr.drew = w31 at HO_145000 BK143 BK144 HB HR149 hHeld ⊢
           refine pure_ (i := 0) (N := some 32) (v := ?_) (a' := ?_) #[tt,ff,ff,ff,ff,ff,ff,ff,ff,ff,ff] rfl rfl (any_of HT_.out (by kernel_rfl)) (fun _ _ _ h => h) (Or.inl ⟨by rfl, ?_⟩) ?_ ?_
           rotate_left
           ·intro w'
            go_simp
            with_reducible rfl
           rotate_left
           ·simp only [Act.put, L1_, L2_, L3_, i64_w, i32_w]
            rfl
           refine pure_ (i := 2) (N := some 34) (v := ?_) (a' := ?_) #[tt,ff,tt,ff,ff,ff,ff,ff,ff,ff,ff] rfl rfl (any_of HT_.out (by kernel_rfl)) (fun _ _ _ h => h) (Or.inl ⟨by rfl, ?_⟩) ?_ ?_
           rotate_left
           ·intro w'
            go_simp
            with_reducible rfl
           rotate_left
           ·simp only [Act.put, L1_, L2_, L3_, i64_w, i32_w]
            rfl
           refine pure_ (i := 3) (N := some 35) (v := ?_) (a' := ?_) #[tt,ff,tt,tt,ff,ff,ff,ff,ff,ff,ff] rfl rfl (any_of HT_.out (by kernel_rfl)) (fun _ _ _ h => h) (Or.inl ⟨by rfl, ?_⟩) ?_ ?_
           rotate_left
           ·intro w'
            go_simp
            with_reducible rfl
           rotate_left
           ·simp only [Act.put, L1_, L2_, L3_, i64_w, i32_w]
            rfl
           refine pure_ (i := 4) (N := some 36) (v := ?_) (a' := ?_) #[tt,ff,tt,tt,tt,ff,ff,ff,ff,ff,ff] rfl rfl (any_of HT_.out (by kernel_rfl)) (fun _ _ _ h => h) (Or.inl ⟨by rfl, ?_⟩) ?_ ?_
           rotate_left
           ·intro w'
            go_simp
            with_reducible rfl
           rotate_left
           ·simp only [Act.put, L1_, L2_, L3_, i64_w, i32_w]
            rfl
           refine pure_ (i := 5) (N := some 37) (v := ?_) (a' := ?_) #[tt,ff,tt,tt,tt,tt,ff,ff,ff,ff,ff] rfl rfl (any_of HT_.out (by kernel_rfl)) (fun _ _ _ h => h) (Or.inl ⟨by rfl, ?_⟩) ?_ ?_
           rotate_left
           ·intro w'
            go_simp
            with_reducible rfl
           rotate_left
           ·simp only [Act.put, L1_, L2_, L3_, i64_w, i32_w]
            rfl
           refine pure_ (i := 6) (N := some 38) (v := ?_) (a' := ?_) #[tt,ff,tt,tt,tt,tt,tt,ff,ff,ff,ff] rfl rfl (any_of HT_.out (by kernel_rfl)) (fun _ _ _ h => h) (Or.inl ⟨by rfl, ?_⟩) ?_ ?_
           rotate_left
           ·intro w'
            go_simp
            with_reducible rfl
           rotate_left
           ·(try go_ints); (try simp (disch := omega) only [n3_]); simp only [Act.put, L1_, L2_, L3_, i64_w, i32_w]
            rfl
           refine pure_ (i := 7) (N := some 39) (v := ?_) (a' := ?_) #[tt,ff,tt,tt,tt,tt,tt,tt,ff,ff,ff] rfl rfl (any_of HT_.out (by kernel_rfl)) (fun _ _ _ h => h) (Or.inl ⟨by rfl, ?_⟩) ?_ ?_
           rotate_left
           ·intro w'
            go_simp
            with_reducible rfl
           rotate_left
           ·simp only [Act.put, L1_, L2_, L3_, i64_w, i32_w]
            rfl
           refine take_ (i := 1) (N := some 33) (v := ?_) (a' := ?_) #[tt,tt,tt,tt,tt,tt,tt,tt,ff,ff,ff] rfl rfl (take_ofW HT_.out HW_.out (by kernel_rfl)) (fun _ _ _ h => h) (Or.inl ⟨by rfl, ?_⟩) hHeld ?_ ?_
           rotate_left
           ·rintro w' ⟨s0, s1, s2⟩
            go_simp
            with_reducible rfl
           rotate_left
           ·simp only [Act.put, L1_, L2_, L3_, i64_w, i32_w]
            rfl
           refine one_ (i := 8) (N := some 40) #[tt,tt,tt,tt,tt,tt,tt,tt,tt,ff,ff] rfl rfl (one_of HT_.out (by kernel_rfl)) (by decide) (fun K hK => ?_)
           refine goes_ Try.func57 (by kernel_rfl) rfl #[.agg #[], .slice A32 (l0.drop ((ji24) : Int).toNat).length (c0 - (ji24).toNat)] (by rfl) rfl rfl (by (try simp only [List.map_toArray, List.map_cons, List.map_nil]); first | done | (rw [show (l0.drop ((ji24) : Int).toNat).length = (l0.length - (ji24).toNat) from List.length_drop] <;> rfl) | (simp only [hji24]; rfl) | rfl | (simp only [List.length_drop, List.length_take]; rfl)) ?_
           with_reducible refine (binary_bigEndian_Uint16.calls _ _ (l0.drop ((ji24) : Int).toNat) t150 _ ?side1 ?side2 A27.out).mono ?_
           (case side1 => repeat (first | exact (Kd.C_below HR149.out HB.out) | (with_reducible refine Kd.C_alloc ?_ _) | (with_reducible refine Kd.C_drewN ?_ _) | (with_reducible refine Kd.C_drew ?_)))
           (case side2 => exact HC149.out)
           rintro e w33 ⟨rfl, hb⟩
           refine ⟨_, rfl, ?_⟩
           have n0_ := Aside0.mk (Kd.R_below (by (with_reducible repeat (first | apply Kd.R_alloc | apply Kd.R_drewN | apply Kd.R_drew)); exact HO_145000.out) hb)
           have n1_ := Aside0.mk (blk_below (g := gb143) (o := .cells #[.slice none 0 0, .slice none 0 0, .slice none 0 0] 120 (0, 0)) (by (with_reducible repeat (first | refine b1_ ?_ _ | refine b2_ ?_ | refine b3_ ?_ _)); exact BK143.out) hb)
           have n2_ := Aside0.mk (blk_below (g := gb144) (o := .cells #[u145000, .slice none 0 0, .slice none 0 0] 120 (0, 0)) (by (with_reducible repeat (first | refine b1_ ?_ _ | refine b2_ ?_ | refine b3_ ?_ _)); exact BK144.out) hb)
           have n3_ := Aside0.mk (below_step (by repeat (first | (with_reducible first | exact HB.out | apply below_alloc | apply pw_below_drewN | apply below_drew1 | refine below_set ?_ GE143.out | refine below_set ?_ GE144.out) | exact HB.out)) hb)
           clear HO_145000
           clear BK143
           clear BK144
           clear HB
           have HO_145000 := n0_
           have BK143 := n1_
           have BK144 := n2_
           have HB := n3_
           clear n0_ n1_ n2_ n3_
           (try clear hb)
           (try clear hb2)
           (try clear hk)
           (try clear hi)
           have p30 : 0 ≤ (x29_1 : Int) := of_decide_eq_true (by first | (with_reducible assumption) | assumption)
           have q30 : (x29_1 : Int) < ((x145000_1.length : Int) : Int) := of_decide_eq_true (by first | (with_reducible assumption) | assumption)
           obtain ⟨go30, co30, eo30, gb30, gl30, cl30, HG30⟩ := Kd.R_form HO_145000.out (by omega)
           (first | cases eo30 | (injection eo30 with ea_ en_ ec_; (first | subst ea_ | (injection ea_ with ea_; subst ea_)); subst ec_; clear en_))
           have GB30 := Aside0.mk gb30
           have GG30 := Aside0.mk HG30
           clear gb30 gl30 HG30
           obtain ⟨hx30_0, hf30_0⟩ := Kd.R_celln 0 HO_145000.out (x29_1 : Int) p30 q30
           replace p30 := eq_true p30
           replace q30 := eq_true q30
           have HP34 := Kd.R_putn HO_145000.out (x29_1 : Int) t150
           rw [← Ny151.out] at HP34
           have HQ34 := Aside0.mk HP34
           clear HP34
           refine hK.out _ _ ⟨(blk_cell BK144.out 0).trans rfl, (blk_cell BK144.out 1).trans rfl, (blk_cell BK144.out 2).trans rfl⟩ (fun hHeld => ?_)
           clear hK K
           refine norm_ (a' := ?_) ?_ ?_
           rotate_left
           ·show Act.put _ (some 40) _ = _
            simp only [Act.put, L1_, L2_, L3_, i64_w, i32_w]
            rfl
           refine pure_ (i := 9) (N := some 41) (v := ?_) (a' := ?_) #[tt,tt,tt,tt,tt,tt,tt,tt,tt,tt,ff] rfl rfl (any_of HT_.out (by kernel_rfl)) (fun _ _ _ h => h) (Or.inl ⟨by rfl, ?_⟩) ?_ ?_
           rotate_left
           ·intro w'
            go_simp
            with_reducible rfl
           rotate_left
           ·simp only [Act.put, L1_, L2_, L3_, i64_w, i32_w]
            rfl
           refine last_ (i := 10) (N := none) #[tt,tt,tt,tt,tt,tt,tt,tt,tt,tt,tt] rfl rfl (one_of HT_.out (by kernel_rfl)) (by decide) (fun K hK => ?_)
           refine skip_ (w1 := ?_) (by rfl) rfl ?_ ?_
           rotate_left
           ·go_simp
            rfl
           refine hK.out _ _ ?_
           clear hK K
           refine done_ (done_of HT_.out (by kernel_rfl)) ?_
           try go_wp2
           go_roundg k1
           case measure => have := HK1.out; omega
           case rel => exact ⟨(wrap64 (x29_1 + 1)), (y151), (.slice (some ⟨go30, 0, none⟩) x145000_1.length co30), (by first | rfl | (simp; done) | (simp [*]; done)), H', ⟨by have := HK1.out; omega⟩, ⟨by (with_reducible repeat (first | apply Kd.R_alloc | apply Kd.R_drewN | apply Kd.R_drew)); exact HQ34.out⟩, ⟨by (with_reducible repeat (first | refine b1_ ?_ _ | refine b2_ ?_ | refine b3_ ?_ _)); refine blk_far ?_ (by have h_ := Kd.R_ne HO_145000.out BK143.out (by decide); intro e_; exact h_ (by rw [e_]; rfl)) _; (with_reducible repeat (first | refine b1_ ?_ _ | refine b2_ ?_ | refine b3_ ?_ _)); exact BK143.out⟩, ⟨by (with_reducible repeat (first | refine b1_ ?_ _ | refine b2_ ?_ | refine b3_ ?_ _)); refine blk_far ?_ (by have h_ := Kd.R_ne HO_145000.out BK144.out (by decide); intro e_; exact h_ (by rw [e_]; rfl)) _; (with_reducible repeat (first | refine b1_ ?_ _ | refine b2_ ?_ | refine b3_ ?_ _)); exact BK144.out⟩, ⟨by repeat (first | (with_reducible first | exact HB.out | apply below_alloc | apply pw_below_drewN | apply below_drew1 | refine below_set ?_ GB30.out | refine below_set ?_ GE143.out | refine below_set ?_ GE144.out) | exact HB.out)⟩⟩
          ·rw [if_neg c29] at H
           exact absurd H (by simp)
         ·rw [if_neg c28] at H
          exact absurd H (by simp)
        ·rw [if_neg c26] at H
         exact absurd H (by simp)
       ·rw [if_neg c25] at H
        exact absurd H (by simp)
      ·rw [if_neg c23] at H
       have c23b0 : decide (x29_1 < (y146.length : Int)) = false := decide_eq_false c23
       clear c23
       by_cases c35 : (l0.length : Int) < (wrap64 ((wrap64 (wrap64 (a1 * 2))) + 2))
       ·rw [if_pos c35] at H
        have c35b0 : decide ((l0.length : Int) < (wrap64 ((wrap64 (wrap64 (a1 * 2))) + 2))) = true := decide_eq_true c35
        clear c35
        replace H := Option.bind_eq_some_iff.mp H
        obtain ⟨t152, A360, H⟩ := H
        replace H : (some (x145000_1, (), ([] : List (S123)), 0, t152)) = some (r1, r2, r3, r4, r5) := H
        have A36 := Aside0.mk A360
        clear A360
        simp only [Option.some.injEq, Prod.mk.injEq] at H
        obtain ⟨rfl, -, rfl, rfl, rfl⟩ := H
        try go_wp2
        have n0_ := Aside0.mk (Kd.R_drew HO_145000.out)
        have n1_ := Aside0.mk (blk_drew BK143.out)
        have n2_ := Aside0.mk (blk_drew BK144.out)
        have n3_ := Aside0.mk (below_drew1 HB.out)
        clear HO_145000
        clear BK143
        clear BK144
        clear HB
        have HO_145000 := n0_
        have BK143 := n1_
        have BK144 := n2_
        have HB := n3_
        clear n0_ n1_ n2_ n3_
        refine start_ (n := 5) (S := fun w' => w'.cell? ⟨gb144, 0, none⟩ = some (u145000) ∧ w'.cell? ⟨gb144, 1, none⟩ = some (.slice none 0 0) ∧ w'.cell? ⟨gb144, 2, none⟩ = some (.slice none 0 0)) (ds := []) #[false, false, false, false, false] (by kernel_rfl) rfl rfl ⟨(blk_cell BK144.out 0).trans rfl, (blk_cell BK144.out 1).trans rfl, (blk_cell BK144.out 2).trans rfl⟩ (fun hHeld => ?_)
        generalize wr.drew = w37 at HO_145000 BK143 BK144 HB hHeld ⊢
        refine take_ (i := 0) (N := some 53) (v := ?_) (a' := ?_) #[true, false, false, false, false] rfl rfl (by kernel_rfl) (fun _ _ _ h => h) (Or.inl ⟨by rfl, ?_⟩) hHeld ?_ ?_
        rotate_left
        ·rintro w' ⟨s0, s1, s2⟩
         go_simp
         with_reducible rfl
        rotate_left
        ·simp only [Act.put, L1_, L2_, L3_, i64_w, i32_w]
         rfl
        refine one_ (i := 1) (N := some 54) #[true, true, false, false, false] rfl rfl (by kernel_rfl) (by decide) (fun K hK => ?_)
        refine goes_ Try.func56 (by kernel_rfl) rfl #[.string (⟨#[114, 101, 97, 100, 105, 110, 103, 32, 83, 105, 109, 112, 108, 101, 71, 108, 121, 112, 104, 58, 32, 69, 79, 70, 58, 32, 101, 120, 112, 101, 99, 116, 101, 100, 32, 108, 101, 110, 103, 116, 104, 58, 32, 110, 32, 43, 32, 50, 44, 32, 103, 111, 116, 32, 37, 100]⟩ : ByteArray)] (by rfl) rfl rfl (by (try simp only [List.map_toArray, List.map_cons, List.map_nil]); first | done | rfl | (simp only [List.length_drop, List.length_take]; rfl)) ?_
        with_reducible refine (errors_New.calls (⟨#[114, 101, 97, 100, 105, 110, 103, 32, 83, 105, 109, 112, 108, 101, 71, 108, 121, 112, 104, 58, 32, 69, 79, 70, 58, 32, 101, 120, 112, 101, 99, 116, 101, 100, 32, 108, 101, 110, 103, 116, 104, 58, 32, 110, 32, 43, 32, 50, 44, 32, 103, 111, 116, 32, 37, 100]⟩ : ByteArray) t152 _ A36.out).mono ?_
        rintro e w40 ⟨ev38, rfl, he39, hb⟩
        refine ⟨_, rfl, ?_⟩
        have n0_ := Aside0.mk (Kd.R_below (by (with_reducible repeat (first | apply Kd.R_alloc | apply Kd.R_drewN | apply Kd.R_drew)); exact HO_145000.out) hb)
        have n1_ := Aside0.mk (blk_below (g := gb143) (o := .cells #[.slice none 0 0, .slice none 0 0, .slice none 0 0] 120 (0, 0)) (by (with_reducible repeat (first | refine b1_ ?_ _ | refine b2_ ?_ | refine b3_ ?_ _)); exact BK143.out) hb)
        have n2_ := Aside0.mk (blk_below (g := gb144) (o := .cells #[u145000, .slice none 0 0, .slice none 0 0] 120 (0, 0)) (by (with_reducible repeat (first | refine b1_ ?_ _ | refine b2_ ?_ | refine b3_ ?_ _)); exact BK144.out) hb)
        have n3_ := Aside0.mk (below_step (by repeat (first | (with_reducible first | exact HB.out | apply below_alloc | apply pw_below_drewN | apply below_drew1 | refine below_set ?_ GE143.out | refine below_set ?_ GE144.out) | exact HB.out)) hb)
        clear HO_145000
        clear BK143
        clear BK144
        clear HB
        have HO_145000 := n0_
        have BK143 := n1_
        have BK144 := n2_
        have HB := n3_
        clear n0_ n1_ n2_ n3_
        (try clear hb)
        (try clear hb2)
        (try clear hk)
        (try clear hi)
        (first | (obtain rfl := EV_none he39) | (obtain ⟨te_, pe_, rfl⟩ := EV_some he39) | skip)
        obtain ⟨Ao41, co41, eo41⟩ := Kd.R_slice HO_145000.out
        (first | subst eo41 | (injection eo41 with f1_ f2_ f3_; have f4_ := f1_.symm; have f5_ := f3_.symm; clear f1_ f2_ f3_; subst f4_; subst f5_))
        refine hK.out _ _ ⟨(blk_cell BK144.out 0).trans rfl, (blk_cell BK144.out 1).trans rfl, (blk_cell BK144.out 2).trans rfl⟩ (fun hHeld => ?_)
        clear hK K
        refine norm_ (a' := ?_) ?_ ?_
        rotate_left
        ·show Act.put _ (some 54) _ = _
         simp only [Act.put, L1_, L2_, L3_, i64_w, i32_w]
         rfl
        refine one_ (i := 2) (N := none) #[true, true, true, false, false] rfl rfl (by kernel_rfl) (by decide) (fun K hK => ?_)
        have hs42 : w40.cell? ⟨gb143, 0, none⟩ = some (.slice none 0 0) := (blk_cell BK143.out 0).trans rfl
        have hfs42 := blk_frozen BK143.out 0
        have hns42_1 := NB144_143.out
        have hms42_1 := NB143_144.out
        have hs43 : w40.cell? ⟨gb143, 1, none⟩ = some (.slice none 0 0) := (blk_cell BK143.out 1).trans rfl
        have hfs43 := blk_frozen BK143.out 1
        have hns43_1 := NB144_143.out
        have hms43_1 := NB143_144.out
        have hs44 : w40.cell? ⟨gb143, 2, none⟩ = some (.slice none 0 0) := (blk_cell BK143.out 2).trans rfl
        have hfs44 := blk_frozen BK143.out 2
        have hns44_1 := NB144_143.out
        have hms44_1 := NB143_144.out
        refine skip_ (w1 := ?_) (by rfl) rfl ?_ ?_
        rotate_left
        ·go_simp
         rfl
        refine hK.out _ _ ⟨((cell_far (p := ⟨gb143, _, none⟩) NB144_143.out _).trans (((cell_far (p := ⟨gb143, _, none⟩) NB144_143.out _).trans (((cell_far (p := ⟨gb143, _, none⟩) NB144_143.out _).trans (hHeld.1)))))), ((cell_far (p := ⟨gb143, _, none⟩) NB144_143.out _).trans (((cell_far (p := ⟨gb143, _, none⟩) NB144_143.out _).trans (((cell_far (p := ⟨gb143, _, none⟩) NB144_143.out _).trans (hHeld.2.1)))))), ((cell_far (p := ⟨gb143, _, none⟩) NB144_143.out _).trans (((cell_far (p := ⟨gb143, _, none⟩) NB144_143.out _).trans (((cell_far (p := ⟨gb143, _, none⟩) NB144_143.out _).trans (hHeld.2.2))))))⟩ (fun hHeld => ?_)
        clear hK K
        refine pure_ (i := 3) (N := some 5) (v := ?_) (a' := ?_) #[true, true, true, true, false] rfl rfl (by kernel_rfl) (fun _ _ _ h => h) (Or.inl ⟨by rfl, ?_⟩) ?_ ?_
        rotate_left
        ·intro w'
         go_simp
         with_reducible rfl
        rotate_left
        ·simp only [Act.put, L1_, L2_, L3_, i64_w, i32_w]
         rfl
        refine pure_ (i := 4) (N := some 6) (v := ?_) (a' := ?_) #[true, true, true, true, true] rfl rfl (by kernel_rfl) (fun _ _ _ h => h) (Or.inl ⟨by rfl, ?_⟩) ?_ ?_
        rotate_left
        ·intro w'
         go_simp
         with_reducible rfl
        rotate_left
        ·simp only [Act.put, L1_, L2_, L3_, i64_w, i32_w]
         rfl
        refine done_ (by kernel_rfl) ?_
        try go_wp2
        refine bodyPost_ret (results_ctt rfl _ _ gb143 120 #[.slice Ao41 x145000_1.length co41, .slice none 0 0, .slice none 0 0] (0, 0) _ rfl (by (with_reducible repeat (first | refine b1_ ?_ _ | refine b2_ ?_ | refine b3_ ?_ _)); refine blk_put (cs := #[.slice Ao41 x145000_1.length co41, .slice none 0 0, .slice none 0 0]) ?_ 2 _ rfl; (with_reducible repeat (first | refine b1_ ?_ _ | refine b2_ ?_ | refine b3_ ?_ _)); refine blk_put (cs := #[.slice Ao41 x145000_1.length co41, .slice none 0 0, .slice none 0 0]) ?_ 1 _ rfl; (with_reducible repeat (first | refine b1_ ?_ _ | refine b2_ ?_ | refine b3_ ?_ _)); refine blk_put (cs := #[.slice none 0 0, .slice none 0 0, .slice none 0 0]) ?_ 0 _ rfl; (with_reducible repeat (first | refine b1_ ?_ _ | refine b2_ ?_ | refine b3_ ?_ _)); exact BK143.out) Try.underlying120 rfl (by kernel_rfl)) rfl ?_
        exact ⟨_, _, _, _, _, _, by first | rfl | (simp [errW_none, errW_some] <;> rfl) | (simp [*, errW_none, errW_some] <;> rfl), by (with_reducible repeat (first | apply Kd.R_alloc | apply Kd.R_drewN | apply Kd.R_drew)); exact Kd.R_mono (Kd.R_far (p := ⟨gb143, 2, none⟩) (Kd.R_far (p := ⟨gb143, 1, none⟩) (Kd.R_far (p := ⟨gb143, 0, none⟩) (Kd.R_types HO_145000.out BK143.out (by decide)) (fun _ hk => hk.2) (.slice Ao41 x145000_1.length co41)) (fun _ hk => hk.2) (.slice none 0 0)) (fun _ hk => hk.2) (.slice none 0 0)) (fun _ hk => trivial), by first | exact Kd.R_nil _ _ _ _ _ | exact Kd.N_nil _ _ _ _ _ | exact Kd.V_nil _ _ _ _ _ | exact Kd.Q_nil _ _ _ _ _ | exact Kd.S_nil _ _ _ _ _, (by first | assumption | exact rfl | exact ⟨_, _, rfl⟩), by repeat (first | (with_reducible first | exact HB.out | apply below_alloc | apply pw_below_drewN | apply below_drew1 | refine below_set ?_ GE143.out | refine below_set ?_ GE144.out) | exact HB.out)⟩
       ·rw [if_neg c35] at H
        have c35b0 : decide ((l0.length : Int) < (wrap64 ((wrap64 (wrap64 (a1 * 2))) + 2))) = false := decide_eq_false c35
        clear c35
        obtain ⟨ji45, hji45⟩ : ∃ j_ : Int, (wrap64 (wrap64 (a1 * 2))) = j_ := ⟨_, rfl⟩
        replace H : (if 0 ≤ (ji45) then (if (ji45) ≤ (l0.length : Int) then ((binary_bigEndian_Uint16.f (l0.drop ((ji45) : Int).toNat)).bind fun t154 => (if (l0.length : Int) < (wrap64 ((wrap64 ((ji45) + 2)) + (wrap64 (t154)))) then ((errors_New.f (⟨#[114, 101, 97, 100, 105, 110, 103, 32, 83, 105, 109, 112, 108, 101, 71, 108, 121, 112, 104, 58, 32, 69, 79, 70, 58, 32, 101, 120, 112, 101, 99, 116, 101, 100, 32, 108, 101, 110, 103, 116, 104, 58, 32, 37, 100, 44, 32, 103, 111, 116, 32, 37, 100]⟩ : ByteArray)).bind fun t155 => (some (x145000_1, (), ([] : List (S123)), 0, t155))) else (if 0 ≤ (wrap64 ((ji45) + 2)) then (if (wrap64 ((ji45) + 2)) ≤ (wrap64 ((wrap64 ((ji45) + 2)) + (wrap64 (t154)))) then (if (wrap64 ((wrap64 ((ji45) + 2)) + (wrap64 (t154)))) ≤ (l0.length : Int) then (if 0 ≤ (wrap64 ((wrap64 ((ji45) + 2)) + (wrap64 (t154)))) then ((tables_parsePts.f k1 x145000_1 (l0.drop ((wrap64 ((wrap64 ((ji45) + 2)) + (wrap64 (t154)))) : Int).toNat) a1).bind fun bt158 => (if bt158.1.isNone = true then (some (x145000_1, (), bt158.2, wrap64 ((wrap64 ((ji45) + 2)) + (wrap64 (t154))), none)) else ((errors_New.f (⟨#[114, 101, 97, 100, 105, 110, 103, 32, 83, 105, 109, 112, 108, 101, 71, 108, 121, 112, 104, 58, 32, 37, 115]⟩ : ByteArray)).bind fun t163 => (some (x145000_1, (), bt158.2, 0, t163))))) else (none)) else (none)) else (none)) else (none)))) else (none)) else (none)) = some (r1, r2, r3, r4, r5) := by first | (rw [hji45] at H; exact H) | (simp only [hji45] at H ⊢; exact H)
        (try rw [hji45] at c35b0)
        have hji45w : (IntKind.i64.wrap (wrap64 (a1 * 2))) = ji45 := (i64_w _).trans hji45
        by_cases c46 : 0 ≤ (ji45)
        ·rw [if_pos c46] at H
         have c46b0 := eq_true c46
         have c46b1 : decide (0 ≤ (ji45)) = true := decide_eq_true c46
         clear c46
         by_cases c47 : (ji45) ≤ (l0.length : Int)
         ·rw [if_pos c47] at H
          have c47b0 := eq_true c47
          have c47b1 : decide ((ji45) ≤ (l0.length : Int)) = true := decide_eq_true c47
          clear c47
          replace H := Option.bind_eq_some_iff.mp H
          obtain ⟨t154, A480, H⟩ := H
          replace H : (if (l0.length : Int) < (wrap64 ((wrap64 ((ji45) + 2)) + (wrap64 (t154)))) then ((errors_New.f (⟨#[114, 101, 97, 100, 105, 110, 103, 32, 83, 105, 109, 112, 108, 101, 71, 108, 121, 112, 104, 58, 32, 69, 79, 70, 58, 32, 101, 120, 112, 101, 99, 116, 101, 100, 32, 108, 101, 110, 103, 116, 104, 58, 32, 37, 100, 44, 32, 103, 111, 116, 32, 37, 100]⟩ : ByteArray)).bind fun t155 => (some (x145000_1, (), ([] : List (S123)), 0, t155))) else (if 0 ≤ (wrap64 ((ji45) + 2)) then (if (wrap64 ((ji45) + 2)) ≤ (wrap64 ((wrap64 ((ji45) + 2)) + (wrap64 (t154)))) then (if (wrap64 ((wrap64 ((ji45) + 2)) + (wrap64 (t154)))) ≤ (l0.length : Int) then (if 0 ≤ (wrap64 ((wrap64 ((ji45) + 2)) + (wrap64 (t154)))) then ((tables_parsePts.f k1 x145000_1 (l0.drop ((wrap64 ((wrap64 ((ji45) + 2)) + (wrap64 (t154)))) : Int).toNat) a1).bind fun bt158 => (if bt158.1.isNone = true then (some (x145000_1, (), bt158.2, wrap64 ((wrap64 ((ji45) + 2)) + (wrap64 (t154))), none)) else ((errors_New.f (⟨#[114, 101, 97, 100, 105, 110, 103, 32, 83, 105, 109, 112, 108, 101, 71, 108, 121, 112, 104, 58, 32, 37, 115]⟩ : ByteArray)).bind fun t163 => (some (x145000_1, (), bt158.2, 0, t163))))) else (none)) else (none)) else (none)) else (none))) = some (r1, r2, r3, r4, r5) := H
          have A48 := Aside0.mk A480
          clear A480
          by_cases c49 : (l0.length : Int) < (wrap64 ((wrap64 ((ji45) + 2)) + (wrap64 (t154))))
          ·rw [if_pos c49] at H
           have c49b0 : decide ((l0.length : Int) < (wrap64 ((wrap64 ((ji45) + 2)) + (wrap64 (t154))))) = true := decide_eq_true c49
           clear c49
           replace H := Option.bind_eq_some_iff.mp H
           obtain ⟨t155, A500, H⟩ := H
           replace H : (some (x145000_1, (), ([] : List (S123)), 0, t155)) = some (r1, r2, r3, r4, r5) := H
           have A50 := Aside0.mk A500
           clear A500
           simp only [Option.some.injEq, Prod.mk.injEq] at H
           obtain ⟨rfl, -, rfl, rfl, rfl⟩ := H
           try go_wp2
           have n0_ := Aside0.mk (Kd.R_drew HO_145000.out)
           have n1_ := Aside0.mk (blk_drew BK143.out)
           have n2_ := Aside0.mk (blk_drew BK144.out)
           have n3_ := Aside0.mk (below_drew1 HB.out)
           clear HO_145000
           clear BK143
           clear BK144
           clear HB
           have HO_145000 := n0_
           have BK143 := n1_
           have BK144 := n2_
           have HB := n3_
           clear n0_ n1_ n2_ n3_
           obtain ⟨i052, hi052, _, hsz52, _⟩ := info_parts info5
           obtain ⟨A52, hcut52, hA52, hC52⟩ := print_drop_of (P := Try.prog) (Value.int .u8) 0 22 5 .i64 Try.underlying22 hi052 hsz52 A0 c0 l0 (ji45) (of_decide_eq_true (by first | (with_reducible assumption) | assumption)) (of_decide_eq_true (by first | (with_reducible assumption) | assumption)) HC0.out
           have HR153 := Aside0.mk (Kd.C_of_reads (h1 := fun _ => rfl) (hA52 _ (Kd.reads_of_C HR0.out)))
           have HC153 := Aside0.mk hC52
           clear hA52 hC52 hi052 hsz52
           refine start_ (n := 7) (S := fun w' => True) (ds := []) #[false, false, false, false, false, false, false] (by kernel_rfl) rfl rfl trivial (fun hHeld => ?_)
           generalize wr.drew = w51 at HO_145000 BK143 BK144 HB HR153 hHeld ⊢
           refine pure_ (i := 0) (N := some 55) (v := ?_) (a' := ?_) #[true, false, false, false, false, false, false] rfl rfl (by kernel_rfl) (fun _ _ _ h => h) (Or.inl ⟨by rfl, ?_⟩) ?_ ?_
           rotate_left
           ·intro w'
            go_simp
            with_reducible rfl
           rotate_left
           ·simp only [Act.put, L1_, L2_, L3_, i64_w, i32_w]
            rfl
           refine pure_ (i := 1) (N := some 56) (v := ?_) (a' := ?_) #[true, true, false, false, false, false, false] rfl rfl (by kernel_rfl) (fun _ _ _ h => h) (Or.inl ⟨by rfl, ?_⟩) ?_ ?_
           rotate_left
           ·intro w'
            go_simp
            with_reducible rfl
           rotate_left
           ·simp only [Act.put, L1_, L2_, L3_, i64_w, i32_w]
            rfl
           refine pure_ (i := 2) (N := some 57) (v := ?_) (a' := ?_) #[true, true, true, false, false, false, false] rfl rfl (by kernel_rfl) (fun _ _ _ h => h) (Or.inl ⟨by rfl, ?_⟩) ?_ ?_
           rotate_left
           ·intro w'
            go_simp
            with_reducible rfl
           rotate_left
           ·simp only [Act.put, L1_, L2_, L3_, i64_w, i32_w]
            rfl
           refine pure_ (i := 3) (N := some 58) (v := ?_) (a' := ?_) #[true, true, true, true, false, false, false] rfl rfl (by kernel_rfl) (fun _ _ _ h => h) (Or.inl ⟨by rfl, ?_⟩) ?_ ?_
           rotate_left
           ·intro w'
            go_simp
            with_reducible rfl
           rotate_left
           ·simp only [Act.put, L1_, L2_, L3_, i64_w, i32_w]
            rfl
           refine one_ (i := 4) (N := some 59) #[true, true, true, true, true, false, false] rfl rfl (by kernel_rfl) (by decide) (fun K hK => ?_)
           refine goes_ Try.func57 (by kernel_rfl) rfl #[.agg #[], .slice A52 (l0.drop ((ji45) : Int).toNat).length (c0 - (ji45).toNat)] (by rfl) rfl rfl (by (try simp only [List.map_toArray, List.map_cons, List.map_nil]); first | done | (rw [show (l0.drop ((ji45) : Int).toNat).length = (l0.length - (ji45).toNat) from List.length_drop] <;> rfl) | (simp only [hji45]; rfl) | rfl | (simp only [List.length_drop, List.length_take]; rfl)) ?_
           with_reducible refine (binary_bigEndian_Uint16.calls _ _ (l0.drop ((ji45) : Int).toNat) t154 _ ?side1 ?side2 A48.out).mono ?_
           (case side1 => repeat (first | exact (Kd.C_below HR153.out HB.out) | (with_reducible refine Kd.C_alloc ?_ _) | (with_reducible refine Kd.C_drewN ?_ _) | (with_reducible refine Kd.C_drew ?_)))
           (case side2 => exact HC153.out)
           rintro e w53 ⟨rfl, hb⟩
           refine ⟨_, rfl, ?_⟩
           have n0_ := Aside0.mk (Kd.R_below (by (with_reducible repeat (first | apply Kd.R_alloc | apply Kd.R_drewN | apply Kd.R_drew)); exact HO_145000.out) hb)
           have n1_ := Aside0.mk (blk_below (g := gb143) (o := .cells #[.slice none 0 0, .slice none 0 0, .slice none 0 0] 120 (0, 0)) (by (with_reducible repeat (first | refine b1_ ?_ _ | refine b2_ ?_ | refine b3_ ?_ _)); exact BK143.out) hb)
           have n2_ := Aside0.mk (blk_below (g := gb144) (o := .cells #[u145000, .slice none 0 0, .slice none 0 0] 120 (0, 0)) (by (with_reducible repeat (first | refine b1_ ?_ _ | refine b2_ ?_ | refine b3_ ?_ _)); exact BK144.out) hb)
           have n3_ := Aside0.mk (below_step (by repeat (first | (with_reducible first | exact HB.out | apply below_alloc | apply pw_below_drewN | apply below_drew1 | refine below_set ?_ GE143.out | refine below_set ?_ GE144.out) | exact HB.out)) hb)
           clear HO_145000
           clear BK143
           clear BK144
           clear HB
           have HO_145000 := n0_
           have BK143 := n1_
           have BK144 := n2_
           have HB := n3_
           clear n0_ n1_ n2_ n3_
           (try clear hb)
           (try clear hb2)
           (try clear hk)
           (try clear hi)
           refine hK.out _ _ trivial (fun hHeld => ?_)
           clear hK K
           refine norm_ (a' := ?_) ?_ ?_
           rotate_left
           ·show Act.put _ (some 59) _ = _
            simp only [Act.put, L1_, L2_, L3_, i64_w, i32_w]
            rfl
           refine pure_ (i := 5) (N := some 60) (v := ?_) (a' := ?_) #[true, true, true, true, true, true, false] rfl rfl (by kernel_rfl) (fun _ _ _ h => h) (Or.inl ⟨by rfl, ?_⟩) ?_ ?_
           rotate_left
           ·intro w'
            go_simp
            with_reducible rfl
           rotate_left
           ·(try go_ints); (try simp (disch := omega) only [n3_]); simp only [Act.put, L1_, L2_, L3_, i64_w, i32_w]
            rfl
           refine pure_ (i := 6) (N := some 12) (v := ?_) (a' := ?_) #[true, true, true, true, true, true, true] rfl rfl (by kernel_rfl) (fun _ _ _ h => h) (Or.inl ⟨by rfl, ?_⟩) ?_ ?_
           rotate_left
           ·intro w'
            go_simp
            with_reducible rfl
           rotate_left
           ·simp only [Act.put, L1_, L2_, L3_, i64_w, i32_w]
            rfl
           refine done_ (by kernel_rfl) ?_
           try go_wp2
           have n0_ := Aside0.mk (Kd.R_drew HO_145000.out)
           have n1_ := Aside0.mk (blk_drew BK143.out)
           have n2_ := Aside0.mk (blk_drew BK144.out)
           have n3_ := Aside0.mk (below_drew1 HB.out)
           clear HO_145000
           clear BK143
           clear BK144
           clear HB
           have HO_145000 := n0_
           have BK143 := n1_
           have BK144 := n2_
           have HB := n3_
           clear n0_ n1_ n2_ n3_
           refine start_ (n := 5) (S := fun w' => w'.cell? ⟨gb144, 0, none⟩ = some (u145000) ∧ w'.cell? ⟨gb144, 1, none⟩ = some (.slice none 0 0) ∧ w'.cell? ⟨gb144, 2, none⟩ = some (.slice none 0 0)) (ds := []) #[false, false, false, false, false] (by kernel_rfl) rfl rfl ⟨(blk_cell BK144.out 0).trans rfl, (blk_cell BK144.out 1).trans rfl, (blk_cell BK144.out 2).trans rfl⟩ (fun hHeld => ?_)
           generalize w53.drew = w54 at HO_145000 BK143 BK144 HB hHeld ⊢
           refine take_ (i := 0) (N := some 70) (v := ?_) (a' := ?_) #[true, false, false, false, false] rfl rfl (by kernel_rfl) (fun _ _ _ h => h) (Or.inl ⟨by rfl, ?_⟩) hHeld ?_ ?_
           rotate_left
           ·rintro w' ⟨s0, s1, s2⟩
            go_simp
            with_reducible rfl
           rotate_left
           ·simp only [Act.put, L1_, L2_, L3_, i64_w, i32_w]
            rfl
           refine one_ (i := 1) (N := some 71) #[true, true, false, false, false] rfl rfl (by kernel_rfl) (by decide) (fun K hK => ?_)
           refine goes_ Try.func56 (by kernel_rfl) rfl #[.string (⟨#[114, 101, 97, 100, 105, 110, 103, 32, 83, 105, 109, 112, 108, 101, 71, 108, 121, 112, 104, 58, 32, 69, 79, 70, 58, 32, 101, 120, 112, 101, 99, 116, 101, 100, 32, 108, 101, 110, 103, 116, 104, 58, 32, 37, 100, 44, 32, 103, 111, 116, 32, 37, 100]⟩ : ByteArray)] (by rfl) rfl rfl (by (try simp only [List.map_toArray, List.map_cons, List.map_nil]); first | done | rfl | (simp only [List.length_drop, List.length_take]; rfl)) ?_
           with_reducible refine (errors_New.calls (⟨#[114, 101, 97, 100, 105, 110, 103, 32, 83, 105, 109, 112, 108, 101, 71, 108, 121, 112, 104, 58, 32, 69, 79, 70, 58, 32, 101, 120, 112, 101, 99, 116, 101, 100, 32, 108, 101, 110, 103, 116, 104, 58, 32, 37, 100, 44, 32, 103, 111, 116, 32, 37, 100]⟩ : ByteArray) t155 _ A50.out).mono ?_
           rintro e w57 ⟨ev55, rfl, he56, hb⟩
           refine ⟨_, rfl, ?_⟩
           have n0_ := Aside0.mk (Kd.R_below (by (with_reducible repeat (first | apply Kd.R_alloc | apply Kd.R_drewN | apply Kd.R_drew)); exact HO_145000.out) hb)
           have n1_ := Aside0.mk (blk_below (g := gb143) (o := .cells #[.slice none 0 0, .slice none 0 0, .slice none 0 0] 120 (0, 0)) (by (with_reducible repeat (first | refine b1_ ?_ _ | refine b2_ ?_ | refine b3_ ?_ _)); exact BK143.out) hb)
           have n2_ := Aside0.mk (blk_below (g := gb144) (o := .cells #[u145000, .slice none 0 0, .slice none 0 0] 120 (0, 0)) (by (with_reducible repeat (first | refine b1_ ?_ _ | refine b2_ ?_ | refine b3_ ?_ _)); exact BK144.out) hb)
           have n3_ := Aside0.mk (below_step (by repeat (first | (with_reducible first | exact HB.out | apply below_alloc | apply pw_below_drewN | apply below_drew1 | refine below_set ?_ GE143.out | refine below_set ?_ GE144.out) | exact HB.out)) hb)
           clear HO_145000
           clear BK143
           clear BK144
           clear HB
           have HO_145000 := n0_
           have BK143 := n1_
           have BK144 := n2_
           have HB := n3_
           clear n0_ n1_ n2_ n3_
           (try clear hb)
           (try clear hb2)
           (try clear hk)
           (try clear hi)
           (first | (obtain rfl := EV_none he56) | (obtain ⟨te_, pe_, rfl⟩ := EV_some he56) | skip)
           obtain ⟨Ao58, co58, eo58⟩ := Kd.R_slice HO_145000.out
           (first | subst eo58 | (injection eo58 with f1_ f2_ f3_; have f4_ := f1_.symm; have f5_ := f3_.symm; clear f1_ f2_ f3_; subst f4_; subst f5_))
           refine hK.out _ _ ⟨(blk_cell BK144.out 0).trans rfl, (blk_cell BK144.out 1).trans rfl, (blk_cell BK144.out 2).trans rfl⟩ (fun hHeld => ?_)
           clear hK K
           refine norm_ (a' := ?_) ?_ ?_
           rotate_left
           ·show Act.put _ (some 71) _ = _
            simp only [Act.put, L1_, L2_, L3_, i64_w, i32_w]
            rfl
           refine one_ (i := 2) (N := none) #[true, true, true, false, false] rfl rfl (by kernel_rfl) (by decide) (fun K hK => ?_)
           have hs59 : w57.cell? ⟨gb143, 0, none⟩ = some (.slice none 0 0) := (blk_cell BK143.out 0).trans rfl
           have hfs59 := blk_frozen BK143.out 0
           have hns59_1 := NB144_143.out
           have hms59_1 := NB143_144.out
           have hs60 : w57.cell? ⟨gb143, 1, none⟩ = some (.slice none 0 0) := (blk_cell BK143.out 1).trans rfl
           have hfs60 := blk_frozen BK143.out 1
           have hns60_1 := NB144_143.out
           have hms60_1 := NB143_144.out
           have hs61 : w57.cell? ⟨gb143, 2, none⟩ = some (.slice none 0 0) := (blk_cell BK143.out 2).trans rfl
           have hfs61 := blk_frozen BK143.out 2
           have hns61_1 := NB144_143.out
           have hms61_1 := NB143_144.out
           refine skip_ (w1 := ?_) (by rfl) rfl ?_ ?_
           rotate_left
           ·go_simp
            rfl
           refine hK.out _ _ ⟨((cell_far (p := ⟨gb143, _, none⟩) NB144_143.out _).trans (((cell_far (p := ⟨gb143, _, none⟩) NB144_143.out _).trans (((cell_far (p := ⟨gb143, _, none⟩) NB144_143.out _).trans (hHeld.1)))))), ((cell_far (p := ⟨gb143, _, none⟩) NB144_143.out _).trans (((cell_far (p := ⟨gb143, _, none⟩) NB144_143.out _).trans (((cell_far (p := ⟨gb143, _, none⟩) NB144_143.out _).trans (hHeld.2.1)))))), ((cell_far (p := ⟨gb143, _, none⟩) NB144_143.out _).trans (((cell_far (p := ⟨gb143, _, none⟩) NB144_143.out _).trans (((cell_far (p := ⟨gb143, _, none⟩) NB144_143.out _).trans (hHeld.2.2))))))⟩ (fun hHeld => ?_)
           clear hK K
           refine pure_ (i := 3) (N := some 5) (v := ?_) (a' := ?_) #[true, true, true, true, false] rfl rfl (by kernel_rfl) (fun _ _ _ h => h) (Or.inl ⟨by rfl, ?_⟩) ?_ ?_
           rotate_left
           ·intro w'
            go_simp
            with_reducible rfl
           rotate_left
           ·simp only [Act.put, L1_, L2_, L3_, i64_w, i32_w]
            rfl
           refine pure_ (i := 4) (N := some 6) (v := ?_) (a' := ?_) #[true, true, true, true, true] rfl rfl (by kernel_rfl) (fun _ _ _ h => h) (Or.inl ⟨by rfl, ?_⟩) ?_ ?_
           rotate_left
           ·intro w'
            go_simp
            with_reducible rfl
           rotate_left
           ·simp only [Act.put, L1_, L2_, L3_, i64_w, i32_w]
            rfl
           refine done_ (by kernel_rfl) ?_
           try go_wp2
           refine bodyPost_ret (results_ctt rfl _ _ gb143 120 #[.slice Ao58 x145000_1.length co58, .slice none 0 0, .slice none 0 0] (0, 0) _ rfl (by (with_reducible repeat (first | refine b1_ ?_ _ | refine b2_ ?_ | refine b3_ ?_ _)); refine blk_put (cs := #[.slice Ao58 x145000_1.length co58, .slice none 0 0, .slice none 0 0]) ?_ 2 _ rfl; (with_reducible repeat (first | refine b1_ ?_ _ | refine b2_ ?_ | refine b3_ ?_ _)); refine blk_put (cs := #[.slice Ao58 x145000_1.length co58, .slice none 0 0, .slice none 0 0]) ?_ 1 _ rfl; (with_reducible repeat (first | refine b1_ ?_ _ | refine b2_ ?_ | refine b3_ ?_ _)); refine blk_put (cs := #[.slice none 0 0, .slice none 0 0, .slice none 0 0]) ?_ 0 _ rfl; (with_reducible repeat (first | refine b1_ ?_ _ | refine b2_ ?_ | refine b3_ ?_ _)); exact BK143.out) Try.underlying120 rfl (by kernel_rfl)) rfl ?_
           exact ⟨_, _, _, _, _, _, by first | rfl | (simp [errW_none, errW_some] <;> rfl) | (simp only [← hji45]; first | rfl | (simp [errW_none, errW_some] <;> rfl)) | (simp [*, errW_none, errW_some] <;> rfl), by (with_reducible repeat (first | apply Kd.R_alloc | apply Kd.R_drewN | apply Kd.R_drew)); exact Kd.R_mono (Kd.R_far (p := ⟨gb143, 2, none⟩) (Kd.R_far (p := ⟨gb143, 1, none⟩) (Kd.R_far (p := ⟨gb143, 0, none⟩) (Kd.R_types HO_145000.out BK143.out (by decide)) (fun _ hk => hk.2) (.slice Ao58 x145000_1.length co58)) (fun _ hk => hk.2) (.slice none 0 0)) (fun _ hk => hk.2) (.slice none 0 0)) (fun _ hk => trivial), by first | exact Kd.R_nil _ _ _ _ _ | exact Kd.N_nil _ _ _ _ _ | exact Kd.V_nil _ _ _ _ _ | exact Kd.Q_nil _ _ _ _ _ | exact Kd.S_nil _ _ _ _ _, (by first | assumption | exact rfl | exact ⟨_, _, rfl⟩), by repeat (first | (with_reducible first | exact HB.out | apply below_alloc | apply pw_below_drewN | apply below_drew1 | refine below_set ?_ GE143.out | refine below_set ?_ GE144.out) | exact HB.out)⟩
          ·rw [if_neg c49] at H
           have c49b0 : decide ((l0.length : Int) < (wrap64 ((wrap64 ((ji45) + 2)) + (wrap64 (t154))))) = false := decide_eq_false c49
           clear c49
           obtain ⟨ji62, hji62⟩ : ∃ j_ : Int, (wrap64 ((ji45) + 2)) = j_ := ⟨_, rfl⟩
           replace H : (if 0 ≤ (ji62) then (if (ji62) ≤ (wrap64 ((ji62) + (wrap64 (t154)))) then (if (wrap64 ((ji62) + (wrap64 (t154)))) ≤ (l0.length : Int) then (if 0 ≤ (wrap64 ((ji62) + (wrap64 (t154)))) then ((tables_parsePts.f k1 x145000_1 (l0.drop ((wrap64 ((ji62) + (wrap64 (t154)))) : Int).toNat) a1).bind fun bt158 => (if bt158.1.isNone = true then (some (x145000_1, (), bt158.2, wrap64 ((ji62) + (wrap64 (t154))), none)) else ((errors_New.f (⟨#[114, 101, 97, 100, 105, 110, 103, 32, 83, 105, 109, 112, 108, 101, 71, 108, 121, 112, 104, 58, 32, 37, 115]⟩ : ByteArray)).bind fun t163 => (some (x145000_1, (), bt158.2, 0, t163))))) else (none)) else (none)) else (none)) else (none)) = some (r1, r2, r3, r4, r5) := by first | (rw [hji62] at H; exact H) | (simp only [hji62] at H ⊢; exact H)
           (try rw [hji62] at c49b0)
           (try rw [hji62] at A48)
           have hji62w : (IntKind.i64.wrap ((ji45) + 2)) = ji62 := (i64_w _).trans hji62
           by_cases c63 : 0 ≤ (ji62)
           ·rw [if_pos c63] at H
            have c63b0 := eq_true c63
            have c63b1 : decide (0 ≤ (ji62)) = true := decide_eq_true c63
            clear c63
            by_cases c64 : (ji62) ≤ (wrap64 ((ji62) + (wrap64 (t154))))
            ·rw [if_pos c64] at H
             have c64b0 := eq_true c64
             have c64b1 : decide ((ji62) ≤ (wrap64 ((ji62) + (wrap64 (t154))))) = true := decide_eq_true c64
             by_cases c65 : (wrap64 ((ji62) + (wrap64 (t154)))) ≤ (l0.length : Int)
             ·rw [if_pos c65] at H
              have c65b0 := eq_true c65
              have c65b1 : decide ((wrap64 ((ji62) + (wrap64 (t154)))) ≤ (l0.length : Int)) = true := decide_eq_true c65
              obtain ⟨ji66, hji66⟩ : ∃ j_ : Int, (wrap64 ((ji62) + (wrap64 (t154)))) = j_ := ⟨_, rfl⟩
              replace H : (if 0 ≤ (ji66) then ((tables_parsePts.f k1 x145000_1 (l0.drop ((ji66) : Int).toNat) a1).bind fun bt158 => (if bt158.1.isNone = true then (some (x145000_1, (), bt158.2, ji66, none)) else ((errors_New.f (⟨#[114, 101, 97, 100, 105, 110, 103, 32, 83, 105, 109, 112, 108, 101, 71, 108, 121, 112, 104, 58, 32, 37, 115]⟩ : ByteArray)).bind fun t163 => (some (x145000_1, (), bt158.2, 0, t163))))) else (none)) = some (r1, r2, r3, r4, r5) := by first | (rw [hji66] at H; exact H) | (simp only [hji66] at H ⊢; exact H)
              (try rw [hji66] at c64b0)
              (try rw [hji66] at c64b1)
              (try rw [hji66] at c64)
              (try rw [hji66] at c65b0)
              (try rw [hji66] at c65b1)
              (try rw [hji66] at c65)
              (try rw [hji66] at A48)
              have hji66w : (IntKind.i64.wrap ((ji62) + (wrap64 (t154)))) = ji66 := (i64_w _).trans hji66
              by_cases c67 : 0 ≤ (ji66)
              ·rw [if_pos c67] at H
               have c67b0 := eq_true c67
               have c67b1 : decide (0 ≤ (ji66)) = true := decide_eq_true c67
               clear c67
               have c68b0 := eq_true (of_decide_eq_true (by first | (with_reducible assumption) | assumption) : (ji66) ≤ (l0.length : Int))
               replace H := Option.bind_eq_some_iff.mp H
               obtain ⟨⟨t158, t159⟩, A690, H⟩ := H
               replace H : (if t158.isNone = true then (some (x145000_1, (), t159, ji66, none)) else ((errors_New.f (⟨#[114, 101, 97, 100, 105, 110, 103, 32, 83, 105, 109, 112, 108, 101, 71, 108, 121, 112, 104, 58, 32, 37, 115]⟩ : ByteArray)).bind fun t163 => (some (x145000_1, (), t159, 0, t163)))) = some (r1, r2, r3, r4, r5) := H
               have A69 := Aside0.mk A690
               clear A690
               rcases t158 with _ | q162
               ·have H1 : (some (x145000_1, (), t159, ji66, none)) = some (r1, r2, r3, r4, r5) := by rw [if_pos (show (none : Option Int).isNone = true by rfl)] at H; exact H
                clear H
                have H := H1
                clear H1
                try simp only [errW_none, errW_some]
                simp only [Option.some.injEq, Prod.mk.injEq] at H
                obtain ⟨rfl, -, rfl, rfl, rfl⟩ := H
                try go_wp2
                have n0_ := Aside0.mk (Kd.R_drew HO_145000.out)
                have n1_ := Aside0.mk (blk_drew BK143.out)
                have n2_ := Aside0.mk (blk_drew BK144.out)
                have n3_ := Aside0.mk (below_drew1 HB.out)
                clear HO_145000
                clear BK143
                clear BK144
                clear HB
                have HO_145000 := n0_
                have BK143 := n1_
                have BK144 := n2_
                have HB := n3_
                clear n0_ n1_ n2_ n3_
                obtain ⟨i071, hi071, _, hsz71, _⟩ := info_parts info5
                obtain ⟨A71, hcut71, hA71, hC71⟩ := print_drop_of (P := Try.prog) (Value.int .u8) 0 22 5 .i64 Try.underlying22 hi071 hsz71 A0 c0 l0 (ji45) (of_decide_eq_true (by first | (with_reducible assumption) | assumption)) (of_decide_eq_true (by first | (with_reducible assumption) | assumption)) HC0.out
                have HR153 := Aside0.mk (Kd.C_of_reads (h1 := fun _ => rfl) (hA71 _ (Kd.reads_of_C HR0.out)))
                have HC153 := Aside0.mk hC71
                clear hA71 hC71 hi071 hsz71
                refine start_ (n := 7) (S := fun w' => True) (ds := []) #[false, false, false, false, false, false, false] (by kernel_rfl) rfl rfl trivial (fun hHeld => ?_)
                generalize wr.drew = w70 at HO_145000 BK143 BK144 HB HR153 hHeld ⊢
                refine pure_ (i := 0) (N := some 55) (v := ?_) (a' := ?_) #[true, false, false, false, false, false, false] rfl rfl (by kernel_rfl) (fun _ _ _ h => h) (Or.inl ⟨by rfl, ?_⟩) ?_ ?_
                rotate_left
                ·intro w'
                 go_simp
                 with_reducible rfl
                rotate_left
                ·simp only [Act.put, L1_, L2_, L3_, i64_w, i32_w]
                 rfl
                refine pure_ (i := 1) (N := some 56) (v := ?_) (a' := ?_) #[true, true, false, false, false, false, false] rfl rfl (by kernel_rfl) (fun _ _ _ h => h) (Or.inl ⟨by rfl, ?_⟩) ?_ ?_
                rotate_left
                ·intro w'
                 go_simp
                 with_reducible rfl
                rotate_left
                ·simp only [Act.put, L1_, L2_, L3_, i64_w, i32_w]
                 rfl
                refine pure_ (i := 2) (N := some 57) (v := ?_) (a' := ?_) #[true, true, true, false, false, false, false] rfl rfl (by kernel_rfl) (fun _ _ _ h => h) (Or.inl ⟨by rfl, ?_⟩) ?_ ?_
                rotate_left
                ·intro w'
                 go_simp
                 with_reducible rfl
                rotate_left
                ·simp only [Act.put, L1_, L2_, L3_, i64_w, i32_w]
                 rfl
                refine pure_ (i := 3) (N := some 58) (v := ?_) (a' := ?_) #[true, true, true, true, false, false, false] rfl rfl (by kernel_rfl) (fun _ _ _ h => h) (Or.inl ⟨by rfl, ?_⟩) ?_ ?_
                rotate_left
                ·intro w'
                 go_simp
                 with_reducible rfl
                rotate_left
                ·simp only [Act.put, L1_, L2_, L3_, i64_w, i32_w]
                 rfl
                refine one_ (i := 4) (N := some 59) #[true, true, true, true, true, false, false] rfl rfl (by kernel_rfl) (by decide) (fun K hK => ?_)
                refine goes_ Try.func57 (by kernel_rfl) rfl #[.agg #[], .slice A71 (l0.drop ((ji45) : Int).toNat).length (c0 - (ji45).toNat)] (by rfl) rfl rfl (by (try simp only [List.map_toArray, List.map_cons, List.map_nil]); first | done | (rw [show (l0.drop ((ji45) : Int).toNat).length = (l0.length - (ji45).toNat) from List.length_drop] <;> rfl) | (simp only [hji45]; rfl) | rfl | (simp only [List.length_drop, List.length_take]; rfl)) ?_
                with_reducible refine (binary_bigEndian_Uint16.calls _ _ (l0.drop ((ji45) : Int).toNat) t154 _ ?side1 ?side2 A48.out).mono ?_
                (case side1 => repeat (first | exact (Kd.C_below HR153.out HB.out) | (with_reducible refine Kd.C_alloc ?_ _) | (with_reducible refine Kd.C_drewN ?_ _) | (with_reducible refine Kd.C_drew ?_)))
                (case side2 => exact HC153.out)
                rintro e w72 ⟨rfl, hb⟩
                refine ⟨_, rfl, ?_⟩
                have n0_ := Aside0.mk (Kd.R_below (by (with_reducible repeat (first | apply Kd.R_alloc | apply Kd.R_drewN | apply Kd.R_drew)); exact HO_145000.out) hb)
                have n1_ := Aside0.mk (blk_below (g := gb143) (o := .cells #[.slice none 0 0, .slice none 0 0, .slice none 0 0] 120 (0, 0)) (by (with_reducible repeat (first | refine b1_ ?_ _ | refine b2_ ?_ | refine b3_ ?_ _)); exact BK143.out) hb)
                have n2_ := Aside0.mk (blk_below (g := gb144) (o := .cells #[u145000, .slice none 0 0, .slice none 0 0] 120 (0, 0)) (by (with_reducible repeat (first | refine b1_ ?_ _ | refine b2_ ?_ | refine b3_ ?_ _)); exact BK144.out) hb)
                have n3_ := Aside0.mk (below_step (by repeat (first | (with_reducible first | exact HB.out | apply below_alloc | apply pw_below_drewN | apply below_drew1 | refine below_set ?_ GE143.out | refine below_set ?_ GE144.out) | exact HB.out)) hb)
                clear HO_145000
                clear BK143
                clear BK144
                clear HB
                have HO_145000 := n0_
                have BK143 := n1_
                have BK144 := n2_
                have HB := n3_
                clear n0_ n1_ n2_ n3_
                (try clear hb)
                (try clear hb2)
                (try clear hk)
                (try clear hi)
                refine hK.out _ _ trivial (fun hHeld => ?_)
                clear hK K
                refine norm_ (a' := ?_) ?_ ?_
                rotate_left
                ·show Act.put _ (some 59) _ = _
                 simp only [Act.put, L1_, L2_, L3_, i64_w, i32_w]
                 rfl
                refine pure_ (i := 5) (N := some 60) (v := ?_) (a' := ?_) #[true, true, true, true, true, true, false] rfl rfl (by kernel_rfl) (fun _ _ _ h => h) (Or.inl ⟨by rfl, ?_⟩) ?_ ?_
                rotate_left
                ·intro w'
                 go_simp
                 with_reducible rfl
                rotate_left
                ·(try go_ints); (try simp (disch := omega) only [n3_]); simp only [Act.put, L1_, L2_, L3_, i64_w, i32_w]
                 rfl
                refine pure_ (i := 6) (N := some 12) (v := ?_) (a' := ?_) #[true, true, true, true, true, true, true] rfl rfl (by kernel_rfl) (fun _ _ _ h => h) (Or.inl ⟨by rfl, ?_⟩) ?_ ?_
                rotate_left
                ·intro w'
                 go_simp
                 with_reducible rfl
                rotate_left
                ·simp only [Act.put, L1_, L2_, L3_, i64_w, i32_w]
                 rfl
                refine done_ (by kernel_rfl) ?_
                obtain ⟨i073, hi073, _, hsz73, _⟩ := info_parts info5
                obtain ⟨A73, hcut73, hA73, hC73⟩ := print_mid_of (P := Try.prog) (Value.int .u8) 0 22 5 .i64 .i64 Try.underlying22 hi073 hsz73 A0 c0 l0 (ji62) (ji66) (of_decide_eq_true (by first | (with_reducible assumption) | assumption)) (by first | omega | exact of_decide_eq_true (by first | (with_reducible assumption) | assumption)) (of_decide_eq_true (by first | (with_reducible assumption) | assumption)) HC0.out
                have HR156 := Aside0.mk (Kd.C_of_reads (h1 := fun _ => rfl) (hA73 _ (Kd.reads_of_C HR0.out)))
                have HC156 := Aside0.mk hC73
                clear hA73 hC73 hi073 hsz73
                obtain ⟨nI_, hnI_⟩ : ∃ n : Nat, n = ((l0.take ((ji66) : Int).toNat).drop ((ji62) : Int).toNat).length := ⟨_, rfl⟩
                obtain ⟨cI_, hcI_⟩ : ∃ n : Nat, n = c0 - (ji62).toNat := ⟨_, rfl⟩
                rw [← hnI_, ← hcI_] at hcut73
                clear hnI_ hcI_
                obtain ⟨i074, hi074, _, hsz74, _⟩ := info_parts info5
                obtain ⟨A74, hcut74, hA74, hC74⟩ := print_drop_of (P := Try.prog) (Value.int .u8) 0 22 5 .i64 Try.underlying22 hi074 hsz74 A0 c0 l0 (ji66) (of_decide_eq_true (by first | (with_reducible assumption) | assumption)) (of_decide_eq_true (by first | (with_reducible assumption) | assumption)) HC0.out
                have HR157 := Aside0.mk (Kd.C_of_reads (h1 := fun _ => rfl) (hA74 _ (Kd.reads_of_C HR0.out)))
                have HC157 := Aside0.mk hC74
                clear hA74 hC74 hi074 hsz74
                have hnb75 := NB144_143.out
                have hnc75 := NB143_144.out
                have hcz76_0 : w72.cell? ⟨gb144, 0, none⟩ = some (u145000) := (blk_cell BK144.out 0).trans rfl
                have hcz76_1 : w72.cell? ⟨gb144, 1, none⟩ = some (.slice none 0 0) := (blk_cell BK144.out 1).trans rfl
                have hcz76_2 : w72.cell? ⟨gb144, 2, none⟩ = some (.slice none 0 0) := (blk_cell BK144.out 2).trans rfl
                have hfz76_0 := blk_frozen BK144.out 0
                have hfz76_1 := blk_frozen BK144.out 1
                have hfz76_2 := blk_frozen BK144.out 2
                obtain ⟨Ao77, co77, eo77⟩ := Kd.R_slice HO_145000.out
                subst eo77
                have hfi_ : ∀ ad : Addr, A74 = some ad → 0 < (l0.drop ((ji66) : Int).toNat).length → ad.block ≠ gb144 := fun ad he h_ => by cases he; exact Nat.ne_of_lt (Nat.lt_of_lt_of_le (Kd.C_lt HR157.out h_ (by decide)) GE144.out)
                try go_wp2_with (first | ((with_reducible refine gate_store (t := 22) (p := 76) rfl ?_); refine store_event (t := 22) (p := 76) (v := ?vo_i) (w1 := (w72.setCell ⟨gb144, 1, none⟩ (.slice A73 nI_ cI_))) ?hg ?ho ?hn ?hr ?_; (case ho => rfl); (case hg => rfl); (case hn => rfl); (case hr => first | (go_simp; done) | (go_simp; rfl)); intro wI_ hw; have n0_ := Aside0.mk (show Kd.R (Kd.int .u16) 35 wI_ w.heap.size (fun _ => True) (.slice Ao77 x145000_1.length co77) x145000_1 from by rw [hw]; exact Kd.R_mono (Kd.R_far (p := ⟨gb144, 1, none⟩) (Kd.R_types HO_145000.out BK144.out (by decide)) (fun _ hk => hk.2) _) (fun _ _ => trivial)); have n1_ := Aside0.mk (show wI_.heap[gb143]? = some (.cells #[.slice none 0 0, .slice none 0 0, .slice none 0 0] 120 (0, 0)) from by rw [hw]; exact blk_far BK143.out NB143_144.out _); have n2_ := Aside0.mk (show wI_.heap[gb144]? = some (.cells #[.slice Ao77 x145000_1.length co77, .slice A73 nI_ cI_, .slice none 0 0] 120 (0, 0)) from by rw [hw]; exact blk_put BK144.out 1 _ rfl); have n3_ := Aside0.mk (show Below w.heap.size w wI_ from by rw [hw]; exact below_set HB.out GE144.out); clear HO_145000 BK143 BK144 HB hw; have HO_145000 := n0_; have BK143 := n1_; have BK144 := n2_; have HB := n3_; clear n0_ n1_ n2_ n3_) | ((with_reducible refine gate_callee (f := 86) rfl ?_); refine goesL_ (some 82) rfl rfl Try.func86 (by kernel_rfl) rfl #[.pointer (some ⟨gb144, 0, none⟩), .slice A74 (l0.drop ((ji66) : Int).toNat).length (c0 - (ji66).toNat), .int .i64 a1] rfl (by (try simp only [List.map_toArray, List.map_cons, List.map_nil]); first | done | (rw [show (l0.drop ((ji66) : Int).toNat).length = (l0.length - (ji66).toNat) from List.length_drop] <;> rfl) | (simp only [hji66]; rfl) | rfl | (simp only [List.length_drop, List.length_take]; rfl)) ?_; (with_reducible refine (tables_parsePts.calls k1 _ _ x145000_1 _ _ (l0.drop ((ji66) : Int).toNat) a1 none t159 _ gb144 (.slice A73 nI_ cI_) BK144.out ?side1 ?side2 ?side3 ?side4 hfi_ A69.out).mono ?_); (case side1 => repeat (first | exact (Kd.R_reads' HO_145000.out).2.2 | (with_reducible refine Kd.C_alloc ?_ _) | (with_reducible refine Kd.C_drewN ?_ _) | (with_reducible refine Kd.C_drew ?_))); (case side2 => exact (Kd.R_reads' HO_145000.out).2.1); (case side3 => repeat (first | exact (Kd.C_below HR157.out HB.out) | (with_reducible refine Kd.C_alloc ?_ _) | (with_reducible refine Kd.C_drewN ?_ _) | (with_reducible refine Kd.C_drew ?_))); (case side4 => exact HC157.out); rintro e w_ ⟨v160, ev78, w80, rfl, rfl, ho0, he79, hb⟩; refine ⟨_, rfl, ?_⟩; have n0_ := Aside0.mk (Kd.R_below (by (with_reducible repeat (first | apply Kd.R_alloc | apply Kd.R_drewN | apply Kd.R_drew)); exact HO_145000.out) hb); have n1_ := Aside0.mk (Kd.R_lower ho0 (below_size (by repeat (first | (with_reducible first | exact HB.out | apply below_alloc | apply pw_below_drewN | apply below_drew1 | refine below_set ?_ GE143.out | refine below_set ?_ GE144.out) | exact HB.out)))); have n2_ := Aside0.mk (blk_below (g := gb143) (o := .cells #[.slice none 0 0, .slice none 0 0, .slice none 0 0] 120 (0, 0)) (by (with_reducible repeat (first | refine b1_ ?_ _ | refine b2_ ?_ | refine b3_ ?_ _)); exact BK143.out) hb); have n3_ := Aside0.mk (blk_below (g := gb144) (o := .cells #[.slice Ao77 x145000_1.length co77, .slice A73 nI_ cI_, .slice none 0 0] 120 (0, 0)) (by (with_reducible repeat (first | refine b1_ ?_ _ | refine b2_ ?_ | refine b3_ ?_ _)); exact BK144.out) hb); have n4_ := Aside0.mk (below_step (by repeat (first | (with_reducible first | exact HB.out | apply below_alloc | apply pw_below_drewN | apply below_drew1 | refine below_set ?_ GE143.out | refine below_set ?_ GE144.out) | exact HB.out)) hb); clear HO_145000; clear BK143; clear BK144; clear HB; have HO_145000 := n0_; have HO161 := n1_; have BK143 := n2_; have BK144 := n3_; have HB := n4_; clear n0_ n1_ n2_ n3_ n4_; (try clear hb); (try clear hb2); (try clear hk); (try clear hi); (try clear ho0); (first | (obtain rfl := EV_none he79) | (obtain ⟨te_, pe_, rfl⟩ := EV_some he79) | skip); obtain ⟨Ao81, co81, eo81⟩ := Kd.R_slice HO161.out; subst eo81; have hcz82_0 : w80.cell? ⟨gb144, 0, none⟩ = some (.slice Ao77 x145000_1.length co77) := (blk_cell BK144.out 0).trans rfl; have hcz82_1 : w80.cell? ⟨gb144, 1, none⟩ = some (.slice A73 nI_ cI_) := (blk_cell BK144.out 1).trans rfl; have hcz82_2 : w80.cell? ⟨gb144, 2, none⟩ = some (.slice none 0 0) := (blk_cell BK144.out 2).trans rfl; have hfz82_0 := blk_frozen BK144.out 0; have hfz82_1 := blk_frozen BK144.out 1; have hfz82_2 := blk_frozen BK144.out 2; have hcz83_0 : w80.cell? ⟨gb143, 0, none⟩ = some (.slice none 0 0) := (blk_cell BK143.out 0).trans rfl; have hcz83_1 : w80.cell? ⟨gb143, 1, none⟩ = some (.slice none 0 0) := (blk_cell BK143.out 1).trans rfl; have hcz83_2 : w80.cell? ⟨gb143, 2, none⟩ = some (.slice none 0 0) := (blk_cell BK143.out 2).trans rfl; have hfz83_0 := blk_frozen BK143.out 0; have hfz83_1 := blk_frozen BK143.out 1; have hfz83_2 := blk_frozen BK143.out 2))
                refine bodyPost_ret (results_ctt rfl _ _ gb143 120 #[.slice Ao77 x145000_1.length co77, .slice A73 nI_ cI_, .slice Ao81 t159.length co81] (0, 0) _ rfl (by (with_reducible repeat (first | refine b1_ ?_ _ | refine b2_ ?_ | refine b3_ ?_ _)); refine blk_put (cs := #[.slice Ao77 x145000_1.length co77, .slice A73 nI_ cI_, .slice none 0 0]) ?_ 2 _ rfl; (with_reducible repeat (first | refine b1_ ?_ _ | refine b2_ ?_ | refine b3_ ?_ _)); refine blk_put (cs := #[.slice Ao77 x145000_1.length co77, .slice none 0 0, .slice none 0 0]) ?_ 1 _ rfl; (with_reducible repeat (first | refine b1_ ?_ _ | refine b2_ ?_ | refine b3_ ?_ _)); refine blk_put (cs := #[.slice none 0 0, .slice none 0 0, .slice none 0 0]) ?_ 0 _ rfl; (with_reducible repeat (first | refine b1_ ?_ _ | refine b2_ ?_ | refine b3_ ?_ _)); refine blk_far ?_ NB143_144.out _; (with_reducible repeat (first | refine b1_ ?_ _ | refine b2_ ?_ | refine b3_ ?_ _)); exact BK143.out) Try.underlying120 rfl (by kernel_rfl)) rfl ?_
                exact ⟨_, _, _, _, _, _, by first | rfl | (simp [errW_none, errW_some] <;> rfl) | (simp only [← hji45, ← hji62, ← hji66]; first | rfl | (simp [errW_none, errW_some] <;> rfl)) | (simp [*, errW_none, errW_some] <;> rfl), by (with_reducible repeat (first | apply Kd.R_alloc | apply Kd.R_drewN | apply Kd.R_drew)); exact Kd.R_mono (Kd.R_far (p := ⟨gb143, 2, none⟩) (Kd.R_far (p := ⟨gb143, 1, none⟩) (Kd.R_far (p := ⟨gb143, 0, none⟩) (Kd.R_far (p := ⟨gb144, 2, none⟩) (Kd.R_types (Kd.R_types HO_145000.out BK144.out (by decide)) BK143.out (by decide)) (fun _ hk => hk.1.2) (.slice Ao81 t159.length co81)) (fun _ hk => hk.2) (.slice Ao77 x145000_1.length co77)) (fun _ hk => hk.2) (.slice A73 nI_ cI_)) (fun _ hk => hk.2) (.slice Ao81 t159.length co81)) (fun _ hk => trivial), by (with_reducible repeat (first | apply Kd.R_alloc | apply Kd.R_drewN | apply Kd.R_drew)); exact Kd.R_mono (Kd.R_far (p := ⟨gb143, 2, none⟩) (Kd.R_far (p := ⟨gb143, 1, none⟩) (Kd.R_far (p := ⟨gb143, 0, none⟩) (Kd.R_far (p := ⟨gb144, 2, none⟩) (Kd.R_types (Kd.R_types HO161.out BK144.out (by decide)) BK143.out (by decide)) (fun _ hk => hk.1.2) (.slice Ao81 t159.length co81)) (fun _ hk => hk.2) (.slice Ao77 x145000_1.length co77)) (fun _ hk => hk.2) (.slice A73 nI_ cI_)) (fun _ hk => hk.2) (.slice Ao81 t159.length co81)) (fun _ hk => trivial), (by first | assumption | exact rfl | exact ⟨_, _, rfl⟩), by repeat (first | (with_reducible first | exact HB.out | apply below_alloc | apply pw_below_drewN | apply below_drew1 | refine below_set ?_ GE143.out | refine below_set ?_ GE144.out) | exact HB.out)⟩
               ·have H1 : ((errors_New.f (⟨#[114, 101, 97, 100, 105, 110, 103, 32, 83, 105, 109, 112, 108, 101, 71, 108, 121, 112, 104, 58, 32, 37, 115]⟩ : ByteArray)).bind fun t163 => (some (x145000_1, (), t159, 0, t163))) = some (r1, r2, r3, r4, r5) := by rw [if_neg (show ¬ (some q162).isNone = true by simp)] at H; exact H
                clear H
                have H := H1
                clear H1
                try simp only [errW_none, errW_some]
                replace H := Option.bind_eq_some_iff.mp H
                obtain ⟨t163, A840, H⟩ := H
                replace H : (some (x145000_1, (), t159, 0, t163)) = some (r1, r2, r3, r4, r5) := H
                have A84 := Aside0.mk A840
                clear A840
                simp only [Option.some.injEq, Prod.mk.injEq] at H
                obtain ⟨rfl, -, rfl, rfl, rfl⟩ := H
                try go_wp2
                have n0_ := Aside0.mk (Kd.R_drew HO_145000.out)
                have n1_ := Aside0.mk (blk_drew BK143.out)
                have n2_ := Aside0.mk (blk_drew BK144.out)
                have n3_ := Aside0.mk (below_drew1 HB.out)
                clear HO_145000
                clear BK143
                clear BK144
                clear HB
                have HO_145000 := n0_
                have BK143 := n1_
                have BK144 := n2_
                have HB := n3_
                clear n0_ n1_ n2_ n3_
                obtain ⟨i086, hi086, _, hsz86, _⟩ := info_parts info5
                obtain ⟨A86, hcut86, hA86, hC86⟩ := print_drop_of (P := Try.prog) (Value.int .u8) 0 22 5 .i64 Try.underlying22 hi086 hsz86 A0 c0 l0 (ji45) (of_decide_eq_true (by first | (with_reducible assumption) | assumption)) (of_decide_eq_true (by first | (with_reducible assumption) | assumption)) HC0.out
                have HR153 := Aside0.mk (Kd.C_of_reads (h1 := fun _ => rfl) (hA86 _ (Kd.reads_of_C HR0.out)))
                have HC153 := Aside0.mk hC86
                clear hA86 hC86 hi086 hsz86
                refine start_ (n := 7) (S := fun w' => True) (ds := []) #[false, false, false, false, false, false, false] (by kernel_rfl) rfl rfl trivial (fun hHeld => ?_)
                generalize wr.drew = w85 at HO_145000 BK143 BK144 HB HR153 hHeld ⊢
                refine pure_ (i := 0) (N := some 55) (v := ?_) (a' := ?_) #[true, false, false, false, false, false, false] rfl rfl (by kernel_rfl) (fun _ _ _ h => h) (Or.inl ⟨by rfl, ?_⟩) ?_ ?_
                rotate_left
                ·intro w'
                 go_simp
                 with_reducible rfl
                rotate_left
                ·simp only [Act.put, L1_, L2_, L3_, i64_w, i32_w]
                 rfl
                refine pure_ (i := 1) (N := some 56) (v := ?_) (a' := ?_) #[true, true, false, false, false, false, false] rfl rfl (by kernel_rfl) (fun _ _ _ h => h) (Or.inl ⟨by rfl, ?_⟩) ?_ ?_
                rotate_left
                ·intro w'
                 go_simp
                 with_reducible rfl
                rotate_left
                ·simp only [Act.put, L1_, L2_, L3_, i64_w, i32_w]
                 rfl
                refine pure_ (i := 2) (N := some 57) (v := ?_) (a' := ?_) #[true, true, true, false, false, false, false] rfl rfl (by kernel_rfl) (fun _ _ _ h => h) (Or.inl ⟨by rfl, ?_⟩) ?_ ?_
                rotate_left
                ·intro w'
                 go_simp
                 with_reducible rfl
                rotate_left
                ·simp only [Act.put, L1_, L2_, L3_, i64_w, i32_w]
                 rfl
                refine pure_ (i := 3) (N := some 58) (v := ?_) (a' := ?_) #[true, true, true, true, false, false, false] rfl rfl (by kernel_rfl) (fun _ _ _ h => h) (Or.inl ⟨by rfl, ?_⟩) ?_ ?_
                rotate_left
                ·intro w'
                 go_simp
                 with_reducible rfl
                rotate_left
                ·simp only [Act.put, L1_, L2_, L3_, i64_w, i32_w]
                 rfl
                refine one_ (i := 4) (N := some 59) #[true, true, true, true, true, false, false] rfl rfl (by kernel_rfl) (by decide) (fun K hK => ?_)
                refine goes_ Try.func57 (by kernel_rfl) rfl #[.agg #[], .slice A86 (l0.drop ((ji45) : Int).toNat).length (c0 - (ji45).toNat)] (by rfl) rfl rfl (by (try simp only [List.map_toArray, List.map_cons, List.map_nil]); first | done | (rw [show (l0.drop ((ji45) : Int).toNat).length = (l0.length - (ji45).toNat) from List.length_drop] <;> rfl) | (simp only [hji45]; rfl) | rfl | (simp only [List.length_drop, List.length_take]; rfl)) ?_
                with_reducible refine (binary_bigEndian_Uint16.calls _ _ (l0.drop ((ji45) : Int).toNat) t154 _ ?side1 ?side2 A48.out).mono ?_
                (case side1 => repeat (first | exact (Kd.C_below HR153.out HB.out) | (with_reducible refine Kd.C_alloc ?_ _) | (with_reducible refine Kd.C_drewN ?_ _) | (with_reducible refine Kd.C_drew ?_)))
                (case side2 => exact HC153.out)
                rintro e w87 ⟨rfl, hb⟩
                refine ⟨_, rfl, ?_⟩
                have n0_ := Aside0.mk (Kd.R_below (by (with_reducible repeat (first | apply Kd.R_alloc | apply Kd.R_drewN | apply Kd.R_drew)); exact HO_145000.out) hb)
                have n1_ := Aside0.mk (blk_below (g := gb143) (o := .cells #[.slice none 0 0, .slice none 0 0, .slice none 0 0] 120 (0, 0)) (by (with_reducible repeat (first | refine b1_ ?_ _ | refine b2_ ?_ | refine b3_ ?_ _)); exact BK143.out) hb)
                have n2_ := Aside0.mk (blk_below (g := gb144) (o := .cells #[u145000, .slice none 0 0, .slice none 0 0] 120 (0, 0)) (by (with_reducible repeat (first | refine b1_ ?_ _ | refine b2_ ?_ | refine b3_ ?_ _)); exact BK144.out) hb)
                have n3_ := Aside0.mk (below_step (by repeat (first | (with_reducible first | exact HB.out | apply below_alloc | apply pw_below_drewN | apply below_drew1 | refine below_set ?_ GE143.out | refine below_set ?_ GE144.out) | exact HB.out)) hb)
                clear HO_145000
                clear BK143
                clear BK144
                clear HB
                have HO_145000 := n0_
                have BK143 := n1_
                have BK144 := n2_
                have HB := n3_
                clear n0_ n1_ n2_ n3_
                (try clear hb)
                (try clear hb2)
                (try clear hk)
                (try clear hi)
                refine hK.out _ _ trivial (fun hHeld => ?_)
                clear hK K
                refine norm_ (a' := ?_) ?_ ?_
                rotate_left
                ·show Act.put _ (some 59) _ = _
                 simp only [Act.put, L1_, L2_, L3_, i64_w, i32_w]
                 rfl
                refine pure_ (i := 5) (N := some 60) (v := ?_) (a' := ?_) #[true, true, true, true, true, true, false] rfl rfl (by kernel_rfl) (fun _ _ _ h => h) (Or.inl ⟨by rfl, ?_⟩) ?_ ?_
                rotate_left
                ·intro w'
                 go_simp
                 with_reducible rfl
                rotate_left
                ·(try go_ints); (try simp (disch := omega) only [n3_]); simp only [Act.put, L1_, L2_, L3_, i64_w, i32_w]
                 rfl
                refine pure_ (i := 6) (N := some 12) (v := ?_) (a' := ?_) #[true, true, true, true, true, true, true] rfl rfl (by kernel_rfl) (fun _ _ _ h => h) (Or.inl ⟨by rfl, ?_⟩) ?_ ?_
                rotate_left
                ·intro w'
                 go_simp
                 with_reducible rfl
                rotate_left
                ·simp only [Act.put, L1_, L2_, L3_, i64_w, i32_w]
                 rfl
                refine done_ (by kernel_rfl) ?_
                obtain ⟨i088, hi088, _, hsz88, _⟩ := info_parts info5
                obtain ⟨A88, hcut88, hA88, hC88⟩ := print_mid_of (P := Try.prog) (Value.int .u8) 0 22 5 .i64 .i64 Try.underlying22 hi088 hsz88 A0 c0 l0 (ji62) (ji66) (of_decide_eq_true (by first | (with_reducible assumption) | assumption)) (by first | omega | exact of_decide_eq_true (by first | (with_reducible assumption) | assumption)) (of_decide_eq_true (by first | (with_reducible assumption) | assumption)) HC0.out
                have HR156 := Aside0.mk (Kd.C_of_reads (h1 := fun _ => rfl) (hA88 _ (Kd.reads_of_C HR0.out)))
                have HC156 := Aside0.mk hC88
                clear hA88 hC88 hi088 hsz88
                obtain ⟨nI_, hnI_⟩ : ∃ n : Nat, n = ((l0.take ((ji66) : Int).toNat).drop ((ji62) : Int).toNat).length := ⟨_, rfl⟩
                obtain ⟨cI_, hcI_⟩ : ∃ n : Nat, n = c0 - (ji62).toNat := ⟨_, rfl⟩
                rw [← hnI_, ← hcI_] at hcut88
                clear hnI_ hcI_
                obtain ⟨i089, hi089, _, hsz89, _⟩ := info_parts info5
                obtain ⟨A89, hcut89, hA89, hC89⟩ := print_drop_of (P := Try.prog) (Value.int .u8) 0 22 5 .i64 Try.underlying22 hi089 hsz89 A0 c0 l0 (ji66) (of_decide_eq_true (by first | (with_reducible assumption) | assumption)) (of_decide_eq_true (by first | (with_reducible assumption) | assumption)) HC0.out
                have HR157 := Aside0.mk (Kd.C_of_reads (h1 := fun _ => rfl) (hA89 _ (Kd.reads_of_C HR0.out)))
                have HC157 := Aside0.mk hC89
                clear hA89 hC89 hi089 hsz89
                have hnb90 := NB144_143.out
                have hnc90 := NB143_144.out
                have hcz91_0 : w87.cell? ⟨gb144, 0, none⟩ = some (u145000) := (blk_cell BK144.out 0).trans rfl
                have hcz91_1 : w87.cell? ⟨gb144, 1, none⟩ = some (.slice none 0 0) := (blk_cell BK144.out 1).trans rfl
                have hcz91_2 : w87.cell? ⟨gb144, 2, none⟩ = some (.slice none 0 0) := (blk_cell BK144.out 2).trans rfl
                have hfz91_0 := blk_frozen BK144.out 0
                have hfz91_1 := blk_frozen BK144.out 1
                have hfz91_2 := blk_frozen BK144.out 2
                obtain ⟨Ao92, co92, eo92⟩ := Kd.R_slice HO_145000.out
                subst eo92
                have hfi_ : ∀ ad : Addr, A89 = some ad → 0 < (l0.drop ((ji66) : Int).toNat).length → ad.block ≠ gb144 := fun ad he h_ => by cases he; exact Nat.ne_of_lt (Nat.lt_of_lt_of_le (Kd.C_lt HR157.out h_ (by decide)) GE144.out)
                try go_wp2_with (first | ((with_reducible refine gate_store (t := 22) (p := 76) rfl ?_); refine store_event (t := 22) (p := 76) (v := ?vo_i) (w1 := (w87.setCell ⟨gb144, 1, none⟩ (.slice A88 nI_ cI_))) ?hg ?ho ?hn ?hr ?_; (case ho => rfl); (case hg => rfl); (case hn => rfl); (case hr => first | (go_simp; done) | (go_simp; rfl)); intro wI_ hw; have n0_ := Aside0.mk (show Kd.R (Kd.int .u16) 35 wI_ w.heap.size (fun _ => True) (.slice Ao92 x145000_1.length co92) x145000_1 from by rw [hw]; exact Kd.R_mono (Kd.R_far (p := ⟨gb144, 1, none⟩) (Kd.R_types HO_145000.out BK144.out (by decide)) (fun _ hk => hk.2) _) (fun _ _ => trivial)); have n1_ := Aside0.mk (show wI_.heap[gb143]? = some (.cells #[.slice none 0 0, .slice none 0 0, .slice none 0 0] 120 (0, 0)) from by rw [hw]; exact blk_far BK143.out NB143_144.out _); have n2_ := Aside0.mk (show wI_.heap[gb144]? = some (.cells #[.slice Ao92 x145000_1.length co92, .slice A88 nI_ cI_, .slice none 0 0] 120 (0, 0)) from by rw [hw]; exact blk_put BK144.out 1 _ rfl); have n3_ := Aside0.mk (show Below w.heap.size w wI_ from by rw [hw]; exact below_set HB.out GE144.out); clear HO_145000 BK143 BK144 HB hw; have HO_145000 := n0_; have BK143 := n1_; have BK144 := n2_; have HB := n3_; clear n0_ n1_ n2_ n3_) | ((with_reducible refine gate_callee (f := 86) rfl ?_); refine goesL_ (some 82) rfl rfl Try.func86 (by kernel_rfl) rfl #[.pointer (some ⟨gb144, 0, none⟩), .slice A89 (l0.drop ((ji66) : Int).toNat).length (c0 - (ji66).toNat), .int .i64 a1] rfl (by (try simp only [List.map_toArray, List.map_cons, List.map_nil]); first | done | (rw [show (l0.drop ((ji66) : Int).toNat).length = (l0.length - (ji66).toNat) from List.length_drop] <;> rfl) | (simp only [hji66]; rfl) | rfl | (simp only [List.length_drop, List.length_take]; rfl)) ?_; (with_reducible refine (tables_parsePts.calls k1 _ _ x145000_1 _ _ (l0.drop ((ji66) : Int).toNat) a1 (some q162) t159 _ gb144 (.slice A88 nI_ cI_) BK144.out ?side1 ?side2 ?side3 ?side4 hfi_ A69.out).mono ?_); (case side1 => repeat (first | exact (Kd.R_reads' HO_145000.out).2.2 | (with_reducible refine Kd.C_alloc ?_ _) | (with_reducible refine Kd.C_drewN ?_ _) | (with_reducible refine Kd.C_drew ?_))); (case side2 => exact (Kd.R_reads' HO_145000.out).2.1); (case side3 => repeat (first | exact (Kd.C_below HR157.out HB.out) | (with_reducible refine Kd.C_alloc ?_ _) | (with_reducible refine Kd.C_drewN ?_ _) | (with_reducible refine Kd.C_drew ?_))); (case side4 => exact HC157.out); rintro e w_ ⟨v160, ev93, w95, rfl, rfl, ho0, he94, hb⟩; refine ⟨_, rfl, ?_⟩; have n0_ := Aside0.mk (Kd.R_below (by (with_reducible repeat (first | apply Kd.R_alloc | apply Kd.R_drewN | apply Kd.R_drew)); exact HO_145000.out) hb); have n1_ := Aside0.mk (Kd.R_lower ho0 (below_size (by repeat (first | (with_reducible first | exact HB.out | apply below_alloc | apply pw_below_drewN | apply below_drew1 | refine below_set ?_ GE143.out | refine below_set ?_ GE144.out) | exact HB.out)))); have n2_ := Aside0.mk (blk_below (g := gb143) (o := .cells #[.slice none 0 0, .slice none 0 0, .slice none 0 0] 120 (0, 0)) (by (with_reducible repeat (first | refine b1_ ?_ _ | refine b2_ ?_ | refine b3_ ?_ _)); exact BK143.out) hb); have n3_ := Aside0.mk (blk_below (g := gb144) (o := .cells #[.slice Ao92 x145000_1.length co92, .slice A88 nI_ cI_, .slice none 0 0] 120 (0, 0)) (by (with_reducible repeat (first | refine b1_ ?_ _ | refine b2_ ?_ | refine b3_ ?_ _)); exact BK144.out) hb); have n4_ := Aside0.mk (below_step (by repeat (first | (with_reducible first | exact HB.out | apply below_alloc | apply pw_below_drewN | apply below_drew1 | refine below_set ?_ GE143.out | refine below_set ?_ GE144.out) | exact HB.out)) hb); clear HO_145000; clear BK143; clear BK144; clear HB; have HO_145000 := n0_; have HO161 := n1_; have BK143 := n2_; have BK144 := n3_; have HB := n4_; clear n0_ n1_ n2_ n3_ n4_; (try clear hb); (try clear hb2); (try clear hk); (try clear hi); (try clear ho0); (first | (obtain rfl := EV_none he94) | (obtain ⟨te_, pe_, rfl⟩ := EV_some he94) | skip); obtain ⟨Ao96, co96, eo96⟩ := Kd.R_slice HO161.out; subst eo96; have hcz97_0 : w95.cell? ⟨gb144, 0, none⟩ = some (.slice Ao92 x145000_1.length co92) := (blk_cell BK144.out 0).trans rfl; have hcz97_1 : w95.cell? ⟨gb144, 1, none⟩ = some (.slice A88 nI_ cI_) := (blk_cell BK144.out 1).trans rfl; have hcz97_2 : w95.cell? ⟨gb144, 2, none⟩ = some (.slice none 0 0) := (blk_cell BK144.out 2).trans rfl; have hfz97_0 := blk_frozen BK144.out 0; have hfz97_1 := blk_frozen BK144.out 1; have hfz97_2 := blk_frozen BK144.out 2))
                have n0_ : Aside0 (Kd.R (Kd.int .u16) 35 (w95.setCell ⟨gb144, 2, none⟩ (.slice Ao96 t159.length co96)) w.heap.size (fun _ => True) (.slice Ao92 x145000_1.length co92) x145000_1) := ⟨by (with_reducible repeat (first | apply Kd.R_alloc | apply Kd.R_drewN | apply Kd.R_drew)); exact Kd.R_mono (Kd.R_far (p := ⟨gb144, 2, none⟩) (Kd.R_types HO_145000.out BK144.out (by decide)) (fun _ hk => hk.2) (.slice Ao96 t159.length co96)) (fun _ hk => trivial)⟩
                have n1_ : Aside0 (Kd.R k123 123 (w95.setCell ⟨gb144, 2, none⟩ (.slice Ao96 t159.length co96)) w.heap.size (fun _ => True) (.slice Ao96 t159.length co96) t159) := ⟨by (with_reducible repeat (first | apply Kd.R_alloc | apply Kd.R_drewN | apply Kd.R_drew)); exact Kd.R_mono (Kd.R_far (p := ⟨gb144, 2, none⟩) (Kd.R_types HO161.out BK144.out (by decide)) (fun _ hk => hk.2) (.slice Ao96 t159.length co96)) (fun _ hk => trivial)⟩
                have n2_ : Aside0 ((w95.setCell ⟨gb144, 2, none⟩ (.slice Ao96 t159.length co96)).heap[gb143]? = some (.cells #[.slice none 0 0, .slice none 0 0, .slice none 0 0] 120 (0, 0))) := ⟨by (with_reducible repeat (first | refine b1_ ?_ _ | refine b2_ ?_ | refine b3_ ?_ _)); refine blk_far ?_ NB143_144.out _; (with_reducible repeat (first | refine b1_ ?_ _ | refine b2_ ?_ | refine b3_ ?_ _)); exact BK143.out⟩
                have n3_ : Aside0 ((w95.setCell ⟨gb144, 2, none⟩ (.slice Ao96 t159.length co96)).heap[gb144]? = some (.cells #[.slice Ao92 x145000_1.length co92, .slice A88 nI_ cI_, .slice Ao96 t159.length co96] 120 (0, 0))) := ⟨by (with_reducible repeat (first | refine b1_ ?_ _ | refine b2_ ?_ | refine b3_ ?_ _)); refine blk_put (cs := #[.slice Ao92 x145000_1.length co92, .slice A88 nI_ cI_, .slice none 0 0]) ?_ 2 _ rfl; (with_reducible repeat (first | refine b1_ ?_ _ | refine b2_ ?_ | refine b3_ ?_ _)); exact BK144.out⟩
                have n4_ : Aside0 (Below w.heap.size w (w95.setCell ⟨gb144, 2, none⟩ (.slice Ao96 t159.length co96))) := ⟨by repeat (first | (with_reducible first | exact HB.out | apply below_alloc | apply pw_below_drewN | apply below_drew1 | refine below_set ?_ GE143.out | refine below_set ?_ GE144.out) | exact HB.out)⟩
                (try clear HO_145000)
                (try clear HO161)
                (try clear BK143)
                (try clear BK144)
                (try clear HB)
                generalize (w95.setCell ⟨gb144, 2, none⟩ (.slice Ao96 t159.length co96)) = w98 at n0_ n1_ n2_ n3_ n4_ ⊢
                have HO_145000 := n0_
                have HO161 := n1_
                have BK143 := n2_
                have BK144 := n3_
                have HB := n4_
                clear n0_ n1_ n2_ n3_ n4_
                have n0_ := Aside0.mk (Kd.R_drew HO_145000.out)
                have n1_ := Aside0.mk (Kd.R_drew HO161.out)
                have n2_ := Aside0.mk (blk_drew BK143.out)
                have n3_ := Aside0.mk (blk_drew BK144.out)
                have n4_ := Aside0.mk (below_drew1 HB.out)
                clear HO_145000
                clear HO161
                clear BK143
                clear BK144
                clear HB
                have HO_145000 := n0_
                have HO161 := n1_
                have BK143 := n2_
                have BK144 := n3_
                have HB := n4_
                clear n0_ n1_ n2_ n3_ n4_
                refine start_ (n := 5) (S := fun w' => w'.cell? ⟨gb144, 0, none⟩ = some (.slice Ao92 x145000_1.length co92) ∧ w'.cell? ⟨gb144, 1, none⟩ = some (.slice A88 nI_ cI_) ∧ w'.cell? ⟨gb144, 2, none⟩ = some (.slice Ao96 t159.length co96)) (ds := []) #[false, false, false, false, false] (by kernel_rfl) rfl rfl ⟨(blk_cell BK144.out 0).trans rfl, (blk_cell BK144.out 1).trans rfl, (blk_cell BK144.out 2).trans rfl⟩ (fun hHeld => ?_)
                generalize w98.drew = w99 at HO_145000 HO161 BK143 BK144 HB hHeld ⊢
                refine take_ (i := 0) (N := some 85) (v := ?_) (a' := ?_) #[true, false, false, false, false] rfl rfl (by kernel_rfl) (fun _ _ _ h => h) (Or.inl ⟨by rfl, ?_⟩) hHeld ?_ ?_
                rotate_left
                ·rintro w' ⟨s0, s1, s2⟩
                 go_simp
                 with_reducible rfl
                rotate_left
                ·simp only [Act.put, L1_, L2_, L3_, i64_w, i32_w]
                 rfl
                refine one_ (i := 1) (N := some 86) #[true, true, false, false, false] rfl rfl (by kernel_rfl) (by decide) (fun K hK => ?_)
                refine goes_ Try.func56 (by kernel_rfl) rfl #[.string (⟨#[114, 101, 97, 100, 105, 110, 103, 32, 83, 105, 109, 112, 108, 101, 71, 108, 121, 112, 104, 58, 32, 37, 115]⟩ : ByteArray)] (by rfl) rfl rfl (by (try simp only [List.map_toArray, List.map_cons, List.map_nil]); first | done | rfl | (simp only [List.length_drop, List.length_take]; rfl)) ?_
                with_reducible refine (errors_New.calls (⟨#[114, 101, 97, 100, 105, 110, 103, 32, 83, 105, 109, 112, 108, 101, 71, 108, 121, 112, 104, 58, 32, 37, 115]⟩ : ByteArray) t163 _ A84.out).mono ?_
                rintro e w102 ⟨ev100, rfl, he101, hb⟩
                refine ⟨_, rfl, ?_⟩
                have n0_ := Aside0.mk (Kd.R_below (by (with_reducible repeat (first | apply Kd.R_alloc | apply Kd.R_drewN | apply Kd.R_drew)); exact HO_145000.out) hb)
                have n1_ := Aside0.mk (Kd.R_below (by (with_reducible repeat (first | apply Kd.R_alloc | apply Kd.R_drewN | apply Kd.R_drew)); exact HO161.out) hb)
                have n2_ := Aside0.mk (blk_below (g := gb143) (o := .cells #[.slice none 0 0, .slice none 0 0, .slice none 0 0] 120 (0, 0)) (by (with_reducible repeat (first | refine b1_ ?_ _ | refine b2_ ?_ | refine b3_ ?_ _)); exact BK143.out) hb)
                have n3_ := Aside0.mk (blk_below (g := gb144) (o := .cells #[.slice Ao92 x145000_1.length co92, .slice A88 nI_ cI_, .slice Ao96 t159.length co96] 120 (0, 0)) (by (with_reducible repeat (first | refine b1_ ?_ _ | refine b2_ ?_ | refine b3_ ?_ _)); exact BK144.out) hb)
                have n4_ := Aside0.mk (below_step (by repeat (first | (with_reducible first | exact HB.out | apply below_alloc | apply pw_below_drewN | apply below_drew1 | refine below_set ?_ GE143.out | refine below_set ?_ GE144.out) | exact HB.out)) hb)
                clear HO_145000
                clear HO161
                clear BK143
                clear BK144
                clear HB
                have HO_145000 := n0_
                have HO161 := n1_
                have BK143 := n2_
                have BK144 := n3_
                have HB := n4_
                clear n0_ n1_ n2_ n3_ n4_
                (try clear hb)
                (try clear hb2)
                (try clear hk)
                (try clear hi)
                (first | (obtain rfl := EV_none he101) | (obtain ⟨te_, pe_, rfl⟩ := EV_some he101) | skip)
                refine hK.out _ _ ⟨(blk_cell BK144.out 0).trans rfl, (blk_cell BK144.out 1).trans rfl, (blk_cell BK144.out 2).trans rfl⟩ (fun hHeld => ?_)
                clear hK K
                refine norm_ (a' := ?_) ?_ ?_
                rotate_left
                ·show Act.put _ (some 86) _ = _
                 simp only [Act.put, L1_, L2_, L3_, i64_w, i32_w]
                 rfl
                refine one_ (i := 2) (N := none) #[true, true, true, false, false] rfl rfl (by kernel_rfl) (by decide) (fun K hK => ?_)
                have hs103 : w102.cell? ⟨gb143, 0, none⟩ = some (.slice none 0 0) := (blk_cell BK143.out 0).trans rfl
                have hfs103 := blk_frozen BK143.out 0
                have hns103_1 := NB144_143.out
                have hms103_1 := NB143_144.out
                have hs104 : w102.cell? ⟨gb143, 1, none⟩ = some (.slice none 0 0) := (blk_cell BK143.out 1).trans rfl
                have hfs104 := blk_frozen BK143.out 1
                have hns104_1 := NB144_143.out
                have hms104_1 := NB143_144.out
                have hs105 : w102.cell? ⟨gb143, 2, none⟩ = some (.slice none 0 0) := (blk_cell BK143.out 2).trans rfl
                have hfs105 := blk_frozen BK143.out 2
                have hns105_1 := NB144_143.out
                have hms105_1 := NB143_144.out
                refine skip_ (w1 := ?_) (by rfl) rfl ?_ ?_
                rotate_left
                ·go_simp
                 rfl
                refine hK.out _ _ ⟨((cell_far (p := ⟨gb143, _, none⟩) NB144_143.out _).trans (((cell_far (p := ⟨gb143, _, none⟩) NB144_143.out _).trans (((cell_far (p := ⟨gb143, _, none⟩) NB144_143.out _).trans (hHeld.1)))))), ((cell_far (p := ⟨gb143, _, none⟩) NB144_143.out _).trans (((cell_far (p := ⟨gb143, _, none⟩) NB144_143.out _).trans (((cell_far (p := ⟨gb143, _, none⟩) NB144_143.out _).trans (hHeld.2.1)))))), ((cell_far (p := ⟨gb143, _, none⟩) NB144_143.out _).trans (((cell_far (p := ⟨gb143, _, none⟩) NB144_143.out _).trans (((cell_far (p := ⟨gb143, _, none⟩) NB144_143.out _).trans (hHeld.2.2))))))⟩ (fun hHeld => ?_)
                clear hK K
                refine pure_ (i := 3) (N := some 5) (v := ?_) (a' := ?_) #[true, true, true, true, false] rfl rfl (by kernel_rfl) (fun _ _ _ h => h) (Or.inl ⟨by rfl, ?_⟩) ?_ ?_
                rotate_left
                ·intro w'
                 go_simp
                 with_reducible rfl
                rotate_left
                ·simp only [Act.put, L1_, L2_, L3_, i64_w, i32_w]
                 rfl
                refine pure_ (i := 4) (N := some 6) (v := ?_) (a' := ?_) #[true, true, true, true, true] rfl rfl (by kernel_rfl) (fun _ _ _ h => h) (Or.inl ⟨by rfl, ?_⟩) ?_ ?_
                rotate_left
                ·intro w'
                 go_simp
                 with_reducible rfl
                rotate_left
                ·simp only [Act.put, L1_, L2_, L3_, i64_w, i32_w]
                 rfl
                refine done_ (by kernel_rfl) ?_
                try go_wp2
                refine bodyPost_ret (results_ctt rfl _ _ gb143 120 #[.slice Ao92 x145000_1.length co92, .slice A88 nI_ cI_, .slice Ao96 t159.length co96] (0, 0) _ rfl (by (with_reducible repeat (first | refine b1_ ?_ _ | refine b2_ ?_ | refine b3_ ?_ _)); refine blk_put (cs := #[.slice Ao92 x145000_1.length co92, .slice A88 nI_ cI_, .slice none 0 0]) ?_ 2 _ rfl; (with_reducible repeat (first | refine b1_ ?_ _ | refine b2_ ?_ | refine b3_ ?_ _)); refine blk_put (cs := #[.slice Ao92 x145000_1.length co92, .slice none 0 0, .slice none 0 0]) ?_ 1 _ rfl; (with_reducible repeat (first | refine b1_ ?_ _ | refine b2_ ?_ | refine b3_ ?_ _)); refine blk_put (cs := #[.slice none 0 0, .slice none 0 0, .slice none 0 0]) ?_ 0 _ rfl; (with_reducible repeat (first | refine b1_ ?_ _ | refine b2_ ?_ | refine b3_ ?_ _)); exact BK143.out) Try.underlying120 rfl (by kernel_rfl)) rfl ?_
                exact ⟨_, _, _, _, _, _, by first | rfl | (simp [errW_none, errW_some] <;> rfl) | (simp only [← hji45, ← hji62, ← hji66]; first | rfl | (simp [errW_none, errW_some] <;> rfl)) | (simp [*, errW_none, errW_some] <;> rfl), by (with_reducible repeat (first | apply Kd.R_alloc | apply Kd.R_drewN | apply Kd.R_drew)); exact Kd.R_mono (Kd.R_far (p := ⟨gb143, 2, none⟩) (Kd.R_far (p := ⟨gb143, 1, none⟩) (Kd.R_far (p := ⟨gb143, 0, none⟩) (Kd.R_types HO_145000.out BK143.out (by decide)) (fun _ hk => hk.2) (.slice Ao92 x145000_1.length co92)) (fun _ hk => hk.2) (.slice A88 nI_ cI_)) (fun _ hk => hk.2) (.slice Ao96 t159.length co96)) (fun _ hk => trivial), by (with_reducible repeat (first | apply Kd.R_alloc | apply Kd.R_drewN | apply Kd.R_drew)); exact Kd.R_mono (Kd.R_far (p := ⟨gb143, 2, none⟩) (Kd.R_far (p := ⟨gb143, 1, none⟩) (Kd.R_far (p := ⟨gb143, 0, none⟩) (Kd.R_types HO161.out BK143.out (by decide)) (fun _ hk => hk.2) (.slice Ao92 x145000_1.length co92)) (fun _ hk => hk.2) (.slice A88 nI_ cI_)) (fun _ hk => hk.2) (.slice Ao96 t159.length co96)) (fun _ hk => trivial), (by first | assumption | exact rfl | exact ⟨_, _, rfl⟩), by repeat (first | (with_reducible first | exact HB.out | apply below_alloc | apply pw_below_drewN | apply below_drew1 | refine below_set ?_ GE143.out | refine below_set ?_ GE144.out) | exact HB.out)⟩
              ·rw [if_neg c67] at H
               exact absurd H (by simp)
             ·rw [if_neg c65] at H
              exact absurd H (by simp)
            ·rw [if_neg c64] at H
             exact absurd H (by simp)
           ·rw [if_neg c63] at H
            exact absurd H (by simp)
         ·rw [if_neg c47] at H
          exact absurd H (by simp)
        ·rw [if_neg c46] at H
         exact absurd H (by simp)
   ·rw [if_neg c15] at H
    exact absurd H (by simp)
  ·rw [if_neg c14] at H
   exact absurd H (by simp)

end Go.Proofs.Ytchkmmbedgolbaa.PFnGlyphSpots
