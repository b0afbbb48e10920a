-- Written by a program of this session (xprint) out of the translation; Lean checks it.
import Derived.Test.YtchkmmbedgolbaaPFnGlyphSpotsx0
import Derived.Test.YtchkmmbedgolbaaPFnGlyphSpotsx8
namespace Go.Proofs.Ytchkmmbedgolbaa.PFnGlyphSpots
open Go.RowKit Go.Proofs.YtchkmmbedgolbaaW.PrintWords Go.Proofs.YtchkmmbedgolbaaW.PrintLast Go.Proofs.YtchkmmbedgolbaaW.PrintMore
attribute [local go_sem] max2_int min2_int max_two min_two max_three min_three max_four min_four   -- for this text's walks alone
set_option linter.unusedVariables false
set_option linter.unusedSimpArgs false

/-! ### spec_SpotBytes: function 20 -/
def spec_SpotBytes.T35 : Bool × List (List Nat × List Nat) := (true, [([], []), ([], []), ([1], [1]), ([0, 2], [0, 2]), ([3], [3]), ([4], [4]), ([4], [4]), ([5, 6, 4], [4, 5, 6]), ([7, 4], [4, 7]), ([4], [4]), ([4], [4]), ([9, 10, 4], [4, 9, 10]), ([11, 4], [4, 11]), ([8, 12, 4], [4, 8, 12]), ([4, 13], [4, 13]), ([14, 4], [14]), ([15], [15]), ([15], [15]), ([16, 17, 15], [15, 16, 17]), ([18, 15], [15, 18]), ([15, 19], [15, 19])])
def spec_SpotBytes.B35 : List Nat := [0, 0, 2, 7, 15, 31, 31, 127, 255, 31, 31, 1567, 3615, 8191, 16383, 32767, 65535, 65535, 262143, 524287, 1048575]
theorem spec_SpotBytes.tab35 : rtab .any (opsOf Try.f20 35) = spec_SpotBytes.T35 := by kernel_rfl
theorem spec_SpotBytes.bits35 : waitsOk spec_SpotBytes.T35.2 spec_SpotBytes.B35 = true := by kernel_rfl
def spec_SpotBytes.T38 : Bool × List (List Nat × List Nat) := (true, [([], []), ([], []), ([1], [1]), ([2], [2]), ([3], [3]), ([], []), ([], []), ([5, 6], [5, 6]), ([7], [7]), ([8], [8]), ([], []), ([], []), ([10, 11], [10, 11]), ([12], [12]), ([13], [13]), ([9, 14], [9, 14]), ([4, 15], [4, 15]), ([0, 0, 1, 2, 3, 4, 5, 6, 7, 8, 9, 10, 11, 12, 13, 14, 15, 16], [0]), ([17, 0, 1, 2, 3, 4, 5, 6, 7, 8, 9, 10, 11, 12, 13, 14, 15, 16], [17]), ([18, 16, 16, 0, 1, 2, 3, 4, 5, 6, 7, 8, 9, 10, 11, 12, 13, 14, 15, 16], [16, 18])])
def spec_SpotBytes.B38 : List Nat := [0, 0, 2, 6, 14, 0, 0, 96, 224, 480, 0, 0, 3072, 7168, 15360, 32736, 65534, 131071, 262143, 524287]
theorem spec_SpotBytes.tab38 : rtab .any (opsOf Try.f20 38) = spec_SpotBytes.T38 := by kernel_rfl
theorem spec_SpotBytes.bits38 : waitsOk spec_SpotBytes.T38.2 spec_SpotBytes.B38 = true := by kernel_rfl
def spec_SpotBytes.T40 : Bool × List (List Nat × List Nat) := (true, [([], []), ([], []), ([1], [1]), ([2], [2]), ([3], [3]), ([], []), ([], []), ([5, 6], [5, 6]), ([7], [7]), ([8], [8]), ([4, 9], [4, 9]), ([0, 0, 1, 2, 3, 4, 5, 6, 7, 8, 9, 10], [0]), ([11, 0, 1, 2, 3, 4, 5, 6, 7, 8, 9, 10], [11]), ([12, 10, 10, 0, 1, 2, 3, 4, 5, 6, 7, 8, 9, 10], [10, 12])])
def spec_SpotBytes.B40 : List Nat := [0, 0, 2, 6, 14, 0, 0, 96, 224, 480, 1022, 2047, 4095, 8191]
theorem spec_SpotBytes.tab40 : rtab .any (opsOf Try.f20 40) = spec_SpotBytes.T40 := by kernel_rfl
theorem spec_SpotBytes.bits40 : waitsOk spec_SpotBytes.T40.2 spec_SpotBytes.B40 = true := by kernel_rfl
theorem alloc_size (w : World) (o : Obj) : (w.alloc o).heap.size = w.heap.size + 1 := Array.size_push _
theorem blk_new' (w : World) (o : Obj) (n : Nat) (h : n = w.heap.size) : (w.alloc o).heap[n]? = some o := by rw [h]; exact blk_new w o
/-- What a first call of short leaves. -/
def ShortPost (w w7 : World) (g : Nat) (u : Value) (W : World) (t : List Int) (e : Ending) (w' : World) : Prop := ∃ (v : Value) (w1 : World), e = .returned (.pointer (some ⟨g, 0, none⟩)) ∧ w' = w1.setCell ⟨g, 0, none⟩ v ∧ w1.heap[g]? = some (.cells #[u, .slice none 0 0] 130 (0, 0)) ∧ Kd.R (Kd.int .u8) 5 w1 w.heap.size (fun _ => True) v t ∧ Below w.heap.size w w1 ∧ Kept W w1 (fun _ => False) ∧ w7.heap.size ≤ g
theorem spot_first (k g b : Nat) (x : Int) (t1 : List Int) (w w7 W : World) (hB : Below w.heap.size w W) (hg : W.heap[g]? = some (.cells #[.slice none 0 0, .slice none 0 0] 130 (0, 0))) (hb : W.heap[b]? = some (.cells #[.int .i64 x] 3 (0, 0))) (hle : w7.heap.size ≤ g) (hw7 : w.heap.size ≤ w7.heap.size) (h : spec_table_short.f k [] [x] = some t1) :
    Calls Try.prog 40 #[.pointer (some ⟨g, 0, none⟩), .slice (some ⟨b, 0, none⟩) 1 1] W (ShortPost w w7 g (.slice none 0 0) W t1) := by
  refine (spec_table_short.calls k g (fun _ => False) (.slice none 0 0) [] (some ⟨b, 0, none⟩) 1 [x] t1 w W hB (Kd.R_nil _ _ _ _ _) ?_ (Nat.le_refl _) hg (Nat.le_trans hw7 hle) (fun h_ => h_) h).mono ?_
  · intro W' hk
    have hb2 := blk_kept hb hk (fun h_ => h_.elim (fun h_ => h_) (fun e_ => blk_ne hb hg (by decide) e_))
    exact Kd.C_of_reads (h1 := fun _ => rfl) (d := (0 : Int)) ⟨rfl, by simp, fun _ => ⟨_, rfl, fun j hj => by
      obtain rfl : j = 0 := by simpa using hj
      exact (blk_cell hb2 0).trans rfl⟩⟩
  · rintro e w' ⟨v, w1, rfl, rfl, h1, h2, h3, h4⟩
    exact ⟨v, w1, rfl, rfl, h1, Kd.R_mono h2 (fun _ _ => trivial), h3, h4, hle⟩
/-- What the second one leaves. -/
def SpotPost (w : World) (g gb gw : Nat) (a b c d : Int) (l2 : List Int) (t : List Int) (e : Ending) (w' : World) : Prop := ∃ (A : Option Addr) (cc : Nat), e = .returned (.pointer (some ⟨g, 0, none⟩)) ∧ w'.heap[g]? = some (.cells #[.slice A t.length cc, .slice none 0 0] 130 (0, 0)) ∧ Kd.R (Kd.int .u8) 5 w' w.heap.size (fun _ => True) (.slice A t.length cc) t ∧ w'.heap[gb]? = some (.cells #[.int .i64 a, .int .i64 b, .int .i64 c, .int .i64 d] 49 (0, 0)) ∧ IsS126 w w' gw l2 0 false ∧ Below w.heap.size w w'
theorem spot_second (k g gb gw : Nat) (u v : Value) (l : List Int) (a b c d : Int) (t1 l2 : List Int) (w w1 : World) (hB : Below w.heap.size w w1) (hg : w1.heap[g]? = some (.cells #[u, .slice none 0 0] 130 (0, 0))) (hgw : w.heap.size ≤ g) (ho : Kd.R (Kd.int .u8) 5 w1 w.heap.size (fun _ => True) v l) (hb : w1.heap[gb]? = some (.cells #[.int .i64 a, .int .i64 b, .int .i64 c, .int .i64 d] 49 (0, 0))) (hI : IsS126 w w1 gw l2 0 false) (n1 : gb ≠ g) (n2 : gw ≠ g) (h : spec_table_short.f k l [a, b, c, d] = some t1) :
    Calls Try.prog 40 #[.pointer (some ⟨g, 0, none⟩), .slice (some ⟨gb, 0, none⟩) 4 4] (w1.setCell ⟨g, 0, none⟩ v) (SpotPost w g gb gw a b c d l2 t1) := by
  have ho' := Kd.R_far (p := ⟨g, 0, none⟩) (Kd.R_types ho hg (by decide)) (fun _ hk => hk.2) v
  have hg' : (w1.setCell ⟨g, 0, none⟩ v).heap[g]? = some (.cells #[v, .slice none 0 0] 130 (0, 0)) := blk_put hg 0 v rfl
  have hb' : (w1.setCell ⟨g, 0, none⟩ v).heap[gb]? = some (.cells #[.int .i64 a, .int .i64 b, .int .i64 c, .int .i64 d] 49 (0, 0)) := blk_far hb n1 v
  have hI' := IsS126.far hI (p := ⟨g, 0, none⟩) n2 v
  refine (spec_table_short.calls k g (fun k_ => some k_ = v.ownBlock) v l (some ⟨gb, 0, none⟩) 4 [a, b, c, d] t1 w (w1.setCell ⟨g, 0, none⟩ v) (below_set hB hgw) (Kd.R_tight rfl ho') ?_ (Nat.le_refl _) hg' hgw (fun e_ => Kd.R_ne ho' hg' (by decide) e_) h).mono ?_
  · intro W' hk
    have hb2 := blk_kept hb' hk (fun h_ => h_.elim (fun e_ => Kd.R_ne ho' hb' (by decide) e_) (fun e_ => n1 e_))
    exact Kd.C_of_reads (h1 := fun _ => rfl) (d := (0 : Int)) ⟨rfl, by simp, fun _ => ⟨_, rfl, fun j hj => by
      have hj : j < 4 := hj
      refine (show W'.cell? (Addr.add ⟨gb, 0, none⟩ j) = W'.cell? ⟨gb, j, none⟩ from by rw [add_plain]).trans ((blk_cell hb2 j).trans ?_)
      match j, hj with
      | 0, _ => rfl
      | 1, _ => rfl
      | 2, _ => rfl
      | 3, _ => rfl⟩⟩
  · rintro e w' ⟨v2, w2, rfl, rfl, h1, h2, h3, h4⟩
    have h2' := Kd.R_far (p := ⟨g, 0, none⟩) (Kd.R_types h2 h1 (by decide)) (fun _ hk => hk.2) v2
    have hb3 := blk_far (blk_kept hb' h4 (fun e_ => Kd.R_ne ho' hb' (by decide) e_)) (p := ⟨g, 0, none⟩) n1 v2
    have hI3 := IsS126.far (IsS126.kept hI' h4 (fun e_ => IsS126.own_ne hI' ho' (by decide) e_)) (p := ⟨g, 0, none⟩) n2 v2
    obtain ⟨A, cc, rfl⟩ := Kd.R_slice h2
    exact ⟨A, cc, rfl, blk_put h1 0 _ rfl, Kd.R_mono h2' (fun _ _ => trivial), hb3, hI3, below_set h3 hgw⟩
set_option maxHeartbeats 8000000 in
set_option maxRecDepth 100000 in
theorem spec_SpotBytes.calls (k : Nat) (A0 : Option Addr) (c0 : Nat) (l0 : List (List (S51))) (a1_0 : Int) (a1_1 : Int) (a1_2 : Int) (a1_3 : Int) (A2 : Option Addr) (c2 : Nat) (l2 : List Int) (r : List Int) (w : World) (hr0 : Kd.C (Kd.slice 51 k51) w A0 l0.length l0) (hc0 : l0.length ≤ c0) (hr2 : Kd.C (Kd.int .u8) w A2 l2.length l2) (hc2 : l2.length ≤ c2) (h : spec_SpotBytes.f k l0 a1_0 a1_1 a1_2 a1_3 l2 = some r) :
  Calls Try.prog 20 #[.slice A0 l0.length c0, .agg #[.int .i64 a1_0, .int .i64 a1_1, .int .i64 a1_2, .int .i64 a1_3], .slice A2 l2.length c2] w fun e w' => ∃ v0_ : Value, e = .returned (v0_) ∧ Kd.R (Kd.int .u8) 5 w' w.heap.size (fun _ => True) v0_ r ∧ Below w.heap.size w w' := by
 have hu49 := Try.underlying49
 have hu126 := Try.underlying126
 have hu130 := Try.underlying130
 have hu51 := Try.underlying51
 have hfd49_0 : ∀ (x0_ x1_ x2_ x3_ : Value) (W : World), (Instr.index 49 (.agg #[x0_, x1_, x2_, x3_]) (.int .i64 0)).run Try.prog W = .ok (x0_) W := fun x0_ x1_ x2_ x3_ W => by kernel_rfl
 have hfd49_1 : ∀ (x0_ x1_ x2_ x3_ : Value) (W : World), (Instr.index 49 (.agg #[x0_, x1_, x2_, x3_]) (.int .i64 1)).run Try.prog W = .ok (x1_) W := fun x0_ x1_ x2_ x3_ W => by kernel_rfl
 have hfd49_2 : ∀ (x0_ x1_ x2_ x3_ : Value) (W : World), (Instr.index 49 (.agg #[x0_, x1_, x2_, x3_]) (.int .i64 2)).run Try.prog W = .ok (x2_) W := fun x0_ x1_ x2_ x3_ W => by kernel_rfl
 have hfd49_3 : ∀ (x0_ x1_ x2_ x3_ : Value) (W : World), (Instr.index 49 (.agg #[x0_, x1_, x2_, x3_]) (.int .i64 3)).run Try.prog W = .ok (x3_) W := fun x0_ x1_ x2_ x3_ W => by kernel_rfl
 have HR0 := Aside0.mk hr0
 have HC0 := Aside0.mk hc0
 clear hr0 hc0
 have HR2 := Aside0.mk hr2
 have HC2 := Aside0.mk hc2
 clear hr2 hc2
 have HB := Aside0.mk (Below.refl w.heap.size w)
 have H : ((spec_table_short.f k ([] : List Int) (([(l0.length : Int)] : List Int))).bind fun t223 => ((spec_table_short.f k t223 (([a1_0, a1_1, a1_2, a1_3] : List Int))).bind fun t229 => (spec_SpotBytes.l0 k l0 0 l0 (l0.length : Int) 0 l2 0 false t229 ()))) = some r := h
 clear h
 obtain ⟨y220, hy220⟩ : ∃ y_ : List Int, y_ = (([(l0.length : Int)] : List Int)) := ⟨_, rfl⟩
 replace H : ((spec_table_short.f k ([] : List Int) y220).bind fun t223 => ((spec_table_short.f k t223 (([a1_0, a1_1, a1_2, a1_3] : List Int))).bind fun t229 => (spec_SpotBytes.l0 k l0 0 l0 (l0.length : Int) 0 l2 0 false t229 ()))) = some r := by first | (rw [hy220]; with_reducible exact H) | (have H2_ := (Option.bind_some _ _).symm.trans H; rw [hy220]; with_reducible exact H2_) | (have H2_ := (Option.bind_some _ _).symm.trans H; with_reducible exact H2_) | with_reducible exact H | (rw [hy220]; exact H) | exact H
 have Ny220 := Aside0.mk hy220
 clear hy220
 replace H := Option.bind_eq_some_iff.mp H
 obtain ⟨t223, A40, H⟩ := H
 replace H : ((spec_table_short.f k t223 (([a1_0, a1_1, a1_2, a1_3] : List Int))).bind fun t229 => (spec_SpotBytes.l0 k l0 0 l0 (l0.length : Int) 0 l2 0 false t229 ())) = some r := H
 have A4 := Aside0.mk A40
 clear A40
 obtain ⟨y226, hy226⟩ : ∃ y_ : List Int, y_ = (([a1_0, a1_1, a1_2, a1_3] : List Int)) := ⟨_, rfl⟩
 replace H : ((spec_table_short.f k t223 y226).bind fun t229 => (spec_SpotBytes.l0 k l0 0 l0 (l0.length : Int) 0 l2 0 false t229 ())) = some r := by first | (rw [hy226]; with_reducible exact H) | (have H2_ := (Option.bind_some _ _).symm.trans H; rw [hy226]; with_reducible exact H2_) | (have H2_ := (Option.bind_some _ _).symm.trans H; with_reducible exact H2_) | with_reducible exact H | (rw [hy226]; exact H) | exact H
 have Ny226 := Aside0.mk hy226
 clear hy226
 replace H := Option.bind_eq_some_iff.mp H
 obtain ⟨t229, A50, H⟩ := H
 replace H : (spec_SpotBytes.l0 k l0 0 l0 (l0.length : Int) 0 l2 0 false t229 ()) = some r := H
 have A5 := Aside0.mk A50
 clear A50
 have H' := Aside0.mk H
 clear H
 go_enter Try.func20, Try.ntmps20
 go_upto_region 2 with (first | ((with_reducible refine gate_dst (N := 4) rfl ?_); refine box_event ?hg (N := 4) ?hd (cs := #[.int .i64 a1_0, .int .i64 a1_1, .int .i64 a1_2, .int .i64 a1_3]) (t := 49) ?hr ?_; (case hd => rfl); (case hg => rfl); (case hr => first | (go_simp; done) | (go_simp; rfl)); intro gb217 hg w6 hbox hb; have n0_ := Aside0.mk (below_step (by repeat (first | (with_reducible first | exact HB.out | apply below_alloc | apply pw_below_drewN | apply below_drew1) | exact HB.out)) hb); have n1_ := Aside0.mk (hbox); have n2_ := Aside0.mk ((by rw [hg]; exact (below_size (by repeat (first | (with_reducible first | exact HB.out | apply below_alloc | apply pw_below_drewN | apply below_drew1) | exact HB.out))) : w.heap.size ≤ gb217)); have n3_ := Aside0.mk ((by rw [hg]; exact (below_size (by repeat (first | (with_reducible first | exact HB.out | apply below_alloc | apply pw_below_drewN | apply below_drew1) | exact HB.out))) : w.heap.size ≤ gb217)); clear HB; have HB := n0_; have BK217 := n1_; have GW217 := n2_; have GE217 := n3_; clear n0_ n1_ n2_ n3_; clear hb hbox hg) | ((with_reducible refine gate_dst (N := 29) rfl ?_); refine box_event ?hg (N := 29) ?hd (cs := #[.slice A2 l2.length c2, .int .i64 0, .bool false]) (t := 126) ?hr ?_; (case hd => rfl); (case hg => rfl); (case hr => first | (go_simp; done) | (go_simp; rfl)); intro gb218 hg w7 hbox hb; have n0_ := Aside0.mk (blk_below (g := gb217) (o := .cells #[.int .i64 a1_0, .int .i64 a1_1, .int .i64 a1_2, .int .i64 a1_3] 49 (0, 0)) (by (with_reducible repeat (first | refine b1_ ?_ _ | refine b2_ ?_ | refine b3_ ?_ _)); exact BK217.out) hb); have n1_ := Aside0.mk (below_step (by repeat (first | (with_reducible first | exact HB.out | apply below_alloc | apply pw_below_drewN | apply below_drew1 | refine below_set ?_ GE217.out) | exact HB.out)) hb); have n2_ := Aside0.mk ((by rw [hg]; exact (below_size (by repeat (first | (with_reducible first | exact HB.out | apply below_alloc | apply pw_below_drewN | apply below_drew1 | refine below_set ?_ GE217.out) | exact HB.out))) : w.heap.size ≤ gb218)); have n3_ := Aside0.mk ((by rw [hg]; exact (below_size (by repeat (first | (with_reducible first | exact HB.out | apply below_alloc | apply pw_below_drewN | apply below_drew1 | refine below_set ?_ GE217.out) | exact HB.out))) : w.heap.size ≤ gb218)); have n4_ := Aside0.mk ((by rw [hg]; exact Nat.ne_of_lt (blk_lt (g := gb217) (o := .cells #[.int .i64 a1_0, .int .i64 a1_1, .int .i64 a1_2, .int .i64 a1_3] 49 (0, 0)) (by (with_reducible repeat (first | refine b1_ ?_ _ | refine b2_ ?_ | refine b3_ ?_ _)); exact BK217.out)) : gb217 ≠ gb218)); have n5_ := Aside0.mk ((by rw [hg]; exact Nat.ne_of_gt (blk_lt (g := gb217) (o := .cells #[.int .i64 a1_0, .int .i64 a1_1, .int .i64 a1_2, .int .i64 a1_3] 49 (0, 0)) (by (with_reducible repeat (first | refine b1_ ?_ _ | refine b2_ ?_ | refine b3_ ?_ _)); exact BK217.out)) : gb218 ≠ gb217)); have n6_ := Aside0.mk ((IsS126.ofS hbox (by rw [hg]; exact (below_size (by repeat (first | (with_reducible first | exact HB.out | apply below_alloc | apply pw_below_drewN | apply below_drew1 | refine below_set ?_ GE217.out) | exact HB.out)))) ⟨HR2.out, HC2.out⟩ : IsS126 w w7 gb218 l2 0 false)); clear BK217; clear HB; have BK217 := n0_; have HB := n1_; have GW218 := n2_; have GE218 := n3_; have NB217_218 := n4_; have NB218_217 := n5_; have HI218 := n6_; clear n0_ n1_ n2_ n3_ n4_ n5_ n6_; clear hb hbox hg))
 go_cut [8] (fun v8 wx => ∃ (gt : Nat) (A : Option Addr) (c : Nat), v8 = .pointer (some ⟨gt, 0, none⟩) ∧ Aside0 (wx.heap[gt]? = some (.cells #[.slice A t229.length c, .slice none 0 0] 130 (0, 0))) ∧ Aside0 (Kd.R (Kd.int .u8) 5 wx w.heap.size (fun _ => True) (.slice A t229.length c) t229) ∧ Aside0 (wx.heap[gb217]? = some (.cells #[.int .i64 a1_0, .int .i64 a1_1, .int .i64 a1_2, .int .i64 a1_3] 49 (0, 0))) ∧ Aside0 (IsS126 w wx gb218 l2 0 false) ∧ Aside0 (Below w.heap.size w wx) ∧ Aside0 (w.heap.size ≤ gt) ∧ Aside0 (gb217 ≠ gt) ∧ Aside0 (gt ≠ gb217) ∧ Aside0 (gb218 ≠ gt) ∧ Aside0 (gt ≠ gb218))
 case first =>
  have LT238 := Aside0.mk (blk_lt BK217.out)
  have LT239 := Aside0.mk (IsS126.lt HI218.out)
  have A40 : spec_table_short.f k [] [(l0.length : Int)] = some t223 := by rw [← Ny220.out]; exact A4.out
  have A50 : spec_table_short.f k t223 [a1_0, a1_1, a1_2, a1_3] = some t229 := by rw [← Ny226.out]; exact A5.out
  have A4' := Aside0.mk A40
  have A5' := Aside0.mk A50
  clear A40 A50
  go_region_with (first | (go_at_call_of 40 (Value.slice (some ⟨gb217, 0, none⟩) 4 4); refine (spot_second k _ gb217 gb218 _ _ t223 a1_0 a1_1 a1_2 a1_3 t229 l2 w _ HB1.out HG1.out HGE1.out HO1.out BK1.out HI1.out HN1.out HN2.out A5'.out).mono ?_; rintro e w' ⟨A2_, c2_, rfl, z1, z2, z3, z4, z5⟩) | (go_at_call 40; refine (spot_first k _ _ (l0.length : Int) t223 w w7 _ ?q1 ?q2 ?q3 ?q4 HB.out.size A4'.out).mono ?_; (case q1 => exact (by repeat (first | exact HB.out | apply below_alloc | apply below_drew1))); (case q2 => first | exact b2_ (b3_ (blk_new _ _) _) | exact b2_ (blk_new' _ _ _ (alloc_size _ _).symm)); (case q3 => first | exact b2_ (b3_ (blk_new _ _) _) | exact b2_ (blk_new' _ _ _ (alloc_size _ _).symm)); (case q4 => first | exact Nat.le_refl _ | exact Nat.le_succ _); rintro e w' ⟨v1, w1, rfl, rfl, hk1, ho1, hb1, hkp1, hle1⟩; have HB1 := Aside0.mk hb1; have HG1 := Aside0.mk hk1; have HO1 := Aside0.mk ho1; have BK1 := Aside0.mk (blk_kept (b2_ (b3_ (b3_ BK217.out _) _)) hkp1 (fun h_ => h_)); have HI1 := Aside0.mk (IsS126.kept (IsS126.drew (IsS126.alloc (IsS126.alloc HI218.out _) _)) hkp1 (fun h_ => h_)); have HGE1 := Aside0.mk (Nat.le_trans HB.out.size hle1); have HN1 := Aside0.mk (Nat.ne_of_lt (Nat.lt_of_lt_of_le LT238.out hle1)); have HN2 := Aside0.mk (Nat.ne_of_lt (Nat.lt_of_lt_of_le LT239.out hle1)); clear hk1 ho1 hb1 hkp1 hle1))
  all_goals
   go_wp2_with fail
   go_meet
   exact ⟨_, _, _, rfl, ⟨z1⟩, ⟨z2⟩, ⟨z3⟩, ⟨z4⟩, ⟨z5⟩, HGE1, HN1, ⟨Ne.symm HN1.out⟩, HN2, ⟨Ne.symm HN2.out⟩⟩
 obtain ⟨gb219, Ao23, co23, rfl, BK219, HO252, BK217, HI218, HB, GE219, NB217_219, NB219_217, NB218_219, NB219_218⟩ := hcut
 have GW219 := GE219
 go_wp2
 go_loopg [9, 40] k (fun kq v9 v40 w' => ∃ (x9_1 : Int) (x40_1 : Int) (x220000_1 : List Int) (u220000 : Value), v9 = .int .i64 x9_1 ∧ v40 = .int .i64 x40_1 ∧ Aside0 (spec_SpotBytes.l0 kq l0 x9_1 l0 (l0.length : Int) x40_1 l2 0 false x220000_1 () = some r) ∧ Aside0 (kq ≤ k) ∧ Aside0 (Kd.R (Kd.int .u8) 5 w' w.heap.size (fun _ => True) u220000 x220000_1) ∧ Aside0 (w'.heap[gb217]? = some (.cells #[.int .i64 a1_0, .int .i64 a1_1, .int .i64 a1_2, .int .i64 a1_3] 49 (0, 0))) ∧ Aside0 (w'.heap[gb219]? = some (.cells #[u220000, .slice none 0 0] 130 (0, 0))) ∧ Aside0 (IsS126 w w' gb218 l2 0 false) ∧ Aside0 (Below w.heap.size w w'))
 case atStart => exact ⟨(0), (0), (t229), (.slice Ao23 t229.length co23), rfl, rfl, H', ⟨Nat.le_refl _⟩, HO252, BK217, BK219, HI218, HB⟩
 case round =>
  clear H'
  try clear c1
  try clear c2
  try clear p2
  try clear c4
  try clear c11
  try clear c12
  try clear c20
  try clear hcz13_0
  try clear hcz13_1
  try clear hcz17_0
  try clear hcz17_1
  try clear hcz20_0
  try clear hcz20_1
  try clear hcz24_0
  try clear hcz24_1
  try clear hfz13_0
  try clear hfz13_1
  try clear hfz17_0
  try clear hfz17_1
  try clear hfz20_0
  try clear hfz20_1
  try clear hfz24_0
  try clear hfz24_1
  obtain ⟨x9_1, x40_1, x220000_1, u220000, rfl, rfl, HA, HK1, HO_220000, BK217, BK219, HI218, HB⟩ := hrel
  cases gk with
  | zero => exact absurd HA.out (by simp [spec_SpotBytes.l0])
  | succ k1 =>
   have H := HA.out
   clear HA
   simp only [spec_SpotBytes.l0] at H
   by_cases c25 : x40_1 < (l0.length : Int)
   ·rw [if_pos c25] at H
    have c25b0 : decide (x40_1 < (l0.length : Int)) = true := decide_eq_true c25
    clear c25
    by_cases c26 : 0 ≤ x40_1
    ·rw [if_pos c26] at H
     have c26b0 : decide (0 ≤ x40_1) = true := decide_eq_true c26
     clear c26
     by_cases c27 : x40_1 < (l0.length : Int)
     ·rw [if_pos c27] at H
      have c27b0 : decide (x40_1 < (l0.length : Int)) = true := decide_eq_true c27
      clear c27
      obtain ⟨y233, hy233⟩ : ∃ y_ : List Int, y_ = (([wrap64 ((wrap64 (x9_1 + ((rd_L3 l0 x40_1).length : Int))) - 1)] : List Int)) := ⟨_, rfl⟩
      replace H : ((spec_table_short.f k1 x220000_1 y233).bind fun t236 => (spec_SpotBytes.l0 k1 l0 (wrap64 (x9_1 + ((rd_L3 l0 x40_1).length : Int))) l0 (l0.length : Int) (wrap64 (x40_1 + 1)) l2 0 false t236 ())) = some r := by first | (rw [hy233]; with_reducible exact H) | (have H2_ := (Option.bind_some _ _).symm.trans H; rw [hy233]; with_reducible exact H2_) | (have H2_ := (Option.bind_some _ _).symm.trans H; with_reducible exact H2_) | with_reducible exact H | (rw [hy233]; exact H) | exact H
      have Ny233 := Aside0.mk hy233
      clear hy233
      replace H := Option.bind_eq_some_iff.mp H
      obtain ⟨t236, A280, H⟩ := H
      replace H : (spec_SpotBytes.l0 k1 l0 (wrap64 (x9_1 + ((rd_L3 l0 x40_1).length : Int))) l0 (l0.length : Int) (wrap64 (x40_1 + 1)) l2 0 false t236 ()) = some r := H
      have A28 := Aside0.mk A280
      clear A280
      have H' := Aside0.mk H
      clear H
      have p232 : 0 ≤ (x40_1 : Int) := of_decide_eq_true (by first | (with_reducible assumption) | assumption)
      have q232 : x40_1 < (l0.length : Int) := of_decide_eq_true (by first | (with_reducible assumption) | assumption)
      obtain ⟨ad232, A232_0, c232_0, e232, hx232_0, hl232_0, hi232_0⟩ := at_L3 HR0.out x40_1 p232 q232
      cases e232
      replace hx232_0 := (HB.out.cell (World.block_lt_of_cell? w _ hx232_0)).trans hx232_0
      have HR232_0 := Aside0.mk hi232_0
      have HC232_0 := Aside0.mk hl232_0
      clear hi232_0 hl232_0
      replace p232 := eq_true p232
      replace q232 := eq_true q232
      go_wp2_with (first | ((with_reducible refine gate_dst (N := 51) rfl ?_); refine Kd.R_lit (Kd.int .i64) _ 3 ?hg (N := 51) ?hd (xs := ([wrap64 ((wrap64 (x9_1 + ((rd_L3 l0 x40_1).length : Int))) - 1)] : List Int)) (inner := [.int .i64 (wrap64 ((wrap64 (x9_1 + ((rd_L3 l0 x40_1).length : Int))) - 1))]) (ok := fun _ => True) (okp := fun _ => True) ?hr ?hp (fun _ hk => hk) trivial (Below.refl _ _) (Nat.le_refl _) (by simp) ?_; (case hd => rfl); (case hg => rfl); (case hr => first | (go_simp; done) | (go_simp; rfl)); (case hp => exact (Reps.one (show Kd.M (Kd.int .i64) _ _ _ (wrap64 ((wrap64 (x9_1 + ((rd_L3 l0 x40_1).length : Int))) - 1)) [.int .i64 (wrap64 ((wrap64 (x9_1 + ((rd_L3 l0 x40_1).length : Int))) - 1))] from rfl) (Reps.none _ _))); intro v234 w29 ho30 hb hg_ hnew_; clear hg_ hnew_; (first | rw [← Ny233.out] at ho30 | (simp only [Int.reduceToNat] at ho30; rw [← Ny233.out] at ho30)); have n0_ := Aside0.mk (Kd.R_below (by (with_reducible repeat (first | apply Kd.R_alloc | apply Kd.R_drewN | apply Kd.R_drew)); exact HO_220000.out) hb); have n1_ := Aside0.mk (Kd.R_lower ho30 (below_size (by repeat (first | (with_reducible first | exact HB.out | apply below_alloc | apply pw_below_drewN | apply below_drew1 | refine below_set ?_ (IsS126.ge HI218.out) | refine below_set ?_ GE217.out | refine below_set ?_ GE219.out) | exact HB.out)))); have n2_ := Aside0.mk (blk_below (g := gb217) (o := .cells #[.int .i64 a1_0, .int .i64 a1_1, .int .i64 a1_2, .int .i64 a1_3] 49 (0, 0)) (by (with_reducible repeat (first | refine b1_ ?_ _ | refine b2_ ?_ | refine b3_ ?_ _)); exact BK217.out) hb); have n3_ := Aside0.mk (blk_below (g := gb219) (o := .cells #[u220000, .slice none 0 0] 130 (0, 0)) (by (with_reducible repeat (first | refine b1_ ?_ _ | refine b2_ ?_ | refine b3_ ?_ _)); exact BK219.out) hb); have n4_ := Aside0.mk (IsS126.below ((show IsS126 w _ gb218 l2 0 false from by repeat (first | (with_reducible first | exact HI218.out | apply IsS126.alloc | apply IsS126.drewN | apply IsS126.drew | apply IsS126.set_1 | apply IsS126.set_2 | refine IsS126.far ?_ NB218_217.out _ | refine IsS126.far ?_ NB218_219.out _) | exact HI218.out))) hb); have n5_ := Aside0.mk (below_step (by repeat (first | (with_reducible first | exact HB.out | apply below_alloc | apply pw_below_drewN | apply below_drew1 | refine below_set ?_ (IsS126.ge HI218.out) | refine below_set ?_ GE217.out | refine below_set ?_ GE219.out) | exact HB.out)) hb); clear HO_220000; clear BK217; clear BK219; clear HI218; clear HB; have HO_220000 := n0_; have HO235 := n1_; have BK217 := n2_; have BK219 := n3_; have HI218 := n4_; have HB := n5_; clear n0_ n1_ n2_ n3_ n4_ n5_; clear hb ho30; have hnb31 := NB219_217.out; have hnc31 := NB217_219.out; have hnb32 := NB219_218.out; have hnc32 := NB218_219.out; have hcz33_0 : w29.cell? ⟨gb219, 0, none⟩ = some (u220000) := (blk_cell BK219.out 0).trans rfl; have hcz33_1 : w29.cell? ⟨gb219, 1, none⟩ = some (.slice none 0 0) := (blk_cell BK219.out 1).trans rfl; have hfz33_0 := blk_frozen BK219.out 0; have hfz33_1 := blk_frozen BK219.out 1; obtain ⟨Ao34, co34, eo34⟩ := Kd.R_slice HO_220000.out; subst eo34; obtain ⟨Ao35, co35, eo35⟩ := Kd.R_slice HO235.out; subst eo35) | ((with_reducible refine gate_callee (f := 40) rfl ?_); refine goesL_ (some 52) rfl rfl Try.func40 (by kernel_rfl) rfl #[.pointer (some ⟨gb219, 0, none⟩), .slice Ao35 y233.length co35] rfl (by (try simp only [List.map_toArray, List.map_cons, List.map_nil]); first | done | rfl | (simp only [List.length_drop, List.length_take]; rfl)) ?_; (with_reducible refine (spec_table_short.calls k1 gb219 (fun k_ => some k_ = (.slice Ao34 x220000_1.length co34 : Value).ownBlock) (.slice Ao34 x220000_1.length co34) x220000_1 _ _ y233 t236 w _ ?side1 ?side2 ?side3 ?side4 BK219.out GE219.out (Kd.R_ne HO_220000.out BK219.out (by decide)) A28.out).mono ?_); (case side1 => repeat (first | (with_reducible first | exact HB.out | apply below_alloc | apply pw_below_drewN | apply below_drew1 | refine below_set ?_ (IsS126.ge HI218.out) | refine below_set ?_ GE217.out | refine below_set ?_ GE219.out) | exact HB.out)); (case side2 => exact Kd.R_tight rfl HO_220000.out); (case side3 => exact Kd.C_kept_own (Kd.R_types ((Kd.R_apart' HO235.out (Kd.R_typed HO_220000.out) (by decide))) BK219.out (by decide)) (fun k_ hk_ hs_ => hs_.elim (fun hs_ => (hk_.1.2) hs_) (fun e_ => hk_.2 e_))); (case side4 => exact (Kd.R_reads' HO235.out).2.1); rintro e w_ ⟨v237, w36, rfl, rfl, hbk_, ho0, hb, hkp⟩; clear hbk_; refine ⟨_, rfl, ?_⟩; have n0_ := Aside0.mk (blk_kept (by (with_reducible repeat (first | refine b1_ ?_ _ | refine b2_ ?_ | refine b3_ ?_ _)); exact BK217.out) hkp (fun hs_ => (fun e_ => (Kd.R_ne HO_220000.out BK217.out (by decide)) e_) hs_)); have n1_ := Aside0.mk (blk_kept (by (with_reducible repeat (first | refine b1_ ?_ _ | refine b2_ ?_ | refine b3_ ?_ _)); exact BK219.out) hkp (fun hs_ => (fun e_ => (Kd.R_ne HO_220000.out BK219.out (by decide)) e_) hs_)); have n2_ := Aside0.mk (IsS126.kept ((show IsS126 w _ gb218 l2 0 false from by repeat (first | (with_reducible first | exact HI218.out | apply IsS126.alloc | apply IsS126.drewN | apply IsS126.drew | apply IsS126.set_1 | apply IsS126.set_2 | refine IsS126.far ?_ NB218_217.out _ | refine IsS126.far ?_ NB218_219.out _) | exact HI218.out))) hkp (fun hs_ => (fun e_ => (IsS126.own_ne HI218.out HO_220000.out (by decide)) e_) hs_)); have n3_ := Aside0.mk (Kd.R_mono (ok' := fun k_ => True) (Kd.R_keptB ((Kd.R_apart' HO235.out (Kd.R_typed HO_220000.out) (by decide))) hkp (fun k_ hk_ hs_ => (hk_.2) hs_)) (fun k_ hk_ => trivial)); have n4_ := Aside0.mk (Kd.R_mono (ok' := fun k_ => True) ho0 (fun k_ hk_ => trivial)); have n5_ := Aside0.mk (hb); clear BK217; clear BK219; clear HI218; clear HO235; clear HB; clear HO_220000; have BK217 := n0_; have BK219 := n1_; have HI218 := n2_; have HO235 := n3_; have HO238 := n4_; have HB := n5_; clear n0_ n1_ n2_ n3_ n4_ n5_; (try clear hb); (try clear hkp); (try clear ho0); obtain ⟨Ao37, co37, eo37⟩ := Kd.R_slice HO238.out; subst eo37; have hcz38_0 : w36.cell? ⟨gb219, 0, none⟩ = some (.slice Ao34 x220000_1.length co34) := (blk_cell BK219.out 0).trans rfl; have hcz38_1 : w36.cell? ⟨gb219, 1, none⟩ = some (.slice none 0 0) := (blk_cell BK219.out 1).trans rfl; have hfz38_0 := blk_frozen BK219.out 0; have hfz38_1 := blk_frozen BK219.out 1))
      go_roundg k1
      case measure => have := HK1.out; omega
      case rel => exact ⟨(wrap64 (x9_1 + ((rd_L3 l0 x40_1).length : Int))), (wrap64 (x40_1 + 1)), (t236), (.slice Ao37 t236.length co37), (by first | rfl | (simp; done) | (simp [*]; done)), (by first | rfl | (simp; done) | (simp [*]; done)), H', ⟨by have := HK1.out; omega⟩, ⟨by (with_reducible repeat (first | apply Kd.R_alloc | apply Kd.R_drewN | apply Kd.R_drew)); exact Kd.R_mono (Kd.R_far (p := ⟨gb219, 0, none⟩) (Kd.R_types HO238.out BK219.out (by decide)) (fun _ hk => hk.2) (.slice Ao37 t236.length co37)) (fun _ hk => trivial)⟩, ⟨by (with_reducible repeat (first | refine b1_ ?_ _ | refine b2_ ?_ | refine b3_ ?_ _)); refine blk_far ?_ NB217_219.out _; (with_reducible repeat (first | refine b1_ ?_ _ | refine b2_ ?_ | refine b3_ ?_ _)); exact BK217.out⟩, ⟨by (with_reducible repeat (first | refine b1_ ?_ _ | refine b2_ ?_ | refine b3_ ?_ _)); refine blk_put (cs := #[.slice Ao34 x220000_1.length co34, .slice none 0 0]) ?_ 0 _ rfl; (with_reducible repeat (first | refine b1_ ?_ _ | refine b2_ ?_ | refine b3_ ?_ _)); exact BK219.out⟩, ⟨(show IsS126 w _ gb218 l2 0 false from by repeat (first | (with_reducible first | exact HI218.out | apply IsS126.alloc | apply IsS126.drewN | apply IsS126.drew | apply IsS126.set_1 | apply IsS126.set_2 | refine IsS126.far ?_ NB218_217.out _ | refine IsS126.far ?_ NB218_219.out _) | exact HI218.out))⟩, ⟨by repeat (first | (with_reducible first | exact HB.out | apply below_alloc | apply pw_below_drewN | apply below_drew1 | refine below_set ?_ (IsS126.ge HI218.out) | refine below_set ?_ GE217.out | refine below_set ?_ GE219.out) | exact HB.out)⟩⟩
     ·rw [if_neg c27] at H
      exact absurd H (by simp)
    ·rw [if_neg c26] at H
     exact absurd H (by simp)
   ·rw [if_neg c25] at H
    have c25b0 : decide (x40_1 < (l0.length : Int)) = false := decide_eq_false c25
    clear c25
    replace H := Option.bind_eq_some_iff.mp H
    obtain ⟨⟨t239, t240, t241⟩, A390, H⟩ := H
    replace H : ((spec_table_short.f k1 x220000_1 (([t239] : List Int))).bind fun t245 => (if 0 ≤ t239 then (if t245.length + (t239 : Int).toNat < 140737488355328 then (spec_SpotBytes.l1 k1 ([] : List Int) ([] : List Int) ([] : List Int) 0 0 l0 (l0.length : Int) 0 l2 t240 t241 (t245 ++ List.replicate (t239 : Int).toNat 0) ()) else (none)) else (none))) = some r := H
    have A39 := Aside0.mk A390
    clear A390
    obtain ⟨y242, hy242⟩ : ∃ y_ : List Int, y_ = (([t239] : List Int)) := ⟨_, rfl⟩
    replace H : ((spec_table_short.f k1 x220000_1 y242).bind fun t245 => (if 0 ≤ t239 then (if t245.length + (t239 : Int).toNat < 140737488355328 then (spec_SpotBytes.l1 k1 ([] : List Int) ([] : List Int) ([] : List Int) 0 0 l0 (l0.length : Int) 0 l2 t240 t241 (t245 ++ List.replicate (t239 : Int).toNat 0) ()) else (none)) else (none))) = some r := by first | (rw [hy242]; with_reducible exact H) | (have H2_ := (Option.bind_some _ _).symm.trans H; rw [hy242]; with_reducible exact H2_) | (have H2_ := (Option.bind_some _ _).symm.trans H; with_reducible exact H2_) | with_reducible exact H | (rw [hy242]; exact H) | exact H
    have Ny242 := Aside0.mk hy242
    clear hy242
    replace H := Option.bind_eq_some_iff.mp H
    obtain ⟨t245, A400, H⟩ := H
    replace H : (if 0 ≤ t239 then (if t245.length + (t239 : Int).toNat < 140737488355328 then (spec_SpotBytes.l1 k1 ([] : List Int) ([] : List Int) ([] : List Int) 0 0 l0 (l0.length : Int) 0 l2 t240 t241 (t245 ++ List.replicate (t239 : Int).toNat 0) ()) else (none)) else (none)) = some r := H
    have A40 := Aside0.mk A400
    clear A400
    by_cases c41 : 0 ≤ t239
    ·rw [if_pos c41] at H
     have c41b0 := eq_true c41
     have c41b1 : decide (0 ≤ t239) = true := decide_eq_true c41
     clear c41
     by_cases c42 : t245.length + (t239 : Int).toNat < 140737488355328
     ·rw [if_pos c42] at H
      have LMc42 := Aside0.mk c42
      clear c42
      obtain ⟨y248, hy248⟩ : ∃ y_ : List Int, y_ = (t245 ++ List.replicate (t239 : Int).toNat 0) := ⟨_, rfl⟩
      replace H : (spec_SpotBytes.l1 k1 ([] : List Int) ([] : List Int) ([] : List Int) 0 0 l0 (l0.length : Int) 0 l2 t240 t241 y248 ()) = some r := by first | (rw [hy248]; with_reducible exact H) | (have H2_ := (Option.bind_some _ _).symm.trans H; rw [hy248]; with_reducible exact H2_) | (have H2_ := (Option.bind_some _ _).symm.trans H; with_reducible exact H2_) | with_reducible exact H | (rw [hy248]; exact H) | exact H
      have Ny248 := Aside0.mk hy248
      clear hy248
      have H' := Aside0.mk H
      clear H
      go_wp2_with (first | ((with_reducible refine gate_callee (f := 41) rfl ?_); refine goesL_ (some 55) rfl rfl Try.func41 (by kernel_rfl) rfl #[.pointer (some ⟨gb218, 0, none⟩), .int .i64 3] rfl (by (try simp only [List.map_toArray, List.map_cons, List.map_nil]); first | done | rfl | (simp only [List.length_drop, List.length_take]; rfl)) ?_; (with_reducible refine (spec_writer_way.calls gb218 l2 0 false 3 t239 t240 t241 w _ ?side1 ?side2 A39.out).mono ?_); (case side1 => repeat (first | (with_reducible first | exact HI218.out | apply IsS126.alloc | apply IsS126.drewN | apply IsS126.drew | apply IsS126.set_1 | apply IsS126.set_2 | refine IsS126.far ?_ NB218_217.out _ | refine IsS126.far ?_ NB218_219.out _) | exact HI218.out)); (case side2 => repeat (first | (with_reducible first | exact HB.out | apply below_alloc | apply pw_below_drewN | apply below_drew1 | refine below_set ?_ (IsS126.ge HI218.out) | refine below_set ?_ GE217.out | refine below_set ?_ GE219.out) | exact HB.out)); rintro e w43 ⟨rfl, hi, hb, hk⟩; refine ⟨_, rfl, ?_⟩; have n0_ := Aside0.mk (Kd.R_mono (Kd.R_keep (IsS126.apart (show IsS126 w _ gb218 l2 0 false from (show IsS126 w _ gb218 l2 0 false from by repeat (first | (with_reducible first | exact HI218.out | apply IsS126.alloc | apply IsS126.drewN | apply IsS126.drew | apply IsS126.set_1 | apply IsS126.set_2 | refine IsS126.far ?_ NB218_217.out _ | refine IsS126.far ?_ NB218_219.out _) | exact HI218.out))) (by (with_reducible repeat (first | apply Kd.R_alloc | apply Kd.R_drewN | apply Kd.R_drew)); exact HO_220000.out) (by decide)) hk (fun _ h => h.2)) (fun _ h => h.1)); have n1_ := Aside0.mk (KeepBut.blk hk (g' := gb217) (o := .cells #[.int .i64 a1_0, .int .i64 a1_1, .int .i64 a1_2, .int .i64 a1_3] 49 (0, 0)) (by (with_reducible repeat (first | refine b1_ ?_ _ | refine b2_ ?_ | refine b3_ ?_ _)); exact BK217.out) NB217_218.out (by simp)); have n2_ := Aside0.mk (KeepBut.blk hk (g' := gb219) (o := .cells #[u220000, .slice none 0 0] 130 (0, 0)) (by (with_reducible repeat (first | refine b1_ ?_ _ | refine b2_ ?_ | refine b3_ ?_ _)); exact BK219.out) NB219_218.out (by simp)); have n3_ := Aside0.mk (hb); have n4_ := Aside0.mk (hi); clear HO_220000; clear BK217; clear BK219; clear HB; clear HI218; have HO_220000 := n0_; have BK217 := n1_; have BK219 := n2_; have HB := n3_; have HI218 := n4_; clear n0_ n1_ n2_ n3_ n4_; (try clear hb); (try clear hb2); (try clear hk); (try clear hi)) | ((with_reducible refine gate_dst (N := 58) rfl ?_); refine Kd.R_lit (Kd.int .i64) _ 3 ?hg (N := 58) ?hd (xs := ([t239] : List Int)) (inner := [.int .i64 t239]) (ok := fun _ => True) (okp := fun _ => True) ?hr ?hp (fun _ hk => hk) trivial (Below.refl _ _) (Nat.le_refl _) (by simp) ?_; (case hd => rfl); (case hg => rfl); (case hr => first | (go_simp; done) | (go_simp; rfl)); (case hp => exact (Reps.one (show Kd.M (Kd.int .i64) _ _ _ t239 [.int .i64 t239] from rfl) (Reps.none _ _))); intro v243 w44 ho45 hb hg_ hnew_; clear hg_ hnew_; (first | rw [← Ny242.out] at ho45 | (simp only [Int.reduceToNat] at ho45; rw [← Ny242.out] at ho45)); have n0_ := Aside0.mk (Kd.R_below (by (with_reducible repeat (first | apply Kd.R_alloc | apply Kd.R_drewN | apply Kd.R_drew)); exact HO_220000.out) hb); have n1_ := Aside0.mk (Kd.R_lower ho45 (below_size (by repeat (first | (with_reducible first | exact HB.out | apply below_alloc | apply pw_below_drewN | apply below_drew1 | refine below_set ?_ (IsS126.ge HI218.out) | refine below_set ?_ GE217.out | refine below_set ?_ GE219.out) | exact HB.out)))); have n2_ := Aside0.mk (blk_below (g := gb217) (o := .cells #[.int .i64 a1_0, .int .i64 a1_1, .int .i64 a1_2, .int .i64 a1_3] 49 (0, 0)) (by (with_reducible repeat (first | refine b1_ ?_ _ | refine b2_ ?_ | refine b3_ ?_ _)); exact BK217.out) hb); have n3_ := Aside0.mk (blk_below (g := gb219) (o := .cells #[u220000, .slice none 0 0] 130 (0, 0)) (by (with_reducible repeat (first | refine b1_ ?_ _ | refine b2_ ?_ | refine b3_ ?_ _)); exact BK219.out) hb); have n4_ := Aside0.mk (IsS126.below ((show IsS126 w _ gb218 l2 t240 t241 from by repeat (first | (with_reducible first | exact HI218.out | apply IsS126.alloc | apply IsS126.drewN | apply IsS126.drew | apply IsS126.set_1 | apply IsS126.set_2 | refine IsS126.far ?_ NB218_217.out _ | refine IsS126.far ?_ NB218_219.out _) | exact HI218.out))) hb); have n5_ := Aside0.mk (below_step (by repeat (first | (with_reducible first | exact HB.out | apply below_alloc | apply pw_below_drewN | apply below_drew1 | refine below_set ?_ (IsS126.ge HI218.out) | refine below_set ?_ GE217.out | refine below_set ?_ GE219.out) | exact HB.out)) hb); clear HO_220000; clear BK217; clear BK219; clear HI218; clear HB; have HO_220000 := n0_; have HO244 := n1_; have BK217 := n2_; have BK219 := n3_; have HI218 := n4_; have HB := n5_; clear n0_ n1_ n2_ n3_ n4_ n5_; clear hb ho45; have hnb46 := NB219_217.out; have hnc46 := NB217_219.out; have hnb47 := NB219_218.out; have hnc47 := NB218_219.out; have hcz48_0 : w44.cell? ⟨gb219, 0, none⟩ = some (u220000) := (blk_cell BK219.out 0).trans rfl; have hcz48_1 : w44.cell? ⟨gb219, 1, none⟩ = some (.slice none 0 0) := (blk_cell BK219.out 1).trans rfl; have hfz48_0 := blk_frozen BK219.out 0; have hfz48_1 := blk_frozen BK219.out 1; obtain ⟨Ao49, co49, eo49⟩ := Kd.R_slice HO_220000.out; subst eo49; obtain ⟨Ao50, co50, eo50⟩ := Kd.R_slice HO244.out; subst eo50) | ((with_reducible refine gate_callee (f := 40) rfl ?_); refine goesL_ (some 59) rfl rfl Try.func40 (by kernel_rfl) rfl #[.pointer (some ⟨gb219, 0, none⟩), .slice Ao50 y242.length co50] rfl (by (try simp only [List.map_toArray, List.map_cons, List.map_nil]); first | done | rfl | (simp only [List.length_drop, List.length_take]; rfl)) ?_; (with_reducible refine (spec_table_short.calls k1 gb219 (fun k_ => some k_ = (.slice Ao49 x220000_1.length co49 : Value).ownBlock) (.slice Ao49 x220000_1.length co49) x220000_1 _ _ y242 t245 w _ ?side1 ?side2 ?side3 ?side4 BK219.out GE219.out (Kd.R_ne HO_220000.out BK219.out (by decide)) A40.out).mono ?_); (case side1 => repeat (first | (with_reducible first | exact HB.out | apply below_alloc | apply pw_below_drewN | apply below_drew1 | refine below_set ?_ (IsS126.ge HI218.out) | refine below_set ?_ GE217.out | refine below_set ?_ GE219.out) | exact HB.out)); (case side2 => exact Kd.R_tight rfl HO_220000.out); (case side3 => exact Kd.C_kept_own (Kd.R_types ((Kd.R_apart' HO244.out (Kd.R_typed HO_220000.out) (by decide))) BK219.out (by decide)) (fun k_ hk_ hs_ => hs_.elim (fun hs_ => (hk_.1.2) hs_) (fun e_ => hk_.2 e_))); (case side4 => exact (Kd.R_reads' HO244.out).2.1); rintro e w_ ⟨v246, w51, rfl, rfl, hbk_, ho0, hb, hkp⟩; clear hbk_; refine ⟨_, rfl, ?_⟩; have n0_ := Aside0.mk (blk_kept (by (with_reducible repeat (first | refine b1_ ?_ _ | refine b2_ ?_ | refine b3_ ?_ _)); exact BK217.out) hkp (fun hs_ => (fun e_ => (Kd.R_ne HO_220000.out BK217.out (by decide)) e_) hs_)); have n1_ := Aside0.mk (blk_kept (by (with_reducible repeat (first | refine b1_ ?_ _ | refine b2_ ?_ | refine b3_ ?_ _)); exact BK219.out) hkp (fun hs_ => (fun e_ => (Kd.R_ne HO_220000.out BK219.out (by decide)) e_) hs_)); have n2_ := Aside0.mk (IsS126.kept ((show IsS126 w _ gb218 l2 t240 t241 from by repeat (first | (with_reducible first | exact HI218.out | apply IsS126.alloc | apply IsS126.drewN | apply IsS126.drew | apply IsS126.set_1 | apply IsS126.set_2 | refine IsS126.far ?_ NB218_217.out _ | refine IsS126.far ?_ NB218_219.out _) | exact HI218.out))) hkp (fun hs_ => (fun e_ => (IsS126.own_ne HI218.out HO_220000.out (by decide)) e_) hs_)); have n3_ := Aside0.mk (Kd.R_mono (ok' := fun k_ => True) (Kd.R_keptB ((Kd.R_apart' HO244.out (Kd.R_typed HO_220000.out) (by decide))) hkp (fun k_ hk_ hs_ => (hk_.2) hs_)) (fun k_ hk_ => trivial)); have n4_ := Aside0.mk (Kd.R_mono (ok' := fun k_ => True) ho0 (fun k_ hk_ => trivial)); have n5_ := Aside0.mk (hb); clear BK217; clear BK219; clear HI218; clear HO244; clear HB; clear HO_220000; have BK217 := n0_; have BK219 := n1_; have HI218 := n2_; have HO244 := n3_; have HO247 := n4_; have HB := n5_; clear n0_ n1_ n2_ n3_ n4_ n5_; (try clear hb); (try clear hkp); (try clear ho0); obtain ⟨Ao52, co52, eo52⟩ := Kd.R_slice HO247.out; subst eo52; have hcz53_0 : w51.cell? ⟨gb219, 0, none⟩ = some (.slice Ao49 x220000_1.length co49) := (blk_cell BK219.out 0).trans rfl; have hcz53_1 : w51.cell? ⟨gb219, 1, none⟩ = some (.slice none 0 0) := (blk_cell BK219.out 1).trans rfl; have hfz53_0 := blk_frozen BK219.out 0; have hfz53_1 := blk_frozen BK219.out 1) | (at_builtin; refine Kd.R_append_zeros (Kd.int .u8) (w0 := w) w.heap.size rfl (.tmp 64) (.tmp 65) 22 3 5 (.int .u8 0) 1 rfl Try.underlying22 Try.underlying3 info5 rfl (by decide) (by omega) (.slice Ao52 t245.length co52) t245 0 (t239 : Int) (fun _ => True) rfl rfl rfl ?aF ?aO (of_decide_eq_true (by first | (with_reducible assumption) | assumption)) ?aB ?aS ?aL ?_; (case aB => exact (by repeat (first | (with_reducible first | exact HB.out | apply below_alloc | apply pw_below_drewN | apply below_drew1 | refine below_set ?_ (IsS126.ge HI218.out) | refine below_set ?_ GE217.out | refine below_set ?_ GE219.out) | exact HB.out))); (case aF => exact (fun _ _ => trivial)); (case aO => exact (by (with_reducible repeat (first | apply Kd.R_alloc | apply Kd.R_drewN | apply Kd.R_drew)); exact Kd.R_mono (Kd.R_far (p := ⟨gb219, 0, none⟩) (Kd.R_types HO247.out BK219.out (by decide)) (fun _ hk => hk.2) (.slice Ao52 t245.length co52)) (fun _ hk => trivial))); (case aS => exact (below_size (by repeat (first | (with_reducible first | exact HB.out | apply below_alloc | apply pw_below_drewN | apply below_drew1 | refine below_set ?_ (IsS126.ge HI218.out) | refine below_set ?_ GE217.out | refine below_set ?_ GE219.out) | exact HB.out)))); (case aL => have := LMc42.out; omega); intro v249 w54 ho hb hg hat; rw [← Ny248.out] at ho; have n0_ := Aside0.mk (blk_grown (g := gb217) (o := .cells #[.int .i64 a1_0, .int .i64 a1_1, .int .i64 a1_2, .int .i64 a1_3] 49 (0, 0)) (by (with_reducible repeat (first | refine b1_ ?_ _ | refine b2_ ?_ | refine b3_ ?_ _)); refine blk_far ?_ NB217_219.out _; (with_reducible repeat (first | refine b1_ ?_ _ | refine b2_ ?_ | refine b3_ ?_ _)); exact BK217.out) hg (Kd.R_ne HO247.out BK217.out (by decide))); have n1_ := Aside0.mk (blk_grown (g := gb219) (o := .cells #[.slice Ao52 t245.length co52, .slice none 0 0] 130 (0, 0)) (by (with_reducible repeat (first | refine b1_ ?_ _ | refine b2_ ?_ | refine b3_ ?_ _)); refine blk_put (cs := #[.slice Ao49 x220000_1.length co49, .slice none 0 0]) ?_ 0 _ rfl; (with_reducible repeat (first | refine b1_ ?_ _ | refine b2_ ?_ | refine b3_ ?_ _)); exact BK219.out) hg (Kd.R_ne HO247.out BK219.out (by decide))); have n2_ := Aside0.mk (IsS126.grown ((show IsS126 w _ gb218 l2 t240 t241 from by repeat (first | (with_reducible first | exact HI218.out | apply IsS126.alloc | apply IsS126.drewN | apply IsS126.drew | apply IsS126.set_1 | apply IsS126.set_2 | refine IsS126.far ?_ NB218_217.out _ | refine IsS126.far ?_ NB218_219.out _) | exact HI218.out))) hg (IsS126.own_ne HI218.out HO247.out (by decide))); have n3_ := Aside0.mk (Kd.R_over' (by (with_reducible repeat (first | apply Kd.R_alloc | apply Kd.R_drewN | apply Kd.R_drew)); exact (Kd.R_mono (Kd.R_far (p := ⟨gb219, 0, none⟩) (Kd.R_types HO244.out BK219.out (by decide)) (fun _ hk => hk.2) (.slice Ao52 t245.length co52)) (fun _ h_ => h_.1))) (Kd.R_typed (by (with_reducible repeat (first | apply Kd.R_alloc | apply Kd.R_drewN | apply Kd.R_drew)); exact (Kd.R_mono (Kd.R_far (p := ⟨gb219, 0, none⟩) (Kd.R_types HO247.out BK219.out (by decide)) (fun _ hk => hk.2) (.slice Ao52 t245.length co52)) (fun _ h_ => h_.1)))) (by decide) hg); have n4_ := Aside0.mk (hb); have n5_ := Aside0.mk (ho); clear BK217; clear BK219; clear HI218; clear HO244; clear HB; clear HO247; have BK217 := n0_; have BK219 := n1_; have HI218 := n2_; have HO244 := n3_; have HB := n4_; have HO250 := n5_; clear n0_ n1_ n2_ n3_ n4_ n5_; clear ho hb hg hat; obtain ⟨Ao55, co55, eo55⟩ := Kd.R_slice HO250.out; subst eo55; have hcz56_0 : w54.cell? ⟨gb219, 0, none⟩ = some (.slice Ao52 t245.length co52) := (blk_cell BK219.out 0).trans rfl; have hcz56_1 : w54.cell? ⟨gb219, 1, none⟩ = some (.slice none 0 0) := (blk_cell BK219.out 1).trans rfl; have hfz56_0 := blk_frozen BK219.out 0; have hfz56_1 := blk_frozen BK219.out 1))
      go_loopg [13, 14, 15, 16, 17, 71] k1 (fun kq v13 v14 v15 v16 v17 v71 w' => ∃ (x13_2 : List Int) (x14_2 : List Int) (x15_2 : List Int) (x16_2 : Int) (x17_2 : Int) (x71_2 : Int) (x219001_2 : Int) (x219002_2 : Bool), v16 = .int .i64 x16_2 ∧ v17 = .int .i64 x17_2 ∧ v71 = .int .i64 x71_2 ∧ Aside0 (spec_SpotBytes.l1 kq x13_2 x14_2 x15_2 x16_2 x17_2 l0 (l0.length : Int) x71_2 l2 x219001_2 x219002_2 y248 () = some r) ∧ Aside0 (kq ≤ k1) ∧ Aside0 (Kd.R (Kd.int .u8) 5 w' w.heap.size (fun k_ => some k_ ≠ (v14 : Value).ownBlock ∧ some k_ ≠ (v15 : Value).ownBlock ∧ some k_ ≠ ((.slice Ao55 y248.length co55) : Value).ownBlock) v13 x13_2) ∧ Aside0 (Kd.R (Kd.int .u8) 5 w' w.heap.size (fun k_ => some k_ ≠ (v13 : Value).ownBlock ∧ some k_ ≠ (v15 : Value).ownBlock ∧ some k_ ≠ ((.slice Ao55 y248.length co55) : Value).ownBlock) v14 x14_2) ∧ Aside0 (Kd.R (Kd.int .u8) 5 w' w.heap.size (fun k_ => some k_ ≠ (v13 : Value).ownBlock ∧ some k_ ≠ (v14 : Value).ownBlock ∧ some k_ ≠ ((.slice Ao55 y248.length co55) : Value).ownBlock) v15 x15_2) ∧ Aside0 (Kd.R (Kd.int .u8) 5 w' w.heap.size (fun k_ => some k_ ≠ (v13 : Value).ownBlock ∧ some k_ ≠ (v14 : Value).ownBlock ∧ some k_ ≠ (v15 : Value).ownBlock) (.slice Ao55 y248.length co55) y248) ∧ Aside0 (w'.heap[gb217]? = some (.cells #[.int .i64 a1_0, .int .i64 a1_1, .int .i64 a1_2, .int .i64 a1_3] 49 (0, 0))) ∧ Aside0 (w'.heap[gb219]? = some (.cells #[(.slice Ao55 y248.length co55), .slice none 0 0] 130 (0, 0))) ∧ Aside0 (IsS126 w w' gb218 l2 x219001_2 x219002_2) ∧ Aside0 (Below w.heap.size w w'))
      case atStart => exact ⟨(([] : List Int)), (([] : List Int)), (([] : List Int)), (0), (0), (0), (t240), (t241), (by first | rfl | (simp; done) | (simp [*]; done)), (by first | rfl | (simp; done) | (simp [*]; done)), (by first | rfl | (simp; done) | (simp [*]; done)), H', ⟨Nat.le_refl _⟩, ⟨by first | exact Kd.R_nil _ _ _ _ _ | exact Kd.N_nil _ _ _ _ _ | exact Kd.V_nil _ _ _ _ _ | exact Kd.Q_nil _ _ _ _ _ | exact Kd.S_nil _ _ _ _ _⟩, ⟨by first | exact Kd.R_nil _ _ _ _ _ | exact Kd.N_nil _ _ _ _ _ | exact Kd.V_nil _ _ _ _ _ | exact Kd.Q_nil _ _ _ _ _ | exact Kd.S_nil _ _ _ _ _⟩, ⟨by first | exact Kd.R_nil _ _ _ _ _ | exact Kd.N_nil _ _ _ _ _ | exact Kd.V_nil _ _ _ _ _ | exact Kd.Q_nil _ _ _ _ _ | exact Kd.S_nil _ _ _ _ _⟩, ⟨by (with_reducible repeat (first | apply Kd.R_alloc | apply Kd.R_drewN | apply Kd.R_drew)); exact Kd.R_mono (Kd.R_far (p := ⟨gb219, 0, none⟩) (Kd.R_types HO250.out BK219.out (by decide)) (fun _ hk => hk.2) (.slice Ao55 y248.length co55)) (fun _ hk => ⟨(by simp [Value.ownBlock]), ⟨(by simp [Value.ownBlock]), (by simp [Value.ownBlock])⟩⟩)⟩, ⟨by (with_reducible repeat (first | refine b1_ ?_ _ | refine b2_ ?_ | refine b3_ ?_ _)); refine blk_far ?_ NB217_219.out _; (with_reducible repeat (first | refine b1_ ?_ _ | refine b2_ ?_ | refine b3_ ?_ _)); exact BK217.out⟩, ⟨by (with_reducible repeat (first | refine b1_ ?_ _ | refine b2_ ?_ | refine b3_ ?_ _)); refine blk_put (cs := #[.slice Ao52 t245.length co52, .slice none 0 0]) ?_ 0 _ rfl; (with_reducible repeat (first | refine b1_ ?_ _ | refine b2_ ?_ | refine b3_ ?_ _)); exact BK219.out⟩, ⟨(show IsS126 w _ gb218 l2 t240 t241 from by repeat (first | (with_reducible first | exact HI218.out | apply IsS126.alloc | apply IsS126.drewN | apply IsS126.drew | apply IsS126.set_1 | apply IsS126.set_2 | refine IsS126.far ?_ NB218_217.out _ | refine IsS126.far ?_ NB218_219.out _) | exact HI218.out))⟩, ⟨by repeat (first | (with_reducible first | exact HB.out | apply below_alloc | apply pw_below_drewN | apply below_drew1 | refine below_set ?_ (IsS126.ge HI218.out) | refine below_set ?_ GE217.out | refine below_set ?_ GE219.out) | exact HB.out)⟩⟩
      case round =>
       clear H'
       try clear c1
       try clear c2
       try clear p2
       try clear q2
       try clear hx2
       try clear c3
       try clear c4
       try clear p6
       try clear c11
       try clear c12
       try clear c20
       try clear c23
       try clear p23
       try clear q23
       try clear hx23
       try clear c25
       try clear c25b0
       try clear c26
       try clear c26b0
       try clear c27
       try clear c27b0
       try clear c31
       try clear c32
       try clear c40
       try clear c41
       try clear c41b0
       try clear c41b1
       try clear c42
       try clear c46
       try clear c47
       try clear hcz13_0
       try clear hcz13_1
       try clear hcz17_0
       try clear hcz17_1
       try clear hcz20_0
       try clear hcz20_1
       try clear hcz24_0
       try clear hcz24_1
       try clear hcz33_0
       try clear hcz33_1
       try clear hcz38_0
       try clear hcz38_1
       try clear hcz48_0
       try clear hcz48_1
       try clear hcz53_0
       try clear hcz53_1
       try clear hcz56_0
       try clear hcz56_1
       try clear hfz13_0
       try clear hfz13_1
       try clear hfz17_0
       try clear hfz17_1
       try clear hfz20_0
       try clear hfz20_1
       try clear hfz24_0
       try clear hfz24_1
       try clear hfz33_0
       try clear hfz33_1
       try clear hfz38_0
       try clear hfz38_1
       try clear hfz48_0
       try clear hfz48_1
       try clear hfz53_0
       try clear hfz53_1
       try clear hfz56_0
       try clear hfz56_1
       try clear hx232_0
       try clear p2
       try clear p232
       try clear q232
       obtain ⟨x13_2, x14_2, x15_2, x16_2, x17_2, x71_2, x219001_2, x219002_2, rfl, rfl, rfl, HA, HK2, HO_13, HO_14, HO_15, HO_220000, BK217, BK219, HI218, HB⟩ := hrel
       cases gk with
       | zero => exact absurd HA.out (by simp [spec_SpotBytes.l1])
       | succ k2 =>
        have H := HA.out
        clear HA
        simp only [spec_SpotBytes.l1] at H
        by_cases c57 : x71_2 < (l0.length : Int)
        ·rw [if_pos c57] at H
         have c57b0 : decide (x71_2 < (l0.length : Int)) = true := decide_eq_true c57
         clear c57
         by_cases c58 : 0 ≤ x71_2
         ·rw [if_pos c58] at H
          have c58b0 : decide (0 ≤ x71_2) = true := decide_eq_true c58
          clear c58
          by_cases c59 : x71_2 < (l0.length : Int)
          ·rw [if_pos c59] at H
           have c59b0 : decide (x71_2 < (l0.length : Int)) = true := decide_eq_true c59
           clear c59
           have H' := Aside0.mk H
           clear H
           have p251 : 0 ≤ (x71_2 : Int) := of_decide_eq_true (by first | (with_reducible assumption) | assumption)
           have q251 : x71_2 < (l0.length : Int) := of_decide_eq_true (by first | (with_reducible assumption) | assumption)
           obtain ⟨ad251, A251_0, c251_0, e251, hx251_0, hl251_0, hi251_0⟩ := at_L3 HR0.out x71_2 p251 q251
           cases e251
           replace hx251_0 := (HB.out.cell (World.block_lt_of_cell? w _ hx251_0)).trans hx251_0
           have HR251_0 := Aside0.mk hi251_0
           have HC251_0 := Aside0.mk hl251_0
           clear hi251_0 hl251_0
           replace p251 := eq_true p251
           replace q251 := eq_true q251
           go_wp2
           go_loopg [13, 14, 15, 16, 17, 77] k2 (fun kq v13 v14 v15 v16 v17 v77 w' => ∃ (x13_3 : List Int) (x14_3 : List Int) (x15_3 : List Int) (x16_3 : Int) (x17_3 : Int) (x77_3 : Int) (x219001_3 : Int) (x219002_3 : Bool), v16 = .int .i64 x16_3 ∧ v17 = .int .i64 x17_3 ∧ v77 = .int .i64 x77_3 ∧ Aside0 (spec_SpotBytes.l2 kq x13_3 x14_3 x15_3 x16_3 x17_3 l0 (l0.length : Int) x71_2 (rd_L3 l0 x71_2) ((rd_L3 l0 x71_2).length : Int) x77_3 l2 x219001_3 x219002_3 y248 () = some r) ∧ Aside0 (kq ≤ k2) ∧ Aside0 (Kd.R (Kd.int .u8) 5 w' w.heap.size (fun k_ => some k_ ≠ (v14 : Value).ownBlock ∧ some k_ ≠ (v15 : Value).ownBlock ∧ some k_ ≠ ((.slice Ao55 y248.length co55) : Value).ownBlock) v13 x13_3) ∧ Aside0 (Kd.R (Kd.int .u8) 5 w' w.heap.size (fun k_ => some k_ ≠ (v13 : Value).ownBlock ∧ some k_ ≠ (v15 : Value).ownBlock ∧ some k_ ≠ ((.slice Ao55 y248.length co55) : Value).ownBlock) v14 x14_3) ∧ Aside0 (Kd.R (Kd.int .u8) 5 w' w.heap.size (fun k_ => some k_ ≠ (v13 : Value).ownBlock ∧ some k_ ≠ (v14 : Value).ownBlock ∧ some k_ ≠ ((.slice Ao55 y248.length co55) : Value).ownBlock) v15 x15_3) ∧ Aside0 (Kd.R (Kd.int .u8) 5 w' w.heap.size (fun k_ => some k_ ≠ (v13 : Value).ownBlock ∧ some k_ ≠ (v14 : Value).ownBlock ∧ some k_ ≠ (v15 : Value).ownBlock) (.slice Ao55 y248.length co55) y248) ∧ Aside0 (w'.heap[gb217]? = some (.cells #[.int .i64 a1_0, .int .i64 a1_1, .int .i64 a1_2, .int .i64 a1_3] 49 (0, 0))) ∧ Aside0 (w'.heap[gb219]? = some (.cells #[(.slice Ao55 y248.length co55), .slice none 0 0] 130 (0, 0))) ∧ Aside0 (IsS126 w w' gb218 l2 x219001_3 x219002_3) ∧ Aside0 (Below w.heap.size w w'))
           case atStart => exact ⟨(x13_2), (x14_2), (x15_2), (x16_2), (x17_2), (0), (x219001_2), (x219002_2), (by first | rfl | (simp; done) | (simp [*]; done)), (by first | rfl | (simp; done) | (simp [*]; done)), (by first | rfl | (simp; done) | (simp [*]; done)), H', ⟨Nat.le_refl _⟩, ⟨by (with_reducible repeat (first | apply Kd.R_alloc | apply Kd.R_drewN | apply Kd.R_drew)); exact HO_13.out⟩, ⟨by (with_reducible repeat (first | apply Kd.R_alloc | apply Kd.R_drewN | apply Kd.R_drew)); exact HO_14.out⟩, ⟨by (with_reducible repeat (first | apply Kd.R_alloc | apply Kd.R_drewN | apply Kd.R_drew)); exact HO_15.out⟩, ⟨by (with_reducible repeat (first | apply Kd.R_alloc | apply Kd.R_drewN | apply Kd.R_drew)); exact HO_220000.out⟩, ⟨by (with_reducible repeat (first | refine b1_ ?_ _ | refine b2_ ?_ | refine b3_ ?_ _)); exact BK217.out⟩, ⟨by (with_reducible repeat (first | refine b1_ ?_ _ | refine b2_ ?_ | refine b3_ ?_ _)); exact BK219.out⟩, ⟨(show IsS126 w _ gb218 l2 x219001_2 x219002_2 from by repeat (first | (with_reducible first | exact HI218.out | apply IsS126.alloc | apply IsS126.drewN | apply IsS126.drew | apply IsS126.set_1 | apply IsS126.set_2 | refine IsS126.far ?_ NB218_217.out _ | refine IsS126.far ?_ NB218_219.out _) | exact HI218.out))⟩, ⟨by repeat (first | (with_reducible first | exact HB.out | apply below_alloc | apply pw_below_drewN | apply below_drew1 | refine below_set ?_ (IsS126.ge HI218.out) | refine below_set ?_ GE217.out | refine below_set ?_ GE219.out) | exact HB.out)⟩⟩
           case round =>
            clear H'
            try clear c1
            try clear c2
            try clear p2
            try clear q2
            try clear hx2
            try clear c3
            try clear c4
            try clear c5
            try clear p6
            try clear c11
            try clear c12
            try clear c20
            try clear c23
            try clear p23
            try clear q23
            try clear hx23
            try clear c25
            try clear c25b0
            try clear p25
            try clear q25
            try clear hx25
            try clear c26
            try clear c26b0
            try clear c27
            try clear c27b0
            try clear c31
            try clear c32
            try clear c40
            try clear c41
            try clear c41b0
            try clear c41b1
            try clear c42
            try clear c46
            try clear c47
            try clear c57
            try clear c57b0
            try clear c58
            try clear c58b0
            try clear c59
            try clear c59b0
            try clear hcz13_0
            try clear hcz13_1
            try clear hcz17_0
            try clear hcz17_1
            try clear hcz20_0
            try clear hcz20_1
            try clear hcz24_0
            try clear hcz24_1
            try clear hcz33_0
            try clear hcz33_1
            try clear hcz38_0
            try clear hcz38_1
            try clear hcz48_0
            try clear hcz48_1
            try clear hcz53_0
            try clear hcz53_1
            try clear hcz56_0
            try clear hcz56_1
            try clear hfz13_0
            try clear hfz13_1
            try clear hfz17_0
            try clear hfz17_1
            try clear hfz20_0
            try clear hfz20_1
            try clear hfz24_0
            try clear hfz24_1
            try clear hfz33_0
            try clear hfz33_1
            try clear hfz38_0
            try clear hfz38_1
            try clear hfz48_0
            try clear hfz48_1
            try clear hfz53_0
            try clear hfz53_1
            try clear hfz56_0
            try clear hfz56_1
            try clear hx232_0
            try clear hx251_0
            try clear p2
            try clear p23
            try clear p232
            try clear p251
            try clear p6
            try clear q2
            try clear q23
            try clear q232
            try clear q251
            obtain ⟨x13_3, x14_3, x15_3, x16_3, x17_3, x77_3, x219001_3, x219002_3, rfl, rfl, rfl, HA, HK3, HO_13, HO_14, HO_15, HO_220000, BK217, BK219, HI218, HB⟩ := hrel
            cases gk with
            | zero => exact absurd HA.out (by simp [spec_SpotBytes.l2])
            | succ k3 =>
             have H := HA.out
             clear HA
             simp only [spec_SpotBytes.l2] at H
             by_cases c60 : x77_3 < ((rd_L3 l0 x71_2).length : Int)
             ·rw [if_pos c60] at H
              have c60b0 : decide (x77_3 < ((rd_L3 l0 x71_2).length : Int)) = true := decide_eq_true c60
              clear c60
              by_cases c61 : 0 ≤ x77_3
              ·rw [if_pos c61] at H
               have c61b0 : decide (0 ≤ x77_3) = true := decide_eq_true c61
               clear c61
               by_cases c62 : x77_3 < ((rd_L3 l0 x71_2).length : Int)
               ·rw [if_pos c62] at H
                have c62b0 : decide (x77_3 < ((rd_L3 l0 x71_2).length : Int)) = true := decide_eq_true c62
                clear c62
                have HC63 := Aside0.mk H
                clear H
                have p252 : 0 ≤ (x77_3 : Int) := of_decide_eq_true (by first | (with_reducible assumption) | assumption)
                have q252 : x77_3 < ((rd_L3 l0 x71_2).length : Int) := of_decide_eq_true (by first | (with_reducible assumption) | assumption)
                obtain ⟨ad252, e252, hx252_0, hx252_1, hx252_2⟩ := at_T51 HR251_0.out x77_3 p252 q252
                cases e252
                replace hx252_0 := (HB.out.cell (World.block_lt_of_cell? w _ hx252_0)).trans hx252_0
                replace hx252_1 := (HB.out.cell (World.block_lt_of_cell? w _ hx252_1)).trans hx252_1
                replace hx252_2 := (HB.out.cell (World.block_lt_of_cell? w _ hx252_2)).trans hx252_2
                replace p252 := eq_true p252
                replace q252 := eq_true q252
                go_upto_if 82 with (first | ((with_reducible refine gate_dst (N := 21) rfl ?_); refine box_event ?hg (N := 21) ?hd (cs := #[.bool false, .int .i64 0, .int .i64 0]) (t := 51) ?hr ?_; (case hd => rfl); (case hg => rfl); (case hr => first | (go_simp; done) | (go_simp; rfl)); intro gb253 hg w64 hbox hb; have n0_ := Aside0.mk (Kd.R_below (by (with_reducible repeat (first | apply Kd.R_alloc | apply Kd.R_drewN | apply Kd.R_drew)); exact HO_13.out) hb); have n1_ := Aside0.mk (Kd.R_below (by (with_reducible repeat (first | apply Kd.R_alloc | apply Kd.R_drewN | apply Kd.R_drew)); exact HO_14.out) hb); have n2_ := Aside0.mk (Kd.R_below (by (with_reducible repeat (first | apply Kd.R_alloc | apply Kd.R_drewN | apply Kd.R_drew)); exact HO_15.out) hb); have n3_ := Aside0.mk (Kd.R_below (by (with_reducible repeat (first | apply Kd.R_alloc | apply Kd.R_drewN | apply Kd.R_drew)); exact HO_220000.out) hb); have n4_ := Aside0.mk (blk_below (g := gb217) (o := .cells #[.int .i64 a1_0, .int .i64 a1_1, .int .i64 a1_2, .int .i64 a1_3] 49 (0, 0)) (by (with_reducible repeat (first | refine b1_ ?_ _ | refine b2_ ?_ | refine b3_ ?_ _)); exact BK217.out) hb); have n5_ := Aside0.mk (blk_below (g := gb219) (o := .cells #[.slice Ao55 y248.length co55, .slice none 0 0] 130 (0, 0)) (by (with_reducible repeat (first | refine b1_ ?_ _ | refine b2_ ?_ | refine b3_ ?_ _)); exact BK219.out) hb); have n6_ := Aside0.mk (IsS126.below ((show IsS126 w _ gb218 l2 x219001_3 x219002_3 from by repeat (first | (with_reducible first | exact HI218.out | apply IsS126.alloc | apply IsS126.drewN | apply IsS126.drew | apply IsS126.set_1 | apply IsS126.set_2 | refine IsS126.far ?_ NB218_217.out _ | refine IsS126.far ?_ NB218_219.out _) | exact HI218.out))) hb); have n7_ := Aside0.mk (below_step (by repeat (first | (with_reducible first | exact HB.out | apply below_alloc | apply pw_below_drewN | apply below_drew1 | refine below_set ?_ (IsS126.ge HI218.out) | refine below_set ?_ GE217.out | refine below_set ?_ GE219.out) | exact HB.out)) hb); have n8_ := Aside0.mk (hbox); have n9_ := Aside0.mk ((by rw [hg]; exact (below_size (by repeat (first | (with_reducible first | exact HB.out | apply below_alloc | apply pw_below_drewN | apply below_drew1 | refine below_set ?_ (IsS126.ge HI218.out) | refine below_set ?_ GE217.out | refine below_set ?_ GE219.out) | exact HB.out))) : w.heap.size ≤ gb253)); have n10_ := Aside0.mk ((by rw [hg]; exact (below_size (by repeat (first | (with_reducible first | exact HB.out | apply below_alloc | apply pw_below_drewN | apply below_drew1 | refine below_set ?_ (IsS126.ge HI218.out) | refine below_set ?_ GE217.out | refine below_set ?_ GE219.out) | exact HB.out))) : w.heap.size ≤ gb253)); have n11_ := Aside0.mk ((by rw [hg]; exact Nat.ne_of_lt (blk_lt (g := gb217) (o := .cells #[.int .i64 a1_0, .int .i64 a1_1, .int .i64 a1_2, .int .i64 a1_3] 49 (0, 0)) (by (with_reducible repeat (first | refine b1_ ?_ _ | refine b2_ ?_ | refine b3_ ?_ _)); exact BK217.out)) : gb217 ≠ gb253)); have n12_ := Aside0.mk ((by rw [hg]; exact Nat.ne_of_gt (blk_lt (g := gb217) (o := .cells #[.int .i64 a1_0, .int .i64 a1_1, .int .i64 a1_2, .int .i64 a1_3] 49 (0, 0)) (by (with_reducible repeat (first | refine b1_ ?_ _ | refine b2_ ?_ | refine b3_ ?_ _)); exact BK217.out)) : gb253 ≠ gb217)); have n13_ := Aside0.mk ((by rw [hg]; exact Nat.ne_of_lt (blk_lt (g := gb219) (o := .cells #[.slice Ao55 y248.length co55, .slice none 0 0] 130 (0, 0)) (by (with_reducible repeat (first | refine b1_ ?_ _ | refine b2_ ?_ | refine b3_ ?_ _)); exact BK219.out)) : gb219 ≠ gb253)); have n14_ := Aside0.mk ((by rw [hg]; exact Nat.ne_of_gt (blk_lt (g := gb219) (o := .cells #[.slice Ao55 y248.length co55, .slice none 0 0] 130 (0, 0)) (by (with_reducible repeat (first | refine b1_ ?_ _ | refine b2_ ?_ | refine b3_ ?_ _)); exact BK219.out)) : gb253 ≠ gb219)); have n15_ := Aside0.mk ((by rw [hg]; exact Nat.ne_of_lt (IsS126.lt (show IsS126 w _ gb218 l2 x219001_3 x219002_3 from (show IsS126 w _ gb218 l2 x219001_3 x219002_3 from by repeat (first | (with_reducible first | exact HI218.out | apply IsS126.alloc | apply IsS126.drewN | apply IsS126.drew | apply IsS126.set_1 | apply IsS126.set_2 | refine IsS126.far ?_ NB218_217.out _ | refine IsS126.far ?_ NB218_219.out _) | exact HI218.out)))) : gb218 ≠ gb253)); have n16_ := Aside0.mk ((by rw [hg]; exact Nat.ne_of_gt (IsS126.lt (show IsS126 w _ gb218 l2 x219001_3 x219002_3 from (show IsS126 w _ gb218 l2 x219001_3 x219002_3 from by repeat (first | (with_reducible first | exact HI218.out | apply IsS126.alloc | apply IsS126.drewN | apply IsS126.drew | apply IsS126.set_1 | apply IsS126.set_2 | refine IsS126.far ?_ NB218_217.out _ | refine IsS126.far ?_ NB218_219.out _) | exact HI218.out)))) : gb253 ≠ gb218)); clear HO_13; clear HO_14; clear HO_15; clear HO_220000; clear BK217; clear BK219; clear HI218; clear HB; have HO_13 := n0_; have HO_14 := n1_; have HO_15 := n2_; have HO_220000 := n3_; have BK217 := n4_; have BK219 := n5_; have HI218 := n6_; have HB := n7_; have BK253 := n8_; have GW253 := n9_; have GE253 := n10_; have NB217_253 := n11_; have NB253_217 := n12_; have NB219_253 := n13_; have NB253_219 := n14_; have NB218_253 := n15_; have NB253_218 := n16_; clear n0_ n1_ n2_ n3_ n4_ n5_ n6_ n7_ n8_ n9_ n10_ n11_ n12_ n13_ n14_ n15_ n16_; clear hb hbox hg; have hnb65 := NB253_217.out; have hnc65 := NB217_253.out; have hnb66 := NB253_219.out; have hnc66 := NB219_253.out; have hnb67 := NB253_218.out; have hnc67 := NB218_253.out; have hcz68_0 : w64.cell? ⟨gb253, 0, none⟩ = some (.bool false) := (blk_cell BK253.out 0).trans rfl; have hcz68_1 : w64.cell? ⟨gb253, 1, none⟩ = some (.int .i64 0) := (blk_cell BK253.out 1).trans rfl; have hcz68_2 : w64.cell? ⟨gb253, 2, none⟩ = some (.int .i64 0) := (blk_cell BK253.out 2).trans rfl; have hfz68_0 := blk_frozen BK253.out 0; have hfz68_1 := blk_frozen BK253.out 1; have hfz68_2 := blk_frozen BK253.out 2))
                (try simp only [Act.put, L1_, L2_, L3_])
                go_cut [22] (fun v22 wc => ∃ (kq : Nat) (x22_62 : Int), v22 = .int .u8 x22_62 ∧ Aside0 (spec_SpotBytes.j3 kq x13_3 x14_3 x15_3 x16_3 x17_3 x22_62 l0 (l0.length : Int) x71_2 (rd_L3 l0 x71_2) ((rd_L3 l0 x71_2).length : Int) x77_3 l2 x219001_3 x219002_3 y248 () ((rd_T51 (rd_L3 l0 x71_2) x77_3).f0) ((rd_T51 (rd_L3 l0 x71_2) x77_3).f1) ((rd_T51 (rd_L3 l0 x71_2) x77_3).f2) = some r) ∧ Aside0 (kq ≤ k3) ∧ Aside0 (Kd.R (Kd.int .u8) 5 wc w.heap.size (fun k_ => some k_ ≠ (u14 : Value).ownBlock ∧ some k_ ≠ (u15 : Value).ownBlock ∧ some k_ ≠ ((.slice Ao55 y248.length co55) : Value).ownBlock) u13 x13_3) ∧ Aside0 (Kd.R (Kd.int .u8) 5 wc w.heap.size (fun k_ => some k_ ≠ (u13 : Value).ownBlock ∧ some k_ ≠ (u15 : Value).ownBlock ∧ some k_ ≠ ((.slice Ao55 y248.length co55) : Value).ownBlock) u14 x14_3) ∧ Aside0 (Kd.R (Kd.int .u8) 5 wc w.heap.size (fun k_ => some k_ ≠ (u13 : Value).ownBlock ∧ some k_ ≠ (u14 : Value).ownBlock ∧ some k_ ≠ ((.slice Ao55 y248.length co55) : Value).ownBlock) u15 x15_3) ∧ Aside0 (Kd.R (Kd.int .u8) 5 wc w.heap.size (fun k_ => some k_ ≠ (u13 : Value).ownBlock ∧ some k_ ≠ (u14 : Value).ownBlock ∧ some k_ ≠ (u15 : Value).ownBlock) (.slice Ao55 y248.length co55) y248) ∧ Aside0 (wc.heap[gb217]? = some (.cells #[.int .i64 a1_0, .int .i64 a1_1, .int .i64 a1_2, .int .i64 a1_3] 49 (0, 0))) ∧ Aside0 (wc.heap[gb219]? = some (.cells #[(.slice Ao55 y248.length co55), .slice none 0 0] 130 (0, 0))) ∧ Aside0 (wc.heap[gb253]? = some (.cells #[.bool ((rd_T51 (rd_L3 l0 x71_2) x77_3).f0), .int .i64 ((rd_T51 (rd_L3 l0 x71_2) x77_3).f1), .int .i64 ((rd_T51 (rd_L3 l0 x71_2) x77_3).f2)] 51 (0, 0))) ∧ Aside0 (IsS126 w wc gb218 l2 x219001_3 x219002_3) ∧ Aside0 (Below w.heap.size w wc))
                case first =>
                 have H := HC63.out
                 clear HC63
                 obtain ⟨bq69, hbq69⟩ : ∃ b_ : Bool, b_ = ((rd_T51 (rd_L3 l0 x71_2) x77_3).f0) := ⟨_, rfl⟩
                 replace H : (if bq69 = true then (spec_SpotBytes.j3 k3 x13_3 x14_3 x15_3 x16_3 x17_3 1 l0 (l0.length : Int) x71_2 (rd_L3 l0 x71_2) ((rd_L3 l0 x71_2).length : Int) x77_3 l2 x219001_3 x219002_3 y248 () bq69 ((rd_T51 (rd_L3 l0 x71_2) x77_3).f1) ((rd_T51 (rd_L3 l0 x71_2) x77_3).f2)) else (spec_SpotBytes.j3 k3 x13_3 x14_3 x15_3 x16_3 x17_3 0 l0 (l0.length : Int) x71_2 (rd_L3 l0 x71_2) ((rd_L3 l0 x71_2).length : Int) x77_3 l2 x219001_3 x219002_3 y248 () bq69 ((rd_T51 (rd_L3 l0 x71_2) x77_3).f1) ((rd_T51 (rd_L3 l0 x71_2) x77_3).f2))) = some r := by rw [← hbq69] at H; exact H
                 have Nbq69 := Aside0.mk hbq69
                 try (have B0_ := BK253.out; rw [← Nbq69.out] at B0_; replace BK253 := Aside0.mk B0_; clear B0_)
                 clear hbq69
                 (try rw [← Nbq69.out])
                 by_cases c70 : bq69 = true
                 ·subst c70
                  have H1 : (spec_SpotBytes.j3 k3 x13_3 x14_3 x15_3 x16_3 x17_3 1 l0 (l0.length : Int) x71_2 (rd_L3 l0 x71_2) ((rd_L3 l0 x71_2).length : Int) x77_3 l2 x219001_3 x219002_3 y248 () true ((rd_T51 (rd_L3 l0 x71_2) x77_3).f1) ((rd_T51 (rd_L3 l0 x71_2) x77_3).f2)) = some r := by rw [if_pos rfl] at H; exact H
                  clear H
                  have H := H1
                  clear H1
                  have H' := Aside0.mk H
                  clear H
                  go_wp2
                  go_meet
                  case rel => exact ⟨_, (1), (by first | rfl | (simp; done) | (simp [*]; done)), (by (try rw [← Nbq69.out]); exact H'), ⟨by have := HK1.out; have := HK2.out; have := HK3.out; first | omega | exact Nat.le_refl _⟩, ⟨by (with_reducible repeat (first | apply Kd.R_alloc | apply Kd.R_drewN | apply Kd.R_drew)); exact Kd.R_mono (Kd.R_far (p := ⟨gb253, 2, none⟩) (Kd.R_far (p := ⟨gb253, 1, none⟩) (Kd.R_far (p := ⟨gb253, 0, none⟩) (Kd.R_types HO_13.out BK253.out (by decide)) (fun _ hk => hk.2) (.bool (true))) (fun _ hk => hk.2) (.int .i64 ((rd_T51 (rd_L3 l0 x71_2) x77_3).f1))) (fun _ hk => hk.2) (.int .i64 ((rd_T51 (rd_L3 l0 x71_2) x77_3).f2))) (fun _ hk => ⟨hk.1.1, ⟨hk.1.2.1, hk.1.2.2⟩⟩)⟩, ⟨by (with_reducible repeat (first | apply Kd.R_alloc | apply Kd.R_drewN | apply Kd.R_drew)); exact Kd.R_mono (Kd.R_far (p := ⟨gb253, 2, none⟩) (Kd.R_far (p := ⟨gb253, 1, none⟩) (Kd.R_far (p := ⟨gb253, 0, none⟩) (Kd.R_types HO_14.out BK253.out (by decide)) (fun _ hk => hk.2) (.bool (true))) (fun _ hk => hk.2) (.int .i64 ((rd_T51 (rd_L3 l0 x71_2) x77_3).f1))) (fun _ hk => hk.2) (.int .i64 ((rd_T51 (rd_L3 l0 x71_2) x77_3).f2))) (fun _ hk => ⟨hk.1.1, ⟨hk.1.2.1, hk.1.2.2⟩⟩)⟩, ⟨by (with_reducible repeat (first | apply Kd.R_alloc | apply Kd.R_drewN | apply Kd.R_drew)); exact Kd.R_mono (Kd.R_far (p := ⟨gb253, 2, none⟩) (Kd.R_far (p := ⟨gb253, 1, none⟩) (Kd.R_far (p := ⟨gb253, 0, none⟩) (Kd.R_types HO_15.out BK253.out (by decide)) (fun _ hk => hk.2) (.bool (true))) (fun _ hk => hk.2) (.int .i64 ((rd_T51 (rd_L3 l0 x71_2) x77_3).f1))) (fun _ hk => hk.2) (.int .i64 ((rd_T51 (rd_L3 l0 x71_2) x77_3).f2))) (fun _ hk => ⟨hk.1.1, ⟨hk.1.2.1, hk.1.2.2⟩⟩)⟩, ⟨by (with_reducible repeat (first | apply Kd.R_alloc | apply Kd.R_drewN | apply Kd.R_drew)); exact Kd.R_mono (Kd.R_far (p := ⟨gb253, 2, none⟩) (Kd.R_far (p := ⟨gb253, 1, none⟩) (Kd.R_far (p := ⟨gb253, 0, none⟩) (Kd.R_types HO_220000.out BK253.out (by decide)) (fun _ hk => hk.2) (.bool (true))) (fun _ hk => hk.2) (.int .i64 ((rd_T51 (rd_L3 l0 x71_2) x77_3).f1))) (fun _ hk => hk.2) (.int .i64 ((rd_T51 (rd_L3 l0 x71_2) x77_3).f2))) (fun _ hk => ⟨hk.1.1, ⟨hk.1.2.1, hk.1.2.2⟩⟩)⟩, ⟨by (with_reducible repeat (first | refine b1_ ?_ _ | refine b2_ ?_ | refine b3_ ?_ _)); refine blk_far ?_ NB217_253.out _; (with_reducible repeat (first | refine b1_ ?_ _ | refine b2_ ?_ | refine b3_ ?_ _)); refine blk_far ?_ NB217_253.out _; (with_reducible repeat (first | refine b1_ ?_ _ | refine b2_ ?_ | refine b3_ ?_ _)); refine blk_far ?_ NB217_253.out _; (with_reducible repeat (first | refine b1_ ?_ _ | refine b2_ ?_ | refine b3_ ?_ _)); exact BK217.out⟩, ⟨by (with_reducible repeat (first | refine b1_ ?_ _ | refine b2_ ?_ | refine b3_ ?_ _)); refine blk_far ?_ NB219_253.out _; (with_reducible repeat (first | refine b1_ ?_ _ | refine b2_ ?_ | refine b3_ ?_ _)); refine blk_far ?_ NB219_253.out _; (with_reducible repeat (first | refine b1_ ?_ _ | refine b2_ ?_ | refine b3_ ?_ _)); refine blk_far ?_ NB219_253.out _; (with_reducible repeat (first | refine b1_ ?_ _ | refine b2_ ?_ | refine b3_ ?_ _)); exact BK219.out⟩, ⟨by (try rw [← Nbq69.out]); (with_reducible repeat (first | refine b1_ ?_ _ | refine b2_ ?_ | refine b3_ ?_ _)); refine blk_put (cs := #[.bool (true), .int .i64 ((rd_T51 (rd_L3 l0 x71_2) x77_3).f1), .int .i64 0]) ?_ 2 _ rfl; (with_reducible repeat (first | refine b1_ ?_ _ | refine b2_ ?_ | refine b3_ ?_ _)); refine blk_put (cs := #[.bool (true), .int .i64 0, .int .i64 0]) ?_ 1 _ rfl; (with_reducible repeat (first | refine b1_ ?_ _ | refine b2_ ?_ | refine b3_ ?_ _)); refine blk_put (cs := #[.bool false, .int .i64 0, .int .i64 0]) ?_ 0 _ rfl; (with_reducible repeat (first | refine b1_ ?_ _ | refine b2_ ?_ | refine b3_ ?_ _)); exact BK253.out⟩, ⟨(show IsS126 w _ gb218 l2 x219001_3 x219002_3 from by repeat (first | (with_reducible first | exact HI218.out | apply IsS126.alloc | apply IsS126.drewN | apply IsS126.drew | apply IsS126.set_1 | apply IsS126.set_2 | refine IsS126.far ?_ NB218_217.out _ | refine IsS126.far ?_ NB218_219.out _ | refine IsS126.far ?_ NB218_253.out _) | exact HI218.out))⟩, ⟨by repeat (first | (with_reducible first | exact HB.out | apply below_alloc | apply pw_below_drewN | apply below_drew1 | refine below_set ?_ (IsS126.ge HI218.out) | refine below_set ?_ GE217.out | refine below_set ?_ GE219.out | refine below_set ?_ GE253.out) | exact HB.out)⟩⟩
                 ·replace c70 := Bool.eq_false_iff.mpr c70
                  subst c70
                  have H1 : (spec_SpotBytes.j3 k3 x13_3 x14_3 x15_3 x16_3 x17_3 0 l0 (l0.length : Int) x71_2 (rd_L3 l0 x71_2) ((rd_L3 l0 x71_2).length : Int) x77_3 l2 x219001_3 x219002_3 y248 () false ((rd_T51 (rd_L3 l0 x71_2) x77_3).f1) ((rd_T51 (rd_L3 l0 x71_2) x77_3).f2)) = some r := by rw [if_neg (show ¬ (false = true) by decide)] at H; exact H
                  clear H
                  have H := H1
                  clear H1
                  have H' := Aside0.mk H
                  clear H
                  go_wp2
                  go_meet
                  case rel => exact ⟨_, (0), (by first | rfl | (simp; done) | (simp [*]; done)), (by (try rw [← Nbq69.out]); exact H'), ⟨by have := HK1.out; have := HK2.out; have := HK3.out; first | omega | exact Nat.le_refl _⟩, ⟨by (with_reducible repeat (first | apply Kd.R_alloc | apply Kd.R_drewN | apply Kd.R_drew)); exact Kd.R_mono (Kd.R_far (p := ⟨gb253, 2, none⟩) (Kd.R_far (p := ⟨gb253, 1, none⟩) (Kd.R_far (p := ⟨gb253, 0, none⟩) (Kd.R_types HO_13.out BK253.out (by decide)) (fun _ hk => hk.2) (.bool (false))) (fun _ hk => hk.2) (.int .i64 ((rd_T51 (rd_L3 l0 x71_2) x77_3).f1))) (fun _ hk => hk.2) (.int .i64 ((rd_T51 (rd_L3 l0 x71_2) x77_3).f2))) (fun _ hk => ⟨hk.1.1, ⟨hk.1.2.1, hk.1.2.2⟩⟩)⟩, ⟨by (with_reducible repeat (first | apply Kd.R_alloc | apply Kd.R_drewN | apply Kd.R_drew)); exact Kd.R_mono (Kd.R_far (p := ⟨gb253, 2, none⟩) (Kd.R_far (p := ⟨gb253, 1, none⟩) (Kd.R_far (p := ⟨gb253, 0, none⟩) (Kd.R_types HO_14.out BK253.out (by decide)) (fun _ hk => hk.2) (.bool (false))) (fun _ hk => hk.2) (.int .i64 ((rd_T51 (rd_L3 l0 x71_2) x77_3).f1))) (fun _ hk => hk.2) (.int .i64 ((rd_T51 (rd_L3 l0 x71_2) x77_3).f2))) (fun _ hk => ⟨hk.1.1, ⟨hk.1.2.1, hk.1.2.2⟩⟩)⟩, ⟨by (with_reducible repeat (first | apply Kd.R_alloc | apply Kd.R_drewN | apply Kd.R_drew)); exact Kd.R_mono (Kd.R_far (p := ⟨gb253, 2, none⟩) (Kd.R_far (p := ⟨gb253, 1, none⟩) (Kd.R_far (p := ⟨gb253, 0, none⟩) (Kd.R_types HO_15.out BK253.out (by decide)) (fun _ hk => hk.2) (.bool (false))) (fun _ hk => hk.2) (.int .i64 ((rd_T51 (rd_L3 l0 x71_2) x77_3).f1))) (fun _ hk => hk.2) (.int .i64 ((rd_T51 (rd_L3 l0 x71_2) x77_3).f2))) (fun _ hk => ⟨hk.1.1, ⟨hk.1.2.1, hk.1.2.2⟩⟩)⟩, ⟨by (with_reducible repeat (first | apply Kd.R_alloc | apply Kd.R_drewN | apply Kd.R_drew)); exact Kd.R_mono (Kd.R_far (p := ⟨gb253, 2, none⟩) (Kd.R_far (p := ⟨gb253, 1, none⟩) (Kd.R_far (p := ⟨gb253, 0, none⟩) (Kd.R_types HO_220000.out BK253.out (by decide)) (fun _ hk => hk.2) (.bool (false))) (fun _ hk => hk.2) (.int .i64 ((rd_T51 (rd_L3 l0 x71_2) x77_3).f1))) (fun _ hk => hk.2) (.int .i64 ((rd_T51 (rd_L3 l0 x71_2) x77_3).f2))) (fun _ hk => ⟨hk.1.1, ⟨hk.1.2.1, hk.1.2.2⟩⟩)⟩, ⟨by (with_reducible repeat (first | refine b1_ ?_ _ | refine b2_ ?_ | refine b3_ ?_ _)); refine blk_far ?_ NB217_253.out _; (with_reducible repeat (first | refine b1_ ?_ _ | refine b2_ ?_ | refine b3_ ?_ _)); refine blk_far ?_ NB217_253.out _; (with_reducible repeat (first | refine b1_ ?_ _ | refine b2_ ?_ | refine b3_ ?_ _)); refine blk_far ?_ NB217_253.out _; (with_reducible repeat (first | refine b1_ ?_ _ | refine b2_ ?_ | refine b3_ ?_ _)); exact BK217.out⟩, ⟨by (with_reducible repeat (first | refine b1_ ?_ _ | refine b2_ ?_ | refine b3_ ?_ _)); refine blk_far ?_ NB219_253.out _; (with_reducible repeat (first | refine b1_ ?_ _ | refine b2_ ?_ | refine b3_ ?_ _)); refine blk_far ?_ NB219_253.out _; (with_reducible repeat (first | refine b1_ ?_ _ | refine b2_ ?_ | refine b3_ ?_ _)); refine blk_far ?_ NB219_253.out _; (with_reducible repeat (first | refine b1_ ?_ _ | refine b2_ ?_ | refine b3_ ?_ _)); exact BK219.out⟩, ⟨by (try rw [← Nbq69.out]); (with_reducible repeat (first | refine b1_ ?_ _ | refine b2_ ?_ | refine b3_ ?_ _)); refine blk_put (cs := #[.bool (false), .int .i64 ((rd_T51 (rd_L3 l0 x71_2) x77_3).f1), .int .i64 0]) ?_ 2 _ rfl; (with_reducible repeat (first | refine b1_ ?_ _ | refine b2_ ?_ | refine b3_ ?_ _)); refine blk_put (cs := #[.bool (false), .int .i64 0, .int .i64 0]) ?_ 1 _ rfl; (with_reducible repeat (first | refine b1_ ?_ _ | refine b2_ ?_ | refine b3_ ?_ _)); refine blk_put (cs := #[.bool false, .int .i64 0, .int .i64 0]) ?_ 0 _ rfl; (with_reducible repeat (first | refine b1_ ?_ _ | refine b2_ ?_ | refine b3_ ?_ _)); exact BK253.out⟩, ⟨(show IsS126 w _ gb218 l2 x219001_3 x219002_3 from by repeat (first | (with_reducible first | exact HI218.out | apply IsS126.alloc | apply IsS126.drewN | apply IsS126.drew | apply IsS126.set_1 | apply IsS126.set_2 | refine IsS126.far ?_ NB218_217.out _ | refine IsS126.far ?_ NB218_219.out _ | refine IsS126.far ?_ NB218_253.out _) | exact HI218.out))⟩, ⟨by repeat (first | (with_reducible first | exact HB.out | apply below_alloc | apply pw_below_drewN | apply below_drew1 | refine below_set ?_ (IsS126.ge HI218.out) | refine below_set ?_ GE217.out | refine below_set ?_ GE219.out | refine below_set ?_ GE253.out) | exact HB.out)⟩⟩
                case rest =>
                 clear HC63
                 try clear c1
                 try clear c2
                 try clear p2
                 try clear q2
                 try clear hx2
                 try clear c3
                 try clear c4
                 try clear c5
                 try clear c6
                 try clear p6
                 try clear q6
                 try clear c7
                 try clear c11
                 try clear c12
                 try clear c20
                 try clear c23
                 try clear p23
                 try clear q23
                 try clear hx23
                 try clear c25
                 try clear c25b0
                 try clear p25
                 try clear q25
                 try clear hx25
                 try clear c26
                 try clear c26b0
                 try clear c27
                 try clear c27b0
                 try clear c31
                 try clear c32
                 try clear c40
                 try clear c41
                 try clear c41b0
                 try clear c41b1
                 try clear c42
                 try clear c46
                 try clear c47
                 try clear c57
                 try clear c57b0
                 try clear c58
                 try clear c58b0
                 try clear c59
                 try clear c59b0
                 try clear c60
                 try clear c60b0
                 try clear c61
                 try clear c61b0
                 try clear c62
                 try clear c62b0
                 try clear p64
                 try clear c65
                 try clear c66
                 try clear c67
                 try clear q69
                 try clear c70
                 try clear hcz13_0
                 try clear hcz13_1
                 try clear hcz17_0
                 try clear hcz17_1
                 try clear hcz20_0
                 try clear hcz20_1
                 try clear hcz24_0
                 try clear hcz24_1
                 try clear hcz33_0
                 try clear hcz33_1
                 try clear hcz38_0
                 try clear hcz38_1
                 try clear hcz48_0
                 try clear hcz48_1
                 try clear hcz53_0
                 try clear hcz53_1
                 try clear hcz56_0
                 try clear hcz56_1
                 try clear hcz68_0
                 try clear hcz68_1
                 try clear hcz68_2
                 try clear hfz13_0
                 try clear hfz13_1
                 try clear hfz17_0
                 try clear hfz17_1
                 try clear hfz20_0
                 try clear hfz20_1
                 try clear hfz24_0
                 try clear hfz24_1
                 try clear hfz33_0
                 try clear hfz33_1
                 try clear hfz38_0
                 try clear hfz38_1
                 try clear hfz48_0
                 try clear hfz48_1
                 try clear hfz53_0
                 try clear hfz53_1
                 try clear hfz56_0
                 try clear hfz56_1
                 try clear hfz68_0
                 try clear hfz68_1
                 try clear hfz68_2
                 try clear hx232_0
                 try clear hx251_0
                 try clear hx252_0
                 try clear hx252_1
                 try clear hx252_2
                 try clear p2
                 try clear p23
                 try clear p232
                 try clear p25
                 try clear p251
                 try clear p252
                 try clear p6
                 try clear q2
                 try clear q23
                 try clear q232
                 try clear q25
                 try clear q251
                 try clear q252
                 obtain ⟨kq, x22_62, rfl, HA, HJ62, HO_13, HO_14, HO_15, HO_220000, BK217, BK219, BK253, HI218, HB⟩ := hcut
                 cases kq with
                 | zero => exact absurd HA.out (by simp [spec_SpotBytes.j3])
                 | succ kj62 =>
                  have H := HA.out
                  clear HA
                  simp only [spec_SpotBytes.j3] at H
                  replace H := Option.bind_eq_some_iff.mp H
                  obtain ⟨⟨t254, t257, t258, t259⟩, A710, H⟩ := H
                  replace H : ((spec_writer_step.f kj62 l2 t258 t259 x15_3 (wrap64 (((rd_T51 (rd_L3 l0 x71_2) x77_3).f2) - x17_3)) 4 32).bind fun bt260 => (if x13_3.length < 140737488355328 then (spec_SpotBytes.l2 kj62 (x13_3 ++ [Go.bits .or .u8 (Go.bits .or .u8 x22_62 t257) bt260.2.1]) t254 bt260.1 ((rd_T51 (rd_L3 l0 x71_2) x77_3).f1) ((rd_T51 (rd_L3 l0 x71_2) x77_3).f2) l0 (l0.length : Int) x71_2 (rd_L3 l0 x71_2) ((rd_L3 l0 x71_2).length : Int) (wrap64 (x77_3 + 1)) l2 bt260.2.2.1 bt260.2.2.2 y248 ()) else (none))) = some r := H
                  have A71 := Aside0.mk A710
                  clear A710
                  replace H := Option.bind_eq_some_iff.mp H
                  obtain ⟨⟨t260, t263, t264, t265⟩, A720, H⟩ := H
                  replace H : (if x13_3.length < 140737488355328 then (spec_SpotBytes.l2 kj62 (x13_3 ++ [Go.bits .or .u8 (Go.bits .or .u8 x22_62 t257) t263]) t254 t260 ((rd_T51 (rd_L3 l0 x71_2) x77_3).f1) ((rd_T51 (rd_L3 l0 x71_2) x77_3).f2) l0 (l0.length : Int) x71_2 (rd_L3 l0 x71_2) ((rd_L3 l0 x71_2).length : Int) (wrap64 (x77_3 + 1)) l2 t264 t265 y248 ()) else (none)) = some r := H
                  have A72 := Aside0.mk A720
                  clear A720
                  by_cases c73 : x13_3.length < 140737488355328
                  ·rw [if_pos c73] at H
                   have LMc73 := Aside0.mk c73
                   clear c73
                   obtain ⟨y266, hy266⟩ : ∃ y_ : List Int, y_ = (x13_3 ++ [Go.bits .or .u8 (Go.bits .or .u8 x22_62 t257) t263]) := ⟨_, rfl⟩
                   replace H : (spec_SpotBytes.l2 kj62 y266 t254 t260 ((rd_T51 (rd_L3 l0 x71_2) x77_3).f1) ((rd_T51 (rd_L3 l0 x71_2) x77_3).f2) l0 (l0.length : Int) x71_2 (rd_L3 l0 x71_2) ((rd_L3 l0 x71_2).length : Int) (wrap64 (x77_3 + 1)) l2 t264 t265 y248 ()) = some r := by first | (rw [hy266]; with_reducible exact H) | (have H2_ := (Option.bind_some _ _).symm.trans H; rw [hy266]; with_reducible exact H2_) | (have H2_ := (Option.bind_some _ _).symm.trans H; with_reducible exact H2_) | with_reducible exact H | (rw [hy266]; exact H) | exact H
                   have Ny266 := Aside0.mk hy266
                   clear hy266
                   have H' := Aside0.mk H
                   clear H
                   have hnb74 := NB253_217.out
                   have hnc74 := NB217_253.out
                   have hnb75 := NB253_219.out
                   have hnc75 := NB219_253.out
                   have hnb76 := NB253_218.out
                   have hnc76 := NB218_253.out
                   have hcz77_0 : wc.cell? ⟨gb253, 0, none⟩ = some (.bool ((rd_T51 (rd_L3 l0 x71_2) x77_3).f0)) := (blk_cell BK253.out 0).trans rfl
                   have hcz77_1 : wc.cell? ⟨gb253, 1, none⟩ = some (.int .i64 ((rd_T51 (rd_L3 l0 x71_2) x77_3).f1)) := (blk_cell BK253.out 1).trans rfl
                   have hcz77_2 : wc.cell? ⟨gb253, 2, none⟩ = some (.int .i64 ((rd_T51 (rd_L3 l0 x71_2) x77_3).f2)) := (blk_cell BK253.out 2).trans rfl
                   have hfz77_0 := blk_frozen BK253.out 0
                   have hfz77_1 := blk_frozen BK253.out 1
                   have hfz77_2 := blk_frozen BK253.out 2
                   obtain ⟨Ao78, co78, eo78⟩ := Kd.R_slice HO_14.out
                   subst eo78
                   try go_wp2_with (first | ((with_reducible refine gate_callee (f := 42) rfl ?_); refine goesL_ (some 90) rfl rfl Try.func42 (by kernel_rfl) rfl #[.pointer (some ⟨gb218, 0, none⟩), .slice Ao78 x14_3.length co78, .int .i64 (wrap64 (((rd_T51 (rd_L3 l0 x71_2) x77_3).f1) - x16_3)), .int .u8 2, .int .u8 16] rfl (by (try simp only [List.map_toArray, List.map_cons, List.map_nil]); first | done | rfl | (simp only [List.length_drop, List.length_take]; rfl)) ?_; (with_reducible refine (spec_writer_step.calls kj62 gb218 l2 x219001_3 x219002_3 (fun k_ => some k_ = (.slice Ao78 x14_3.length co78 : Value).ownBlock) (.slice Ao78 x14_3.length co78) x14_3 (wrap64 (((rd_T51 (rd_L3 l0 x71_2) x77_3).f1) - x16_3)) 2 16 t254 t257 t258 t259 w _ ?side1 ?side2 ?side3 A71.out).mono ?_); (case side1 => repeat (first | (with_reducible first | exact HI218.out | apply IsS126.alloc | apply IsS126.drewN | apply IsS126.drew | apply IsS126.set_1 | apply IsS126.set_2 | refine IsS126.far ?_ NB218_217.out _ | refine IsS126.far ?_ NB218_219.out _ | refine IsS126.far ?_ NB218_253.out _) | exact HI218.out)); (case side2 => repeat (first | (with_reducible first | exact HB.out | apply below_alloc | apply pw_below_drewN | apply below_drew1 | refine below_set ?_ (IsS126.ge HI218.out) | refine below_set ?_ GE217.out | refine below_set ?_ GE219.out | refine below_set ?_ GE253.out) | exact HB.out)); (case side3 => exact Kd.R_tight rfl HO_14.out); rintro e w79 ⟨v255, rfl, ho0, hi, hb, hkp⟩; refine ⟨_, rfl, ?_⟩; have n0_ := Aside0.mk (Kd.R_mono (ok' := fun k_ => some k_ ≠ (u15 : Value).ownBlock ∧ some k_ ≠ (.slice Ao55 y248.length co55 : Value).ownBlock ∧ some k_ ≠ (v255 : Value).ownBlock) (Kd.R_keptB ((IsS126.apart HI218.out HO_13.out (by decide))) hkp (fun k_ hk_ hs_ => Or.elim hs_ (fun hs_ => (hk_.1.1) hs_) (fun e_ => (hk_.2) e_))) (fun k_ hk_ => ⟨hk_.1.1.2.1, hk_.1.1.2.2, fun e_ => Or.elim (ho0.1 k_ e_.symm) (fun hs_ => hk_.2.1 (.inl hs_)) (fun hn_ => Nat.not_le.2 hk_.2.2 hn_)⟩)); have n1_ := Aside0.mk (Kd.R_mono (ok' := fun k_ => some k_ ≠ (u13 : Value).ownBlock ∧ some k_ ≠ (.slice Ao55 y248.length co55 : Value).ownBlock ∧ some k_ ≠ (v255 : Value).ownBlock) (Kd.R_keptB ((IsS126.apart HI218.out HO_15.out (by decide))) hkp (fun k_ hk_ hs_ => Or.elim hs_ (fun hs_ => (hk_.1.2.1) hs_) (fun e_ => (hk_.2) e_))) (fun k_ hk_ => ⟨hk_.1.1.1, hk_.1.1.2.2, fun e_ => Or.elim (ho0.1 k_ e_.symm) (fun hs_ => hk_.2.1 (.inl hs_)) (fun hn_ => Nat.not_le.2 hk_.2.2 hn_)⟩)); have n2_ := Aside0.mk (Kd.R_mono (ok' := fun k_ => some k_ ≠ (u13 : Value).ownBlock ∧ some k_ ≠ (u15 : Value).ownBlock ∧ some k_ ≠ (v255 : Value).ownBlock) (Kd.R_keptB ((IsS126.apart HI218.out HO_220000.out (by decide))) hkp (fun k_ hk_ hs_ => Or.elim hs_ (fun hs_ => (hk_.1.2.1) hs_) (fun e_ => (hk_.2) e_))) (fun k_ hk_ => ⟨hk_.1.1.1, hk_.1.1.2.2, fun e_ => Or.elim (ho0.1 k_ e_.symm) (fun hs_ => hk_.2.1 (.inl hs_)) (fun hn_ => Nat.not_le.2 hk_.2.2 hn_)⟩)); have n3_ := Aside0.mk (blk_kept (by (with_reducible repeat (first | refine b1_ ?_ _ | refine b2_ ?_ | refine b3_ ?_ _)); exact BK217.out) hkp (fun hs_ => Or.elim hs_ (fun hs_ => (fun e_ => (Kd.R_ne HO_14.out BK217.out (by decide)) e_) hs_) (fun e_ => NB217_218.out e_))); have n4_ := Aside0.mk (blk_kept (by (with_reducible repeat (first | refine b1_ ?_ _ | refine b2_ ?_ | refine b3_ ?_ _)); exact BK219.out) hkp (fun hs_ => Or.elim hs_ (fun hs_ => (fun e_ => (Kd.R_ne HO_14.out BK219.out (by decide)) e_) hs_) (fun e_ => NB219_218.out e_))); have n5_ := Aside0.mk (blk_kept (by (with_reducible repeat (first | refine b1_ ?_ _ | refine b2_ ?_ | refine b3_ ?_ _)); exact BK253.out) hkp (fun hs_ => Or.elim hs_ (fun hs_ => (fun e_ => (Kd.R_ne HO_14.out BK253.out (by decide)) e_) hs_) (fun e_ => NB253_218.out e_))); have n6_ := Aside0.mk (hi); have n7_ := Aside0.mk (Kd.R_mono (ok' := fun k_ => some k_ ≠ (u13 : Value).ownBlock ∧ some k_ ≠ (u15 : Value).ownBlock ∧ some k_ ≠ (.slice Ao55 y248.length co55 : Value).ownBlock) ho0 (fun k_ hk_ => ⟨Or.elim hk_ (fun hs_ => fun e_ => ((((IsS126.apart HI218.out HO_13.out (by decide))).1 k_ e_.symm).1.1) hs_) (fun hn_ => (Kd.fresh' (Kd.R_lt (by (with_reducible repeat (first | apply Kd.R_alloc | apply Kd.R_drewN | apply Kd.R_drew)); exact HO_13.out)) k_ hn_)), Or.elim hk_ (fun hs_ => fun e_ => ((((IsS126.apart HI218.out HO_15.out (by decide))).1 k_ e_.symm).1.2.1) hs_) (fun hn_ => (Kd.fresh' (Kd.R_lt (by (with_reducible repeat (first | apply Kd.R_alloc | apply Kd.R_drewN | apply Kd.R_drew)); exact HO_15.out)) k_ hn_)), Or.elim hk_ (fun hs_ => fun e_ => ((((IsS126.apart HI218.out HO_220000.out (by decide))).1 k_ e_.symm).1.2.1) hs_) (fun hn_ => (Kd.fresh' (Kd.R_lt (by (with_reducible repeat (first | apply Kd.R_alloc | apply Kd.R_drewN | apply Kd.R_drew)); exact HO_220000.out)) k_ hn_))⟩)); have n8_ := Aside0.mk (hb); clear HO_13; clear HO_15; clear HO_220000; clear BK217; clear BK219; clear BK253; clear HI218; clear HB; clear HO_14; have HO_13 := n0_; have HO_15 := n1_; have HO_220000 := n2_; have BK217 := n3_; have BK219 := n4_; have BK253 := n5_; have HI218 := n6_; have HO256 := n7_; have HB := n8_; clear n0_ n1_ n2_ n3_ n4_ n5_ n6_ n7_ n8_; (try clear hb); (try clear hkp); (try clear ho0); have hcz80_0 : w79.cell? ⟨gb253, 0, none⟩ = some (.bool ((rd_T51 (rd_L3 l0 x71_2) x77_3).f0)) := (blk_cell BK253.out 0).trans rfl; have hcz80_1 : w79.cell? ⟨gb253, 1, none⟩ = some (.int .i64 ((rd_T51 (rd_L3 l0 x71_2) x77_3).f1)) := (blk_cell BK253.out 1).trans rfl; have hcz80_2 : w79.cell? ⟨gb253, 2, none⟩ = some (.int .i64 ((rd_T51 (rd_L3 l0 x71_2) x77_3).f2)) := (blk_cell BK253.out 2).trans rfl; have hfz80_0 := blk_frozen BK253.out 0; have hfz80_1 := blk_frozen BK253.out 1; have hfz80_2 := blk_frozen BK253.out 2; obtain ⟨Ao81, co81, eo81⟩ := Kd.R_slice HO_15.out; subst eo81) | ((with_reducible refine gate_callee (f := 42) rfl ?_); refine goesL_ (some 100) rfl rfl Try.func42 (by kernel_rfl) rfl #[.pointer (some ⟨gb218, 0, none⟩), .slice Ao81 x15_3.length co81, .int .i64 (wrap64 (((rd_T51 (rd_L3 l0 x71_2) x77_3).f2) - x17_3)), .int .u8 4, .int .u8 32] rfl (by (try simp only [List.map_toArray, List.map_cons, List.map_nil]); first | done | rfl | (simp only [List.length_drop, List.length_take]; rfl)) ?_; (with_reducible refine (spec_writer_step.calls kj62 gb218 l2 t258 t259 (fun k_ => some k_ = (.slice Ao81 x15_3.length co81 : Value).ownBlock) (.slice Ao81 x15_3.length co81) x15_3 (wrap64 (((rd_T51 (rd_L3 l0 x71_2) x77_3).f2) - x17_3)) 4 32 t260 t263 t264 t265 w _ ?side1 ?side2 ?side3 A72.out).mono ?_); (case side1 => repeat (first | (with_reducible first | exact HI218.out | apply IsS126.alloc | apply IsS126.drewN | apply IsS126.drew | apply IsS126.set_1 | apply IsS126.set_2 | refine IsS126.far ?_ NB218_217.out _ | refine IsS126.far ?_ NB218_219.out _ | refine IsS126.far ?_ NB218_253.out _) | exact HI218.out)); (case side2 => repeat (first | (with_reducible first | exact HB.out | apply below_alloc | apply pw_below_drewN | apply below_drew1 | refine below_set ?_ (IsS126.ge HI218.out) | refine below_set ?_ GE217.out | refine below_set ?_ GE219.out | refine below_set ?_ GE253.out) | exact HB.out)); (case side3 => exact Kd.R_tight rfl HO_15.out); rintro e w82 ⟨v261, rfl, ho0, hi, hb, hkp⟩; refine ⟨_, rfl, ?_⟩; have n0_ := Aside0.mk (Kd.R_mono (ok' := fun k_ => some k_ ≠ (.slice Ao55 y248.length co55 : Value).ownBlock ∧ some k_ ≠ (v255 : Value).ownBlock ∧ some k_ ≠ (v261 : Value).ownBlock) (Kd.R_keptB ((IsS126.apart HI218.out HO_13.out (by decide))) hkp (fun k_ hk_ hs_ => Or.elim hs_ (fun hs_ => (hk_.1.1) hs_) (fun e_ => (hk_.2) e_))) (fun k_ hk_ => ⟨hk_.1.1.2.1, hk_.1.1.2.2, fun e_ => Or.elim (ho0.1 k_ e_.symm) (fun hs_ => hk_.2.1 (.inl hs_)) (fun hn_ => Nat.not_le.2 hk_.2.2 hn_)⟩)); have n1_ := Aside0.mk (Kd.R_mono (ok' := fun k_ => some k_ ≠ (u13 : Value).ownBlock ∧ some k_ ≠ (v255 : Value).ownBlock ∧ some k_ ≠ (v261 : Value).ownBlock) (Kd.R_keptB ((IsS126.apart HI218.out HO_220000.out (by decide))) hkp (fun k_ hk_ hs_ => Or.elim hs_ (fun hs_ => (hk_.1.2.1) hs_) (fun e_ => (hk_.2) e_))) (fun k_ hk_ => ⟨hk_.1.1.1, hk_.1.1.2.2, fun e_ => Or.elim (ho0.1 k_ e_.symm) (fun hs_ => hk_.2.1 (.inl hs_)) (fun hn_ => Nat.not_le.2 hk_.2.2 hn_)⟩)); have n2_ := Aside0.mk (blk_kept (by (with_reducible repeat (first | refine b1_ ?_ _ | refine b2_ ?_ | refine b3_ ?_ _)); exact BK217.out) hkp (fun hs_ => Or.elim hs_ (fun hs_ => (fun e_ => (Kd.R_ne HO_15.out BK217.out (by decide)) e_) hs_) (fun e_ => NB217_218.out e_))); have n3_ := Aside0.mk (blk_kept (by (with_reducible repeat (first | refine b1_ ?_ _ | refine b2_ ?_ | refine b3_ ?_ _)); exact BK219.out) hkp (fun hs_ => Or.elim hs_ (fun hs_ => (fun e_ => (Kd.R_ne HO_15.out BK219.out (by decide)) e_) hs_) (fun e_ => NB219_218.out e_))); have n4_ := Aside0.mk (blk_kept (by (with_reducible repeat (first | refine b1_ ?_ _ | refine b2_ ?_ | refine b3_ ?_ _)); exact BK253.out) hkp (fun hs_ => Or.elim hs_ (fun hs_ => (fun e_ => (Kd.R_ne HO_15.out BK253.out (by decide)) e_) hs_) (fun e_ => NB253_218.out e_))); have n5_ := Aside0.mk (hi); have n6_ := Aside0.mk (Kd.R_mono (ok' := fun k_ => some k_ ≠ (u13 : Value).ownBlock ∧ some k_ ≠ (.slice Ao55 y248.length co55 : Value).ownBlock ∧ some k_ ≠ (v261 : Value).ownBlock) (Kd.R_keptB ((IsS126.apart HI218.out HO256.out (by decide))) hkp (fun k_ hk_ hs_ => Or.elim hs_ (fun hs_ => (hk_.1.2.1) hs_) (fun e_ => (hk_.2) e_))) (fun k_ hk_ => ⟨hk_.1.1.1, hk_.1.1.2.2, fun e_ => Or.elim (ho0.1 k_ e_.symm) (fun hs_ => hk_.2.1 (.inl hs_)) (fun hn_ => Nat.not_le.2 hk_.2.2 hn_)⟩)); have n7_ := Aside0.mk (Kd.R_mono (ok' := fun k_ => some k_ ≠ (u13 : Value).ownBlock ∧ some k_ ≠ (.slice Ao55 y248.length co55 : Value).ownBlock ∧ some k_ ≠ (v255 : Value).ownBlock) ho0 (fun k_ hk_ => ⟨Or.elim hk_ (fun hs_ => fun e_ => ((((IsS126.apart HI218.out HO_13.out (by decide))).1 k_ e_.symm).1.1) hs_) (fun hn_ => (Kd.fresh' (Kd.R_lt (by (with_reducible repeat (first | apply Kd.R_alloc | apply Kd.R_drewN | apply Kd.R_drew)); exact HO_13.out)) k_ hn_)), Or.elim hk_ (fun hs_ => fun e_ => ((((IsS126.apart HI218.out HO_220000.out (by decide))).1 k_ e_.symm).1.2.1) hs_) (fun hn_ => (Kd.fresh' (Kd.R_lt (by (with_reducible repeat (first | apply Kd.R_alloc | apply Kd.R_drewN | apply Kd.R_drew)); exact HO_220000.out)) k_ hn_)), Or.elim hk_ (fun hs_ => fun e_ => ((((IsS126.apart HI218.out HO256.out (by decide))).1 k_ e_.symm).1.2.1) hs_) (fun hn_ => (Kd.fresh' (Kd.R_lt (by (with_reducible repeat (first | apply Kd.R_alloc | apply Kd.R_drewN | apply Kd.R_drew)); exact HO256.out)) k_ hn_))⟩)); have n8_ := Aside0.mk (hb); clear HO_13; clear HO_220000; clear BK217; clear BK219; clear BK253; clear HI218; clear HO256; clear HB; clear HO_15; have HO_13 := n0_; have HO_220000 := n1_; have BK217 := n2_; have BK219 := n3_; have BK253 := n4_; have HI218 := n5_; have HO256 := n6_; have HO262 := n7_; have HB := n8_; clear n0_ n1_ n2_ n3_ n4_ n5_ n6_ n7_ n8_; (try clear hb); (try clear hkp); (try clear ho0)) | ((with_reducible refine gate_builtin (b := .append) (xs := #[.tmp 103, .tmp 109]) rfl ?_); at_builtin; refine Kd.R_append (Kd.int .u8) (w0 := w) w.heap.size rfl (.tmp 103) (.tmp 109) 22 5 (.int .u8 0) 1 rfl Try.underlying22 info5 rfl (by decide) (by omega) u13 x13_3 (Go.bits .or .u8 (Go.bits .or .u8 x22_62 t257) t263) [.int .u8 (Go.bits .or .u8 (Go.bits .or .u8 x22_62 t257) t263)] (fun k_ => some k_ ≠ (.slice Ao55 y248.length co55 : Value).ownBlock ∧ some k_ ≠ (v255 : Value).ownBlock ∧ some k_ ≠ (v261 : Value).ownBlock) (fun _ => False) rfl rfl ?aP (fun _ hk => hk.elim) ?aF ?aO ?aB ?aS ?aL ?_; (case aP => exact rfl); (case aB => exact (by repeat (first | (with_reducible first | exact HB.out | apply below_alloc | apply pw_below_drewN | apply below_drew1 | refine below_set ?_ (IsS126.ge HI218.out) | refine below_set ?_ GE217.out | refine below_set ?_ GE219.out | refine below_set ?_ GE253.out) | exact HB.out))); (case aF => exact (fun k_ hk => ⟨Kd.fresh' (Kd.R_lt (by (with_reducible repeat (first | apply Kd.R_alloc | apply Kd.R_drewN | apply Kd.R_drew)); exact HO_220000.out)) k_ hk, Kd.fresh' (Kd.R_lt (by (with_reducible repeat (first | apply Kd.R_alloc | apply Kd.R_drewN | apply Kd.R_drew)); exact HO256.out)) k_ hk, Kd.fresh' (Kd.R_lt (by (with_reducible repeat (first | apply Kd.R_alloc | apply Kd.R_drewN | apply Kd.R_drew)); exact HO262.out)) k_ hk⟩)); (case aO => exact (by (with_reducible repeat (first | apply Kd.R_alloc | apply Kd.R_drewN | apply Kd.R_drew)); exact HO_13.out)); (case aS => exact (below_size (by repeat (first | (with_reducible first | exact HB.out | apply below_alloc | apply pw_below_drewN | apply below_drew1 | refine below_set ?_ (IsS126.ge HI218.out) | refine below_set ?_ GE217.out | refine below_set ?_ GE219.out | refine below_set ?_ GE253.out) | exact HB.out)))); (case aL => have := LMc73.out; omega); intro v267 w83 ho hb hg hat; rw [← Ny266.out] at ho; have n0_ := Aside0.mk (Kd.R_after (ok := (fun k_ => some k_ ≠ (v255 : Value).ownBlock ∧ some k_ ≠ (v261 : Value).ownBlock)) (by (with_reducible repeat (first | apply Kd.R_alloc | apply Kd.R_drewN | apply Kd.R_drew)); exact Kd.R_mono HO_220000.out (fun _ hk => ⟨⟨hk.2.1, hk.2.2⟩, hk.1⟩)) hg hat); have n1_ := Aside0.mk (blk_grown (g := gb217) (o := .cells #[.int .i64 a1_0, .int .i64 a1_1, .int .i64 a1_2, .int .i64 a1_3] 49 (0, 0)) (by (with_reducible repeat (first | refine b1_ ?_ _ | refine b2_ ?_ | refine b3_ ?_ _)); exact BK217.out) hg (Kd.R_ne HO_13.out BK217.out (by decide))); have n2_ := Aside0.mk (blk_grown (g := gb219) (o := .cells #[.slice Ao55 y248.length co55, .slice none 0 0] 130 (0, 0)) (by (with_reducible repeat (first | refine b1_ ?_ _ | refine b2_ ?_ | refine b3_ ?_ _)); exact BK219.out) hg (Kd.R_ne HO_13.out BK219.out (by decide))); have n3_ := Aside0.mk (blk_grown (g := gb253) (o := .cells #[.bool ((rd_T51 (rd_L3 l0 x71_2) x77_3).f0), .int .i64 ((rd_T51 (rd_L3 l0 x71_2) x77_3).f1), .int .i64 ((rd_T51 (rd_L3 l0 x71_2) x77_3).f2)] 51 (0, 0)) (by (with_reducible repeat (first | refine b1_ ?_ _ | refine b2_ ?_ | refine b3_ ?_ _)); exact BK253.out) hg (Kd.R_ne HO_13.out BK253.out (by decide))); have n4_ := Aside0.mk (IsS126.grown ((show IsS126 w _ gb218 l2 t264 t265 from by repeat (first | (with_reducible first | exact HI218.out | apply IsS126.alloc | apply IsS126.drewN | apply IsS126.drew | apply IsS126.set_1 | apply IsS126.set_2 | refine IsS126.far ?_ NB218_217.out _ | refine IsS126.far ?_ NB218_219.out _ | refine IsS126.far ?_ NB218_253.out _) | exact HI218.out))) hg (IsS126.own_ne HI218.out HO_13.out (by decide))); have n5_ := Aside0.mk (Kd.R_after (ok := (fun k_ => some k_ ≠ (.slice Ao55 y248.length co55 : Value).ownBlock ∧ some k_ ≠ (v261 : Value).ownBlock)) (by (with_reducible repeat (first | apply Kd.R_alloc | apply Kd.R_drewN | apply Kd.R_drew)); exact Kd.R_mono HO256.out (fun _ hk => ⟨⟨hk.2.1, hk.2.2⟩, hk.1⟩)) hg hat); have n6_ := Aside0.mk (Kd.R_after (ok := (fun k_ => some k_ ≠ (.slice Ao55 y248.length co55 : Value).ownBlock ∧ some k_ ≠ (v255 : Value).ownBlock)) (by (with_reducible repeat (first | apply Kd.R_alloc | apply Kd.R_drewN | apply Kd.R_drew)); exact Kd.R_mono HO262.out (fun _ hk => ⟨⟨hk.2.1, hk.2.2⟩, hk.1⟩)) hg hat); have n7_ := Aside0.mk (hb); have n8_ := Aside0.mk (ho); clear HO_220000; clear BK217; clear BK219; clear BK253; clear HI218; clear HO256; clear HO262; clear HB; clear HO_13; have HO_220000 := n0_; have BK217 := n1_; have BK219 := n2_; have BK253 := n3_; have HI218 := n4_; have HO256 := n5_; have HO262 := n6_; have HB := n7_; have HO268 := n8_; clear n0_ n1_ n2_ n3_ n4_ n5_ n6_ n7_ n8_; clear ho hb hg hat))
                   have n0_ := Aside0.mk (Kd.R_drew HO_220000.out)
                   have n1_ := Aside0.mk (Kd.R_drew HO256.out)
                   have n2_ := Aside0.mk (Kd.R_drew HO262.out)
                   have n3_ := Aside0.mk (Kd.R_drew HO268.out)
                   have n4_ := Aside0.mk (blk_drew BK217.out)
                   have n5_ := Aside0.mk (blk_drew BK219.out)
                   have n6_ := Aside0.mk (blk_drew BK253.out)
                   have n7_ := Aside0.mk (IsS126.drew HI218.out)
                   have n8_ := Aside0.mk (below_drew1 HB.out)
                   clear HO_220000
                   clear HO256
                   clear HO262
                   clear HO268
                   clear BK217
                   clear BK219
                   clear BK253
                   clear HI218
                   clear HB
                   have HO_220000 := n0_
                   have HO256 := n1_
                   have HO262 := n2_
                   have HO268 := n3_
                   have BK217 := n4_
                   have BK219 := n5_
                   have BK253 := n6_
                   have HI218 := n7_
                   have HB := n8_
                   clear n0_ n1_ n2_ n3_ n4_ n5_ n6_ n7_ n8_
                   refine start_ (n := 6) (S := fun w' => w'.cell? ⟨gb253, 0, none⟩ = some (.bool ((rd_T51 (rd_L3 l0 x71_2) x77_3).f0)) ∧ w'.cell? ⟨gb253, 1, none⟩ = some (.int .i64 ((rd_T51 (rd_L3 l0 x71_2) x77_3).f1)) ∧ w'.cell? ⟨gb253, 2, none⟩ = some (.int .i64 ((rd_T51 (rd_L3 l0 x71_2) x77_3).f2))) (ds := []) #[false, false, false, false, false, false] (by kernel_rfl) rfl rfl ⟨(blk_cell BK253.out 0).trans rfl, (blk_cell BK253.out 1).trans rfl, (blk_cell BK253.out 2).trans rfl⟩ (fun hHeld => ?_)
                   generalize w83.drew = w84 at HO_220000 HO256 HO262 HO268 BK217 BK219 BK253 HI218 HB hHeld ⊢
                   refine pure_ (i := 0) (N := some 111) (v := ?_) (a' := ?_) #[true, false, false, false, false, false] rfl rfl (by kernel_rfl) (fun _ _ _ h => h) (Or.inl ⟨by rfl, ?_⟩) ?_ ?_
                   rotate_left
                   ·intro w'
                    go_simp
                    with_reducible rfl
                   rotate_left
                   ·simp only [Act.put, L1_, L2_, L3_, i64_w, i32_w]
                    rfl
                   refine pure_ (i := 2) (N := some 113) (v := ?_) (a' := ?_) #[true, false, true, false, false, false] rfl rfl (by kernel_rfl) (fun _ _ _ h => h) (Or.inl ⟨by rfl, ?_⟩) ?_ ?_
                   rotate_left
                   ·intro w'
                    go_simp
                    with_reducible rfl
                   rotate_left
                   ·simp only [Act.put, L1_, L2_, L3_, i64_w, i32_w]
                    rfl
                   refine take_ (i := 1) (N := some 112) (v := ?_) (a' := ?_) #[true, true, true, false, false, false] rfl rfl (by kernel_rfl) (fun _ _ _ h => h) (Or.inl ⟨by rfl, ?_⟩) hHeld ?_ ?_
                   rotate_left
                   ·rintro w' ⟨s0, s1, s2⟩
                    go_simp
                    with_reducible rfl
                   rotate_left
                   ·simp only [Act.put, L1_, L2_, L3_, i64_w, i32_w]
                    rfl
                   refine pure_ (i := 4) (N := some 16) (v := ?_) (a' := ?_) #[true, true, true, false, true, false] rfl rfl (by kernel_rfl) (fun _ _ _ h => h) (Or.inl ⟨by rfl, ?_⟩) ?_ ?_
                   rotate_left
                   ·intro w'
                    go_simp
                    with_reducible rfl
                   rotate_left
                   ·simp only [Act.put, L1_, L2_, L3_, i64_w, i32_w]
                    rfl
                   refine take_ (i := 3) (N := some 114) (v := ?_) (a' := ?_) #[true, true, true, true, true, false] rfl rfl (by kernel_rfl) (fun _ _ _ h => h) (Or.inl ⟨by rfl, ?_⟩) hHeld ?_ ?_
                   rotate_left
                   ·rintro w' ⟨s0, s1, s2⟩
                    go_simp
                    with_reducible rfl
                   rotate_left
                   ·simp only [Act.put, L1_, L2_, L3_, i64_w, i32_w]
                    rfl
                   refine pure_ (i := 5) (N := some 17) (v := ?_) (a' := ?_) #[true, true, true, true, true, true] rfl rfl (by kernel_rfl) (fun _ _ _ h => h) (Or.inl ⟨by rfl, ?_⟩) ?_ ?_
                   rotate_left
                   ·intro w'
                    go_simp
                    with_reducible rfl
                   rotate_left
                   ·simp only [Act.put, L1_, L2_, L3_, i64_w, i32_w]
                    rfl
                   refine done_ (by kernel_rfl) ?_
                   try go_wp2
                   go_roundg kj62
                   case measure => have := HK1.out; have := HK2.out; have := HK3.out; have := HJ62.out; omega
                   case rel => exact ⟨(y266), (t254), (t260), (((rd_T51 (rd_L3 l0 x71_2) x77_3).f1)), (((rd_T51 (rd_L3 l0 x71_2) x77_3).f2)), (wrap64 (x77_3 + 1)), (t264), (t265), (by first | rfl | (simp; done) | (simp [*]; done)), (by first | rfl | (simp; done) | (simp [*]; done)), (by first | rfl | (simp; done) | (simp [*]; done)), H', ⟨by have := HK1.out; have := HK2.out; have := HK3.out; have := HJ62.out; omega⟩, ⟨by (with_reducible repeat (first | apply Kd.R_alloc | apply Kd.R_drewN | apply Kd.R_drew)); exact Kd.R_mono HO268.out (fun _ hk => ⟨hk.2.1, ⟨hk.2.2, hk.1⟩⟩)⟩, ⟨by (with_reducible repeat (first | apply Kd.R_alloc | apply Kd.R_drewN | apply Kd.R_drew)); exact Kd.R_mono HO256.out (fun _ hk => ⟨hk.2, ⟨hk.1.2, hk.1.1⟩⟩)⟩, ⟨by (with_reducible repeat (first | apply Kd.R_alloc | apply Kd.R_drewN | apply Kd.R_drew)); exact Kd.R_mono HO262.out (fun _ hk => ⟨hk.2, ⟨hk.1.2, hk.1.1⟩⟩)⟩, ⟨by (with_reducible repeat (first | apply Kd.R_alloc | apply Kd.R_drewN | apply Kd.R_drew)); exact Kd.R_mono HO_220000.out (fun _ hk => ⟨hk.2, ⟨hk.1.1, hk.1.2⟩⟩)⟩, ⟨by (with_reducible repeat (first | refine b1_ ?_ _ | refine b2_ ?_ | refine b3_ ?_ _)); exact BK217.out⟩, ⟨by (with_reducible repeat (first | refine b1_ ?_ _ | refine b2_ ?_ | refine b3_ ?_ _)); exact BK219.out⟩, ⟨(show IsS126 w _ gb218 l2 t264 t265 from by repeat (first | (with_reducible first | exact HI218.out | apply IsS126.alloc | apply IsS126.drewN | apply IsS126.drew | apply IsS126.set_1 | apply IsS126.set_2 | refine IsS126.far ?_ NB218_217.out _ | refine IsS126.far ?_ NB218_219.out _ | refine IsS126.far ?_ NB218_253.out _) | exact HI218.out))⟩, ⟨by repeat (first | (with_reducible first | exact HB.out | apply below_alloc | apply pw_below_drewN | apply below_drew1 | refine below_set ?_ (IsS126.ge HI218.out) | refine below_set ?_ GE217.out | refine below_set ?_ GE219.out | refine below_set ?_ GE253.out) | exact HB.out)⟩⟩
                  ·rw [if_neg c73] at H
                   exact absurd H (by simp)
               ·rw [if_neg c62] at H
                exact absurd H (by simp)
              ·rw [if_neg c61] at H
               exact absurd H (by simp)
             ·rw [if_neg c60] at H
              have c60b0 : decide (x77_3 < ((rd_L3 l0 x71_2).length : Int)) = false := decide_eq_false c60
              clear c60
              have H' := Aside0.mk H
              clear H
              go_wp2
              go_roundg k3
              case measure => have := HK1.out; have := HK2.out; have := HK3.out; omega
              case rel => exact ⟨(x13_3), (x14_3), (x15_3), (x16_3), (x17_3), (wrap64 (x71_2 + 1)), (x219001_3), (x219002_3), (by first | rfl | (simp; done) | (simp [*]; done)), (by first | rfl | (simp; done) | (simp [*]; done)), (by first | rfl | (simp; done) | (simp [*]; done)), H', ⟨by have := HK1.out; have := HK2.out; have := HK3.out; omega⟩, ⟨by (with_reducible repeat (first | apply Kd.R_alloc | apply Kd.R_drewN | apply Kd.R_drew)); exact HO_13.out⟩, ⟨by (with_reducible repeat (first | apply Kd.R_alloc | apply Kd.R_drewN | apply Kd.R_drew)); exact HO_14.out⟩, ⟨by (with_reducible repeat (first | apply Kd.R_alloc | apply Kd.R_drewN | apply Kd.R_drew)); exact HO_15.out⟩, ⟨by (with_reducible repeat (first | apply Kd.R_alloc | apply Kd.R_drewN | apply Kd.R_drew)); exact HO_220000.out⟩, ⟨by (with_reducible repeat (first | refine b1_ ?_ _ | refine b2_ ?_ | refine b3_ ?_ _)); exact BK217.out⟩, ⟨by (with_reducible repeat (first | refine b1_ ?_ _ | refine b2_ ?_ | refine b3_ ?_ _)); exact BK219.out⟩, ⟨(show IsS126 w _ gb218 l2 x219001_3 x219002_3 from by repeat (first | (with_reducible first | exact HI218.out | apply IsS126.alloc | apply IsS126.drewN | apply IsS126.drew | apply IsS126.set_1 | apply IsS126.set_2 | refine IsS126.far ?_ NB218_217.out _ | refine IsS126.far ?_ NB218_219.out _) | exact HI218.out))⟩, ⟨by repeat (first | (with_reducible first | exact HB.out | apply below_alloc | apply pw_below_drewN | apply below_drew1 | refine below_set ?_ (IsS126.ge HI218.out) | refine below_set ?_ GE217.out | refine below_set ?_ GE219.out) | exact HB.out)⟩⟩
          ·rw [if_neg c59] at H
           exact absurd H (by simp)
         ·rw [if_neg c58] at H
          exact absurd H (by simp)
        ·rw [if_neg c57] at H
         have c57b0 : decide (x71_2 < (l0.length : Int)) = false := decide_eq_false c57
         clear c57
         have H' := Aside0.mk H
         clear H
         go_wp2
         go_loopg [25] k2 (fun kq v25 w' => ∃ (x25_3 : Int) (x219001_3 : Int) (x219002_3 : Bool) (x220000_3 : List Int) (u220000 : Value), v25 = .int .i64 x25_3 ∧ Aside0 (spec_SpotBytes.l3 kq x13_2 x14_2 x15_2 x25_3 l2 x219001_3 x219002_3 x220000_3 () = some r) ∧ Aside0 (kq ≤ k2) ∧ Aside0 (Kd.R (Kd.int .u8) 5 w' w.heap.size (fun k_ => some k_ ≠ (u14 : Value).ownBlock ∧ some k_ ≠ (u15 : Value).ownBlock ∧ some k_ ≠ (u220000 : Value).ownBlock) u13 x13_2) ∧ Aside0 (Kd.R (Kd.int .u8) 5 w' w.heap.size (fun k_ => some k_ ≠ (u13 : Value).ownBlock ∧ some k_ ≠ (u15 : Value).ownBlock ∧ some k_ ≠ (u220000 : Value).ownBlock) u14 x14_2) ∧ Aside0 (Kd.R (Kd.int .u8) 5 w' w.heap.size (fun k_ => some k_ ≠ (u13 : Value).ownBlock ∧ some k_ ≠ (u14 : Value).ownBlock ∧ some k_ ≠ (u220000 : Value).ownBlock) u15 x15_2) ∧ Aside0 (Kd.R (Kd.int .u8) 5 w' w.heap.size (fun k_ => some k_ ≠ (u13 : Value).ownBlock ∧ some k_ ≠ (u14 : Value).ownBlock ∧ some k_ ≠ (u15 : Value).ownBlock) u220000 x220000_3) ∧ Aside0 (w'.heap[gb217]? = some (.cells #[.int .i64 a1_0, .int .i64 a1_1, .int .i64 a1_2, .int .i64 a1_3] 49 (0, 0))) ∧ Aside0 (w'.heap[gb219]? = some (.cells #[u220000, .slice none 0 0] 130 (0, 0))) ∧ Aside0 (IsS126 w w' gb218 l2 x219001_3 x219002_3) ∧ Aside0 (Below w.heap.size w w'))
         case atStart => exact ⟨(0), (x219001_2), (x219002_2), (y248), (.slice Ao55 y248.length co55), (by first | rfl | (simp; done) | (simp [*]; done)), H', ⟨Nat.le_refl _⟩, ⟨by (with_reducible repeat (first | apply Kd.R_alloc | apply Kd.R_drewN | apply Kd.R_drew)); exact HO_13.out⟩, ⟨by (with_reducible repeat (first | apply Kd.R_alloc | apply Kd.R_drewN | apply Kd.R_drew)); exact HO_14.out⟩, ⟨by (with_reducible repeat (first | apply Kd.R_alloc | apply Kd.R_drewN | apply Kd.R_drew)); exact HO_15.out⟩, ⟨by (with_reducible repeat (first | apply Kd.R_alloc | apply Kd.R_drewN | apply Kd.R_drew)); exact HO_220000.out⟩, ⟨by (with_reducible repeat (first | refine b1_ ?_ _ | refine b2_ ?_ | refine b3_ ?_ _)); exact BK217.out⟩, ⟨by (with_reducible repeat (first | refine b1_ ?_ _ | refine b2_ ?_ | refine b3_ ?_ _)); exact BK219.out⟩, ⟨(show IsS126 w _ gb218 l2 x219001_2 x219002_2 from by repeat (first | (with_reducible first | exact HI218.out | apply IsS126.alloc | apply IsS126.drewN | apply IsS126.drew | apply IsS126.set_1 | apply IsS126.set_2 | refine IsS126.far ?_ NB218_217.out _ | refine IsS126.far ?_ NB218_219.out _) | exact HI218.out))⟩, ⟨by repeat (first | (with_reducible first | exact HB.out | apply below_alloc | apply pw_below_drewN | apply below_drew1 | refine below_set ?_ (IsS126.ge HI218.out) | refine below_set ?_ GE217.out | refine below_set ?_ GE219.out) | exact HB.out)⟩⟩
         case round =>
          clear H'
          try clear c1
          try clear c2
          try clear p2
          try clear q2
          try clear hx2
          try clear c3
          try clear c4
          try clear c5
          try clear c6
          try clear p6
          try clear q6
          try clear c7
          try clear c11
          try clear c12
          try clear c20
          try clear c23
          try clear p23
          try clear q23
          try clear hx23
          try clear c25
          try clear c25b0
          try clear p25
          try clear q25
          try clear hx25
          try clear c26
          try clear c26b0
          try clear c27
          try clear c27b0
          try clear c31
          try clear c32
          try clear c40
          try clear c41
          try clear c41b0
          try clear c41b1
          try clear c42
          try clear c46
          try clear c47
          try clear c57
          try clear c57b0
          try clear c58
          try clear c58b0
          try clear c59
          try clear c59b0
          try clear c60
          try clear c60b0
          try clear c61
          try clear c61b0
          try clear c62
          try clear c62b0
          try clear p64
          try clear c65
          try clear c66
          try clear c67
          try clear q69
          try clear c70
          try clear c73
          try clear c74
          try clear c75
          try clear c76
          try clear hcz13_0
          try clear hcz13_1
          try clear hcz17_0
          try clear hcz17_1
          try clear hcz20_0
          try clear hcz20_1
          try clear hcz24_0
          try clear hcz24_1
          try clear hcz33_0
          try clear hcz33_1
          try clear hcz38_0
          try clear hcz38_1
          try clear hcz48_0
          try clear hcz48_1
          try clear hcz53_0
          try clear hcz53_1
          try clear hcz56_0
          try clear hcz56_1
          try clear hcz68_0
          try clear hcz68_1
          try clear hcz68_2
          try clear hcz77_0
          try clear hcz77_1
          try clear hcz77_2
          try clear hcz80_0
          try clear hcz80_1
          try clear hcz80_2
          try clear hfz13_0
          try clear hfz13_1
          try clear hfz17_0
          try clear hfz17_1
          try clear hfz20_0
          try clear hfz20_1
          try clear hfz24_0
          try clear hfz24_1
          try clear hfz33_0
          try clear hfz33_1
          try clear hfz38_0
          try clear hfz38_1
          try clear hfz48_0
          try clear hfz48_1
          try clear hfz53_0
          try clear hfz53_1
          try clear hfz56_0
          try clear hfz56_1
          try clear hfz68_0
          try clear hfz68_1
          try clear hfz68_2
          try clear hfz77_0
          try clear hfz77_1
          try clear hfz77_2
          try clear hfz80_0
          try clear hfz80_1
          try clear hfz80_2
          try clear hx232_0
          try clear hx251_0
          try clear hx252_0
          try clear hx252_1
          try clear hx252_2
          try clear p2
          try clear p23
          try clear p232
          try clear p25
          try clear p251
          try clear p252
          try clear p6
          try clear p64
          try clear q2
          try clear q23
          try clear q232
          try clear q25
          try clear q251
          try clear q252
          try clear q6
          try clear q69
          obtain ⟨x25_3, x219001_3, x219002_3, x220000_3, u220000, rfl, HA, HK3, HO_13, HO_14, HO_15, HO_220000, BK217, BK219, HI218, HB⟩ := hrel
          cases gk with
          | zero => exact absurd HA.out (by simp [spec_SpotBytes.l3])
          | succ k3 =>
           have H := HA.out
           clear HA
           simp only [spec_SpotBytes.l3] at H
           by_cases c85 : x25_3 < (x13_2.length : Int)
           ·rw [if_pos c85] at H
            have c85b0 : decide (x25_3 < (x13_2.length : Int)) = true := decide_eq_true c85
            clear c85
            have H' := Aside0.mk H
            clear H
            obtain ⟨Ao86, co86, eo86⟩ := Kd.R_slice HO_13.out
            subst eo86
            go_wp2
            go_loopg [26] k3 (fun kq v26 w' => ∃ (x26_4 : Int), v26 = .int .i64 x26_4 ∧ Aside0 (spec_SpotBytes.l4 kq x13_2 x14_2 x15_2 x25_3 x26_4 l2 x219001_3 x219002_3 x220000_3 () = some r) ∧ Aside0 (kq ≤ k3) ∧ Aside0 (Kd.R (Kd.int .u8) 5 w' w.heap.size (fun k_ => some k_ ≠ (u14 : Value).ownBlock ∧ some k_ ≠ (u15 : Value).ownBlock ∧ some k_ ≠ (u220000 : Value).ownBlock) (.slice Ao86 x13_2.length co86) x13_2) ∧ Aside0 (Kd.R (Kd.int .u8) 5 w' w.heap.size (fun k_ => some k_ ≠ ((.slice Ao86 x13_2.length co86) : Value).ownBlock ∧ some k_ ≠ (u15 : Value).ownBlock ∧ some k_ ≠ (u220000 : Value).ownBlock) u14 x14_2) ∧ Aside0 (Kd.R (Kd.int .u8) 5 w' w.heap.size (fun k_ => some k_ ≠ ((.slice Ao86 x13_2.length co86) : Value).ownBlock ∧ some k_ ≠ (u14 : Value).ownBlock ∧ some k_ ≠ (u220000 : Value).ownBlock) u15 x15_2) ∧ Aside0 (Kd.R (Kd.int .u8) 5 w' w.heap.size (fun k_ => some k_ ≠ ((.slice Ao86 x13_2.length co86) : Value).ownBlock ∧ some k_ ≠ (u14 : Value).ownBlock ∧ some k_ ≠ (u15 : Value).ownBlock) u220000 x220000_3) ∧ Aside0 (w'.heap[gb217]? = some (.cells #[.int .i64 a1_0, .int .i64 a1_1, .int .i64 a1_2, .int .i64 a1_3] 49 (0, 0))) ∧ Aside0 (w'.heap[gb219]? = some (.cells #[u220000, .slice none 0 0] 130 (0, 0))) ∧ Aside0 (IsS126 w w' gb218 l2 x219001_3 x219002_3) ∧ Aside0 (Below w.heap.size w w'))
            case atStart => exact ⟨(wrap64 (x25_3 + 1)), (by first | rfl | (simp; done) | (simp [*]; done)), H', ⟨Nat.le_refl _⟩, ⟨by (with_reducible repeat (first | apply Kd.R_alloc | apply Kd.R_drewN | apply Kd.R_drew)); exact HO_13.out⟩, ⟨by (with_reducible repeat (first | apply Kd.R_alloc | apply Kd.R_drewN | apply Kd.R_drew)); exact HO_14.out⟩, ⟨by (with_reducible repeat (first | apply Kd.R_alloc | apply Kd.R_drewN | apply Kd.R_drew)); exact HO_15.out⟩, ⟨by (with_reducible repeat (first | apply Kd.R_alloc | apply Kd.R_drewN | apply Kd.R_drew)); exact HO_220000.out⟩, ⟨by (with_reducible repeat (first | refine b1_ ?_ _ | refine b2_ ?_ | refine b3_ ?_ _)); exact BK217.out⟩, ⟨by (with_reducible repeat (first | refine b1_ ?_ _ | refine b2_ ?_ | refine b3_ ?_ _)); exact BK219.out⟩, ⟨(show IsS126 w _ gb218 l2 x219001_3 x219002_3 from by repeat (first | (with_reducible first | exact HI218.out | apply IsS126.alloc | apply IsS126.drewN | apply IsS126.drew | apply IsS126.set_1 | apply IsS126.set_2 | refine IsS126.far ?_ NB218_217.out _ | refine IsS126.far ?_ NB218_219.out _) | exact HI218.out))⟩, ⟨by repeat (first | (with_reducible first | exact HB.out | apply below_alloc | apply pw_below_drewN | apply below_drew1 | refine below_set ?_ (IsS126.ge HI218.out) | refine below_set ?_ GE217.out | refine below_set ?_ GE219.out) | exact HB.out)⟩⟩
            case round =>
             clear H'
             try clear c1
             try clear c2
             try clear p2
             try clear q2
             try clear hx2
             try clear c3
             try clear c4
             try clear c5
             try clear c6
             try clear p6
             try clear q6
             try clear c7
             try clear c8
             try clear c11
             try clear c12
             try clear c20
             try clear c23
             try clear p23
             try clear q23
             try clear hx23
             try clear c25
             try clear c25b0
             try clear p25
             try clear q25
             try clear hx25
             try clear c26
             try clear c26b0
             try clear c27
             try clear c27b0
             try clear c31
             try clear c32
             try clear c40
             try clear c41
             try clear c41b0
             try clear c41b1
             try clear c42
             try clear c46
             try clear c47
             try clear c57
             try clear c57b0
             try clear c58
             try clear c58b0
             try clear c59
             try clear c59b0
             try clear c60
             try clear c60b0
             try clear c61
             try clear c61b0
             try clear c62
             try clear c62b0
             try clear p64
             try clear c65
             try clear c66
             try clear c67
             try clear q69
             try clear c70
             try clear c73
             try clear c74
             try clear c75
             try clear c76
             try clear c85
             try clear c85b0
             try clear hcz13_0
             try clear hcz13_1
             try clear hcz17_0
             try clear hcz17_1
             try clear hcz20_0
             try clear hcz20_1
             try clear hcz24_0
             try clear hcz24_1
             try clear hcz33_0
             try clear hcz33_1
             try clear hcz38_0
             try clear hcz38_1
             try clear hcz48_0
             try clear hcz48_1
             try clear hcz53_0
             try clear hcz53_1
             try clear hcz56_0
             try clear hcz56_1
             try clear hcz68_0
             try clear hcz68_1
             try clear hcz68_2
             try clear hcz77_0
             try clear hcz77_1
             try clear hcz77_2
             try clear hcz80_0
             try clear hcz80_1
             try clear hcz80_2
             try clear hfz13_0
             try clear hfz13_1
             try clear hfz17_0
             try clear hfz17_1
             try clear hfz20_0
             try clear hfz20_1
             try clear hfz24_0
             try clear hfz24_1
             try clear hfz33_0
             try clear hfz33_1
             try clear hfz38_0
             try clear hfz38_1
             try clear hfz48_0
             try clear hfz48_1
             try clear hfz53_0
             try clear hfz53_1
             try clear hfz56_0
             try clear hfz56_1
             try clear hfz68_0
             try clear hfz68_1
             try clear hfz68_2
             try clear hfz77_0
             try clear hfz77_1
             try clear hfz77_2
             try clear hfz80_0
             try clear hfz80_1
             try clear hfz80_2
             try clear hx232_0
             try clear hx251_0
             try clear hx252_0
             try clear hx252_1
             try clear hx252_2
             try clear p2
             try clear p23
             try clear p232
             try clear p25
             try clear p251
             try clear p252
             try clear p6
             try clear p64
             try clear q2
             try clear q23
             try clear q232
             try clear q25
             try clear q251
             try clear q252
             try clear q6
             try clear q69
             obtain ⟨x26_4, rfl, HA, HK4, HO_13, HO_14, HO_15, HO_220000, BK217, BK219, HI218, HB⟩ := hrel
             cases gk with
             | zero => exact absurd HA.out (by simp [spec_SpotBytes.l4])
             | succ k4 =>
              have H := HA.out
              clear HA
              simp only [spec_SpotBytes.l4] at H
              have HC87 := Aside0.mk H
              clear H
              go_upto_region 35 with (fail)
              go_cut [143] (fun v143 wc => ∃ (kq : Nat) (x143_86 : Bool), v143 = .bool x143_86 ∧ Aside0 (spec_SpotBytes.j6 kq x13_2 x14_2 x15_2 x25_3 x26_4 x143_86 l2 x219001_3 x219002_3 x220000_3 () = some r) ∧ Aside0 (kq ≤ k4) ∧ Aside0 (Kd.R (Kd.int .u8) 5 wc w.heap.size (fun k_ => some k_ ≠ (u14 : Value).ownBlock ∧ some k_ ≠ (u15 : Value).ownBlock ∧ some k_ ≠ (u220000 : Value).ownBlock) (.slice Ao86 x13_2.length co86) x13_2) ∧ Aside0 (Kd.R (Kd.int .u8) 5 wc w.heap.size (fun k_ => some k_ ≠ ((.slice Ao86 x13_2.length co86) : Value).ownBlock ∧ some k_ ≠ (u15 : Value).ownBlock ∧ some k_ ≠ (u220000 : Value).ownBlock) u14 x14_2) ∧ Aside0 (Kd.R (Kd.int .u8) 5 wc w.heap.size (fun k_ => some k_ ≠ ((.slice Ao86 x13_2.length co86) : Value).ownBlock ∧ some k_ ≠ (u14 : Value).ownBlock ∧ some k_ ≠ (u220000 : Value).ownBlock) u15 x15_2) ∧ Aside0 (Kd.R (Kd.int .u8) 5 wc w.heap.size (fun k_ => some k_ ≠ ((.slice Ao86 x13_2.length co86) : Value).ownBlock ∧ some k_ ≠ (u14 : Value).ownBlock ∧ some k_ ≠ (u15 : Value).ownBlock) u220000 x220000_3) ∧ Aside0 (wc.heap[gb217]? = some (.cells #[.int .i64 a1_0, .int .i64 a1_1, .int .i64 a1_2, .int .i64 a1_3] 49 (0, 0))) ∧ Aside0 (wc.heap[gb219]? = some (.cells #[u220000, .slice none 0 0] 130 (0, 0))) ∧ Aside0 (IsS126 w wc gb218 l2 x219001_3 x219002_3) ∧ Aside0 (Below w.heap.size w wc))
              case first =>
               have H := HC87.out
               clear HC87
               by_cases c88 : x26_4 < (x13_2.length : Int)
               ·rw [if_pos c88] at H
                have c88b0 : decide (x26_4 < (x13_2.length : Int)) = true := decide_eq_true c88
                clear c88
                (first | rw [c88b0] | (simp only [i64_w, i32_w]; rw [c88b0]) | skip)
                by_cases c89 : 0 ≤ x26_4
                ·rw [if_pos c89] at H
                 have c89b0 : decide (0 ≤ x26_4) = true := decide_eq_true c89
                 clear c89
                 by_cases c90 : 0 ≤ x25_3
                 ·rw [if_pos c90] at H
                  have c90b0 : decide (0 ≤ x25_3) = true := decide_eq_true c90
                  clear c90
                  by_cases c91 : x25_3 < (x13_2.length : Int)
                  ·rw [if_pos c91] at H
                   have c91b0 : decide (x25_3 < (x13_2.length : Int)) = true := decide_eq_true c91
                   clear c91
                   by_cases c92 : (rd x13_2 x26_4) = (rd x13_2 x25_3)
                   ·rw [if_pos c92] at H
                    have c92b0 : ((rd x13_2 x26_4) == (rd x13_2 x25_3)) = true := beq_iff_eq.mpr c92
                    have c92b1 : ((rd x13_2 x26_4) != (rd x13_2 x25_3)) = false := bne_eq_false_iff_eq.mpr c92
                    clear c92
                    have H' := Aside0.mk H
                    clear H
                    try go_wp2
                    have n0_ := Aside0.mk (Kd.R_drew HO_13.out)
                    have n1_ := Aside0.mk (Kd.R_drew HO_14.out)
                    have n2_ := Aside0.mk (Kd.R_drew HO_15.out)
                    have n3_ := Aside0.mk (Kd.R_drew HO_220000.out)
                    have n4_ := Aside0.mk (blk_drew BK217.out)
                    have n5_ := Aside0.mk (blk_drew BK219.out)
                    have n6_ := Aside0.mk (IsS126.drew HI218.out)
                    have n7_ := Aside0.mk (below_drew1 HB.out)
                    clear HO_13
                    clear HO_14
                    clear HO_15
                    clear HO_220000
                    clear BK217
                    clear BK219
                    clear HI218
                    clear HB
                    have HO_13 := n0_
                    have HO_14 := n1_
                    have HO_15 := n2_
                    have HO_220000 := n3_
                    have BK217 := n4_
                    have BK219 := n5_
                    have HI218 := n6_
                    have HB := n7_
                    clear n0_ n1_ n2_ n3_ n4_ n5_ n6_ n7_
                    have p275 : 0 ≤ (x26_4 : Int) := of_decide_eq_true (by first | (with_reducible assumption) | assumption)
                    have q275 : x26_4 < (x13_2.length : Int) := of_decide_eq_true (by first | (with_reducible assumption) | assumption)
                    obtain ⟨ad275, e275, hx275_0⟩ := Kd.at_int (Kd.R_reads' HO_13.out).2.2 x26_4 p275 q275
                    cases e275
                    replace p275 := eq_true p275
                    replace q275 := eq_true q275
                    have p276 : 0 ≤ (x25_3 : Int) := of_decide_eq_true (by first | (with_reducible assumption) | assumption)
                    have q276 : x25_3 < (x13_2.length : Int) := of_decide_eq_true (by first | (with_reducible assumption) | assumption)
                    obtain ⟨ad276, e276, hx276_0⟩ := Kd.at_int (Kd.R_reads' HO_13.out).2.2 x25_3 p276 q276
                    obtain rfl : ad275 = ad276 := (by injection e276)
                    replace p276 := eq_true p276
                    replace q276 := eq_true q276
                    refine start_ (n := 21) (S := fun w' => w'.cell? (ad275.add (x26_4).toNat) = some (.int .u8 (rd x13_2 x26_4)) ∧ w'.cell? (ad275.add (x25_3).toNat) = some (.int .u8 (rd x13_2 x25_3))) (ds := []) #[ff,ff,ff,ff,ff,ff,ff,ff,ff,ff,ff,ff,ff,ff,ff,ff,ff,ff,ff,ff,ff] (by kernel_rfl) rfl rfl ⟨hx275_0, hx276_0⟩ (fun hHeld => ?_); refine with_tabW spec_SpotBytes.tab35 spec_SpotBytes.bits35 (fun HT_ HW_ => ?_)
                    generalize wr.drew = w93 at HO_13 HO_14 HO_15 HO_220000 BK217 BK219 HI218 HB hx275_0 hx276_0 hHeld ⊢
                    refine pure_ (i := 0) (N := some 123) (v := ?_) (a' := ?_) #[tt,ff,ff,ff,ff,ff,ff,ff,ff,ff,ff,ff,ff,ff,ff,ff,ff,ff,ff,ff,ff] rfl rfl (any_of HT_.out (by kernel_rfl)) (fun _ _ _ h => h) (Or.inl ⟨by rfl, ?_⟩) ?_ ?_
                    rotate_left
                    ·intro w'
                     go_simp
                     with_reducible rfl
                    rotate_left
                    ·simp only [Act.put, L1_, L2_, L3_, i64_w, i32_w]
                     rfl
                    refine pure_ (i := 1) (N := some 124) (v := ?_) (a' := ?_) #[tt,tt,ff,ff,ff,ff,ff,ff,ff,ff,ff,ff,ff,ff,ff,ff,ff,ff,ff,ff,ff] rfl rfl (any_of HT_.out (by kernel_rfl)) (fun _ _ _ h => h) (Or.inl ⟨by rfl, ?_⟩) ?_ ?_
                    rotate_left
                    ·intro w'
                     go_simp
                     with_reducible rfl
                    rotate_left
                    ·simp only [Act.put, L1_, L2_, L3_, i64_w, i32_w]
                     rfl
                    refine pure_ (i := 2) (N := some 125) (v := ?_) (a' := ?_) #[tt,tt,tt,ff,ff,ff,ff,ff,ff,ff,ff,ff,ff,ff,ff,ff,ff,ff,ff,ff,ff] rfl rfl (any_of HT_.out (by kernel_rfl)) (fun _ _ _ h => h) (Or.inl ⟨by rfl, ?_⟩) ?_ ?_
                    rotate_left
                    ·intro w'
                     go_simp
                     with_reducible rfl
                    rotate_left
                    ·simp only [Act.put, L1_, L2_, L3_, i64_w, i32_w]
                     rfl
                    refine pure_ (i := 3) (N := some 126) (v := ?_) (a' := ?_) #[tt,tt,tt,tt,ff,ff,ff,ff,ff,ff,ff,ff,ff,ff,ff,ff,ff,ff,ff,ff,ff] rfl rfl (any_of HT_.out (by kernel_rfl)) (fun _ _ _ h => h) (Or.inl ⟨by rfl, ?_⟩) ?_ ?_
                    rotate_left
                    ·intro w'
                     go_simp
                     with_reducible rfl
                    rotate_left
                    ·(try go_ints); (try simp (disch := omega) only [n3_]); simp only [Act.put, L1_, L2_, L3_, i64_w, i32_w]
                     rfl
                    refine pure_ (i := 4) (N := some 127) (v := ?_) (a' := ?_) #[tt,tt,tt,tt,tt,ff,ff,ff,ff,ff,ff,ff,ff,ff,ff,ff,ff,ff,ff,ff,ff] rfl rfl (any_of HT_.out (by kernel_rfl)) (fun _ _ _ h => h) (Or.inl ⟨by rfl, ?_⟩) ?_ ?_
                    rotate_left
                    ·intro w'
                     go_simp
                     with_reducible rfl
                    rotate_left
                    ·simp only [Act.put, L1_, L2_, L3_, i64_w, i32_w]
                     rfl
                    refine pure_ (i := 5) (N := some 128) (v := ?_) (a' := ?_) #[tt,tt,tt,tt,tt,tt,ff,ff,ff,ff,ff,ff,ff,ff,ff,ff,ff,ff,ff,ff,ff] rfl rfl (any_of HT_.out (by kernel_rfl)) (fun _ _ _ h => h) (Or.inl ⟨by rfl, ?_⟩) ?_ ?_
                    rotate_left
                    ·intro w'
                     go_simp
                     with_reducible rfl
                    rotate_left
                    ·simp only [Act.put, L1_, L2_, L3_, i64_w, i32_w]
                     rfl
                    refine pure_ (i := 6) (N := some 129) (v := ?_) (a' := ?_) #[tt,tt,tt,tt,tt,tt,tt,ff,ff,ff,ff,ff,ff,ff,ff,ff,ff,ff,ff,ff,ff] rfl rfl (any_of HT_.out (by kernel_rfl)) (fun _ _ _ h => h) (Or.inl ⟨by rfl, ?_⟩) ?_ ?_
                    rotate_left
                    ·intro w'
                     go_simp
                     with_reducible rfl
                    rotate_left
                    ·simp only [Act.put, L1_, L2_, L3_, i64_w, i32_w]
                     rfl
                    refine pure_ (i := 7) (N := some 130) (v := ?_) (a' := ?_) #[tt,tt,tt,tt,tt,tt,tt,tt,ff,ff,ff,ff,ff,ff,ff,ff,ff,ff,ff,ff,ff] rfl rfl (any_of HT_.out (by kernel_rfl)) (fun _ _ _ h => h) (Or.inl ⟨by rfl, ?_⟩) ?_ ?_
                    rotate_left
                    ·intro w'
                     go_simp
                     with_reducible rfl
                    rotate_left
                    ·simp only [Act.put, L1_, L2_, L3_, i64_w, i32_w]
                     rfl
                    refine pure_ (i := 9) (N := some 132) (v := ?_) (a' := ?_) #[tt,tt,tt,tt,tt,tt,tt,tt,ff,tt,ff,ff,ff,ff,ff,ff,ff,ff,ff,ff,ff] rfl rfl (any_of HT_.out (by kernel_rfl)) (fun _ _ _ h => h) (Or.inl ⟨by rfl, ?_⟩) ?_ ?_
                    rotate_left
                    ·intro w'
                     go_simp
                     with_reducible rfl
                    rotate_left
                    ·simp only [Act.put, L1_, L2_, L3_, i64_w, i32_w]
                     rfl
                    refine pure_ (i := 10) (N := some 133) (v := ?_) (a' := ?_) #[tt,tt,tt,tt,tt,tt,tt,tt,ff,tt,tt,ff,ff,ff,ff,ff,ff,ff,ff,ff,ff] rfl rfl (any_of HT_.out (by kernel_rfl)) (fun _ _ _ h => h) (Or.inl ⟨by rfl, ?_⟩) ?_ ?_
                    rotate_left
                    ·intro w'
                     go_simp
                     with_reducible rfl
                    rotate_left
                    ·simp only [Act.put, L1_, L2_, L3_, i64_w, i32_w]
                     rfl
                    refine pure_ (i := 11) (N := some 134) (v := ?_) (a' := ?_) #[tt,tt,tt,tt,tt,tt,tt,tt,ff,tt,tt,tt,ff,ff,ff,ff,ff,ff,ff,ff,ff] rfl rfl (any_of HT_.out (by kernel_rfl)) (fun _ _ _ h => h) (Or.inl ⟨by rfl, ?_⟩) ?_ ?_
                    rotate_left
                    ·intro w'
                     go_simp
                     with_reducible rfl
                    rotate_left
                    ·simp only [Act.put, L1_, L2_, L3_, i64_w, i32_w]
                     rfl
                    refine take_ (i := 8) (N := some 131) (v := ?_) (a' := ?_) #[tt,tt,tt,tt,tt,tt,tt,tt,tt,tt,tt,tt,ff,ff,ff,ff,ff,ff,ff,ff,ff] rfl rfl (take_ofW HT_.out HW_.out (by kernel_rfl)) (fun _ _ _ h => h) (Or.inl ⟨by rfl, ?_⟩) hHeld ?_ ?_
                    rotate_left
                    ·rintro w' ⟨s0, s1⟩
                     go_simp
                     with_reducible rfl
                    rotate_left
                    ·simp only [Act.put, L1_, L2_, L3_, i64_w, i32_w]
                     rfl
                    refine take_ (i := 12) (N := some 135) (v := ?_) (a' := ?_) #[tt,tt,tt,tt,tt,tt,tt,tt,tt,tt,tt,tt,tt,ff,ff,ff,ff,ff,ff,ff,ff] rfl rfl (take_ofW HT_.out HW_.out (by kernel_rfl)) (fun _ _ _ h => h) (Or.inl ⟨by rfl, ?_⟩) hHeld ?_ ?_
                    rotate_left
                    ·rintro w' ⟨s0, s1⟩
                     go_simp
                     with_reducible rfl
                    rotate_left
                    ·simp only [Act.put, L1_, L2_, L3_, i64_w, i32_w]
                     rfl
                    refine pure_ (i := 13) (N := some 136) (v := ?_) (a' := ?_) #[tt,tt,tt,tt,tt,tt,tt,tt,tt,tt,tt,tt,tt,tt,ff,ff,ff,ff,ff,ff,ff] rfl rfl (any_of HT_.out (by kernel_rfl)) (fun _ _ _ h => h) (Or.inl ⟨by rfl, ?_⟩) ?_ ?_
                    rotate_left
                    ·intro w'
                     go_simp
                     with_reducible rfl
                    rotate_left
                    ·(try go_ints); (try simp (disch := omega) only [n3_]); simp only [Act.put, L1_, L2_, L3_, i64_w, i32_w]
                     rfl
                    refine pure_ (i := 14) (N := some 137) (v := ?_) (a' := ?_) #[tt,tt,tt,tt,tt,tt,tt,tt,tt,tt,tt,tt,tt,tt,tt,ff,ff,ff,ff,ff,ff] rfl rfl (any_of HT_.out (by kernel_rfl)) (fun _ _ _ h => h) (Or.inl ⟨by rfl, ?_⟩) ?_ ?_
                    rotate_left
                    ·intro w'
                     go_simp
                     with_reducible rfl
                    rotate_left
                    ·simp only [Act.put, L1_, L2_, L3_, i64_w, i32_w]
                     rfl
                    refine pure_ (i := 15) (N := some 138) (v := ?_) (a' := ?_) #[tt,tt,tt,tt,tt,tt,tt,tt,tt,tt,tt,tt,tt,tt,tt,tt,ff,ff,ff,ff,ff] rfl rfl (any_of HT_.out (by kernel_rfl)) (fun _ _ _ h => h) (Or.inl ⟨by rfl, ?_⟩) ?_ ?_
                    rotate_left
                    ·intro w'
                     go_simp
                     with_reducible rfl
                    rotate_left
                    ·simp only [Act.put, L1_, L2_, L3_, i64_w, i32_w]
                     rfl
                    refine pure_ (i := 16) (N := some 139) (v := ?_) (a' := ?_) #[tt,tt,tt,tt,tt,tt,tt,tt,tt,tt,tt,tt,tt,tt,tt,tt,tt,ff,ff,ff,ff] rfl rfl (any_of HT_.out (by kernel_rfl)) (fun _ _ _ h => h) (Or.inl ⟨by rfl, ?_⟩) ?_ ?_
                    rotate_left
                    ·intro w'
                     go_simp
                     with_reducible rfl
                    rotate_left
                    ·simp only [Act.put, L1_, L2_, L3_, i64_w, i32_w]
                     rfl
                    refine pure_ (i := 17) (N := some 140) (v := ?_) (a' := ?_) #[tt,tt,tt,tt,tt,tt,tt,tt,tt,tt,tt,tt,tt,tt,tt,tt,tt,tt,ff,ff,ff] rfl rfl (any_of HT_.out (by kernel_rfl)) (fun _ _ _ h => h) (Or.inl ⟨by rfl, ?_⟩) ?_ ?_
                    rotate_left
                    ·intro w'
                     go_simp
                     with_reducible rfl
                    rotate_left
                    ·simp only [Act.put, L1_, L2_, L3_, i64_w, i32_w]
                     rfl
                    refine pure_ (i := 18) (N := some 141) (v := ?_) (a' := ?_) #[tt,tt,tt,tt,tt,tt,tt,tt,tt,tt,tt,tt,tt,tt,tt,tt,tt,tt,tt,ff,ff] rfl rfl (any_of HT_.out (by kernel_rfl)) (fun _ _ _ h => h) (Or.inl ⟨by rfl, ?_⟩) ?_ ?_
                    rotate_left
                    ·intro w'
                     go_simp
                     with_reducible rfl
                    rotate_left
                    ·(try go_ints); (try simp (disch := omega) only [n3_]); simp only [Act.put, L1_, L2_, L3_, i64_w, i32_w]
                     rfl
                    refine pure_ (i := 19) (N := some 142) (v := ?_) (a' := ?_) #[tt,tt,tt,tt,tt,tt,tt,tt,tt,tt,tt,tt,tt,tt,tt,tt,tt,tt,tt,tt,ff] rfl rfl (any_of HT_.out (by kernel_rfl)) (fun _ _ _ h => h) (Or.inl ⟨by rfl, ?_⟩) ?_ ?_
                    rotate_left
                    ·intro w'
                     go_simp
                     with_reducible rfl
                    rotate_left
                    ·(try go_ints); (try simp (disch := omega) only [n3_]); simp only [Act.put, L1_, L2_, L3_, i64_w, i32_w]
                     rfl
                    refine pure_ (i := 20) (N := some 143) (v := ?_) (a' := ?_) #[tt,tt,tt,tt,tt,tt,tt,tt,tt,tt,tt,tt,tt,tt,tt,tt,tt,tt,tt,tt,tt] rfl rfl (any_of HT_.out (by kernel_rfl)) (fun _ _ _ h => h) (Or.inl ⟨by rfl, ?_⟩) ?_ ?_
                    rotate_left
                    ·intro w'
                     go_simp
                     with_reducible rfl
                    rotate_left
                    ·simp only [Act.put, L1_, L2_, L3_, i64_w, i32_w]
                     rfl
                    refine done_ (done_of HT_.out (by kernel_rfl)) ?_
                    try go_wp2
                    go_meet
                    case rel => exact ⟨_, (decide ((wrap64 (x26_4 - x25_3)) < 200)), (by first | rfl | (simp; done) | (simp [*]; done)), H', ⟨by have := HK1.out; have := HK2.out; have := HK3.out; have := HK4.out; first | omega | exact Nat.le_refl _⟩, ⟨by (with_reducible repeat (first | apply Kd.R_alloc | apply Kd.R_drewN | apply Kd.R_drew)); exact HO_13.out⟩, ⟨by (with_reducible repeat (first | apply Kd.R_alloc | apply Kd.R_drewN | apply Kd.R_drew)); exact HO_14.out⟩, ⟨by (with_reducible repeat (first | apply Kd.R_alloc | apply Kd.R_drewN | apply Kd.R_drew)); exact HO_15.out⟩, ⟨by (with_reducible repeat (first | apply Kd.R_alloc | apply Kd.R_drewN | apply Kd.R_drew)); exact HO_220000.out⟩, ⟨by (with_reducible repeat (first | refine b1_ ?_ _ | refine b2_ ?_ | refine b3_ ?_ _)); exact BK217.out⟩, ⟨by (with_reducible repeat (first | refine b1_ ?_ _ | refine b2_ ?_ | refine b3_ ?_ _)); exact BK219.out⟩, ⟨(show IsS126 w _ gb218 l2 x219001_3 x219002_3 from by repeat (first | (with_reducible first | exact HI218.out | apply IsS126.alloc | apply IsS126.drewN | apply IsS126.drew | apply IsS126.set_1 | apply IsS126.set_2 | refine IsS126.far ?_ NB218_217.out _ | refine IsS126.far ?_ NB218_219.out _) | exact HI218.out))⟩, ⟨by repeat (first | (with_reducible first | exact HB.out | apply below_alloc | apply pw_below_drewN | apply below_drew1 | refine below_set ?_ (IsS126.ge HI218.out) | refine below_set ?_ GE217.out | refine below_set ?_ GE219.out) | exact HB.out)⟩⟩
                   ·rw [if_neg c92] at H
                    have c92b0 : ((rd x13_2 x26_4) == (rd x13_2 x25_3)) = false := beq_eq_false_iff_ne.mpr c92
                    have c92b1 : ((rd x13_2 x26_4) != (rd x13_2 x25_3)) = true := bne_iff_ne.mpr c92
                    have H' := Aside0.mk H
                    clear H
                    try go_wp2
                    have n0_ := Aside0.mk (Kd.R_drew HO_13.out)
                    have n1_ := Aside0.mk (Kd.R_drew HO_14.out)
                    have n2_ := Aside0.mk (Kd.R_drew HO_15.out)
                    have n3_ := Aside0.mk (Kd.R_drew HO_220000.out)
                    have n4_ := Aside0.mk (blk_drew BK217.out)
                    have n5_ := Aside0.mk (blk_drew BK219.out)
                    have n6_ := Aside0.mk (IsS126.drew HI218.out)
                    have n7_ := Aside0.mk (below_drew1 HB.out)
                    clear HO_13
                    clear HO_14
                    clear HO_15
                    clear HO_220000
                    clear BK217
                    clear BK219
                    clear HI218
                    clear HB
                    have HO_13 := n0_
                    have HO_14 := n1_
                    have HO_15 := n2_
                    have HO_220000 := n3_
                    have BK217 := n4_
                    have BK219 := n5_
                    have HI218 := n6_
                    have HB := n7_
                    clear n0_ n1_ n2_ n3_ n4_ n5_ n6_ n7_
                    have p275 : 0 ≤ (x26_4 : Int) := of_decide_eq_true (by first | (with_reducible assumption) | assumption)
                    have q275 : x26_4 < (x13_2.length : Int) := of_decide_eq_true (by first | (with_reducible assumption) | assumption)
                    obtain ⟨ad275, e275, hx275_0⟩ := Kd.at_int (Kd.R_reads' HO_13.out).2.2 x26_4 p275 q275
                    cases e275
                    replace p275 := eq_true p275
                    replace q275 := eq_true q275
                    have p276 : 0 ≤ (x25_3 : Int) := of_decide_eq_true (by first | (with_reducible assumption) | assumption)
                    have q276 : x25_3 < (x13_2.length : Int) := of_decide_eq_true (by first | (with_reducible assumption) | assumption)
                    obtain ⟨ad276, e276, hx276_0⟩ := Kd.at_int (Kd.R_reads' HO_13.out).2.2 x25_3 p276 q276
                    obtain rfl : ad275 = ad276 := (by injection e276)
                    replace p276 := eq_true p276
                    replace q276 := eq_true q276
                    refine start_ (n := 21) (S := fun w' => w'.cell? (ad275.add (x26_4).toNat) = some (.int .u8 (rd x13_2 x26_4)) ∧ w'.cell? (ad275.add (x25_3).toNat) = some (.int .u8 (rd x13_2 x25_3))) (ds := []) #[ff,ff,ff,ff,ff,ff,ff,ff,ff,ff,ff,ff,ff,ff,ff,ff,ff,ff,ff,ff,ff] (by kernel_rfl) rfl rfl ⟨hx275_0, hx276_0⟩ (fun hHeld => ?_); refine with_tabW spec_SpotBytes.tab35 spec_SpotBytes.bits35 (fun HT_ HW_ => ?_)
                    generalize wr.drew = w94 at HO_13 HO_14 HO_15 HO_220000 BK217 BK219 HI218 HB hx275_0 hx276_0 hHeld ⊢
                    refine pure_ (i := 0) (N := some 123) (v := ?_) (a' := ?_) #[tt,ff,ff,ff,ff,ff,ff,ff,ff,ff,ff,ff,ff,ff,ff,ff,ff,ff,ff,ff,ff] rfl rfl (any_of HT_.out (by kernel_rfl)) (fun _ _ _ h => h) (Or.inl ⟨by rfl, ?_⟩) ?_ ?_
                    rotate_left
                    ·intro w'
                     go_simp
                     with_reducible rfl
                    rotate_left
                    ·simp only [Act.put, L1_, L2_, L3_, i64_w, i32_w]
                     rfl
                    refine pure_ (i := 1) (N := some 124) (v := ?_) (a' := ?_) #[tt,tt,ff,ff,ff,ff,ff,ff,ff,ff,ff,ff,ff,ff,ff,ff,ff,ff,ff,ff,ff] rfl rfl (any_of HT_.out (by kernel_rfl)) (fun _ _ _ h => h) (Or.inl ⟨by rfl, ?_⟩) ?_ ?_
                    rotate_left
                    ·intro w'
                     go_simp
                     with_reducible rfl
                    rotate_left
                    ·simp only [Act.put, L1_, L2_, L3_, i64_w, i32_w]
                     rfl
                    refine pure_ (i := 2) (N := some 125) (v := ?_) (a' := ?_) #[tt,tt,tt,ff,ff,ff,ff,ff,ff,ff,ff,ff,ff,ff,ff,ff,ff,ff,ff,ff,ff] rfl rfl (any_of HT_.out (by kernel_rfl)) (fun _ _ _ h => h) (Or.inl ⟨by rfl, ?_⟩) ?_ ?_
                    rotate_left
                    ·intro w'
                     go_simp
                     with_reducible rfl
                    rotate_left
                    ·simp only [Act.put, L1_, L2_, L3_, i64_w, i32_w]
                     rfl
                    refine pure_ (i := 3) (N := some 126) (v := ?_) (a' := ?_) #[tt,tt,tt,tt,ff,ff,ff,ff,ff,ff,ff,ff,ff,ff,ff,ff,ff,ff,ff,ff,ff] rfl rfl (any_of HT_.out (by kernel_rfl)) (fun _ _ _ h => h) (Or.inl ⟨by rfl, ?_⟩) ?_ ?_
                    rotate_left
                    ·intro w'
                     go_simp
                     with_reducible rfl
                    rotate_left
                    ·(try go_ints); (try simp (disch := omega) only [n3_]); simp only [Act.put, L1_, L2_, L3_, i64_w, i32_w]
                     rfl
                    refine pure_ (i := 4) (N := some 127) (v := ?_) (a' := ?_) #[tt,tt,tt,tt,tt,ff,ff,ff,ff,ff,ff,ff,ff,ff,ff,ff,ff,ff,ff,ff,ff] rfl rfl (any_of HT_.out (by kernel_rfl)) (fun _ _ _ h => h) (Or.inl ⟨by rfl, ?_⟩) ?_ ?_
                    rotate_left
                    ·intro w'
                     go_simp
                     with_reducible rfl
                    rotate_left
                    ·simp only [Act.put, L1_, L2_, L3_, i64_w, i32_w]
                     rfl
                    refine pure_ (i := 5) (N := some 128) (v := ?_) (a' := ?_) #[tt,tt,tt,tt,tt,tt,ff,ff,ff,ff,ff,ff,ff,ff,ff,ff,ff,ff,ff,ff,ff] rfl rfl (any_of HT_.out (by kernel_rfl)) (fun _ _ _ h => h) (Or.inl ⟨by rfl, ?_⟩) ?_ ?_
                    rotate_left
                    ·intro w'
                     go_simp
                     with_reducible rfl
                    rotate_left
                    ·simp only [Act.put, L1_, L2_, L3_, i64_w, i32_w]
                     rfl
                    refine pure_ (i := 6) (N := some 129) (v := ?_) (a' := ?_) #[tt,tt,tt,tt,tt,tt,tt,ff,ff,ff,ff,ff,ff,ff,ff,ff,ff,ff,ff,ff,ff] rfl rfl (any_of HT_.out (by kernel_rfl)) (fun _ _ _ h => h) (Or.inl ⟨by rfl, ?_⟩) ?_ ?_
                    rotate_left
                    ·intro w'
                     go_simp
                     with_reducible rfl
                    rotate_left
                    ·simp only [Act.put, L1_, L2_, L3_, i64_w, i32_w]
                     rfl
                    refine pure_ (i := 7) (N := some 130) (v := ?_) (a' := ?_) #[tt,tt,tt,tt,tt,tt,tt,tt,ff,ff,ff,ff,ff,ff,ff,ff,ff,ff,ff,ff,ff] rfl rfl (any_of HT_.out (by kernel_rfl)) (fun _ _ _ h => h) (Or.inl ⟨by rfl, ?_⟩) ?_ ?_
                    rotate_left
                    ·intro w'
                     go_simp
                     with_reducible rfl
                    rotate_left
                    ·simp only [Act.put, L1_, L2_, L3_, i64_w, i32_w]
                     rfl
                    refine pure_ (i := 9) (N := some 132) (v := ?_) (a' := ?_) #[tt,tt,tt,tt,tt,tt,tt,tt,ff,tt,ff,ff,ff,ff,ff,ff,ff,ff,ff,ff,ff] rfl rfl (any_of HT_.out (by kernel_rfl)) (fun _ _ _ h => h) (Or.inl ⟨by rfl, ?_⟩) ?_ ?_
                    rotate_left
                    ·intro w'
                     go_simp
                     with_reducible rfl
                    rotate_left
                    ·simp only [Act.put, L1_, L2_, L3_, i64_w, i32_w]
                     rfl
                    refine pure_ (i := 10) (N := some 133) (v := ?_) (a' := ?_) #[tt,tt,tt,tt,tt,tt,tt,tt,ff,tt,tt,ff,ff,ff,ff,ff,ff,ff,ff,ff,ff] rfl rfl (any_of HT_.out (by kernel_rfl)) (fun _ _ _ h => h) (Or.inl ⟨by rfl, ?_⟩) ?_ ?_
                    rotate_left
                    ·intro w'
                     go_simp
                     with_reducible rfl
                    rotate_left
                    ·simp only [Act.put, L1_, L2_, L3_, i64_w, i32_w]
                     rfl
                    refine pure_ (i := 11) (N := some 134) (v := ?_) (a' := ?_) #[tt,tt,tt,tt,tt,tt,tt,tt,ff,tt,tt,tt,ff,ff,ff,ff,ff,ff,ff,ff,ff] rfl rfl (any_of HT_.out (by kernel_rfl)) (fun _ _ _ h => h) (Or.inl ⟨by rfl, ?_⟩) ?_ ?_
                    rotate_left
                    ·intro w'
                     go_simp
                     with_reducible rfl
                    rotate_left
                    ·simp only [Act.put, L1_, L2_, L3_, i64_w, i32_w]
                     rfl
                    refine take_ (i := 8) (N := some 131) (v := ?_) (a' := ?_) #[tt,tt,tt,tt,tt,tt,tt,tt,tt,tt,tt,tt,ff,ff,ff,ff,ff,ff,ff,ff,ff] rfl rfl (take_ofW HT_.out HW_.out (by kernel_rfl)) (fun _ _ _ h => h) (Or.inl ⟨by rfl, ?_⟩) hHeld ?_ ?_
                    rotate_left
                    ·rintro w' ⟨s0, s1⟩
                     go_simp
                     with_reducible rfl
                    rotate_left
                    ·simp only [Act.put, L1_, L2_, L3_, i64_w, i32_w]
                     rfl
                    refine take_ (i := 12) (N := some 135) (v := ?_) (a' := ?_) #[tt,tt,tt,tt,tt,tt,tt,tt,tt,tt,tt,tt,tt,ff,ff,ff,ff,ff,ff,ff,ff] rfl rfl (take_ofW HT_.out HW_.out (by kernel_rfl)) (fun _ _ _ h => h) (Or.inl ⟨by rfl, ?_⟩) hHeld ?_ ?_
                    rotate_left
                    ·rintro w' ⟨s0, s1⟩
                     go_simp
                     with_reducible rfl
                    rotate_left
                    ·simp only [Act.put, L1_, L2_, L3_, i64_w, i32_w]
                     rfl
                    refine pure_ (i := 13) (N := some 136) (v := ?_) (a' := ?_) #[tt,tt,tt,tt,tt,tt,tt,tt,tt,tt,tt,tt,tt,tt,ff,ff,ff,ff,ff,ff,ff] rfl rfl (any_of HT_.out (by kernel_rfl)) (fun _ _ _ h => h) (Or.inl ⟨by rfl, ?_⟩) ?_ ?_
                    rotate_left
                    ·intro w'
                     go_simp
                     with_reducible rfl
                    rotate_left
                    ·(try go_ints); (try simp (disch := omega) only [n3_]); simp only [Act.put, L1_, L2_, L3_, i64_w, i32_w]
                     rfl
                    refine pure_ (i := 14) (N := some 137) (v := ?_) (a' := ?_) #[tt,tt,tt,tt,tt,tt,tt,tt,tt,tt,tt,tt,tt,tt,tt,ff,ff,ff,ff,ff,ff] rfl rfl (any_of HT_.out (by kernel_rfl)) (fun _ _ _ h => h) (Or.inl ⟨by rfl, ?_⟩) ?_ ?_
                    rotate_left
                    ·intro w'
                     go_simp
                     with_reducible rfl
                    rotate_left
                    ·simp only [Act.put, L1_, L2_, L3_, i64_w, i32_w]
                     rfl
                    refine pure_ (i := 15) (N := some 138) (v := ?_) (a' := ?_) #[tt,tt,tt,tt,tt,tt,tt,tt,tt,tt,tt,tt,tt,tt,tt,tt,ff,ff,ff,ff,ff] rfl rfl (any_of HT_.out (by kernel_rfl)) (fun _ _ _ h => h) (Or.inl ⟨by rfl, ?_⟩) ?_ ?_
                    rotate_left
                    ·intro w'
                     go_simp
                     with_reducible rfl
                    rotate_left
                    ·simp only [Act.put, L1_, L2_, L3_, i64_w, i32_w]
                     rfl
                    refine pure_ (i := 16) (N := some 139) (v := undef) (a' := ?_) #[tt,tt,tt,tt,tt,tt,tt,tt,tt,tt,tt,tt,tt,tt,tt,tt,tt,ff,ff,ff,ff] rfl rfl (any_of HT_.out (by kernel_rfl)) (fun _ _ _ h => h) (Or.inr ⟨by rfl, rfl⟩) ?_ ?_
                    rotate_left
                    ·simp only [Act.put, L1_, L2_, L3_, i64_w, i32_w]
                     rfl
                    refine pure_ (i := 17) (N := some 140) (v := undef) (a' := ?_) #[tt,tt,tt,tt,tt,tt,tt,tt,tt,tt,tt,tt,tt,tt,tt,tt,tt,tt,ff,ff,ff] rfl rfl (any_of HT_.out (by kernel_rfl)) (fun _ _ _ h => h) (Or.inr ⟨by rfl, rfl⟩) ?_ ?_
                    rotate_left
                    ·simp only [Act.put, L1_, L2_, L3_, i64_w, i32_w]
                     rfl
                    refine pure_ (i := 18) (N := some 141) (v := undef) (a' := ?_) #[tt,tt,tt,tt,tt,tt,tt,tt,tt,tt,tt,tt,tt,tt,tt,tt,tt,tt,tt,ff,ff] rfl rfl (any_of HT_.out (by kernel_rfl)) (fun _ _ _ h => h) (Or.inr ⟨by rfl, rfl⟩) ?_ ?_
                    rotate_left
                    ·(try go_ints); (try simp (disch := omega) only [n3_]); simp only [Act.put, L1_, L2_, L3_, i64_w, i32_w]
                     rfl
                    refine pure_ (i := 19) (N := some 142) (v := undef) (a' := ?_) #[tt,tt,tt,tt,tt,tt,tt,tt,tt,tt,tt,tt,tt,tt,tt,tt,tt,tt,tt,tt,ff] rfl rfl (any_of HT_.out (by kernel_rfl)) (fun _ _ _ h => h) (Or.inr ⟨by rfl, rfl⟩) ?_ ?_
                    rotate_left
                    ·(try go_ints); (try simp (disch := omega) only [n3_]); simp only [Act.put, L1_, L2_, L3_, i64_w, i32_w]
                     rfl
                    refine pure_ (i := 20) (N := some 143) (v := ?_) (a' := ?_) #[tt,tt,tt,tt,tt,tt,tt,tt,tt,tt,tt,tt,tt,tt,tt,tt,tt,tt,tt,tt,tt] rfl rfl (any_of HT_.out (by kernel_rfl)) (fun _ _ _ h => h) (Or.inl ⟨by rfl, ?_⟩) ?_ ?_
                    rotate_left
                    ·intro w'
                     go_simp
                     with_reducible rfl
                    rotate_left
                    ·simp only [Act.put, L1_, L2_, L3_, i64_w, i32_w]
                     rfl
                    refine done_ (done_of HT_.out (by kernel_rfl)) ?_
                    try go_wp2
                    go_meet
                    case rel => exact ⟨_, (false), (by first | rfl | (simp; done) | (simp [*]; done)), H', ⟨by have := HK1.out; have := HK2.out; have := HK3.out; have := HK4.out; first | omega | exact Nat.le_refl _⟩, ⟨by (with_reducible repeat (first | apply Kd.R_alloc | apply Kd.R_drewN | apply Kd.R_drew)); exact HO_13.out⟩, ⟨by (with_reducible repeat (first | apply Kd.R_alloc | apply Kd.R_drewN | apply Kd.R_drew)); exact HO_14.out⟩, ⟨by (with_reducible repeat (first | apply Kd.R_alloc | apply Kd.R_drewN | apply Kd.R_drew)); exact HO_15.out⟩, ⟨by (with_reducible repeat (first | apply Kd.R_alloc | apply Kd.R_drewN | apply Kd.R_drew)); exact HO_220000.out⟩, ⟨by (with_reducible repeat (first | refine b1_ ?_ _ | refine b2_ ?_ | refine b3_ ?_ _)); exact BK217.out⟩, ⟨by (with_reducible repeat (first | refine b1_ ?_ _ | refine b2_ ?_ | refine b3_ ?_ _)); exact BK219.out⟩, ⟨(show IsS126 w _ gb218 l2 x219001_3 x219002_3 from by repeat (first | (with_reducible first | exact HI218.out | apply IsS126.alloc | apply IsS126.drewN | apply IsS126.drew | apply IsS126.set_1 | apply IsS126.set_2 | refine IsS126.far ?_ NB218_217.out _ | refine IsS126.far ?_ NB218_219.out _) | exact HI218.out))⟩, ⟨by repeat (first | (with_reducible first | exact HB.out | apply below_alloc | apply pw_below_drewN | apply below_drew1 | refine below_set ?_ (IsS126.ge HI218.out) | refine below_set ?_ GE217.out | refine below_set ?_ GE219.out) | exact HB.out)⟩⟩
                  ·rw [if_neg c91] at H
                   exact absurd H (by simp)
                 ·rw [if_neg c90] at H
                  exact absurd H (by simp)
                ·rw [if_neg c89] at H
                 exact absurd H (by simp)
               ·rw [if_neg c88] at H
                have c88b0 : decide (x26_4 < (x13_2.length : Int)) = false := decide_eq_false c88
                clear c88
                (first | rw [c88b0] | (simp only [i64_w, i32_w]; rw [c88b0]) | skip)
                have H' := Aside0.mk H
                clear H
                try go_wp2
                have n0_ := Aside0.mk (Kd.R_drew HO_13.out)
                have n1_ := Aside0.mk (Kd.R_drew HO_14.out)
                have n2_ := Aside0.mk (Kd.R_drew HO_15.out)
                have n3_ := Aside0.mk (Kd.R_drew HO_220000.out)
                have n4_ := Aside0.mk (blk_drew BK217.out)
                have n5_ := Aside0.mk (blk_drew BK219.out)
                have n6_ := Aside0.mk (IsS126.drew HI218.out)
                have n7_ := Aside0.mk (below_drew1 HB.out)
                clear HO_13
                clear HO_14
                clear HO_15
                clear HO_220000
                clear BK217
                clear BK219
                clear HI218
                clear HB
                have HO_13 := n0_
                have HO_14 := n1_
                have HO_15 := n2_
                have HO_220000 := n3_
                have BK217 := n4_
                have BK219 := n5_
                have HI218 := n6_
                have HB := n7_
                clear n0_ n1_ n2_ n3_ n4_ n5_ n6_ n7_
                refine start_ (n := 21) (S := fun w' => True) (ds := []) #[ff,ff,ff,ff,ff,ff,ff,ff,ff,ff,ff,ff,ff,ff,ff,ff,ff,ff,ff,ff,ff] (by kernel_rfl) rfl rfl trivial (fun hHeld => ?_); refine with_tabW spec_SpotBytes.tab35 spec_SpotBytes.bits35 (fun HT_ HW_ => ?_)
                generalize wr.drew = w95 at HO_13 HO_14 HO_15 HO_220000 BK217 BK219 HI218 HB hHeld ⊢
                refine pure_ (i := 0) (N := some 123) (v := ?_) (a' := ?_) #[tt,ff,ff,ff,ff,ff,ff,ff,ff,ff,ff,ff,ff,ff,ff,ff,ff,ff,ff,ff,ff] rfl rfl (any_of HT_.out (by kernel_rfl)) (fun _ _ _ h => h) (Or.inl ⟨by rfl, ?_⟩) ?_ ?_
                rotate_left
                ·intro w'
                 go_simp
                 with_reducible rfl
                rotate_left
                ·simp only [Act.put, L1_, L2_, L3_, i64_w, i32_w]
                 rfl
                refine pure_ (i := 1) (N := some 124) (v := ?_) (a' := ?_) #[tt,tt,ff,ff,ff,ff,ff,ff,ff,ff,ff,ff,ff,ff,ff,ff,ff,ff,ff,ff,ff] rfl rfl (any_of HT_.out (by kernel_rfl)) (fun _ _ _ h => h) (Or.inl ⟨by rfl, ?_⟩) ?_ ?_
                rotate_left
                ·intro w'
                 go_simp
                 with_reducible rfl
                rotate_left
                ·simp only [Act.put, L1_, L2_, L3_, i64_w, i32_w]
                 rfl
                refine pure_ (i := 2) (N := some 125) (v := ?_) (a' := ?_) #[tt,tt,tt,ff,ff,ff,ff,ff,ff,ff,ff,ff,ff,ff,ff,ff,ff,ff,ff,ff,ff] rfl rfl (any_of HT_.out (by kernel_rfl)) (fun _ _ _ h => h) (Or.inl ⟨by rfl, ?_⟩) ?_ ?_
                rotate_left
                ·intro w'
                 go_simp
                 with_reducible rfl
                rotate_left
                ·simp only [Act.put, L1_, L2_, L3_, i64_w, i32_w]
                 rfl
                refine pure_ (i := 3) (N := some 126) (v := ?_) (a' := ?_) #[tt,tt,tt,tt,ff,ff,ff,ff,ff,ff,ff,ff,ff,ff,ff,ff,ff,ff,ff,ff,ff] rfl rfl (any_of HT_.out (by kernel_rfl)) (fun _ _ _ h => h) (Or.inl ⟨by rfl, ?_⟩) ?_ ?_
                rotate_left
                ·intro w'
                 go_simp
                 with_reducible rfl
                rotate_left
                ·(try go_ints); (try simp (disch := omega) only [n3_]); simp only [Act.put, L1_, L2_, L3_, i64_w, i32_w]
                 rfl
                refine pure_ (i := 4) (N := some 127) (v := ?_) (a' := ?_) #[tt,tt,tt,tt,tt,ff,ff,ff,ff,ff,ff,ff,ff,ff,ff,ff,ff,ff,ff,ff,ff] rfl rfl (any_of HT_.out (by kernel_rfl)) (fun _ _ _ h => h) (Or.inl ⟨by rfl, ?_⟩) ?_ ?_
                rotate_left
                ·intro w'
                 go_simp
                 with_reducible rfl
                rotate_left
                ·simp only [Act.put, L1_, L2_, L3_, i64_w, i32_w]
                 rfl
                refine pure_ (i := 5) (N := some 128) (v := undef) (a' := ?_) #[tt,tt,tt,tt,tt,tt,ff,ff,ff,ff,ff,ff,ff,ff,ff,ff,ff,ff,ff,ff,ff] rfl rfl (any_of HT_.out (by kernel_rfl)) (fun _ _ _ h => h) (Or.inr ⟨by rfl, rfl⟩) ?_ ?_
                rotate_left
                ·simp only [Act.put, L1_, L2_, L3_, i64_w, i32_w]
                 rfl
                refine pure_ (i := 6) (N := some 129) (v := undef) (a' := ?_) #[tt,tt,tt,tt,tt,tt,tt,ff,ff,ff,ff,ff,ff,ff,ff,ff,ff,ff,ff,ff,ff] rfl rfl (any_of HT_.out (by kernel_rfl)) (fun _ _ _ h => h) (Or.inr ⟨by rfl, rfl⟩) ?_ ?_
                rotate_left
                ·simp only [Act.put, L1_, L2_, L3_, i64_w, i32_w]
                 rfl
                refine pure_ (i := 7) (N := some 130) (v := undef) (a' := ?_) #[tt,tt,tt,tt,tt,tt,tt,tt,ff,ff,ff,ff,ff,ff,ff,ff,ff,ff,ff,ff,ff] rfl rfl (any_of HT_.out (by kernel_rfl)) (fun _ _ _ h => h) (Or.inr ⟨by rfl, rfl⟩) ?_ ?_
                rotate_left
                ·simp only [Act.put, L1_, L2_, L3_, i64_w, i32_w]
                 rfl
                refine pure_ (i := 8) (N := some 131) (v := undef) (a' := ?_) #[tt,tt,tt,tt,tt,tt,tt,tt,tt,ff,ff,ff,ff,ff,ff,ff,ff,ff,ff,ff,ff] rfl rfl (any_of HT_.out (by kernel_rfl)) (fun _ _ _ h => h) (Or.inr ⟨by rfl, rfl⟩) ?_ ?_
                rotate_left
                ·simp only [Act.put, L1_, L2_, L3_, i64_w, i32_w]
                 rfl
                refine pure_ (i := 9) (N := some 132) (v := undef) (a' := ?_) #[tt,tt,tt,tt,tt,tt,tt,tt,tt,tt,ff,ff,ff,ff,ff,ff,ff,ff,ff,ff,ff] rfl rfl (any_of HT_.out (by kernel_rfl)) (fun _ _ _ h => h) (Or.inr ⟨by rfl, rfl⟩) ?_ ?_
                rotate_left
                ·simp only [Act.put, L1_, L2_, L3_, i64_w, i32_w]
                 rfl
                refine pure_ (i := 10) (N := some 133) (v := undef) (a' := ?_) #[tt,tt,tt,tt,tt,tt,tt,tt,tt,tt,tt,ff,ff,ff,ff,ff,ff,ff,ff,ff,ff] rfl rfl (any_of HT_.out (by kernel_rfl)) (fun _ _ _ h => h) (Or.inr ⟨by rfl, rfl⟩) ?_ ?_
                rotate_left
                ·simp only [Act.put, L1_, L2_, L3_, i64_w, i32_w]
                 rfl
                refine pure_ (i := 11) (N := some 134) (v := undef) (a' := ?_) #[tt,tt,tt,tt,tt,tt,tt,tt,tt,tt,tt,tt,ff,ff,ff,ff,ff,ff,ff,ff,ff] rfl rfl (any_of HT_.out (by kernel_rfl)) (fun _ _ _ h => h) (Or.inr ⟨by rfl, rfl⟩) ?_ ?_
                rotate_left
                ·simp only [Act.put, L1_, L2_, L3_, i64_w, i32_w]
                 rfl
                refine pure_ (i := 12) (N := some 135) (v := undef) (a' := ?_) #[tt,tt,tt,tt,tt,tt,tt,tt,tt,tt,tt,tt,tt,ff,ff,ff,ff,ff,ff,ff,ff] rfl rfl (any_of HT_.out (by kernel_rfl)) (fun _ _ _ h => h) (Or.inr ⟨by rfl, rfl⟩) ?_ ?_
                rotate_left
                ·simp only [Act.put, L1_, L2_, L3_, i64_w, i32_w]
                 rfl
                refine pure_ (i := 13) (N := some 136) (v := undef) (a' := ?_) #[tt,tt,tt,tt,tt,tt,tt,tt,tt,tt,tt,tt,tt,tt,ff,ff,ff,ff,ff,ff,ff] rfl rfl (any_of HT_.out (by kernel_rfl)) (fun _ _ _ h => h) (Or.inr ⟨by rfl, rfl⟩) ?_ ?_
                rotate_left
                ·(try go_ints); (try simp (disch := omega) only [n3_]); simp only [Act.put, L1_, L2_, L3_, i64_w, i32_w]
                 rfl
                refine pure_ (i := 14) (N := some 137) (v := ?_) (a' := ?_) #[tt,tt,tt,tt,tt,tt,tt,tt,tt,tt,tt,tt,tt,tt,tt,ff,ff,ff,ff,ff,ff] rfl rfl (any_of HT_.out (by kernel_rfl)) (fun _ _ _ h => h) (Or.inl ⟨by rfl, ?_⟩) ?_ ?_
                rotate_left
                ·intro w'
                 go_simp
                 with_reducible rfl
                rotate_left
                ·simp only [Act.put, L1_, L2_, L3_, i64_w, i32_w]
                 rfl
                refine pure_ (i := 15) (N := some 138) (v := ?_) (a' := ?_) #[tt,tt,tt,tt,tt,tt,tt,tt,tt,tt,tt,tt,tt,tt,tt,tt,ff,ff,ff,ff,ff] rfl rfl (any_of HT_.out (by kernel_rfl)) (fun _ _ _ h => h) (Or.inl ⟨by rfl, ?_⟩) ?_ ?_
                rotate_left
                ·intro w'
                 go_simp
                 with_reducible rfl
                rotate_left
                ·simp only [Act.put, L1_, L2_, L3_, i64_w, i32_w]
                 rfl
                refine pure_ (i := 16) (N := some 139) (v := undef) (a' := ?_) #[tt,tt,tt,tt,tt,tt,tt,tt,tt,tt,tt,tt,tt,tt,tt,tt,tt,ff,ff,ff,ff] rfl rfl (any_of HT_.out (by kernel_rfl)) (fun _ _ _ h => h) (Or.inr ⟨by rfl, rfl⟩) ?_ ?_
                rotate_left
                ·simp only [Act.put, L1_, L2_, L3_, i64_w, i32_w]
                 rfl
                refine pure_ (i := 17) (N := some 140) (v := undef) (a' := ?_) #[tt,tt,tt,tt,tt,tt,tt,tt,tt,tt,tt,tt,tt,tt,tt,tt,tt,tt,ff,ff,ff] rfl rfl (any_of HT_.out (by kernel_rfl)) (fun _ _ _ h => h) (Or.inr ⟨by rfl, rfl⟩) ?_ ?_
                rotate_left
                ·simp only [Act.put, L1_, L2_, L3_, i64_w, i32_w]
                 rfl
                refine pure_ (i := 18) (N := some 141) (v := undef) (a' := ?_) #[tt,tt,tt,tt,tt,tt,tt,tt,tt,tt,tt,tt,tt,tt,tt,tt,tt,tt,tt,ff,ff] rfl rfl (any_of HT_.out (by kernel_rfl)) (fun _ _ _ h => h) (Or.inr ⟨by rfl, rfl⟩) ?_ ?_
                rotate_left
                ·(try go_ints); (try simp (disch := omega) only [n3_]); simp only [Act.put, L1_, L2_, L3_, i64_w, i32_w]
                 rfl
                refine pure_ (i := 19) (N := some 142) (v := undef) (a' := ?_) #[tt,tt,tt,tt,tt,tt,tt,tt,tt,tt,tt,tt,tt,tt,tt,tt,tt,tt,tt,tt,ff] rfl rfl (any_of HT_.out (by kernel_rfl)) (fun _ _ _ h => h) (Or.inr ⟨by rfl, rfl⟩) ?_ ?_
                rotate_left
                ·(try go_ints); (try simp (disch := omega) only [n3_]); simp only [Act.put, L1_, L2_, L3_, i64_w, i32_w]
                 rfl
                refine pure_ (i := 20) (N := some 143) (v := ?_) (a' := ?_) #[tt,tt,tt,tt,tt,tt,tt,tt,tt,tt,tt,tt,tt,tt,tt,tt,tt,tt,tt,tt,tt] rfl rfl (any_of HT_.out (by kernel_rfl)) (fun _ _ _ h => h) (Or.inl ⟨by rfl, ?_⟩) ?_ ?_
                rotate_left
                ·intro w'
                 go_simp
                 with_reducible rfl
                rotate_left
                ·simp only [Act.put, L1_, L2_, L3_, i64_w, i32_w]
                 rfl
                refine done_ (done_of HT_.out (by kernel_rfl)) ?_
                try go_wp2
                go_meet
                case rel => exact ⟨_, (false), (by first | rfl | (simp; done) | (simp [*]; done)), H', ⟨by have := HK1.out; have := HK2.out; have := HK3.out; have := HK4.out; first | omega | exact Nat.le_refl _⟩, ⟨by (with_reducible repeat (first | apply Kd.R_alloc | apply Kd.R_drewN | apply Kd.R_drew)); exact HO_13.out⟩, ⟨by (with_reducible repeat (first | apply Kd.R_alloc | apply Kd.R_drewN | apply Kd.R_drew)); exact HO_14.out⟩, ⟨by (with_reducible repeat (first | apply Kd.R_alloc | apply Kd.R_drewN | apply Kd.R_drew)); exact HO_15.out⟩, ⟨by (with_reducible repeat (first | apply Kd.R_alloc | apply Kd.R_drewN | apply Kd.R_drew)); exact HO_220000.out⟩, ⟨by (with_reducible repeat (first | refine b1_ ?_ _ | refine b2_ ?_ | refine b3_ ?_ _)); exact BK217.out⟩, ⟨by (with_reducible repeat (first | refine b1_ ?_ _ | refine b2_ ?_ | refine b3_ ?_ _)); exact BK219.out⟩, ⟨(show IsS126 w _ gb218 l2 x219001_3 x219002_3 from by repeat (first | (with_reducible first | exact HI218.out | apply IsS126.alloc | apply IsS126.drewN | apply IsS126.drew | apply IsS126.set_1 | apply IsS126.set_2 | refine IsS126.far ?_ NB218_217.out _ | refine IsS126.far ?_ NB218_219.out _) | exact HI218.out))⟩, ⟨by repeat (first | (with_reducible first | exact HB.out | apply below_alloc | apply pw_below_drewN | apply below_drew1 | refine below_set ?_ (IsS126.ge HI218.out) | refine below_set ?_ GE217.out | refine below_set ?_ GE219.out) | exact HB.out)⟩⟩
              case rest =>
               clear HC87
               try clear p2
               try clear q2
               try clear hx2
               try clear p6
               try clear c8
               try clear c9
               try clear p27
               try clear q27
               try clear hx27
               try clear p64
               try clear c88
               try clear c88b0
               try clear c89
               try clear c89b0
               try clear c90
               try clear c90b0
               try clear c91
               try clear c91b0
               try clear c92
               try clear c92b0
               try clear c92b1
               try clear hx275_0
               try clear hx276_0
               try clear p275
               try clear p276
               try clear q275
               try clear q276
               obtain ⟨kq, x143_86, rfl, HA, HJ86, HO_13, HO_14, HO_15, HO_220000, BK217, BK219, HI218, HB⟩ := hcut
               cases kq with
               | zero => exact absurd HA.out (by simp [spec_SpotBytes.j6])
               | succ kj86 =>
                have H := HA.out
                clear HA
                simp only [spec_SpotBytes.j6] at H
                by_cases c96 : x143_86 = true
                ·subst c96
                 have H1 : (spec_SpotBytes.l4 kj86 x13_2 x14_2 x15_2 x25_3 (wrap64 (x26_4 + 1)) l2 x219001_3 x219002_3 x220000_3 ()) = some r := by rw [if_pos rfl] at H; exact H
                 clear H
                 have H := H1
                 clear H1
                 have H' := Aside0.mk H
                 clear H
                 go_wp2
                 go_roundg kj86
                 case measure => have := HK1.out; have := HK2.out; have := HK3.out; have := HK4.out; have := HJ86.out; omega
                 case rel => exact ⟨(wrap64 (x26_4 + 1)), (by first | rfl | (simp; done) | (simp [*]; done)), H', ⟨by have := HK1.out; have := HK2.out; have := HK3.out; have := HK4.out; have := HJ86.out; omega⟩, ⟨by (with_reducible repeat (first | apply Kd.R_alloc | apply Kd.R_drewN | apply Kd.R_drew)); exact HO_13.out⟩, ⟨by (with_reducible repeat (first | apply Kd.R_alloc | apply Kd.R_drewN | apply Kd.R_drew)); exact HO_14.out⟩, ⟨by (with_reducible repeat (first | apply Kd.R_alloc | apply Kd.R_drewN | apply Kd.R_drew)); exact HO_15.out⟩, ⟨by (with_reducible repeat (first | apply Kd.R_alloc | apply Kd.R_drewN | apply Kd.R_drew)); exact HO_220000.out⟩, ⟨by (with_reducible repeat (first | refine b1_ ?_ _ | refine b2_ ?_ | refine b3_ ?_ _)); exact BK217.out⟩, ⟨by (with_reducible repeat (first | refine b1_ ?_ _ | refine b2_ ?_ | refine b3_ ?_ _)); exact BK219.out⟩, ⟨(show IsS126 w _ gb218 l2 x219001_3 x219002_3 from by repeat (first | (with_reducible first | exact HI218.out | apply IsS126.alloc | apply IsS126.drewN | apply IsS126.drew | apply IsS126.set_1 | apply IsS126.set_2 | refine IsS126.far ?_ NB218_217.out _ | refine IsS126.far ?_ NB218_219.out _) | exact HI218.out))⟩, ⟨by repeat (first | (with_reducible first | exact HB.out | apply below_alloc | apply pw_below_drewN | apply below_drew1 | refine below_set ?_ (IsS126.ge HI218.out) | refine below_set ?_ GE217.out | refine below_set ?_ GE219.out) | exact HB.out)⟩⟩
                ·replace c96 := Bool.eq_false_iff.mpr c96
                 subst c96
                 have H1 : (if (wrap64 (x26_4 - x25_3)) > 1 then ((spec_writer_way.f l2 x219001_3 x219002_3 3).bind fun bt277 => (spec_SpotBytes.j7 kj86 x13_2 x14_2 x15_2 x25_3 x26_4 (decide (bt277.1 > 0)) l2 bt277.2.1 bt277.2.2 x220000_3 ())) else (spec_SpotBytes.j7 kj86 x13_2 x14_2 x15_2 x25_3 x26_4 false l2 x219001_3 x219002_3 x220000_3 ())) = some r := by rw [if_neg (show ¬ (false = true) by decide)] at H; exact H
                 clear H
                 have H := H1
                 clear H1
                 have HC97 := Aside0.mk H
                 clear H
                 go_upto_region 37 with (fail)
                 go_cut [154] (fun v154 wc => ∃ (kq : Nat) (x154_96 : Bool) (x219001_96 : Int) (x219002_96 : Bool), v154 = .bool x154_96 ∧ Aside0 (spec_SpotBytes.j7 kq x13_2 x14_2 x15_2 x25_3 x26_4 x154_96 l2 x219001_96 x219002_96 x220000_3 () = some r) ∧ Aside0 (kq ≤ kj86) ∧ Aside0 (Kd.R (Kd.int .u8) 5 wc w.heap.size (fun k_ => some k_ ≠ (u14 : Value).ownBlock ∧ some k_ ≠ (u15 : Value).ownBlock ∧ some k_ ≠ (u220000 : Value).ownBlock) (.slice Ao86 x13_2.length co86) x13_2) ∧ Aside0 (Kd.R (Kd.int .u8) 5 wc w.heap.size (fun k_ => some k_ ≠ ((.slice Ao86 x13_2.length co86) : Value).ownBlock ∧ some k_ ≠ (u15 : Value).ownBlock ∧ some k_ ≠ (u220000 : Value).ownBlock) u14 x14_2) ∧ Aside0 (Kd.R (Kd.int .u8) 5 wc w.heap.size (fun k_ => some k_ ≠ ((.slice Ao86 x13_2.length co86) : Value).ownBlock ∧ some k_ ≠ (u14 : Value).ownBlock ∧ some k_ ≠ (u220000 : Value).ownBlock) u15 x15_2) ∧ Aside0 (Kd.R (Kd.int .u8) 5 wc w.heap.size (fun k_ => some k_ ≠ ((.slice Ao86 x13_2.length co86) : Value).ownBlock ∧ some k_ ≠ (u14 : Value).ownBlock ∧ some k_ ≠ (u15 : Value).ownBlock) u220000 x220000_3) ∧ Aside0 (wc.heap[gb217]? = some (.cells #[.int .i64 a1_0, .int .i64 a1_1, .int .i64 a1_2, .int .i64 a1_3] 49 (0, 0))) ∧ Aside0 (wc.heap[gb219]? = some (.cells #[u220000, .slice none 0 0] 130 (0, 0))) ∧ Aside0 (IsS126 w wc gb218 l2 x219001_96 x219002_96) ∧ Aside0 (Below w.heap.size w wc))
                 case first =>
                  have H := HC97.out
                  clear HC97
                  by_cases c98 : (wrap64 (x26_4 - x25_3)) > 1
                  ·rw [if_pos c98] at H
                   have c98b0 : decide (1 < (wrap64 (x26_4 - x25_3))) = true := decide_eq_true c98
                   clear c98
                   (first | rw [c98b0] | (simp only [i64_w, i32_w]; rw [c98b0]) | skip)
                   replace H := Option.bind_eq_some_iff.mp H
                   obtain ⟨⟨t277, t278, t279⟩, A990, H⟩ := H
                   replace H : (spec_SpotBytes.j7 kj86 x13_2 x14_2 x15_2 x25_3 x26_4 (decide (t277 > 0)) l2 t278 t279 x220000_3 ()) = some r := H
                   have A99 := Aside0.mk A990
                   clear A990
                   have H' := Aside0.mk H
                   clear H
                   go_wp2_with (first | (go_at_call 41; (with_reducible refine (spec_writer_way.calls gb218 l2 x219001_3 x219002_3 3 t277 t278 t279 w _ ?side1 ?side2 A99.out).mono ?_); (case side1 => repeat (first | (with_reducible first | exact HI218.out | apply IsS126.alloc | apply IsS126.drewN | apply IsS126.drew | apply IsS126.set_1 | apply IsS126.set_2 | refine IsS126.far ?_ NB218_217.out _ | refine IsS126.far ?_ NB218_219.out _) | exact HI218.out)); (case side2 => repeat (first | (with_reducible first | exact HB.out | apply below_alloc | apply pw_below_drewN | apply below_drew1 | refine below_set ?_ (IsS126.ge HI218.out) | refine below_set ?_ GE217.out | refine below_set ?_ GE219.out) | exact HB.out)); rintro e w100 ⟨rfl, hi, hb, hk⟩; have n0_ := Aside0.mk (Kd.R_mono (Kd.R_keep (IsS126.apart (show IsS126 w _ gb218 l2 x219001_3 x219002_3 from (show IsS126 w _ gb218 l2 x219001_3 x219002_3 from by repeat (first | (with_reducible first | exact HI218.out | apply IsS126.alloc | apply IsS126.drewN | apply IsS126.drew | apply IsS126.set_1 | apply IsS126.set_2 | refine IsS126.far ?_ NB218_217.out _ | refine IsS126.far ?_ NB218_219.out _) | exact HI218.out))) (by (with_reducible repeat (first | apply Kd.R_alloc | apply Kd.R_drewN | apply Kd.R_drew)); exact HO_13.out) (by decide)) hk (fun _ h => h.2)) (fun _ h => h.1)); have n1_ := Aside0.mk (Kd.R_mono (Kd.R_keep (IsS126.apart (show IsS126 w _ gb218 l2 x219001_3 x219002_3 from (show IsS126 w _ gb218 l2 x219001_3 x219002_3 from by repeat (first | (with_reducible first | exact HI218.out | apply IsS126.alloc | apply IsS126.drewN | apply IsS126.drew | apply IsS126.set_1 | apply IsS126.set_2 | refine IsS126.far ?_ NB218_217.out _ | refine IsS126.far ?_ NB218_219.out _) | exact HI218.out))) (by (with_reducible repeat (first | apply Kd.R_alloc | apply Kd.R_drewN | apply Kd.R_drew)); exact HO_14.out) (by decide)) hk (fun _ h => h.2)) (fun _ h => h.1)); have n2_ := Aside0.mk (Kd.R_mono (Kd.R_keep (IsS126.apart (show IsS126 w _ gb218 l2 x219001_3 x219002_3 from (show IsS126 w _ gb218 l2 x219001_3 x219002_3 from by repeat (first | (with_reducible first | exact HI218.out | apply IsS126.alloc | apply IsS126.drewN | apply IsS126.drew | apply IsS126.set_1 | apply IsS126.set_2 | refine IsS126.far ?_ NB218_217.out _ | refine IsS126.far ?_ NB218_219.out _) | exact HI218.out))) (by (with_reducible repeat (first | apply Kd.R_alloc | apply Kd.R_drewN | apply Kd.R_drew)); exact HO_15.out) (by decide)) hk (fun _ h => h.2)) (fun _ h => h.1)); have n3_ := Aside0.mk (Kd.R_mono (Kd.R_keep (IsS126.apart (show IsS126 w _ gb218 l2 x219001_3 x219002_3 from (show IsS126 w _ gb218 l2 x219001_3 x219002_3 from by repeat (first | (with_reducible first | exact HI218.out | apply IsS126.alloc | apply IsS126.drewN | apply IsS126.drew | apply IsS126.set_1 | apply IsS126.set_2 | refine IsS126.far ?_ NB218_217.out _ | refine IsS126.far ?_ NB218_219.out _) | exact HI218.out))) (by (with_reducible repeat (first | apply Kd.R_alloc | apply Kd.R_drewN | apply Kd.R_drew)); exact HO_220000.out) (by decide)) hk (fun _ h => h.2)) (fun _ h => h.1)); have n4_ := Aside0.mk (KeepBut.blk hk (g' := gb217) (o := .cells #[.int .i64 a1_0, .int .i64 a1_1, .int .i64 a1_2, .int .i64 a1_3] 49 (0, 0)) (by (with_reducible repeat (first | refine b1_ ?_ _ | refine b2_ ?_ | refine b3_ ?_ _)); exact BK217.out) NB217_218.out (by simp)); have n5_ := Aside0.mk (KeepBut.blk hk (g' := gb219) (o := .cells #[u220000, .slice none 0 0] 130 (0, 0)) (by (with_reducible repeat (first | refine b1_ ?_ _ | refine b2_ ?_ | refine b3_ ?_ _)); exact BK219.out) NB219_218.out (by simp)); have n6_ := Aside0.mk (hb); have n7_ := Aside0.mk (hi); clear HO_13; clear HO_14; clear HO_15; clear HO_220000; clear BK217; clear BK219; clear HB; clear HI218; have HO_13 := n0_; have HO_14 := n1_; have HO_15 := n2_; have HO_220000 := n3_; have BK217 := n4_; have BK219 := n5_; have HB := n6_; have HI218 := n7_; clear n0_ n1_ n2_ n3_ n4_ n5_ n6_ n7_; (try clear hb); (try clear hb2); (try clear hk); (try clear hi)))
                   go_meet
                   case rel => exact ⟨_, (decide (t277 > 0)), (t278), (t279), (by first | rfl | (simp; done) | (simp [*]; done)), H', ⟨by have := HK1.out; have := HK2.out; have := HK3.out; have := HK4.out; have := HJ86.out; first | omega | exact Nat.le_refl _⟩, ⟨by (with_reducible repeat (first | apply Kd.R_alloc | apply Kd.R_drewN | apply Kd.R_drew)); exact HO_13.out⟩, ⟨by (with_reducible repeat (first | apply Kd.R_alloc | apply Kd.R_drewN | apply Kd.R_drew)); exact HO_14.out⟩, ⟨by (with_reducible repeat (first | apply Kd.R_alloc | apply Kd.R_drewN | apply Kd.R_drew)); exact HO_15.out⟩, ⟨by (with_reducible repeat (first | apply Kd.R_alloc | apply Kd.R_drewN | apply Kd.R_drew)); exact HO_220000.out⟩, ⟨by (with_reducible repeat (first | refine b1_ ?_ _ | refine b2_ ?_ | refine b3_ ?_ _)); exact BK217.out⟩, ⟨by (with_reducible repeat (first | refine b1_ ?_ _ | refine b2_ ?_ | refine b3_ ?_ _)); exact BK219.out⟩, ⟨(show IsS126 w _ gb218 l2 t278 t279 from by repeat (first | (with_reducible first | exact HI218.out | apply IsS126.alloc | apply IsS126.drewN | apply IsS126.drew | apply IsS126.set_1 | apply IsS126.set_2 | refine IsS126.far ?_ NB218_217.out _ | refine IsS126.far ?_ NB218_219.out _) | exact HI218.out))⟩, ⟨by repeat (first | (with_reducible first | exact HB.out | apply below_alloc | apply pw_below_drewN | apply below_drew1 | refine below_set ?_ (IsS126.ge HI218.out) | refine below_set ?_ GE217.out | refine below_set ?_ GE219.out) | exact HB.out)⟩⟩
                  ·rw [if_neg c98] at H
                   have c98b0 : decide (1 < (wrap64 (x26_4 - x25_3))) = false := decide_eq_false c98
                   clear c98
                   (first | rw [c98b0] | (simp only [i64_w, i32_w]; rw [c98b0]) | skip)
                   have H' := Aside0.mk H
                   clear H
                   go_wp2
                   go_meet
                   case rel => exact ⟨_, (false), (x219001_3), (x219002_3), (by first | rfl | (simp; done) | (simp [*]; done)), H', ⟨by have := HK1.out; have := HK2.out; have := HK3.out; have := HK4.out; have := HJ86.out; first | omega | exact Nat.le_refl _⟩, ⟨by (with_reducible repeat (first | apply Kd.R_alloc | apply Kd.R_drewN | apply Kd.R_drew)); exact HO_13.out⟩, ⟨by (with_reducible repeat (first | apply Kd.R_alloc | apply Kd.R_drewN | apply Kd.R_drew)); exact HO_14.out⟩, ⟨by (with_reducible repeat (first | apply Kd.R_alloc | apply Kd.R_drewN | apply Kd.R_drew)); exact HO_15.out⟩, ⟨by (with_reducible repeat (first | apply Kd.R_alloc | apply Kd.R_drewN | apply Kd.R_drew)); exact HO_220000.out⟩, ⟨by (with_reducible repeat (first | refine b1_ ?_ _ | refine b2_ ?_ | refine b3_ ?_ _)); exact BK217.out⟩, ⟨by (with_reducible repeat (first | refine b1_ ?_ _ | refine b2_ ?_ | refine b3_ ?_ _)); exact BK219.out⟩, ⟨(show IsS126 w _ gb218 l2 x219001_3 x219002_3 from by repeat (first | (with_reducible first | exact HI218.out | apply IsS126.alloc | apply IsS126.drewN | apply IsS126.drew | apply IsS126.set_1 | apply IsS126.set_2 | refine IsS126.far ?_ NB218_217.out _ | refine IsS126.far ?_ NB218_219.out _) | exact HI218.out))⟩, ⟨by repeat (first | (with_reducible first | exact HB.out | apply below_alloc | apply pw_below_drewN | apply below_drew1 | refine below_set ?_ (IsS126.ge HI218.out) | refine below_set ?_ GE217.out | refine below_set ?_ GE219.out) | exact HB.out)⟩⟩
                 case rest =>
                  clear HC97
                  try clear p2
                  try clear q2
                  try clear hx2
                  try clear p6
                  try clear c8
                  try clear c9
                  try clear p27
                  try clear q27
                  try clear hx27
                  try clear p64
                  try clear c88
                  try clear c88b0
                  try clear c89
                  try clear c89b0
                  try clear c90
                  try clear c90b0
                  try clear c91
                  try clear c91b0
                  try clear c92
                  try clear c92b0
                  try clear c92b1
                  try clear c96
                  try clear c98
                  try clear c98b0
                  try clear hx275_0
                  try clear hx276_0
                  try clear p2
                  try clear p27
                  try clear p275
                  try clear p276
                  try clear p6
                  try clear p64
                  try clear q2
                  try clear q27
                  try clear q275
                  try clear q276
                  obtain ⟨kq, x154_96, x219001_96, x219002_96, rfl, HA, HJ96, HO_13, HO_14, HO_15, HO_220000, BK217, BK219, HI218, HB⟩ := hcut
                  cases kq with
                  | zero => exact absurd HA.out (by simp [spec_SpotBytes.j7])
                  | succ kj96 =>
                   have H := HA.out
                   clear HA
                   simp only [spec_SpotBytes.j7] at H
                   by_cases c101 : x154_96 = true
                   ·subst c101
                    have H1 : (if 0 ≤ x25_3 then (if x25_3 < (x13_2.length : Int) then ((some (([Go.bits .or .u8 (rd x13_2 x25_3) 8, (wrap64 ((wrap64 (x26_4 - x25_3)) - 1)) % 256] : List Int) : List Int)).bind fun y281 => (if x220000_3.length + y281.length < 140737488355328 then (spec_SpotBytes.l3 kj96 x13_2 x14_2 x15_2 x26_4 l2 x219001_96 x219002_96 (x220000_3 ++ y281) ()) else (none))) else (none)) else (none)) = some r := by rw [if_pos rfl] at H; exact H
                    clear H
                    have H := H1
                    clear H1
                    by_cases c102 : 0 ≤ x25_3
                    ·rw [if_pos c102] at H
                     have c102b0 : decide (0 ≤ x25_3) = true := decide_eq_true c102
                     clear c102
                     by_cases c103 : x25_3 < (x13_2.length : Int)
                     ·rw [if_pos c103] at H
                      have c103b0 : decide (x25_3 < (x13_2.length : Int)) = true := decide_eq_true c103
                      clear c103
                      obtain ⟨y281, hy281⟩ : ∃ y_ : List Int, y_ = (([Go.bits .or .u8 (rd x13_2 x25_3) 8, (wrap64 ((wrap64 (x26_4 - x25_3)) - 1)) % 256] : List Int)) := ⟨_, rfl⟩
                      replace H : (if x220000_3.length + y281.length < 140737488355328 then (spec_SpotBytes.l3 kj96 x13_2 x14_2 x15_2 x26_4 l2 x219001_96 x219002_96 (x220000_3 ++ y281) ()) else (none)) = some r := by first | (rw [hy281]; with_reducible exact H) | (have H2_ := (Option.bind_some _ _).symm.trans H; rw [hy281]; with_reducible exact H2_) | (have H2_ := (Option.bind_some _ _).symm.trans H; with_reducible exact H2_) | with_reducible exact H | (rw [hy281]; exact H) | exact H
                      have Ny281 := Aside0.mk hy281
                      clear hy281
                      by_cases c104 : x220000_3.length + y281.length < 140737488355328
                      ·rw [if_pos c104] at H
                       have LMc104 := Aside0.mk c104
                       clear c104
                       obtain ⟨y284, hy284⟩ : ∃ y_ : List Int, y_ = (x220000_3 ++ y281) := ⟨_, rfl⟩
                       replace H : (spec_SpotBytes.l3 kj96 x13_2 x14_2 x15_2 x26_4 l2 x219001_96 x219002_96 y284 ()) = some r := by first | (rw [hy284]; with_reducible exact H) | (have H2_ := (Option.bind_some _ _).symm.trans H; rw [hy284]; with_reducible exact H2_) | (have H2_ := (Option.bind_some _ _).symm.trans H; with_reducible exact H2_) | with_reducible exact H | (rw [hy284]; exact H) | exact H
                       have Ny284 := Aside0.mk hy284
                       clear hy284
                       have H' := Aside0.mk H
                       clear H
                       try go_wp2
                       have n0_ := Aside0.mk (Kd.R_drew HO_13.out)
                       have n1_ := Aside0.mk (Kd.R_drew HO_14.out)
                       have n2_ := Aside0.mk (Kd.R_drew HO_15.out)
                       have n3_ := Aside0.mk (Kd.R_drew HO_220000.out)
                       have n4_ := Aside0.mk (blk_drew BK217.out)
                       have n5_ := Aside0.mk (blk_drew BK219.out)
                       have n6_ := Aside0.mk (IsS126.drew HI218.out)
                       have n7_ := Aside0.mk (below_drew1 HB.out)
                       clear HO_13
                       clear HO_14
                       clear HO_15
                       clear HO_220000
                       clear BK217
                       clear BK219
                       clear HI218
                       clear HB
                       have HO_13 := n0_
                       have HO_14 := n1_
                       have HO_15 := n2_
                       have HO_220000 := n3_
                       have BK217 := n4_
                       have BK219 := n5_
                       have HI218 := n6_
                       have HB := n7_
                       clear n0_ n1_ n2_ n3_ n4_ n5_ n6_ n7_
                       have p280 : 0 ≤ (x25_3 : Int) := of_decide_eq_true (by first | (with_reducible assumption) | assumption)
                       have q280 : x25_3 < (x13_2.length : Int) := of_decide_eq_true (by first | (with_reducible assumption) | assumption)
                       obtain ⟨ad280, e280, hx280_0⟩ := Kd.at_int (Kd.R_reads' HO_13.out).2.2 x25_3 p280 q280
                       cases e280
                       replace p280 := eq_true p280
                       replace q280 := eq_true q280
                       refine start_ (n := 20) (S := fun w' => w'.cell? ⟨gb219, 0, none⟩ = some (u220000) ∧ w'.cell? ⟨gb219, 1, none⟩ = some (.slice none 0 0) ∧ w'.cell? (ad280.add (x25_3).toNat) = some (.int .u8 (rd x13_2 x25_3))) (ds := [16, 19]) #[ff,ff,ff,ff,ff,ff,ff,ff,ff,ff,ff,ff,ff,ff,ff,ff,ff,ff,ff,ff] (by kernel_rfl) rfl rfl ⟨(blk_cell BK219.out 0).trans rfl, (blk_cell BK219.out 1).trans rfl, hx280_0⟩ (fun hHeld => ?_); refine with_tabW spec_SpotBytes.tab38 spec_SpotBytes.bits38 (fun HT_ HW_ => ?_)
                       generalize wc.drew = w105 at HO_13 HO_14 HO_15 HO_220000 BK217 BK219 HI218 HB hx280_0 hHeld ⊢
                       refine pure_ (i := 0) (N := some 155) (v := ?_) (a' := ?_) #[tt,ff,ff,ff,ff,ff,ff,ff,ff,ff,ff,ff,ff,ff,ff,ff,ff,ff,ff,ff] rfl rfl (any_of HT_.out (by kernel_rfl)) (fun _ _ _ h => h) (Or.inl ⟨by rfl, ?_⟩) ?_ ?_
                       rotate_left
                       ·intro w'
                        go_simp
                        with_reducible rfl
                       rotate_left
                       ·simp only [Act.put, L1_, L2_, L3_, i64_w, i32_w]
                        rfl
                       refine pure_ (i := 1) (N := some 156) (v := ?_) (a' := ?_) #[tt,tt,ff,ff,ff,ff,ff,ff,ff,ff,ff,ff,ff,ff,ff,ff,ff,ff,ff,ff] rfl rfl (any_of HT_.out (by kernel_rfl)) (fun _ _ _ h => h) (Or.inl ⟨by rfl, ?_⟩) ?_ ?_
                       rotate_left
                       ·intro w'
                        go_simp
                        with_reducible rfl
                       rotate_left
                       ·simp only [Act.put, L1_, L2_, L3_, i64_w, i32_w]
                        rfl
                       refine pure_ (i := 2) (N := some 157) (v := ?_) (a' := ?_) #[tt,tt,tt,ff,ff,ff,ff,ff,ff,ff,ff,ff,ff,ff,ff,ff,ff,ff,ff,ff] rfl rfl (any_of HT_.out (by kernel_rfl)) (fun _ _ _ h => h) (Or.inl ⟨by rfl, ?_⟩) ?_ ?_
                       rotate_left
                       ·intro w'
                        go_simp
                        with_reducible rfl
                       rotate_left
                       ·simp only [Act.put, L1_, L2_, L3_, i64_w, i32_w]
                        rfl
                       refine pure_ (i := 3) (N := some 158) (v := ?_) (a' := ?_) #[tt,tt,tt,tt,ff,ff,ff,ff,ff,ff,ff,ff,ff,ff,ff,ff,ff,ff,ff,ff] rfl rfl (any_of HT_.out (by kernel_rfl)) (fun _ _ _ h => h) (Or.inl ⟨by rfl, ?_⟩) ?_ ?_
                       rotate_left
                       ·intro w'
                        go_simp
                        with_reducible rfl
                       rotate_left
                       ·simp only [Act.put, L1_, L2_, L3_, i64_w, i32_w]
                        rfl
                       refine pure_ (i := 5) (N := some 160) (v := ?_) (a' := ?_) #[tt,tt,tt,tt,ff,tt,ff,ff,ff,ff,ff,ff,ff,ff,ff,ff,ff,ff,ff,ff] rfl rfl (any_of HT_.out (by kernel_rfl)) (fun _ _ _ h => h) (Or.inl ⟨by rfl, ?_⟩) ?_ ?_
                       rotate_left
                       ·intro w'
                        go_simp
                        with_reducible rfl
                       rotate_left
                       ·simp only [Act.put, L1_, L2_, L3_, i64_w, i32_w]
                        rfl
                       refine pure_ (i := 6) (N := some 161) (v := ?_) (a' := ?_) #[tt,tt,tt,tt,ff,tt,tt,ff,ff,ff,ff,ff,ff,ff,ff,ff,ff,ff,ff,ff] rfl rfl (any_of HT_.out (by kernel_rfl)) (fun _ _ _ h => h) (Or.inl ⟨by rfl, ?_⟩) ?_ ?_
                       rotate_left
                       ·intro w'
                        go_simp
                        with_reducible rfl
                       rotate_left
                       ·simp only [Act.put, L1_, L2_, L3_, i64_w, i32_w]
                        rfl
                       refine pure_ (i := 7) (N := some 162) (v := ?_) (a' := ?_) #[tt,tt,tt,tt,ff,tt,tt,tt,ff,ff,ff,ff,ff,ff,ff,ff,ff,ff,ff,ff] rfl rfl (any_of HT_.out (by kernel_rfl)) (fun _ _ _ h => h) (Or.inl ⟨by rfl, ?_⟩) ?_ ?_
                       rotate_left
                       ·intro w'
                        go_simp
                        with_reducible rfl
                       rotate_left
                       ·simp only [Act.put, L1_, L2_, L3_, i64_w, i32_w]
                        rfl
                       refine pure_ (i := 10) (N := some 165) (v := ?_) (a' := ?_) #[tt,tt,tt,tt,ff,tt,tt,tt,ff,ff,tt,ff,ff,ff,ff,ff,ff,ff,ff,ff] rfl rfl (any_of HT_.out (by kernel_rfl)) (fun _ _ _ h => h) (Or.inl ⟨by rfl, ?_⟩) ?_ ?_
                       rotate_left
                       ·intro w'
                        go_simp
                        with_reducible rfl
                       rotate_left
                       ·simp only [Act.put, L1_, L2_, L3_, i64_w, i32_w]
                        rfl
                       refine pure_ (i := 11) (N := some 166) (v := ?_) (a' := ?_) #[tt,tt,tt,tt,ff,tt,tt,tt,ff,ff,tt,tt,ff,ff,ff,ff,ff,ff,ff,ff] rfl rfl (any_of HT_.out (by kernel_rfl)) (fun _ _ _ h => h) (Or.inl ⟨by rfl, ?_⟩) ?_ ?_
                       rotate_left
                       ·intro w'
                        go_simp
                        with_reducible rfl
                       rotate_left
                       ·simp only [Act.put, L1_, L2_, L3_, i64_w, i32_w]
                        rfl
                       refine pure_ (i := 12) (N := some 167) (v := ?_) (a' := ?_) #[tt,tt,tt,tt,ff,tt,tt,tt,ff,ff,tt,tt,tt,ff,ff,ff,ff,ff,ff,ff] rfl rfl (any_of HT_.out (by kernel_rfl)) (fun _ _ _ h => h) (Or.inl ⟨by rfl, ?_⟩) ?_ ?_
                       rotate_left
                       ·intro w'
                        go_simp
                        with_reducible rfl
                       rotate_left
                       ·(try go_ints); (try simp (disch := omega) only [n3_]); simp only [Act.put, L1_, L2_, L3_, i64_w, i32_w]
                        rfl
                       refine pure_ (i := 13) (N := some 168) (v := ?_) (a' := ?_) #[tt,tt,tt,tt,ff,tt,tt,tt,ff,ff,tt,tt,tt,tt,ff,ff,ff,ff,ff,ff] rfl rfl (any_of HT_.out (by kernel_rfl)) (fun _ _ _ h => h) (Or.inl ⟨by rfl, ?_⟩) ?_ ?_
                       rotate_left
                       ·intro w'
                        go_simp
                        with_reducible rfl
                       rotate_left
                       ·(try go_ints); (try simp (disch := omega) only [n3_]); simp only [Act.put, L1_, L2_, L3_, i64_w, i32_w]
                        rfl
                       refine pure_ (i := 14) (N := some 169) (v := ?_) (a' := ?_) #[tt,tt,tt,tt,ff,tt,tt,tt,ff,ff,tt,tt,tt,tt,tt,ff,ff,ff,ff,ff] rfl rfl (any_of HT_.out (by kernel_rfl)) (fun _ _ _ h => h) (Or.inl ⟨by rfl, ?_⟩) ?_ ?_
                       rotate_left
                       ·intro w'
                        go_simp
                        with_reducible rfl
                       rotate_left
                       ·(try go_ints); (try simp (disch := omega) only [n3_]); simp only [Act.put, L1_, L2_, L3_, i64_w, i32_w]
                        rfl
                       refine take_ (i := 4) (N := some 159) (v := ?_) (a' := ?_) #[tt,tt,tt,tt,tt,tt,tt,tt,ff,ff,tt,tt,tt,tt,tt,ff,ff,ff,ff,ff] rfl rfl (take_ofW HT_.out HW_.out (by kernel_rfl)) (fun _ _ _ h => h) (Or.inl ⟨by rfl, ?_⟩) hHeld ?_ ?_
                       rotate_left
                       ·rintro w' ⟨s0, s1, s2⟩
                        go_simp
                        with_reducible rfl
                       rotate_left
                       ·simp only [Act.put, L1_, L2_, L3_, i64_w, i32_w]
                        rfl
                       refine take_ (i := 8) (N := some 163) (v := ?_) (a' := ?_) #[tt,tt,tt,tt,tt,tt,tt,tt,tt,ff,tt,tt,tt,tt,tt,ff,ff,ff,ff,ff] rfl rfl (take_ofW HT_.out HW_.out (by kernel_rfl)) (fun _ _ _ h => h) (Or.inl ⟨by rfl, ?_⟩) hHeld ?_ ?_
                       rotate_left
                       ·rintro w' ⟨s0, s1, s2⟩
                        go_simp
                        with_reducible rfl
                       rotate_left
                       ·simp only [Act.put, L1_, L2_, L3_, i64_w, i32_w]
                        rfl
                       refine pure_ (i := 9) (N := some 164) (v := ?_) (a' := ?_) #[tt,tt,tt,tt,tt,tt,tt,tt,tt,tt,tt,tt,tt,tt,tt,ff,ff,ff,ff,ff] rfl rfl (any_of HT_.out (by kernel_rfl)) (fun _ _ _ h => h) (Or.inl ⟨by rfl, ?_⟩) ?_ ?_
                       rotate_left
                       ·intro w'
                        go_simp
                        with_reducible rfl
                       rotate_left
                       ·(try go_ints); (try simp (disch := omega) only [n3_]); simp only [Act.put, L1_, L2_, L3_, i64_w, i32_w]
                        rfl
                       refine one_ (i := 15) (N := some 170) #[tt,tt,tt,tt,tt,tt,tt,tt,tt,tt,tt,tt,tt,tt,tt,tt,ff,ff,ff,ff] rfl rfl (one_of HT_.out (by kernel_rfl)) (by decide) (fun K hK => ?_)
                       refine Kd.R_lit_step (Kd.int .u8) _ 5 ?hg (N := 170) ?hd (xs := ([Go.bits .or .u8 (rd x13_2 x25_3) 8, (wrap64 ((wrap64 (x26_4 - x25_3)) - 1)) % 256] : List Int)) (inner := [.int .u8 (Go.bits .or .u8 (rd x13_2 x25_3) 8), .int .u8 ((wrap64 ((wrap64 (x26_4 - x25_3)) - 1)) % 256)]) (ok := fun _ => True) (okp := fun _ => True) ?hr ?hp (fun _ hk => hk) trivial (Below.refl _ _) (Nat.le_refl _) (by simp) ?_; (case hd => rfl); (case hg => rfl); (case hr => first | (go_simp; done) | (go_simp; rfl)); (case hp => exact (Reps.one (show Kd.M (Kd.int .u8) _ _ _ (Go.bits .or .u8 (rd x13_2 x25_3) 8) [.int .u8 (Go.bits .or .u8 (rd x13_2 x25_3) 8)] from rfl) (Reps.one (show Kd.M (Kd.int .u8) _ _ _ ((wrap64 ((wrap64 (x26_4 - x25_3)) - 1)) % 256) [.int .u8 ((wrap64 ((wrap64 (x26_4 - x25_3)) - 1)) % 256)] from rfl) (Reps.none _ _))))
                       intro v282 w106 ho107 hb hg_ hnew_
                       have HS2_ := (hb.cell (World.block_lt_of_cell? _ _ (hHeld.2.2))).trans (hHeld.2.2)
                       clear hg_ hnew_
                       (first | rw [← Ny281.out] at ho107 | (simp only [Int.reduceToNat] at ho107; rw [← Ny281.out] at ho107))
                       have n0_ := Aside0.mk (Kd.R_elder' (by (with_reducible repeat (first | apply Kd.R_alloc | apply Kd.R_drewN | apply Kd.R_drew)); exact HO_13.out) (Kd.R_base ho107) hb)
                       have n1_ := Aside0.mk (Kd.R_elder' (by (with_reducible repeat (first | apply Kd.R_alloc | apply Kd.R_drewN | apply Kd.R_drew)); exact HO_14.out) (Kd.R_base ho107) hb)
                       have n2_ := Aside0.mk (Kd.R_elder' (by (with_reducible repeat (first | apply Kd.R_alloc | apply Kd.R_drewN | apply Kd.R_drew)); exact HO_15.out) (Kd.R_base ho107) hb)
                       have n3_ := Aside0.mk (Kd.R_elder' (by (with_reducible repeat (first | apply Kd.R_alloc | apply Kd.R_drewN | apply Kd.R_drew)); exact HO_220000.out) (Kd.R_base ho107) hb)
                       have n4_ := Aside0.mk (Kd.R_lower (Kd.R_new' (Kd.R_new' (Kd.R_new' (Kd.R_new' ho107 (Kd.R_lt (by (with_reducible repeat (first | apply Kd.R_alloc | apply Kd.R_drewN | apply Kd.R_drew)); exact HO_13.out))) (Kd.R_lt (by (with_reducible repeat (first | apply Kd.R_alloc | apply Kd.R_drewN | apply Kd.R_drew)); exact HO_14.out))) (Kd.R_lt (by (with_reducible repeat (first | apply Kd.R_alloc | apply Kd.R_drewN | apply Kd.R_drew)); exact HO_15.out))) (Kd.R_lt (by (with_reducible repeat (first | apply Kd.R_alloc | apply Kd.R_drewN | apply Kd.R_drew)); exact HO_220000.out))) (below_size (by repeat (first | (with_reducible first | exact HB.out | apply below_alloc | apply pw_below_drewN | apply below_drew1 | refine below_set ?_ (IsS126.ge HI218.out) | refine below_set ?_ GE217.out | refine below_set ?_ GE219.out) | exact HB.out))))
                       have n5_ := Aside0.mk (blk_below (g := gb217) (o := .cells #[.int .i64 a1_0, .int .i64 a1_1, .int .i64 a1_2, .int .i64 a1_3] 49 (0, 0)) (by (with_reducible repeat (first | refine b1_ ?_ _ | refine b2_ ?_ | refine b3_ ?_ _)); exact BK217.out) hb)
                       have n6_ := Aside0.mk (blk_below (g := gb219) (o := .cells #[u220000, .slice none 0 0] 130 (0, 0)) (by (with_reducible repeat (first | refine b1_ ?_ _ | refine b2_ ?_ | refine b3_ ?_ _)); exact BK219.out) hb)
                       have n7_ := Aside0.mk (IsS126.below ((show IsS126 w _ gb218 l2 x219001_96 x219002_96 from by repeat (first | (with_reducible first | exact HI218.out | apply IsS126.alloc | apply IsS126.drewN | apply IsS126.drew | apply IsS126.set_1 | apply IsS126.set_2 | refine IsS126.far ?_ NB218_217.out _ | refine IsS126.far ?_ NB218_219.out _) | exact HI218.out))) hb)
                       have n8_ := Aside0.mk (below_step (by repeat (first | (with_reducible first | exact HB.out | apply below_alloc | apply pw_below_drewN | apply below_drew1 | refine below_set ?_ (IsS126.ge HI218.out) | refine below_set ?_ GE217.out | refine below_set ?_ GE219.out) | exact HB.out)) hb)
                       clear HO_13
                       clear HO_14
                       clear HO_15
                       clear HO_220000
                       clear BK217
                       clear BK219
                       clear HI218
                       clear HB
                       have HO_13 := n0_
                       have HO_14 := n1_
                       have HO_15 := n2_
                       have HO_220000 := n3_
                       have HO283 := n4_
                       have BK217 := n5_
                       have BK219 := n6_
                       have HI218 := n7_
                       have HB := n8_
                       clear n0_ n1_ n2_ n3_ n4_ n5_ n6_ n7_ n8_
                       clear hb ho107
                       obtain ⟨Ao109, co109, eo109⟩ := Kd.R_slice HO283.out
                       (first | subst eo109 | (injection eo109 with f1_ f2_ f3_; have f4_ := f1_.symm; have f5_ := f3_.symm; clear f1_ f2_ f3_; subst f4_; subst f5_))
                       refine hK.out _ _ ⟨(blk_cell BK219.out 0).trans rfl, (blk_cell BK219.out 1).trans rfl, HS2_⟩ (fun hHeld => ?_)
                       clear hK K
                       refine norm_ (a' := ?_) ?_ ?_
                       rotate_left
                       ·show Act.put _ (some 170) _ = _
                        simp only [Act.put, L1_, L2_, L3_, i64_w, i32_w]
                        rfl
                       refine last_ (i := 16) (N := some 171) #[tt,tt,tt,tt,tt,tt,tt,tt,tt,tt,tt,tt,tt,tt,tt,tt,tt,ff,ff,ff] rfl rfl (one_of HT_.out (by kernel_rfl)) (by decide) (fun K hK => ?_)
                       refine Kd.R_append_rows_step (Kd.int .u8) (w0 := w) w.heap.size (by rfl) (.tmp 159) (.tmp 170) 22 5 (.int .u8 0) 1 rfl Try.underlying22 info5 rfl (by decide) (by omega) u220000 x220000_3 y281 _ _ _ (fun k_ => some k_ ≠ (.slice (some ad280) x13_2.length co86 : Value).ownBlock ∧ some k_ ≠ (u14 : Value).ownBlock ∧ some k_ ≠ (u15 : Value).ownBlock ∧ some k_ ≠ (.slice Ao109 y281.length co109 : Value).ownBlock) (fun _ => False) rfl rfl ?aO ?aR (fun _ _ h => h) (fun _ h => h.elim) ?aF ?aB ?aS ?aL ?_
                       (case aR => repeat (first | exact (Kd.R_reads' HO283.out).2.2 | (with_reducible refine Kd.C_alloc ?_ _) | (with_reducible refine Kd.C_drewN ?_ _) | (with_reducible refine Kd.C_drew ?_)))
                       (case aB => exact (by repeat (first | (with_reducible first | exact HB.out | apply below_alloc | apply pw_below_drewN | apply below_drew1 | refine below_set ?_ (IsS126.ge HI218.out) | refine below_set ?_ GE217.out | refine below_set ?_ GE219.out) | exact HB.out)))
                       (case aF => exact (fun k_ hk => ⟨Kd.fresh' (Kd.R_lt (by (with_reducible repeat (first | apply Kd.R_alloc | apply Kd.R_drewN | apply Kd.R_drew)); exact HO_13.out)) k_ hk, Kd.fresh' (Kd.R_lt (by (with_reducible repeat (first | apply Kd.R_alloc | apply Kd.R_drewN | apply Kd.R_drew)); exact HO_14.out)) k_ hk, Kd.fresh' (Kd.R_lt (by (with_reducible repeat (first | apply Kd.R_alloc | apply Kd.R_drewN | apply Kd.R_drew)); exact HO_15.out)) k_ hk, Kd.fresh' (Kd.R_lt (by (with_reducible repeat (first | apply Kd.R_alloc | apply Kd.R_drewN | apply Kd.R_drew)); exact HO283.out)) k_ hk⟩))
                       (case aO => exact (by (with_reducible repeat (first | apply Kd.R_alloc | apply Kd.R_drewN | apply Kd.R_drew)); exact Kd.R_mono HO_220000.out (fun _ hk => ⟨hk.1.1, ⟨hk.1.2.1, ⟨hk.1.2.2, hk.2⟩⟩⟩)))
                       (case aS => exact (below_size (by repeat (first | (with_reducible first | exact HB.out | apply below_alloc | apply pw_below_drewN | apply below_drew1 | refine below_set ?_ (IsS126.ge HI218.out) | refine below_set ?_ GE217.out | refine below_set ?_ GE219.out) | exact HB.out))))
                       (case aL => have := LMc104.out; omega)
                       intro v285 w108 ho hb hg hat
                       rw [← Ny284.out] at ho
                       have n0_ := Aside0.mk (Kd.R_after (ok := (fun k_ => some k_ ≠ (u14 : Value).ownBlock ∧ some k_ ≠ (u15 : Value).ownBlock ∧ some k_ ≠ (.slice Ao109 y281.length co109 : Value).ownBlock)) (by (with_reducible repeat (first | apply Kd.R_alloc | apply Kd.R_drewN | apply Kd.R_drew)); exact Kd.R_mono HO_13.out (fun _ hk => ⟨⟨hk.1.1, ⟨hk.1.2.1, hk.2⟩⟩, hk.1.2.2⟩)) hg hat)
                       have n1_ := Aside0.mk (Kd.R_after (ok := (fun k_ => some k_ ≠ (.slice (some ad280) x13_2.length co86 : Value).ownBlock ∧ some k_ ≠ (u15 : Value).ownBlock ∧ some k_ ≠ (.slice Ao109 y281.length co109 : Value).ownBlock)) (by (with_reducible repeat (first | apply Kd.R_alloc | apply Kd.R_drewN | apply Kd.R_drew)); exact Kd.R_mono HO_14.out (fun _ hk => ⟨⟨hk.1.1, ⟨hk.1.2.1, hk.2⟩⟩, hk.1.2.2⟩)) hg hat)
                       have n2_ := Aside0.mk (Kd.R_after (ok := (fun k_ => some k_ ≠ (.slice (some ad280) x13_2.length co86 : Value).ownBlock ∧ some k_ ≠ (u14 : Value).ownBlock ∧ some k_ ≠ (.slice Ao109 y281.length co109 : Value).ownBlock)) (by (with_reducible repeat (first | apply Kd.R_alloc | apply Kd.R_drewN | apply Kd.R_drew)); exact Kd.R_mono HO_15.out (fun _ hk => ⟨⟨hk.1.1, ⟨hk.1.2.1, hk.2⟩⟩, hk.1.2.2⟩)) hg hat)
                       have n3_ := Aside0.mk (blk_grown (g := gb217) (o := .cells #[.int .i64 a1_0, .int .i64 a1_1, .int .i64 a1_2, .int .i64 a1_3] 49 (0, 0)) (by (with_reducible repeat (first | refine b1_ ?_ _ | refine b2_ ?_ | refine b3_ ?_ _)); exact BK217.out) hg (Kd.R_ne HO_220000.out BK217.out (by decide)))
                       have n4_ := Aside0.mk (blk_grown (g := gb219) (o := .cells #[u220000, .slice none 0 0] 130 (0, 0)) (by (with_reducible repeat (first | refine b1_ ?_ _ | refine b2_ ?_ | refine b3_ ?_ _)); exact BK219.out) hg (Kd.R_ne HO_220000.out BK219.out (by decide)))
                       have n5_ := Aside0.mk (IsS126.grown ((show IsS126 w _ gb218 l2 x219001_96 x219002_96 from by repeat (first | (with_reducible first | exact HI218.out | apply IsS126.alloc | apply IsS126.drewN | apply IsS126.drew | apply IsS126.set_1 | apply IsS126.set_2 | refine IsS126.far ?_ NB218_217.out _ | refine IsS126.far ?_ NB218_219.out _) | exact HI218.out))) hg (IsS126.own_ne HI218.out HO_220000.out (by decide)))
                       have n6_ := Aside0.mk (Kd.R_after (ok := (fun k_ => some k_ ≠ (.slice (some ad280) x13_2.length co86 : Value).ownBlock ∧ some k_ ≠ (u14 : Value).ownBlock ∧ some k_ ≠ (u15 : Value).ownBlock)) (by (with_reducible repeat (first | apply Kd.R_alloc | apply Kd.R_drewN | apply Kd.R_drew)); exact Kd.R_mono HO283.out (fun _ hk => ⟨⟨hk.1.1.1.2, ⟨hk.1.1.2, hk.1.2⟩⟩, hk.2⟩)) hg hat)
                       have n7_ := Aside0.mk (hb)
                       have n8_ := Aside0.mk (ho)
                       clear HO_13
                       clear HO_14
                       clear HO_15
                       clear BK217
                       clear BK219
                       clear HI218
                       clear HO283
                       clear HB
                       clear HO_220000
                       have HO_13 := n0_
                       have HO_14 := n1_
                       have HO_15 := n2_
                       have BK217 := n3_
                       have BK219 := n4_
                       have HI218 := n5_
                       have HO283 := n6_
                       have HB := n7_
                       have HO286 := n8_
                       clear n0_ n1_ n2_ n3_ n4_ n5_ n6_ n7_ n8_
                       clear ho hb hg hat
                       obtain ⟨Ao110, co110, eo110⟩ := Kd.R_slice HO286.out
                       (first | subst eo110 | (injection eo110 with f1_ f2_ f3_; have f4_ := f1_.symm; have f5_ := f3_.symm; clear f1_ f2_ f3_; subst f4_; subst f5_))
                       refine hK.out _ _ ?_
                       clear hK K
                       refine norm_ (a' := ?_) ?_ ?_
                       rotate_left
                       ·show Act.put _ (some 171) _ = _
                        simp only [Act.put, L1_, L2_, L3_, i64_w, i32_w]
                        rfl
                       refine pure_ (i := 17) (N := some 172) (v := ?_) (a' := ?_) #[tt,tt,tt,tt,tt,tt,tt,tt,tt,tt,tt,tt,tt,tt,tt,tt,tt,tt,ff,ff] rfl rfl (any_of HT_.out (by kernel_rfl)) (fun _ _ _ h => h) (Or.inl ⟨by rfl, ?_⟩) ?_ ?_
                       rotate_left
                       ·intro w'
                        go_simp
                        with_reducible rfl
                       rotate_left
                       ·simp only [Act.put, L1_, L2_, L3_, i64_w, i32_w]
                        rfl
                       refine pure_ (i := 18) (N := some 173) (v := ?_) (a' := ?_) #[tt,tt,tt,tt,tt,tt,tt,tt,tt,tt,tt,tt,tt,tt,tt,tt,tt,tt,tt,ff] rfl rfl (any_of HT_.out (by kernel_rfl)) (fun _ _ _ h => h) (Or.inl ⟨by rfl, ?_⟩) ?_ ?_
                       rotate_left
                       ·intro w'
                        go_simp
                        with_reducible rfl
                       rotate_left
                       ·simp only [Act.put, L1_, L2_, L3_, i64_w, i32_w]
                        rfl
                       refine last_ (i := 19) (N := none) #[tt,tt,tt,tt,tt,tt,tt,tt,tt,tt,tt,tt,tt,tt,tt,tt,tt,tt,tt,tt] rfl rfl (one_of HT_.out (by kernel_rfl)) (by decide) (fun K hK => ?_)
                       have hs111 : w108.cell? ⟨gb219, 0, none⟩ = some (u220000) := (blk_cell BK219.out 0).trans rfl
                       have hfs111 := blk_frozen BK219.out 0
                       have hns111_0 := NB217_219.out
                       have hms111_0 := NB219_217.out
                       refine skip_ (w1 := ?_) (by rfl) rfl ?_ ?_
                       rotate_left
                       ·go_simp
                        rfl
                       refine hK.out _ _ ?_
                       clear hK K
                       refine done_ (done_of HT_.out (by kernel_rfl)) ?_
                       try go_wp2
                       go_roundg kj96
                       case measure => have := HK1.out; have := HK2.out; have := HK3.out; have := HK4.out; have := HJ86.out; have := HJ96.out; omega
                       case rel => exact ⟨(x26_4), (x219001_96), (x219002_96), (y284), (.slice Ao110 y284.length co110), (by first | rfl | (simp; done) | (simp [*]; done)), H', ⟨by have := HK1.out; have := HK2.out; have := HK3.out; have := HK4.out; have := HJ86.out; have := HJ96.out; omega⟩, ⟨by (with_reducible repeat (first | apply Kd.R_alloc | apply Kd.R_drewN | apply Kd.R_drew)); exact Kd.R_mono (Kd.R_far (p := ⟨gb219, 0, none⟩) (Kd.R_types HO_13.out BK219.out (by decide)) (fun _ hk => hk.2) (.slice Ao110 y284.length co110)) (fun _ hk => ⟨hk.1.1.1, ⟨hk.1.1.2.1, hk.1.2⟩⟩)⟩, ⟨by (with_reducible repeat (first | apply Kd.R_alloc | apply Kd.R_drewN | apply Kd.R_drew)); exact Kd.R_mono (Kd.R_far (p := ⟨gb219, 0, none⟩) (Kd.R_types HO_14.out BK219.out (by decide)) (fun _ hk => hk.2) (.slice Ao110 y284.length co110)) (fun _ hk => ⟨hk.1.1.1, ⟨hk.1.1.2.1, hk.1.2⟩⟩)⟩, ⟨by (with_reducible repeat (first | apply Kd.R_alloc | apply Kd.R_drewN | apply Kd.R_drew)); exact Kd.R_mono (Kd.R_far (p := ⟨gb219, 0, none⟩) (Kd.R_types HO_15.out BK219.out (by decide)) (fun _ hk => hk.2) (.slice Ao110 y284.length co110)) (fun _ hk => ⟨hk.1.1.1, ⟨hk.1.1.2.1, hk.1.2⟩⟩)⟩, ⟨by (with_reducible repeat (first | apply Kd.R_alloc | apply Kd.R_drewN | apply Kd.R_drew)); exact Kd.R_mono (Kd.R_far (p := ⟨gb219, 0, none⟩) (Kd.R_types HO286.out BK219.out (by decide)) (fun _ hk => hk.2) (.slice Ao110 y284.length co110)) (fun _ hk => ⟨hk.1.1, ⟨hk.1.2.1, hk.1.2.2.1⟩⟩)⟩, ⟨by (with_reducible repeat (first | refine b1_ ?_ _ | refine b2_ ?_ | refine b3_ ?_ _)); refine blk_far ?_ NB217_219.out _; (with_reducible repeat (first | refine b1_ ?_ _ | refine b2_ ?_ | refine b3_ ?_ _)); exact BK217.out⟩, ⟨by (with_reducible repeat (first | refine b1_ ?_ _ | refine b2_ ?_ | refine b3_ ?_ _)); refine blk_put (cs := #[u220000, .slice none 0 0]) ?_ 0 _ rfl; (with_reducible repeat (first | refine b1_ ?_ _ | refine b2_ ?_ | refine b3_ ?_ _)); exact BK219.out⟩, ⟨(show IsS126 w _ gb218 l2 x219001_96 x219002_96 from by repeat (first | (with_reducible first | exact HI218.out | apply IsS126.alloc | apply IsS126.drewN | apply IsS126.drew | apply IsS126.set_1 | apply IsS126.set_2 | refine IsS126.far ?_ NB218_217.out _ | refine IsS126.far ?_ NB218_219.out _) | exact HI218.out))⟩, ⟨by repeat (first | (with_reducible first | exact HB.out | apply below_alloc | apply pw_below_drewN | apply below_drew1 | refine below_set ?_ (IsS126.ge HI218.out) | refine below_set ?_ GE217.out | refine below_set ?_ GE219.out) | exact HB.out)⟩⟩
                      ·rw [if_neg c104] at H
                       exact absurd H (by simp)
                     ·rw [if_neg c103] at H
                      exact absurd H (by simp)
                    ·rw [if_neg c102] at H
                     exact absurd H (by simp)
                   ·replace c101 := Bool.eq_false_iff.mpr c101
                    subst c101
                    have H1 : (if 0 ≤ x25_3 then (if x25_3 < (x13_2.length : Int) then (if x220000_3.length < 140737488355328 then (spec_SpotBytes.l3 kj96 x13_2 x14_2 x15_2 (wrap64 (x25_3 + 1)) l2 x219001_96 x219002_96 (x220000_3 ++ [rd x13_2 x25_3]) ()) else (none)) else (none)) else (none)) = some r := by rw [if_neg (show ¬ (false = true) by decide)] at H; exact H
                    clear H
                    have H := H1
                    clear H1
                    by_cases c112 : 0 ≤ x25_3
                    ·rw [if_pos c112] at H
                     have c112b0 : decide (0 ≤ x25_3) = true := decide_eq_true c112
                     clear c112
                     by_cases c113 : x25_3 < (x13_2.length : Int)
                     ·rw [if_pos c113] at H
                      have c113b0 : decide (x25_3 < (x13_2.length : Int)) = true := decide_eq_true c113
                      clear c113
                      by_cases c114 : x220000_3.length < 140737488355328
                      ·rw [if_pos c114] at H
                       have LMc114 := Aside0.mk c114
                       clear c114
                       obtain ⟨y288, hy288⟩ : ∃ y_ : List Int, y_ = (x220000_3 ++ [rd x13_2 x25_3]) := ⟨_, rfl⟩
                       replace H : (spec_SpotBytes.l3 kj96 x13_2 x14_2 x15_2 (wrap64 (x25_3 + 1)) l2 x219001_96 x219002_96 y288 ()) = some r := by first | (rw [hy288]; with_reducible exact H) | (have H2_ := (Option.bind_some _ _).symm.trans H; rw [hy288]; with_reducible exact H2_) | (have H2_ := (Option.bind_some _ _).symm.trans H; with_reducible exact H2_) | with_reducible exact H | (rw [hy288]; exact H) | exact H
                       have Ny288 := Aside0.mk hy288
                       clear hy288
                       have H' := Aside0.mk H
                       clear H
                       try go_wp2
                       have n0_ := Aside0.mk (Kd.R_drew HO_13.out)
                       have n1_ := Aside0.mk (Kd.R_drew HO_14.out)
                       have n2_ := Aside0.mk (Kd.R_drew HO_15.out)
                       have n3_ := Aside0.mk (Kd.R_drew HO_220000.out)
                       have n4_ := Aside0.mk (blk_drew BK217.out)
                       have n5_ := Aside0.mk (blk_drew BK219.out)
                       have n6_ := Aside0.mk (IsS126.drew HI218.out)
                       have n7_ := Aside0.mk (below_drew1 HB.out)
                       clear HO_13
                       clear HO_14
                       clear HO_15
                       clear HO_220000
                       clear BK217
                       clear BK219
                       clear HI218
                       clear HB
                       have HO_13 := n0_
                       have HO_14 := n1_
                       have HO_15 := n2_
                       have HO_220000 := n3_
                       have BK217 := n4_
                       have BK219 := n5_
                       have HI218 := n6_
                       have HB := n7_
                       clear n0_ n1_ n2_ n3_ n4_ n5_ n6_ n7_
                       have p287 : 0 ≤ (x25_3 : Int) := of_decide_eq_true (by first | (with_reducible assumption) | assumption)
                       have q287 : x25_3 < (x13_2.length : Int) := of_decide_eq_true (by first | (with_reducible assumption) | assumption)
                       obtain ⟨ad287, e287, hx287_0⟩ := Kd.at_int (Kd.R_reads' HO_13.out).2.2 x25_3 p287 q287
                       cases e287
                       replace p287 := eq_true p287
                       replace q287 := eq_true q287
                       refine start_ (n := 14) (S := fun w' => w'.cell? ⟨gb219, 0, none⟩ = some (u220000) ∧ w'.cell? ⟨gb219, 1, none⟩ = some (.slice none 0 0) ∧ w'.cell? (ad287.add (x25_3).toNat) = some (.int .u8 (rd x13_2 x25_3))) (ds := [10, 13]) #[ff,ff,ff,ff,ff,ff,ff,ff,ff,ff,ff,ff,ff,ff] (by kernel_rfl) rfl rfl ⟨(blk_cell BK219.out 0).trans rfl, (blk_cell BK219.out 1).trans rfl, hx287_0⟩ (fun hHeld => ?_); refine with_tabW spec_SpotBytes.tab40 spec_SpotBytes.bits40 (fun HT_ HW_ => ?_)
                       generalize wc.drew = w115 at HO_13 HO_14 HO_15 HO_220000 BK217 BK219 HI218 HB hx287_0 hHeld ⊢
                       refine pure_ (i := 0) (N := some 175) (v := ?_) (a' := ?_) #[tt,ff,ff,ff,ff,ff,ff,ff,ff,ff,ff,ff,ff,ff] rfl rfl (any_of HT_.out (by kernel_rfl)) (fun _ _ _ h => h) (Or.inl ⟨by rfl, ?_⟩) ?_ ?_
                       rotate_left
                       ·intro w'
                        go_simp
                        with_reducible rfl
                       rotate_left
                       ·simp only [Act.put, L1_, L2_, L3_, i64_w, i32_w]
                        rfl
                       refine pure_ (i := 1) (N := some 176) (v := ?_) (a' := ?_) #[tt,tt,ff,ff,ff,ff,ff,ff,ff,ff,ff,ff,ff,ff] rfl rfl (any_of HT_.out (by kernel_rfl)) (fun _ _ _ h => h) (Or.inl ⟨by rfl, ?_⟩) ?_ ?_
                       rotate_left
                       ·intro w'
                        go_simp
                        with_reducible rfl
                       rotate_left
                       ·simp only [Act.put, L1_, L2_, L3_, i64_w, i32_w]
                        rfl
                       refine pure_ (i := 2) (N := some 177) (v := ?_) (a' := ?_) #[tt,tt,tt,ff,ff,ff,ff,ff,ff,ff,ff,ff,ff,ff] rfl rfl (any_of HT_.out (by kernel_rfl)) (fun _ _ _ h => h) (Or.inl ⟨by rfl, ?_⟩) ?_ ?_
                       rotate_left
                       ·intro w'
                        go_simp
                        with_reducible rfl
                       rotate_left
                       ·simp only [Act.put, L1_, L2_, L3_, i64_w, i32_w]
                        rfl
                       refine pure_ (i := 3) (N := some 178) (v := ?_) (a' := ?_) #[tt,tt,tt,tt,ff,ff,ff,ff,ff,ff,ff,ff,ff,ff] rfl rfl (any_of HT_.out (by kernel_rfl)) (fun _ _ _ h => h) (Or.inl ⟨by rfl, ?_⟩) ?_ ?_
                       rotate_left
                       ·intro w'
                        go_simp
                        with_reducible rfl
                       rotate_left
                       ·simp only [Act.put, L1_, L2_, L3_, i64_w, i32_w]
                        rfl
                       refine pure_ (i := 5) (N := some 180) (v := ?_) (a' := ?_) #[tt,tt,tt,tt,ff,tt,ff,ff,ff,ff,ff,ff,ff,ff] rfl rfl (any_of HT_.out (by kernel_rfl)) (fun _ _ _ h => h) (Or.inl ⟨by rfl, ?_⟩) ?_ ?_
                       rotate_left
                       ·intro w'
                        go_simp
                        with_reducible rfl
                       rotate_left
                       ·simp only [Act.put, L1_, L2_, L3_, i64_w, i32_w]
                        rfl
                       refine pure_ (i := 6) (N := some 181) (v := ?_) (a' := ?_) #[tt,tt,tt,tt,ff,tt,tt,ff,ff,ff,ff,ff,ff,ff] rfl rfl (any_of HT_.out (by kernel_rfl)) (fun _ _ _ h => h) (Or.inl ⟨by rfl, ?_⟩) ?_ ?_
                       rotate_left
                       ·intro w'
                        go_simp
                        with_reducible rfl
                       rotate_left
                       ·simp only [Act.put, L1_, L2_, L3_, i64_w, i32_w]
                        rfl
                       refine pure_ (i := 7) (N := some 182) (v := ?_) (a' := ?_) #[tt,tt,tt,tt,ff,tt,tt,tt,ff,ff,ff,ff,ff,ff] rfl rfl (any_of HT_.out (by kernel_rfl)) (fun _ _ _ h => h) (Or.inl ⟨by rfl, ?_⟩) ?_ ?_
                       rotate_left
                       ·intro w'
                        go_simp
                        with_reducible rfl
                       rotate_left
                       ·simp only [Act.put, L1_, L2_, L3_, i64_w, i32_w]
                        rfl
                       refine take_ (i := 4) (N := some 179) (v := ?_) (a' := ?_) #[tt,tt,tt,tt,tt,tt,tt,tt,ff,ff,ff,ff,ff,ff] rfl rfl (take_ofW HT_.out HW_.out (by kernel_rfl)) (fun _ _ _ h => h) (Or.inl ⟨by rfl, ?_⟩) hHeld ?_ ?_
                       rotate_left
                       ·rintro w' ⟨s0, s1, s2⟩
                        go_simp
                        with_reducible rfl
                       rotate_left
                       ·simp only [Act.put, L1_, L2_, L3_, i64_w, i32_w]
                        rfl
                       refine take_ (i := 8) (N := some 183) (v := ?_) (a' := ?_) #[tt,tt,tt,tt,tt,tt,tt,tt,tt,ff,ff,ff,ff,ff] rfl rfl (take_ofW HT_.out HW_.out (by kernel_rfl)) (fun _ _ _ h => h) (Or.inl ⟨by rfl, ?_⟩) hHeld ?_ ?_
                       rotate_left
                       ·rintro w' ⟨s0, s1, s2⟩
                        go_simp
                        with_reducible rfl
                       rotate_left
                       ·simp only [Act.put, L1_, L2_, L3_, i64_w, i32_w]
                        rfl
                       refine one_ (i := 9) (N := some 184) #[tt,tt,tt,tt,tt,tt,tt,tt,tt,tt,ff,ff,ff,ff] rfl rfl (one_of HT_.out (by kernel_rfl)) (by decide) (fun K hK => ?_)
                       refine value_ (w1 := ?_) (v := ?_) (by rfl) rfl ?_ ?_
                       rotate_left 2
                       ·go_simp
                        constructor
                        ·rfl
                        ·rfl
                       refine hK.out _ _ ⟨(blk_cell (blk_alloc BK219.out _) 0).trans rfl, (blk_cell (blk_alloc BK219.out _) 1).trans rfl, (World.cell?_alloc_lt _ _ _ (World.block_lt_of_cell? _ _ (hHeld.2.2))).trans (hHeld.2.2)⟩ (fun hHeld => ?_)
                       clear hK K
                       refine norm_ (a' := ?_) ?_ ?_
                       rotate_left
                       ·show Act.put _ (some 184) _ = _
                        simp only [Act.put, L1_, L2_, L3_, i64_w, i32_w]
                        rfl
                       refine last_ (i := 10) (N := some 185) #[tt,tt,tt,tt,tt,tt,tt,tt,tt,tt,tt,ff,ff,ff] rfl rfl (one_of HT_.out (by kernel_rfl)) (by decide) (fun K hK => ?_)
                       refine Kd.R_append_step (Kd.int .u8) (w0 := w) w.heap.size (by rfl) (.tmp 179) (.tmp 184) 22 5 (.int .u8 0) 1 rfl Try.underlying22 info5 rfl (by decide) (by omega) u220000 x220000_3 (rd x13_2 x25_3) [.int .u8 (rd x13_2 x25_3)] (fun k_ => some k_ ≠ (.slice (some ad287) x13_2.length co86 : Value).ownBlock ∧ some k_ ≠ (u14 : Value).ownBlock ∧ some k_ ≠ (u15 : Value).ownBlock) (fun _ => False) rfl rfl ?aP (fun _ hk => hk.elim) ?aF ?aO ?aB ?aS ?aL ?_
                       (case aP => exact rfl)
                       (case aB => exact (by repeat (first | (with_reducible first | exact HB.out | apply below_alloc | apply pw_below_drewN | apply below_drew1 | refine below_set ?_ (IsS126.ge HI218.out) | refine below_set ?_ GE217.out | refine below_set ?_ GE219.out) | exact HB.out)))
                       (case aF => exact (fun k_ hk => ⟨Kd.fresh' (Kd.R_lt (by (with_reducible repeat (first | apply Kd.R_alloc | apply Kd.R_drewN | apply Kd.R_drew)); exact HO_13.out)) k_ hk, Kd.fresh' (Kd.R_lt (by (with_reducible repeat (first | apply Kd.R_alloc | apply Kd.R_drewN | apply Kd.R_drew)); exact HO_14.out)) k_ hk, Kd.fresh' (Kd.R_lt (by (with_reducible repeat (first | apply Kd.R_alloc | apply Kd.R_drewN | apply Kd.R_drew)); exact HO_15.out)) k_ hk⟩))
                       (case aO => exact (by (with_reducible repeat (first | apply Kd.R_alloc | apply Kd.R_drewN | apply Kd.R_drew)); exact HO_220000.out))
                       (case aS => exact (below_size (by repeat (first | (with_reducible first | exact HB.out | apply below_alloc | apply pw_below_drewN | apply below_drew1 | refine below_set ?_ (IsS126.ge HI218.out) | refine below_set ?_ GE217.out | refine below_set ?_ GE219.out) | exact HB.out))))
                       (case aL => have := LMc114.out; omega)
                       intro v289 w116 ho hb hg hat
                       rw [← Ny288.out] at ho
                       have n0_ := Aside0.mk (Kd.R_after (ok := (fun k_ => some k_ ≠ (u14 : Value).ownBlock ∧ some k_ ≠ (u15 : Value).ownBlock)) (by (with_reducible repeat (first | apply Kd.R_alloc | apply Kd.R_drewN | apply Kd.R_drew)); exact Kd.R_mono HO_13.out (fun _ hk => ⟨⟨hk.1, hk.2.1⟩, hk.2.2⟩)) hg hat)
                       have n1_ := Aside0.mk (Kd.R_after (ok := (fun k_ => some k_ ≠ (.slice (some ad287) x13_2.length co86 : Value).ownBlock ∧ some k_ ≠ (u15 : Value).ownBlock)) (by (with_reducible repeat (first | apply Kd.R_alloc | apply Kd.R_drewN | apply Kd.R_drew)); exact Kd.R_mono HO_14.out (fun _ hk => ⟨⟨hk.1, hk.2.1⟩, hk.2.2⟩)) hg hat)
                       have n2_ := Aside0.mk (Kd.R_after (ok := (fun k_ => some k_ ≠ (.slice (some ad287) x13_2.length co86 : Value).ownBlock ∧ some k_ ≠ (u14 : Value).ownBlock)) (by (with_reducible repeat (first | apply Kd.R_alloc | apply Kd.R_drewN | apply Kd.R_drew)); exact Kd.R_mono HO_15.out (fun _ hk => ⟨⟨hk.1, hk.2.1⟩, hk.2.2⟩)) hg hat)
                       have n3_ := Aside0.mk (blk_grown (g := gb217) (o := .cells #[.int .i64 a1_0, .int .i64 a1_1, .int .i64 a1_2, .int .i64 a1_3] 49 (0, 0)) (by (with_reducible repeat (first | refine b1_ ?_ _ | refine b2_ ?_ | refine b3_ ?_ _)); exact BK217.out) hg (Kd.R_ne HO_220000.out BK217.out (by decide)))
                       have n4_ := Aside0.mk (blk_grown (g := gb219) (o := .cells #[u220000, .slice none 0 0] 130 (0, 0)) (by (with_reducible repeat (first | refine b1_ ?_ _ | refine b2_ ?_ | refine b3_ ?_ _)); exact BK219.out) hg (Kd.R_ne HO_220000.out BK219.out (by decide)))
                       have n5_ := Aside0.mk (IsS126.grown ((show IsS126 w _ gb218 l2 x219001_96 x219002_96 from by repeat (first | (with_reducible first | exact HI218.out | apply IsS126.alloc | apply IsS126.drewN | apply IsS126.drew | apply IsS126.set_1 | apply IsS126.set_2 | refine IsS126.far ?_ NB218_217.out _ | refine IsS126.far ?_ NB218_219.out _) | exact HI218.out))) hg (IsS126.own_ne HI218.out HO_220000.out (by decide)))
                       have n6_ := Aside0.mk (hb)
                       have n7_ := Aside0.mk (ho)
                       clear HO_13
                       clear HO_14
                       clear HO_15
                       clear BK217
                       clear BK219
                       clear HI218
                       clear HB
                       clear HO_220000
                       have HO_13 := n0_
                       have HO_14 := n1_
                       have HO_15 := n2_
                       have BK217 := n3_
                       have BK219 := n4_
                       have HI218 := n5_
                       have HB := n6_
                       have HO290 := n7_
                       clear n0_ n1_ n2_ n3_ n4_ n5_ n6_ n7_
                       clear ho hb hg hat
                       obtain ⟨Ao117, co117, eo117⟩ := Kd.R_slice HO290.out
                       (first | subst eo117 | (injection eo117 with f1_ f2_ f3_; have f4_ := f1_.symm; have f5_ := f3_.symm; clear f1_ f2_ f3_; subst f4_; subst f5_))
                       refine hK.out _ _ ?_
                       clear hK K
                       refine norm_ (a' := ?_) ?_ ?_
                       rotate_left
                       ·show Act.put _ (some 185) _ = _
                        simp only [Act.put, L1_, L2_, L3_, i64_w, i32_w]
                        rfl
                       refine pure_ (i := 11) (N := some 186) (v := ?_) (a' := ?_) #[tt,tt,tt,tt,tt,tt,tt,tt,tt,tt,tt,tt,ff,ff] rfl rfl (any_of HT_.out (by kernel_rfl)) (fun _ _ _ h => h) (Or.inl ⟨by rfl, ?_⟩) ?_ ?_
                       rotate_left
                       ·intro w'
                        go_simp
                        with_reducible rfl
                       rotate_left
                       ·simp only [Act.put, L1_, L2_, L3_, i64_w, i32_w]
                        rfl
                       refine pure_ (i := 12) (N := some 187) (v := ?_) (a' := ?_) #[tt,tt,tt,tt,tt,tt,tt,tt,tt,tt,tt,tt,tt,ff] rfl rfl (any_of HT_.out (by kernel_rfl)) (fun _ _ _ h => h) (Or.inl ⟨by rfl, ?_⟩) ?_ ?_
                       rotate_left
                       ·intro w'
                        go_simp
                        with_reducible rfl
                       rotate_left
                       ·simp only [Act.put, L1_, L2_, L3_, i64_w, i32_w]
                        rfl
                       refine last_ (i := 13) (N := none) #[tt,tt,tt,tt,tt,tt,tt,tt,tt,tt,tt,tt,tt,tt] rfl rfl (one_of HT_.out (by kernel_rfl)) (by decide) (fun K hK => ?_)
                       have hs118 : w116.cell? ⟨gb219, 0, none⟩ = some (u220000) := (blk_cell BK219.out 0).trans rfl
                       have hfs118 := blk_frozen BK219.out 0
                       have hns118_0 := NB217_219.out
                       have hms118_0 := NB219_217.out
                       refine skip_ (w1 := ?_) (by rfl) rfl ?_ ?_
                       rotate_left
                       ·go_simp
                        rfl
                       refine hK.out _ _ ?_
                       clear hK K
                       refine done_ (done_of HT_.out (by kernel_rfl)) ?_
                       try go_wp2
                       go_roundg kj96
                       case measure => have := HK1.out; have := HK2.out; have := HK3.out; have := HK4.out; have := HJ86.out; have := HJ96.out; omega
                       case rel => exact ⟨(wrap64 (x25_3 + 1)), (x219001_96), (x219002_96), (y288), (.slice Ao117 y288.length co117), (by first | rfl | (simp; done) | (simp [*]; done)), H', ⟨by have := HK1.out; have := HK2.out; have := HK3.out; have := HK4.out; have := HJ86.out; have := HJ96.out; omega⟩, ⟨by (with_reducible repeat (first | apply Kd.R_alloc | apply Kd.R_drewN | apply Kd.R_drew)); exact Kd.R_mono (Kd.R_far (p := ⟨gb219, 0, none⟩) (Kd.R_types HO_13.out BK219.out (by decide)) (fun _ hk => hk.2) (.slice Ao117 y288.length co117)) (fun _ hk => ⟨hk.1.1.1, ⟨hk.1.1.2, hk.1.2⟩⟩)⟩, ⟨by (with_reducible repeat (first | apply Kd.R_alloc | apply Kd.R_drewN | apply Kd.R_drew)); exact Kd.R_mono (Kd.R_far (p := ⟨gb219, 0, none⟩) (Kd.R_types HO_14.out BK219.out (by decide)) (fun _ hk => hk.2) (.slice Ao117 y288.length co117)) (fun _ hk => ⟨hk.1.1.1, ⟨hk.1.1.2, hk.1.2⟩⟩)⟩, ⟨by (with_reducible repeat (first | apply Kd.R_alloc | apply Kd.R_drewN | apply Kd.R_drew)); exact Kd.R_mono (Kd.R_far (p := ⟨gb219, 0, none⟩) (Kd.R_types HO_15.out BK219.out (by decide)) (fun _ hk => hk.2) (.slice Ao117 y288.length co117)) (fun _ hk => ⟨hk.1.1.1, ⟨hk.1.1.2, hk.1.2⟩⟩)⟩, ⟨by (with_reducible repeat (first | apply Kd.R_alloc | apply Kd.R_drewN | apply Kd.R_drew)); exact Kd.R_mono (Kd.R_far (p := ⟨gb219, 0, none⟩) (Kd.R_types HO290.out BK219.out (by decide)) (fun _ hk => hk.2) (.slice Ao117 y288.length co117)) (fun _ hk => ⟨hk.1.1, ⟨hk.1.2.1, hk.1.2.2⟩⟩)⟩, ⟨by (with_reducible repeat (first | refine b1_ ?_ _ | refine b2_ ?_ | refine b3_ ?_ _)); refine blk_far ?_ NB217_219.out _; (with_reducible repeat (first | refine b1_ ?_ _ | refine b2_ ?_ | refine b3_ ?_ _)); exact BK217.out⟩, ⟨by (with_reducible repeat (first | refine b1_ ?_ _ | refine b2_ ?_ | refine b3_ ?_ _)); refine blk_put (cs := #[u220000, .slice none 0 0]) ?_ 0 _ rfl; (with_reducible repeat (first | refine b1_ ?_ _ | refine b2_ ?_ | refine b3_ ?_ _)); exact BK219.out⟩, ⟨(show IsS126 w _ gb218 l2 x219001_96 x219002_96 from by repeat (first | (with_reducible first | exact HI218.out | apply IsS126.alloc | apply IsS126.drewN | apply IsS126.drew | apply IsS126.set_1 | apply IsS126.set_2 | refine IsS126.far ?_ NB218_217.out _ | refine IsS126.far ?_ NB218_219.out _) | exact HI218.out))⟩, ⟨by repeat (first | (with_reducible first | exact HB.out | apply below_alloc | apply pw_below_drewN | apply below_drew1 | refine below_set ?_ (IsS126.ge HI218.out) | refine below_set ?_ GE217.out | refine below_set ?_ GE219.out) | exact HB.out)⟩⟩
                      ·rw [if_neg c114] at H
                       exact absurd H (by simp)
                     ·rw [if_neg c113] at H
                      exact absurd H (by simp)
                    ·rw [if_neg c112] at H
                     exact absurd H (by simp)
           ·rw [if_neg c85] at H
            have c85b0 : decide (x25_3 < (x13_2.length : Int)) = false := decide_eq_false c85
            clear c85
            by_cases c119 : x220000_3.length + x14_2.length < 140737488355328
            ·rw [if_pos c119] at H
             have LMc119 := Aside0.mk c119
             clear c119
             obtain ⟨y269, hy269⟩ : ∃ y_ : List Int, y_ = (x220000_3 ++ x14_2) := ⟨_, rfl⟩
             replace H : (if y269.length + x15_2.length < 140737488355328 then (some (y269 ++ x15_2)) else (none)) = some r := by first | (rw [hy269]; with_reducible exact H) | (have H2_ := (Option.bind_some _ _).symm.trans H; rw [hy269]; with_reducible exact H2_) | (have H2_ := (Option.bind_some _ _).symm.trans H; with_reducible exact H2_) | with_reducible exact H | (rw [hy269]; exact H) | exact H
             have Ny269 := Aside0.mk hy269
             clear hy269
             by_cases c120 : y269.length + x15_2.length < 140737488355328
             ·rw [if_pos c120] at H
              have LMc120 := Aside0.mk c120
              clear c120
              obtain ⟨y272, hy272⟩ : ∃ y_ : List Int, y_ = (y269 ++ x15_2) := ⟨_, rfl⟩
              replace H : (some y272) = some r := by first | (rw [hy272]; with_reducible exact H) | (have H2_ := (Option.bind_some _ _).symm.trans H; rw [hy272]; with_reducible exact H2_) | (have H2_ := (Option.bind_some _ _).symm.trans H; with_reducible exact H2_) | with_reducible exact H | (rw [hy272]; exact H) | exact H
              have Ny272 := Aside0.mk hy272
              clear hy272
              obtain rfl := Option.some.inj H
              obtain ⟨Ao121, co121, eo121⟩ := Kd.R_slice HO_13.out
              subst eo121
              have hnb122 := NB219_217.out
              have hnc122 := NB217_219.out
              have hnb123 := NB219_218.out
              have hnc123 := NB218_219.out
              have hcz124_0 : wr.cell? ⟨gb219, 0, none⟩ = some (u220000) := (blk_cell BK219.out 0).trans rfl
              have hcz124_1 : wr.cell? ⟨gb219, 1, none⟩ = some (.slice none 0 0) := (blk_cell BK219.out 1).trans rfl
              have hfz124_0 := blk_frozen BK219.out 0
              have hfz124_1 := blk_frozen BK219.out 1
              obtain ⟨Ao126, co126, eo126⟩ := Kd.R_slice HO_14.out
              subst eo126
              go_wp2_with (first | ((with_reducible refine gate_builtin (b := .append) (xs := #[.tmp 193, .tmp 194]) rfl ?_); at_builtin; refine Kd.R_append_rows (Kd.int .u8) (w0 := w) w.heap.size rfl (.tmp 193) (.tmp 194) 22 5 (.int .u8 0) 1 rfl Try.underlying22 info5 rfl (by decide) (by omega) u220000 x220000_3 x14_2 _ _ _ (fun k_ => some k_ ≠ (.slice Ao121 x13_2.length co121 : Value).ownBlock ∧ some k_ ≠ (.slice Ao126 x14_2.length co126 : Value).ownBlock ∧ some k_ ≠ (u15 : Value).ownBlock) (fun _ => False) rfl rfl ?aO ?aR (fun _ _ h => h) (fun _ h => h.elim) ?aF ?aB ?aS ?aL ?_; (case aR => repeat (first | exact (Kd.R_reads' HO_14.out).2.2 | (with_reducible refine Kd.C_alloc ?_ _) | (with_reducible refine Kd.C_drewN ?_ _) | (with_reducible refine Kd.C_drew ?_))); (case aB => exact (by repeat (first | (with_reducible first | exact HB.out | apply below_alloc | apply pw_below_drewN | apply below_drew1 | refine below_set ?_ (IsS126.ge HI218.out) | refine below_set ?_ GE217.out | refine below_set ?_ GE219.out) | exact HB.out))); (case aF => exact (fun k_ hk => ⟨Kd.fresh' (Kd.R_lt (by (with_reducible repeat (first | apply Kd.R_alloc | apply Kd.R_drewN | apply Kd.R_drew)); exact HO_13.out)) k_ hk, Kd.fresh' (Kd.R_lt (by (with_reducible repeat (first | apply Kd.R_alloc | apply Kd.R_drewN | apply Kd.R_drew)); exact HO_14.out)) k_ hk, Kd.fresh' (Kd.R_lt (by (with_reducible repeat (first | apply Kd.R_alloc | apply Kd.R_drewN | apply Kd.R_drew)); exact HO_15.out)) k_ hk⟩)); (case aO => exact (by (with_reducible repeat (first | apply Kd.R_alloc | apply Kd.R_drewN | apply Kd.R_drew)); exact HO_220000.out)); (case aS => exact (below_size (by repeat (first | (with_reducible first | exact HB.out | apply below_alloc | apply pw_below_drewN | apply below_drew1 | refine below_set ?_ (IsS126.ge HI218.out) | refine below_set ?_ GE217.out | refine below_set ?_ GE219.out) | exact HB.out)))); (case aL => have := LMc119.out; omega); intro v270 w125 ho hb hg hat; rw [← Ny269.out] at ho; have n0_ := Aside0.mk (Kd.R_after (ok := (fun k_ => some k_ ≠ (.slice Ao126 x14_2.length co126 : Value).ownBlock ∧ some k_ ≠ (u15 : Value).ownBlock)) (by (with_reducible repeat (first | apply Kd.R_alloc | apply Kd.R_drewN | apply Kd.R_drew)); exact Kd.R_mono HO_13.out (fun _ hk => ⟨⟨hk.1, hk.2.1⟩, hk.2.2⟩)) hg hat); have n1_ := Aside0.mk (Kd.R_after (ok := (fun k_ => some k_ ≠ (.slice Ao121 x13_2.length co121 : Value).ownBlock ∧ some k_ ≠ (u15 : Value).ownBlock)) (by (with_reducible repeat (first | apply Kd.R_alloc | apply Kd.R_drewN | apply Kd.R_drew)); exact Kd.R_mono HO_14.out (fun _ hk => ⟨⟨hk.1, hk.2.1⟩, hk.2.2⟩)) hg hat); have n2_ := Aside0.mk (Kd.R_after (ok := (fun k_ => some k_ ≠ (.slice Ao121 x13_2.length co121 : Value).ownBlock ∧ some k_ ≠ (.slice Ao126 x14_2.length co126 : Value).ownBlock)) (by (with_reducible repeat (first | apply Kd.R_alloc | apply Kd.R_drewN | apply Kd.R_drew)); exact Kd.R_mono HO_15.out (fun _ hk => ⟨⟨hk.1, hk.2.1⟩, hk.2.2⟩)) hg hat); have n3_ := Aside0.mk (blk_grown (g := gb217) (o := .cells #[.int .i64 a1_0, .int .i64 a1_1, .int .i64 a1_2, .int .i64 a1_3] 49 (0, 0)) (by (with_reducible repeat (first | refine b1_ ?_ _ | refine b2_ ?_ | refine b3_ ?_ _)); exact BK217.out) hg (Kd.R_ne HO_220000.out BK217.out (by decide))); have n4_ := Aside0.mk (blk_grown (g := gb219) (o := .cells #[u220000, .slice none 0 0] 130 (0, 0)) (by (with_reducible repeat (first | refine b1_ ?_ _ | refine b2_ ?_ | refine b3_ ?_ _)); exact BK219.out) hg (Kd.R_ne HO_220000.out BK219.out (by decide))); have n5_ := Aside0.mk (IsS126.grown ((show IsS126 w _ gb218 l2 x219001_3 x219002_3 from by repeat (first | (with_reducible first | exact HI218.out | apply IsS126.alloc | apply IsS126.drewN | apply IsS126.drew | apply IsS126.set_1 | apply IsS126.set_2 | refine IsS126.far ?_ NB218_217.out _ | refine IsS126.far ?_ NB218_219.out _) | exact HI218.out))) hg (IsS126.own_ne HI218.out HO_220000.out (by decide))); have n6_ := Aside0.mk (hb); have n7_ := Aside0.mk (ho); clear HO_13; clear HO_14; clear HO_15; clear BK217; clear BK219; clear HI218; clear HB; clear HO_220000; have HO_13 := n0_; have HO_14 := n1_; have HO_15 := n2_; have BK217 := n3_; have BK219 := n4_; have HI218 := n5_; have HB := n6_; have HO271 := n7_; clear n0_ n1_ n2_ n3_ n4_ n5_ n6_ n7_; clear ho hb hg hat; obtain ⟨Ao128, co128, eo128⟩ := Kd.R_slice HO_15.out; subst eo128) | ((with_reducible refine gate_builtin (b := .append) (xs := #[.tmp 195, .tmp 196]) rfl ?_); at_builtin; refine Kd.R_append_rows (Kd.int .u8) (w0 := w) w.heap.size rfl (.tmp 195) (.tmp 196) 22 5 (.int .u8 0) 1 rfl Try.underlying22 info5 rfl (by decide) (by omega) v270 y269 x15_2 _ _ _ (fun k_ => some k_ ≠ (.slice Ao121 x13_2.length co121 : Value).ownBlock ∧ some k_ ≠ (.slice Ao126 x14_2.length co126 : Value).ownBlock ∧ some k_ ≠ (.slice Ao128 x15_2.length co128 : Value).ownBlock) (fun _ => False) rfl rfl ?aO ?aR (fun _ _ h => h) (fun _ h => h.elim) ?aF ?aB ?aS ?aL ?_; (case aR => repeat (first | exact (Kd.R_reads' HO_15.out).2.2 | (with_reducible refine Kd.C_alloc ?_ _) | (with_reducible refine Kd.C_drewN ?_ _) | (with_reducible refine Kd.C_drew ?_))); (case aB => exact (by repeat (first | (with_reducible first | exact HB.out | apply below_alloc | apply pw_below_drewN | apply below_drew1 | refine below_set ?_ (IsS126.ge HI218.out) | refine below_set ?_ GE217.out | refine below_set ?_ GE219.out) | exact HB.out))); (case aF => exact (fun k_ hk => ⟨Kd.fresh' (Kd.R_lt (by (with_reducible repeat (first | apply Kd.R_alloc | apply Kd.R_drewN | apply Kd.R_drew)); exact HO_13.out)) k_ hk, Kd.fresh' (Kd.R_lt (by (with_reducible repeat (first | apply Kd.R_alloc | apply Kd.R_drewN | apply Kd.R_drew)); exact HO_14.out)) k_ hk, Kd.fresh' (Kd.R_lt (by (with_reducible repeat (first | apply Kd.R_alloc | apply Kd.R_drewN | apply Kd.R_drew)); exact HO_15.out)) k_ hk⟩)); (case aO => exact (by (with_reducible repeat (first | apply Kd.R_alloc | apply Kd.R_drewN | apply Kd.R_drew)); exact HO271.out)); (case aS => exact (below_size (by repeat (first | (with_reducible first | exact HB.out | apply below_alloc | apply pw_below_drewN | apply below_drew1 | refine below_set ?_ (IsS126.ge HI218.out) | refine below_set ?_ GE217.out | refine below_set ?_ GE219.out) | exact HB.out)))); (case aL => have := LMc120.out; omega); intro v273 w127 ho hb hg hat; rw [← Ny272.out] at ho; have n0_ := Aside0.mk (Kd.R_after (ok := (fun k_ => some k_ ≠ (.slice Ao126 x14_2.length co126 : Value).ownBlock ∧ some k_ ≠ (.slice Ao128 x15_2.length co128 : Value).ownBlock)) (by (with_reducible repeat (first | apply Kd.R_alloc | apply Kd.R_drewN | apply Kd.R_drew)); exact HO_13.out) hg hat); have n1_ := Aside0.mk (Kd.R_after (ok := (fun k_ => some k_ ≠ (.slice Ao121 x13_2.length co121 : Value).ownBlock ∧ some k_ ≠ (.slice Ao128 x15_2.length co128 : Value).ownBlock)) (by (with_reducible repeat (first | apply Kd.R_alloc | apply Kd.R_drewN | apply Kd.R_drew)); exact HO_14.out) hg hat); have n2_ := Aside0.mk (Kd.R_after (ok := (fun k_ => some k_ ≠ (.slice Ao121 x13_2.length co121 : Value).ownBlock ∧ some k_ ≠ (.slice Ao126 x14_2.length co126 : Value).ownBlock)) (by (with_reducible repeat (first | apply Kd.R_alloc | apply Kd.R_drewN | apply Kd.R_drew)); exact HO_15.out) hg hat); have n3_ := Aside0.mk (blk_grown (g := gb217) (o := .cells #[.int .i64 a1_0, .int .i64 a1_1, .int .i64 a1_2, .int .i64 a1_3] 49 (0, 0)) (by (with_reducible repeat (first | refine b1_ ?_ _ | refine b2_ ?_ | refine b3_ ?_ _)); exact BK217.out) hg (Kd.R_ne HO271.out BK217.out (by decide))); have n4_ := Aside0.mk (blk_grown (g := gb219) (o := .cells #[u220000, .slice none 0 0] 130 (0, 0)) (by (with_reducible repeat (first | refine b1_ ?_ _ | refine b2_ ?_ | refine b3_ ?_ _)); exact BK219.out) hg (Kd.R_ne HO271.out BK219.out (by decide))); have n5_ := Aside0.mk (IsS126.grown ((show IsS126 w _ gb218 l2 x219001_3 x219002_3 from by repeat (first | (with_reducible first | exact HI218.out | apply IsS126.alloc | apply IsS126.drewN | apply IsS126.drew | apply IsS126.set_1 | apply IsS126.set_2 | refine IsS126.far ?_ NB218_217.out _ | refine IsS126.far ?_ NB218_219.out _) | exact HI218.out))) hg (IsS126.own_ne HI218.out HO271.out (by decide))); have n6_ := Aside0.mk (hb); have n7_ := Aside0.mk (ho); clear HO_13; clear HO_14; clear HO_15; clear BK217; clear BK219; clear HI218; clear HB; clear HO271; have HO_13 := n0_; have HO_14 := n1_; have HO_15 := n2_; have BK217 := n3_; have BK219 := n4_; have HI218 := n5_; have HB := n6_; have HO274 := n7_; clear n0_ n1_ n2_ n3_ n4_ n5_ n6_ n7_; clear ho hb hg hat))
              go_ret
              exact ⟨_, by first | rfl | (simp [errW_none, errW_some] <;> rfl) | (simp [*, errW_none, errW_some] <;> rfl), by (with_reducible repeat (first | apply Kd.R_alloc | apply Kd.R_drewN | apply Kd.R_drew)); exact Kd.R_mono HO274.out (fun _ hk => trivial), by repeat (first | (with_reducible first | exact HB.out | apply below_alloc | apply pw_below_drewN | apply below_drew1 | refine below_set ?_ (IsS126.ge HI218.out) | refine below_set ?_ GE217.out | refine below_set ?_ GE219.out) | exact HB.out)⟩
             ·rw [if_neg c120] at H
              exact absurd H (by simp)
            ·rw [if_neg c119] at H
             exact absurd H (by simp)
     ·rw [if_neg c42] at H
      exact absurd H (by simp)
    ·rw [if_neg c41] at H
     exact absurd H (by simp)

end Go.Proofs.Ytchkmmbedgolbaa.PFnGlyphSpots
