-- Written by a program of this session (xprint) out of the translation; Lean checks it.
import Derived.Test.YtlclakahgmoafaaDoorPFnAskNonex0
import Derived.Test.YtlclakahgmoafaaDoorPFnAskNonex1
import Derived.Test.YtlclakahgmoafaaDoorPFnAskNonex4
namespace Go.Proofs.YtlclakahgmoafaaDoor.PFnAskNone
open Go.RowKit Go.Proofs.YtlclakahgmoafaaDoorW.PrintWords Go.Proofs.YtlclakahgmoafaaDoorW.PrintLast Go.Proofs.YtlclakahgmoafaaDoorW.PrintMore
attribute [local go_sem] max2_int min2_int max_two min_two max_three min_three max_four min_four   -- for this text's walks alone
set_option linter.unusedVariables false
set_option linter.unusedSimpArgs false

theorem c_sz (a : Array UInt8) : (⟨a⟩ : ByteArray).size = a.size := rfl
/-! ### impl_AskOf: function 7 -/
def impl_AskOf.f (k : Nat) (a0 : ByteArray) : Option (ByteArray × Int × Int × Int × Bool) := (harfbuzz_ParseFeature.f k a0).bind fun bt174 => (if bt174.2.2.2.2.isNone = true then ((opentype_Tag_String.f bt174.1).bind fun t181 => (if bt174.2.2.2.1 = 9223372036854775807 then (some (t181, bt174.2.1, bt174.2.2.1, (-1), true)) else (some (t181, bt174.2.1, bt174.2.2.1, bt174.2.2.2.1, true)))) else (some ((⟨#[]⟩ : ByteArray), 0, 0, 0, false)))
theorem impl_AskOf.mono : ∀ a0 k, LeO (impl_AskOf.f k a0) (impl_AskOf.f (k + 1) a0) := by
  intro a0 k
  unfold impl_AskOf.f
  repeat' first
      | (with_reducible exact harfbuzz_ParseFeature.mono _ _)
      | (with_reducible exact LeO.refl _)
      | (with_reducible exact LeO.none _)
      | (with_reducible refine LeO.ite ?_ ?_)
      | (with_reducible refine LeO.bind ?_ (fun _ => ?_))
      | exact harfbuzz_ParseFeature.mono _ _
      | exact LeO.none _
      | refine LeO.ite ?_ ?_
      | refine LeO.bind ?_ (fun _ => ?_)
def impl_AskOf.T4 : Bool × List (List Nat × List Nat) := (true, [([], []), ([0], [0]), ([1], [1]), ([], []), ([3], [3]), ([], []), ([5], [5]), ([], []), ([7], [7]), ([2, 4, 6, 8], [2, 4, 6, 8]), ([9, 2, 0, 1, 2, 3, 4, 5, 6, 7, 8, 9], [9])])
def impl_AskOf.B4 : List Nat := [0, 1, 3, 0, 8, 0, 32, 0, 128, 511, 1023]
theorem impl_AskOf.tab4 : rtab .any (opsOf Tryd.f7 4) = impl_AskOf.T4 := by kernel_rfl
theorem impl_AskOf.bits4 : waitsOk impl_AskOf.T4.2 impl_AskOf.B4 = true := by kernel_rfl
set_option maxHeartbeats 8000000 in
set_option maxRecDepth 100000 in
theorem impl_AskOf.calls (k : Nat) (a0 : ByteArray) (r1 : ByteArray) (r2 : Int) (r3 : Int) (r4 : Int) (r5 : Bool) (w : World) (h : impl_AskOf.f k a0 = some (r1, r2, r3, r4, r5)) (GG : Tab w) :
    Calls Tryd.prog 7 #[.string a0] w fun e w' => e = .returned (.tuple #[.agg #[.string r1, .int .u32 r2, .int .i64 r3, .int .i64 r4], .bool r5]) ∧ Below w.heap.size w w' := by
  have hu28 := Tryd.underlying28
  have hu36 := Tryd.underlying36
  have hu38 := Tryd.underlying38
  have HB := Aside0.mk (Below.refl w.heap.size w)
  have H : ((harfbuzz_ParseFeature.f k a0).bind fun bt174 => (if bt174.2.2.2.2.isNone = true then ((opentype_Tag_String.f bt174.1).bind fun t181 => (if bt174.2.2.2.1 = 9223372036854775807 then (some (t181, bt174.2.1, bt174.2.2.1, (-1), true)) else (some (t181, bt174.2.1, bt174.2.2.1, bt174.2.2.2.1, true)))) else (some ((⟨#[]⟩ : ByteArray), 0, 0, 0, false)))) = some (r1, r2, r3, r4, r5) := h
  clear h
  replace H := Option.bind_eq_some_iff.mp H
  obtain ⟨⟨t174, t175, t176, t177, t178⟩, A20, H⟩ := H
  replace H : (if t178.isNone = true then ((opentype_Tag_String.f t174).bind fun t181 => (if t177 = 9223372036854775807 then (some (t181, t175, t176, (-1), true)) else (some (t181, t175, t176, t177, true)))) else (some ((⟨#[]⟩ : ByteArray), 0, 0, 0, false))) = some (r1, r2, r3, r4, r5) := H
  have A2 := Aside0.mk A20
  clear A20
  rcases t178 with _ | q180
  · have H1 : ((opentype_Tag_String.f t174).bind fun t181 => (if t177 = 9223372036854775807 then (some (t181, t175, t176, (-1), true)) else (some (t181, t175, t176, t177, true)))) = some (r1, r2, r3, r4, r5) := by rw [if_pos (show (none : Option Int).isNone = true by rfl)] at H; exact H
    clear H
    have H := H1
    clear H1
    try simp only [errW_none, errW_some]
    replace H := Option.bind_eq_some_iff.mp H
    obtain ⟨t181, A30, H⟩ := H
    replace H : (if t177 = 9223372036854775807 then (some (t181, t175, t176, (-1), true)) else (some (t181, t175, t176, t177, true))) = some (r1, r2, r3, r4, r5) := H
    have A3 := Aside0.mk A30
    clear A30
    by_cases c4 : t177 = 9223372036854775807
    · rw [if_pos c4] at H
      have c4b0 : (t177 == 9223372036854775807) = true := beq_iff_eq.mpr c4
      have c4b1 : (t177 != 9223372036854775807) = false := bne_eq_false_iff_eq.mpr c4
      clear c4
      simp only [Option.some.injEq, Prod.mk.injEq] at H
      obtain ⟨rfl, rfl, rfl, rfl, rfl⟩ := H
      go_enter Tryd.func7, Tryd.ntmps7
      try go_wp2_with (first | ((with_reducible refine gate_dst (N := 2) rfl ?_); refine box_event ?hg (N := 2) ?hd (cs := #[.string (⟨#[]⟩ : ByteArray), .int .u32 0, .int .i64 0, .int .i64 0]) (t := 28) ?hr ?_; (case hd => rfl); (case hg => rfl); (case hr => first | (go_simp; done) | (go_simp; rfl)); intro gb173 hg w5 hbox hb; have n0_ := Aside0.mk (below_step (by repeat (first | (with_reducible first | exact HB.out | apply below_alloc | apply pw_below_drewN | apply below_drew1) | exact HB.out)) hb); have n1_ := Aside0.mk (hbox); have n2_ := Aside0.mk ((by rw [hg]; exact (below_size (by repeat (first | (with_reducible first | exact HB.out | apply below_alloc | apply pw_below_drewN | apply below_drew1) | exact HB.out))) : w.heap.size ≤ gb173)); have n3_ := Aside0.mk ((by rw [hg]; exact (below_size (by repeat (first | (with_reducible first | exact HB.out | apply below_alloc | apply pw_below_drewN | apply below_drew1) | exact HB.out))) : w.heap.size ≤ gb173)); clear HB; have HB := n0_; have BK173 := n1_; have GW173 := n2_; have GE173 := n3_; clear n0_ n1_ n2_ n3_; clear hb hbox hg) | ((with_reducible refine gate_callee (f := 9) rfl ?_); refine goesL_ (some 8) rfl rfl Tryd.func9 (by kernel_rfl) rfl #[.string a0] rfl (by (try simp only [List.map_toArray, List.map_cons, List.map_nil]); first | done | rfl | (simp only [List.length_drop, List.length_take]; rfl)) ?_; (with_reducible refine (harfbuzz_ParseFeature.calls k a0 t174 t175 t176 t177 none _ A2.out (tab_below GG (by repeat (first | (with_reducible first | exact HB.out | apply below_alloc | apply pw_below_drewN | apply below_drew1 | refine below_set ?_ GE173.out | refine below_set ?_ GE179.out | refine below_set ?_ GE194.out | refine below_set ?_ GE200.out) | exact HB.out)))).mono ?_); rintro e w8 ⟨ev6, rfl, he7, hb⟩; refine ⟨_, rfl, ?_⟩; have n0_ := Aside0.mk (blk_below (g := gb173) (o := .cells #[.string (⟨#[]⟩ : ByteArray), .int .u32 0, .int .i64 0, .int .i64 0] 28 (0, 0)) (by (with_reducible repeat (first | refine blk_drewN ?_ _ | refine blk_drew ?_ | refine blk_alloc ?_ _)); exact BK173.out) hb); have n1_ := Aside0.mk (below_step (by repeat (first | (with_reducible first | exact HB.out | apply below_alloc | apply pw_below_drewN | apply below_drew1 | refine below_set ?_ GE173.out) | exact HB.out)) hb); clear BK173; clear HB; have BK173 := n0_; have HB := n1_; clear n0_ n1_; (try clear hb); (try clear hb2); (try clear hk); (try clear hi); (first | (obtain rfl := EV_none he7) | (obtain ⟨te_, pe_, rfl⟩ := EV_some he7) | skip)) | ((with_reducible refine gate_dst (N := 4) rfl ?_); refine box_event ?hg (N := 4) ?hd (cs := #[.int .u32 0, .int .u32 0, .int .i64 0, .int .i64 0]) (t := 36) ?hr ?_; (case hd => rfl); (case hg => rfl); (case hr => first | (go_simp; done) | (go_simp; rfl)); intro gb179 hg w9 hbox hb; have n0_ := Aside0.mk (blk_below (g := gb173) (o := .cells #[.string (⟨#[]⟩ : ByteArray), .int .u32 0, .int .i64 0, .int .i64 0] 28 (0, 0)) (by (with_reducible repeat (first | refine blk_drewN ?_ _ | refine blk_drew ?_ | refine blk_alloc ?_ _)); exact BK173.out) hb); have n1_ := Aside0.mk (below_step (by repeat (first | (with_reducible first | exact HB.out | apply below_alloc | apply pw_below_drewN | apply below_drew1 | refine below_set ?_ GE173.out) | exact HB.out)) hb); have n2_ := Aside0.mk (hbox); have n3_ := Aside0.mk ((by rw [hg]; exact (below_size (by repeat (first | (with_reducible first | exact HB.out | apply below_alloc | apply pw_below_drewN | apply below_drew1 | refine below_set ?_ GE173.out) | exact HB.out))) : w.heap.size ≤ gb179)); have n4_ := Aside0.mk ((by rw [hg]; exact (below_size (by repeat (first | (with_reducible first | exact HB.out | apply below_alloc | apply pw_below_drewN | apply below_drew1 | refine below_set ?_ GE173.out) | exact HB.out))) : w.heap.size ≤ gb179)); have n5_ := Aside0.mk ((by rw [hg]; exact Nat.ne_of_lt (blk_lt (g := gb173) (o := .cells #[.string (⟨#[]⟩ : ByteArray), .int .u32 0, .int .i64 0, .int .i64 0] 28 (0, 0)) (by (with_reducible repeat (first | refine blk_drewN ?_ _ | refine blk_drew ?_ | refine blk_alloc ?_ _)); exact BK173.out)) : gb173 ≠ gb179)); have n6_ := Aside0.mk ((by rw [hg]; exact Nat.ne_of_gt (blk_lt (g := gb173) (o := .cells #[.string (⟨#[]⟩ : ByteArray), .int .u32 0, .int .i64 0, .int .i64 0] 28 (0, 0)) (by (with_reducible repeat (first | refine blk_drewN ?_ _ | refine blk_drew ?_ | refine blk_alloc ?_ _)); exact BK173.out)) : gb179 ≠ gb173)); clear BK173; clear HB; have BK173 := n0_; have HB := n1_; have BK179 := n2_; have GW179 := n3_; have GE179 := n4_; have NB173_179 := n5_; have NB179_173 := n6_; clear n0_ n1_ n2_ n3_ n4_ n5_ n6_; clear hb hbox hg; have hnb10 := NB179_173.out; have hnc10 := NB173_179.out; have hcz11_0 : w9.cell? ⟨gb179, 0, none⟩ = some (.int .u32 0) := (blk_cell BK179.out 0).trans rfl; have hcz11_1 : w9.cell? ⟨gb179, 1, none⟩ = some (.int .u32 0) := (blk_cell BK179.out 1).trans rfl; have hcz11_2 : w9.cell? ⟨gb179, 2, none⟩ = some (.int .i64 0) := (blk_cell BK179.out 2).trans rfl; have hcz11_3 : w9.cell? ⟨gb179, 3, none⟩ = some (.int .i64 0) := (blk_cell BK179.out 3).trans rfl; have hfz11_0 := blk_frozen BK179.out 0; have hfz11_1 := blk_frozen BK179.out 1; have hfz11_2 := blk_frozen BK179.out 2; have hfz11_3 := blk_frozen BK179.out 3))
      have n0_ : Aside0 (((((w9.setCell ⟨gb179, 0, none⟩ (.int .u32 t174)).setCell ⟨gb179, 1, none⟩ (.int .u32 t175)).setCell ⟨gb179, 2, none⟩ (.int .i64 t176)).setCell ⟨gb179, 3, none⟩ (.int .i64 t177)).heap[gb173]? = some (.cells #[.string (⟨#[]⟩ : ByteArray), .int .u32 0, .int .i64 0, .int .i64 0] 28 (0, 0))) := ⟨by (with_reducible repeat (first | refine blk_drewN ?_ _ | refine blk_drew ?_ | refine blk_alloc ?_ _)); refine blk_far ?_ NB173_179.out _; (with_reducible repeat (first | refine blk_drewN ?_ _ | refine blk_drew ?_ | refine blk_alloc ?_ _)); refine blk_far ?_ NB173_179.out _; (with_reducible repeat (first | refine blk_drewN ?_ _ | refine blk_drew ?_ | refine blk_alloc ?_ _)); refine blk_far ?_ NB173_179.out _; (with_reducible repeat (first | refine blk_drewN ?_ _ | refine blk_drew ?_ | refine blk_alloc ?_ _)); refine blk_far ?_ NB173_179.out _; (with_reducible repeat (first | refine blk_drewN ?_ _ | refine blk_drew ?_ | refine blk_alloc ?_ _)); exact BK173.out⟩
      have n1_ : Aside0 (((((w9.setCell ⟨gb179, 0, none⟩ (.int .u32 t174)).setCell ⟨gb179, 1, none⟩ (.int .u32 t175)).setCell ⟨gb179, 2, none⟩ (.int .i64 t176)).setCell ⟨gb179, 3, none⟩ (.int .i64 t177)).heap[gb179]? = some (.cells #[.int .u32 t174, .int .u32 t175, .int .i64 t176, .int .i64 t177] 36 (0, 0))) := ⟨by (with_reducible repeat (first | refine blk_drewN ?_ _ | refine blk_drew ?_ | refine blk_alloc ?_ _)); refine blk_put (cs := #[.int .u32 t174, .int .u32 t175, .int .i64 t176, .int .i64 0]) ?_ 3 _ rfl; (with_reducible repeat (first | refine blk_drewN ?_ _ | refine blk_drew ?_ | refine blk_alloc ?_ _)); refine blk_put (cs := #[.int .u32 t174, .int .u32 t175, .int .i64 0, .int .i64 0]) ?_ 2 _ rfl; (with_reducible repeat (first | refine blk_drewN ?_ _ | refine blk_drew ?_ | refine blk_alloc ?_ _)); refine blk_put (cs := #[.int .u32 t174, .int .u32 0, .int .i64 0, .int .i64 0]) ?_ 1 _ rfl; (with_reducible repeat (first | refine blk_drewN ?_ _ | refine blk_drew ?_ | refine blk_alloc ?_ _)); refine blk_put (cs := #[.int .u32 0, .int .u32 0, .int .i64 0, .int .i64 0]) ?_ 0 _ rfl; (with_reducible repeat (first | refine blk_drewN ?_ _ | refine blk_drew ?_ | refine blk_alloc ?_ _)); exact BK179.out⟩
      have n2_ : Aside0 (Below w.heap.size w ((((w9.setCell ⟨gb179, 0, none⟩ (.int .u32 t174)).setCell ⟨gb179, 1, none⟩ (.int .u32 t175)).setCell ⟨gb179, 2, none⟩ (.int .i64 t176)).setCell ⟨gb179, 3, none⟩ (.int .i64 t177))) := ⟨by repeat (first | (with_reducible first | exact HB.out | apply below_alloc | apply pw_below_drewN | apply below_drew1 | refine below_set ?_ GE173.out | refine below_set ?_ GE179.out) | exact HB.out)⟩
      (try clear BK173)
      (try clear BK179)
      (try clear HB)
      generalize ((((w9.setCell ⟨gb179, 0, none⟩ (.int .u32 t174)).setCell ⟨gb179, 1, none⟩ (.int .u32 t175)).setCell ⟨gb179, 2, none⟩ (.int .i64 t176)).setCell ⟨gb179, 3, none⟩ (.int .i64 t177)) = w12 at n0_ n1_ n2_ ⊢
      have BK173 := n0_
      have BK179 := n1_
      have HB := n2_
      clear n0_ n1_ n2_
      have n0_ := Aside0.mk (blk_drew BK173.out)
      have n1_ := Aside0.mk (blk_drew BK179.out)
      have n2_ := Aside0.mk (below_drew1 HB.out)
      clear BK173
      clear BK179
      clear HB
      have BK173 := n0_
      have BK179 := n1_
      have HB := n2_
      clear n0_ n1_ n2_
      refine start_ (n := 11) (S := fun w' => w'.cell? ⟨gb179, 0, none⟩ = some (.int .u32 t174) ∧ w'.cell? ⟨gb179, 1, none⟩ = some (.int .u32 t175) ∧ w'.cell? ⟨gb179, 2, none⟩ = some (.int .i64 t176) ∧ w'.cell? ⟨gb179, 3, none⟩ = some (.int .i64 t177)) (ds := []) #[false, false, false, false, false, false, false, false, false, false, false] (by kernel_rfl) rfl rfl ⟨(blk_cell BK179.out 0).trans rfl, (blk_cell BK179.out 1).trans rfl, (blk_cell BK179.out 2).trans rfl, (blk_cell BK179.out 3).trans rfl⟩ (fun hHeld => ?_); refine with_tabW impl_AskOf.tab4 impl_AskOf.bits4 (fun HT_ HW_ => ?_)
      generalize w12.drew = w13 at BK173 BK179 HB hHeld ⊢
      refine pure_ (i := 0) (N := some 14) (v := ?_) (a' := ?_) #[true, false, false, false, false, false, false, false, false, false, false] rfl rfl (any_of HT_.out (by kernel_rfl)) (fun _ _ _ h => h) (Or.inl ⟨by rfl, ?_⟩) ?_ ?_
      rotate_left
      · intro w'
        go_simp
        with_reducible rfl
      rotate_left
      · simp only [Act.put, List.setIfInBounds_toArray, List.set_cons_zero, List.set_cons_succ, i64_w, i32_w]
        rfl
      refine pure_ (i := 3) (N := some 17) (v := ?_) (a' := ?_) #[true, false, false, true, false, false, false, false, false, false, false] rfl rfl (any_of HT_.out (by kernel_rfl)) (fun _ _ _ h => h) (Or.inl ⟨by rfl, ?_⟩) ?_ ?_
      rotate_left
      · intro w'
        go_simp
        with_reducible rfl
      rotate_left
      · simp only [Act.put, List.setIfInBounds_toArray, List.set_cons_zero, List.set_cons_succ, i64_w, i32_w]
        rfl
      refine pure_ (i := 5) (N := some 19) (v := ?_) (a' := ?_) #[true, false, false, true, false, true, false, false, false, false, false] rfl rfl (any_of HT_.out (by kernel_rfl)) (fun _ _ _ h => h) (Or.inl ⟨by rfl, ?_⟩) ?_ ?_
      rotate_left
      · intro w'
        go_simp
        with_reducible rfl
      rotate_left
      · simp only [Act.put, List.setIfInBounds_toArray, List.set_cons_zero, List.set_cons_succ, i64_w, i32_w]
        rfl
      refine pure_ (i := 7) (N := some 21) (v := ?_) (a' := ?_) #[true, false, false, true, false, true, false, true, false, false, false] rfl rfl (any_of HT_.out (by kernel_rfl)) (fun _ _ _ h => h) (Or.inl ⟨by rfl, ?_⟩) ?_ ?_
      rotate_left
      · intro w'
        go_simp
        with_reducible rfl
      rotate_left
      · simp only [Act.put, List.setIfInBounds_toArray, List.set_cons_zero, List.set_cons_succ, i64_w, i32_w]
        rfl
      refine take_ (i := 1) (N := some 15) (v := ?_) (a' := ?_) #[true, true, false, true, false, true, false, true, false, false, false] rfl rfl (take_ofW HT_.out HW_.out (by kernel_rfl)) (fun _ _ _ h => h) (Or.inl ⟨by rfl, ?_⟩) hHeld ?_ ?_
      rotate_left
      · rintro w' ⟨s0, s1, s2, s3⟩
        go_simp
        with_reducible rfl
      rotate_left
      · simp only [Act.put, List.setIfInBounds_toArray, List.set_cons_zero, List.set_cons_succ, i64_w, i32_w]
        rfl
      refine take_ (i := 4) (N := some 18) (v := ?_) (a' := ?_) #[true, true, false, true, true, true, false, true, false, false, false] rfl rfl (take_ofW HT_.out HW_.out (by kernel_rfl)) (fun _ _ _ h => h) (Or.inl ⟨by rfl, ?_⟩) hHeld ?_ ?_
      rotate_left
      · rintro w' ⟨s0, s1, s2, s3⟩
        go_simp
        with_reducible rfl
      rotate_left
      · simp only [Act.put, List.setIfInBounds_toArray, List.set_cons_zero, List.set_cons_succ, i64_w, i32_w]
        rfl
      refine take_ (i := 6) (N := some 20) (v := ?_) (a' := ?_) #[true, true, false, true, true, true, true, true, false, false, false] rfl rfl (take_ofW HT_.out HW_.out (by kernel_rfl)) (fun _ _ _ h => h) (Or.inl ⟨by rfl, ?_⟩) hHeld ?_ ?_
      rotate_left
      · rintro w' ⟨s0, s1, s2, s3⟩
        go_simp
        with_reducible rfl
      rotate_left
      · simp only [Act.put, List.setIfInBounds_toArray, List.set_cons_zero, List.set_cons_succ, i64_w, i32_w]
        rfl
      refine take_ (i := 8) (N := some 22) (v := ?_) (a' := ?_) #[true, true, false, true, true, true, true, true, true, false, false] rfl rfl (take_ofW HT_.out HW_.out (by kernel_rfl)) (fun _ _ _ h => h) (Or.inl ⟨by rfl, ?_⟩) hHeld ?_ ?_
      rotate_left
      · rintro w' ⟨s0, s1, s2, s3⟩
        go_simp
        with_reducible rfl
      rotate_left
      · simp only [Act.put, List.setIfInBounds_toArray, List.set_cons_zero, List.set_cons_succ, i64_w, i32_w]
        rfl
      refine one_ (i := 2) (N := some 16) #[true, true, true, true, true, true, true, true, true, false, false] rfl rfl (one_of HT_.out (by kernel_rfl)) (by decide) (fun K hK => ?_)
      refine goes_ Tryd.func10 (by kernel_rfl) rfl #[.int .u32 t174] (by rfl) rfl rfl (by (try simp only [List.map_toArray, List.map_cons, List.map_nil]); first | done | rfl | (simp only [List.length_drop, List.length_take]; rfl)) ?_
      with_reducible refine (opentype_Tag_String.calls t174 t181 _ A3.out).mono ?_
      rintro e w14 ⟨rfl, hb⟩
      refine ⟨_, rfl, ?_⟩
      have n0_ := Aside0.mk (blk_below (g := gb173) (o := .cells #[.string (⟨#[]⟩ : ByteArray), .int .u32 0, .int .i64 0, .int .i64 0] 28 (0, 0)) (by (with_reducible repeat (first | refine blk_drewN ?_ _ | refine blk_drew ?_ | refine blk_alloc ?_ _)); exact BK173.out) hb)
      have n1_ := Aside0.mk (blk_below (g := gb179) (o := .cells #[.int .u32 t174, .int .u32 t175, .int .i64 t176, .int .i64 t177] 36 (0, 0)) (by (with_reducible repeat (first | refine blk_drewN ?_ _ | refine blk_drew ?_ | refine blk_alloc ?_ _)); exact BK179.out) hb)
      have n2_ := Aside0.mk (below_step (by repeat (first | (with_reducible first | exact HB.out | apply below_alloc | apply pw_below_drewN | apply below_drew1 | refine below_set ?_ GE173.out | refine below_set ?_ GE179.out) | exact HB.out)) hb)
      clear BK173
      clear BK179
      clear HB
      have BK173 := n0_
      have BK179 := n1_
      have HB := n2_
      clear n0_ n1_ n2_
      (try clear hb)
      (try clear hb2)
      (try clear hk)
      (try clear hi)
      refine hK.out _ _ ⟨(blk_cell BK179.out 0).trans rfl, (blk_cell BK179.out 1).trans rfl, (blk_cell BK179.out 2).trans rfl, (blk_cell BK179.out 3).trans rfl⟩ (fun hHeld => ?_)
      clear hK K
      refine norm_ (a' := ?_) ?_ ?_
      rotate_left
      · show Act.put _ (some 16) _ = _
        simp only [Act.put, List.setIfInBounds_toArray, List.set_cons_zero, List.set_cons_succ, i64_w, i32_w]
        rfl
      refine pure_ (i := 9) (N := some 23) (v := ?_) (a' := ?_) #[true, true, true, true, true, true, true, true, true, true, false] rfl rfl (any_of HT_.out (by kernel_rfl)) (fun _ _ _ h => h) (Or.inl ⟨by rfl, ?_⟩) ?_ ?_
      rotate_left
      · intro w'
        go_simp
        with_reducible rfl
      rotate_left
      · simp only [Act.put, List.setIfInBounds_toArray, List.set_cons_zero, List.set_cons_succ, i64_w, i32_w]
        rfl
      refine one_ (i := 10) (N := none) #[true, true, true, true, true, true, true, true, true, true, true] rfl rfl (one_of HT_.out (by kernel_rfl)) (by decide) (fun K hK => ?_)
      have hs15 : w14.cell? ⟨gb173, 0, none⟩ = some (.string (⟨#[]⟩ : ByteArray)) := (blk_cell BK173.out 0).trans rfl
      have hfs15 := blk_frozen BK173.out 0
      have hns15_1 := NB179_173.out
      have hms15_1 := NB173_179.out
      have hs16 : w14.cell? ⟨gb173, 1, none⟩ = some (.int .u32 0) := (blk_cell BK173.out 1).trans rfl
      have hfs16 := blk_frozen BK173.out 1
      have hns16_1 := NB179_173.out
      have hms16_1 := NB173_179.out
      have hs17 : w14.cell? ⟨gb173, 2, none⟩ = some (.int .i64 0) := (blk_cell BK173.out 2).trans rfl
      have hfs17 := blk_frozen BK173.out 2
      have hns17_1 := NB179_173.out
      have hms17_1 := NB173_179.out
      have hs18 : w14.cell? ⟨gb173, 3, none⟩ = some (.int .i64 0) := (blk_cell BK173.out 3).trans rfl
      have hfs18 := blk_frozen BK173.out 3
      have hns18_1 := NB179_173.out
      have hms18_1 := NB173_179.out
      refine skip_ (w1 := ?_) (by rfl) rfl ?_ ?_
      rotate_left
      · go_simp
        rfl
      refine hK.out _ _ ⟨((cell_far (p := ⟨gb173, _, none⟩) NB179_173.out _).trans (((cell_far (p := ⟨gb173, _, none⟩) NB179_173.out _).trans (((cell_far (p := ⟨gb173, _, none⟩) NB179_173.out _).trans (((cell_far (p := ⟨gb173, _, none⟩) NB179_173.out _).trans (hHeld.1)))))))), ((cell_far (p := ⟨gb173, _, none⟩) NB179_173.out _).trans (((cell_far (p := ⟨gb173, _, none⟩) NB179_173.out _).trans (((cell_far (p := ⟨gb173, _, none⟩) NB179_173.out _).trans (((cell_far (p := ⟨gb173, _, none⟩) NB179_173.out _).trans (hHeld.2.1)))))))), ((cell_far (p := ⟨gb173, _, none⟩) NB179_173.out _).trans (((cell_far (p := ⟨gb173, _, none⟩) NB179_173.out _).trans (((cell_far (p := ⟨gb173, _, none⟩) NB179_173.out _).trans (((cell_far (p := ⟨gb173, _, none⟩) NB179_173.out _).trans (hHeld.2.2.1)))))))), ((cell_far (p := ⟨gb173, _, none⟩) NB179_173.out _).trans (((cell_far (p := ⟨gb173, _, none⟩) NB179_173.out _).trans (((cell_far (p := ⟨gb173, _, none⟩) NB179_173.out _).trans (((cell_far (p := ⟨gb173, _, none⟩) NB179_173.out _).trans (hHeld.2.2.2))))))))⟩ (fun hHeld => ?_)
      clear hK K
      refine done_ (done_of HT_.out (by kernel_rfl)) ?_
      have n0_ : Aside0 (((((w14.setCell ⟨gb173, 0, none⟩ (.string t181)).setCell ⟨gb173, 1, none⟩ (.int .u32 t175)).setCell ⟨gb173, 2, none⟩ (.int .i64 t176)).setCell ⟨gb173, 3, none⟩ (.int .i64 t177)).heap[gb173]? = some (.cells #[.string t181, .int .u32 t175, .int .i64 t176, .int .i64 t177] 28 (0, 0))) := ⟨by refine blk_put (cs := #[.string t181, .int .u32 t175, .int .i64 t176, .int .i64 0]) ?_ 3 _ rfl; refine blk_put (cs := #[.string t181, .int .u32 t175, .int .i64 0, .int .i64 0]) ?_ 2 _ rfl; refine blk_put (cs := #[.string t181, .int .u32 0, .int .i64 0, .int .i64 0]) ?_ 1 _ rfl; refine blk_put (cs := #[.string (⟨#[]⟩ : ByteArray), .int .u32 0, .int .i64 0, .int .i64 0]) ?_ 0 _ rfl; exact BK173.out⟩
      have n1_ : Aside0 (((((w14.setCell ⟨gb173, 0, none⟩ (.string t181)).setCell ⟨gb173, 1, none⟩ (.int .u32 t175)).setCell ⟨gb173, 2, none⟩ (.int .i64 t176)).setCell ⟨gb173, 3, none⟩ (.int .i64 t177)).heap[gb179]? = some (.cells #[.int .u32 t174, .int .u32 t175, .int .i64 t176, .int .i64 t177] 36 (0, 0))) := ⟨by refine blk_far ?_ NB179_173.out _; refine blk_far ?_ NB179_173.out _; refine blk_far ?_ NB179_173.out _; refine blk_far ?_ NB179_173.out _; exact BK179.out⟩
      have n2_ : Aside0 (Below w.heap.size w ((((w14.setCell ⟨gb173, 0, none⟩ (.string t181)).setCell ⟨gb173, 1, none⟩ (.int .u32 t175)).setCell ⟨gb173, 2, none⟩ (.int .i64 t176)).setCell ⟨gb173, 3, none⟩ (.int .i64 t177))) := ⟨below_set (below_set (below_set (below_set HB.out GE173.out) GE173.out) GE173.out) GE173.out⟩
      clear hHeld
      (try clear hs15)
      (try clear hfs15)
      (try clear hns15_1)
      (try clear hms15_1)
      (try clear hs16)
      (try clear hfs16)
      (try clear hns16_1)
      (try clear hms16_1)
      (try clear hs17)
      (try clear hfs17)
      (try clear hns17_1)
      (try clear hms17_1)
      (try clear hs18)
      (try clear hfs18)
      (try clear hns18_1)
      (try clear hms18_1)
      clear BK173
      clear BK179
      clear HB
      generalize hWM_ : ((((w14.setCell ⟨gb173, 0, none⟩ (.string t181)).setCell ⟨gb173, 1, none⟩ (.int .u32 t175)).setCell ⟨gb173, 2, none⟩ (.int .i64 t176)).setCell ⟨gb173, 3, none⟩ (.int .i64 t177)) = wm at n0_ n1_ n2_ ⊢
      clear hWM_
      have BK173 := n0_
      have BK179 := n1_
      have HB := n2_
      clear n0_ n1_ n2_
      have hcw173_0 : wm.cell? ⟨gb173, 0, none⟩ = some (.string t181) := (blk_cell BK173.out 0).trans rfl
      have hfw173_0 := blk_frozen BK173.out 0
      have hcw173_1 : wm.cell? ⟨gb173, 1, none⟩ = some (.int .u32 t175) := (blk_cell BK173.out 1).trans rfl
      have hfw173_1 := blk_frozen BK173.out 1
      have hcw173_2 : wm.cell? ⟨gb173, 2, none⟩ = some (.int .i64 t176) := (blk_cell BK173.out 2).trans rfl
      have hfw173_2 := blk_frozen BK173.out 2
      have hcw173_3 : wm.cell? ⟨gb173, 3, none⟩ = some (.int .i64 t177) := (blk_cell BK173.out 3).trans rfl
      have hfw173_3 := blk_frozen BK173.out 3
      have hcw179_0 : wm.cell? ⟨gb179, 0, none⟩ = some (.int .u32 t174) := (blk_cell BK179.out 0).trans rfl
      have hfw179_0 := blk_frozen BK179.out 0
      have hcw179_1 : wm.cell? ⟨gb179, 1, none⟩ = some (.int .u32 t175) := (blk_cell BK179.out 1).trans rfl
      have hfw179_1 := blk_frozen BK179.out 1
      have hcw179_2 : wm.cell? ⟨gb179, 2, none⟩ = some (.int .i64 t176) := (blk_cell BK179.out 2).trans rfl
      have hfw179_2 := blk_frozen BK179.out 2
      have hcw179_3 : wm.cell? ⟨gb179, 3, none⟩ = some (.int .i64 t177) := (blk_cell BK179.out 3).trans rfl
      have hfw179_3 := blk_frozen BK179.out 3
      go_wp2
      refine bodyPost_ret (results_ct rfl _ _ gb173 28 #[.string t181, .int .u32 t175, .int .i64 t176, .int .i64 (-1)] (0, 0) _ rfl (by refine blk_put (cs := #[.string t181, .int .u32 t175, .int .i64 t176, .int .i64 (-1)]) ?_ 3 _ rfl; refine blk_put (cs := #[.string t181, .int .u32 t175, .int .i64 t176, .int .i64 (-1)]) ?_ 2 _ rfl; refine blk_put (cs := #[.string t181, .int .u32 t175, .int .i64 t176, .int .i64 (-1)]) ?_ 1 _ rfl; refine blk_put (cs := #[.string t181, .int .u32 t175, .int .i64 t176, .int .i64 (-1)]) ?_ 0 _ rfl; refine blk_put (cs := #[.string t181, .int .u32 t175, .int .i64 t176, .int .i64 t177]) ?_ 3 _ rfl; exact BK173.out) Tryd.underlying28 rfl (by kernel_rfl)) rfl ?_
      exact ⟨rfl, below_set (below_set (below_set (below_set (below_set HB.out GE173.out) GE173.out) GE173.out) GE173.out) GE173.out⟩
    · rw [if_neg c4] at H
      have c4b0 : (t177 == 9223372036854775807) = false := beq_eq_false_iff_ne.mpr c4
      have c4b1 : (t177 != 9223372036854775807) = true := bne_iff_ne.mpr c4
      simp only [Option.some.injEq, Prod.mk.injEq] at H
      obtain ⟨rfl, rfl, rfl, rfl, rfl⟩ := H
      go_enter Tryd.func7, Tryd.ntmps7
      try go_wp2_with (first | ((with_reducible refine gate_dst (N := 2) rfl ?_); refine box_event ?hg (N := 2) ?hd (cs := #[.string (⟨#[]⟩ : ByteArray), .int .u32 0, .int .i64 0, .int .i64 0]) (t := 28) ?hr ?_; (case hd => rfl); (case hg => rfl); (case hr => first | (go_simp; done) | (go_simp; rfl)); intro gb173 hg w21 hbox hb; have n0_ := Aside0.mk (below_step (by repeat (first | (with_reducible first | exact HB.out | apply below_alloc | apply pw_below_drewN | apply below_drew1) | exact HB.out)) hb); have n1_ := Aside0.mk (hbox); have n2_ := Aside0.mk ((by rw [hg]; exact (below_size (by repeat (first | (with_reducible first | exact HB.out | apply below_alloc | apply pw_below_drewN | apply below_drew1) | exact HB.out))) : w.heap.size ≤ gb173)); have n3_ := Aside0.mk ((by rw [hg]; exact (below_size (by repeat (first | (with_reducible first | exact HB.out | apply below_alloc | apply pw_below_drewN | apply below_drew1) | exact HB.out))) : w.heap.size ≤ gb173)); clear HB; have HB := n0_; have BK173 := n1_; have GW173 := n2_; have GE173 := n3_; clear n0_ n1_ n2_ n3_; clear hb hbox hg) | ((with_reducible refine gate_callee (f := 9) rfl ?_); refine goesL_ (some 8) rfl rfl Tryd.func9 (by kernel_rfl) rfl #[.string a0] rfl (by (try simp only [List.map_toArray, List.map_cons, List.map_nil]); first | done | rfl | (simp only [List.length_drop, List.length_take]; rfl)) ?_; (with_reducible refine (harfbuzz_ParseFeature.calls k a0 t174 t175 t176 t177 none _ A2.out (tab_below GG (by repeat (first | (with_reducible first | exact HB.out | apply below_alloc | apply pw_below_drewN | apply below_drew1 | refine below_set ?_ GE173.out | refine below_set ?_ GE179.out | refine below_set ?_ GE194.out | refine below_set ?_ GE200.out) | exact HB.out)))).mono ?_); rintro e w24 ⟨ev22, rfl, he23, hb⟩; refine ⟨_, rfl, ?_⟩; have n0_ := Aside0.mk (blk_below (g := gb173) (o := .cells #[.string (⟨#[]⟩ : ByteArray), .int .u32 0, .int .i64 0, .int .i64 0] 28 (0, 0)) (by (with_reducible repeat (first | refine blk_drewN ?_ _ | refine blk_drew ?_ | refine blk_alloc ?_ _)); exact BK173.out) hb); have n1_ := Aside0.mk (below_step (by repeat (first | (with_reducible first | exact HB.out | apply below_alloc | apply pw_below_drewN | apply below_drew1 | refine below_set ?_ GE173.out) | exact HB.out)) hb); clear BK173; clear HB; have BK173 := n0_; have HB := n1_; clear n0_ n1_; (try clear hb); (try clear hb2); (try clear hk); (try clear hi); (first | (obtain rfl := EV_none he23) | (obtain ⟨te_, pe_, rfl⟩ := EV_some he23) | skip)) | ((with_reducible refine gate_dst (N := 4) rfl ?_); refine box_event ?hg (N := 4) ?hd (cs := #[.int .u32 0, .int .u32 0, .int .i64 0, .int .i64 0]) (t := 36) ?hr ?_; (case hd => rfl); (case hg => rfl); (case hr => first | (go_simp; done) | (go_simp; rfl)); intro gb179 hg w25 hbox hb; have n0_ := Aside0.mk (blk_below (g := gb173) (o := .cells #[.string (⟨#[]⟩ : ByteArray), .int .u32 0, .int .i64 0, .int .i64 0] 28 (0, 0)) (by (with_reducible repeat (first | refine blk_drewN ?_ _ | refine blk_drew ?_ | refine blk_alloc ?_ _)); exact BK173.out) hb); have n1_ := Aside0.mk (below_step (by repeat (first | (with_reducible first | exact HB.out | apply below_alloc | apply pw_below_drewN | apply below_drew1 | refine below_set ?_ GE173.out) | exact HB.out)) hb); have n2_ := Aside0.mk (hbox); have n3_ := Aside0.mk ((by rw [hg]; exact (below_size (by repeat (first | (with_reducible first | exact HB.out | apply below_alloc | apply pw_below_drewN | apply below_drew1 | refine below_set ?_ GE173.out) | exact HB.out))) : w.heap.size ≤ gb179)); have n4_ := Aside0.mk ((by rw [hg]; exact (below_size (by repeat (first | (with_reducible first | exact HB.out | apply below_alloc | apply pw_below_drewN | apply below_drew1 | refine below_set ?_ GE173.out) | exact HB.out))) : w.heap.size ≤ gb179)); have n5_ := Aside0.mk ((by rw [hg]; exact Nat.ne_of_lt (blk_lt (g := gb173) (o := .cells #[.string (⟨#[]⟩ : ByteArray), .int .u32 0, .int .i64 0, .int .i64 0] 28 (0, 0)) (by (with_reducible repeat (first | refine blk_drewN ?_ _ | refine blk_drew ?_ | refine blk_alloc ?_ _)); exact BK173.out)) : gb173 ≠ gb179)); have n6_ := Aside0.mk ((by rw [hg]; exact Nat.ne_of_gt (blk_lt (g := gb173) (o := .cells #[.string (⟨#[]⟩ : ByteArray), .int .u32 0, .int .i64 0, .int .i64 0] 28 (0, 0)) (by (with_reducible repeat (first | refine blk_drewN ?_ _ | refine blk_drew ?_ | refine blk_alloc ?_ _)); exact BK173.out)) : gb179 ≠ gb173)); clear BK173; clear HB; have BK173 := n0_; have HB := n1_; have BK179 := n2_; have GW179 := n3_; have GE179 := n4_; have NB173_179 := n5_; have NB179_173 := n6_; clear n0_ n1_ n2_ n3_ n4_ n5_ n6_; clear hb hbox hg; have hnb26 := NB179_173.out; have hnc26 := NB173_179.out; have hcz27_0 : w25.cell? ⟨gb179, 0, none⟩ = some (.int .u32 0) := (blk_cell BK179.out 0).trans rfl; have hcz27_1 : w25.cell? ⟨gb179, 1, none⟩ = some (.int .u32 0) := (blk_cell BK179.out 1).trans rfl; have hcz27_2 : w25.cell? ⟨gb179, 2, none⟩ = some (.int .i64 0) := (blk_cell BK179.out 2).trans rfl; have hcz27_3 : w25.cell? ⟨gb179, 3, none⟩ = some (.int .i64 0) := (blk_cell BK179.out 3).trans rfl; have hfz27_0 := blk_frozen BK179.out 0; have hfz27_1 := blk_frozen BK179.out 1; have hfz27_2 := blk_frozen BK179.out 2; have hfz27_3 := blk_frozen BK179.out 3))
      have n0_ : Aside0 (((((w25.setCell ⟨gb179, 0, none⟩ (.int .u32 t174)).setCell ⟨gb179, 1, none⟩ (.int .u32 t175)).setCell ⟨gb179, 2, none⟩ (.int .i64 t176)).setCell ⟨gb179, 3, none⟩ (.int .i64 t177)).heap[gb173]? = some (.cells #[.string (⟨#[]⟩ : ByteArray), .int .u32 0, .int .i64 0, .int .i64 0] 28 (0, 0))) := ⟨by (with_reducible repeat (first | refine blk_drewN ?_ _ | refine blk_drew ?_ | refine blk_alloc ?_ _)); refine blk_far ?_ NB173_179.out _; (with_reducible repeat (first | refine blk_drewN ?_ _ | refine blk_drew ?_ | refine blk_alloc ?_ _)); refine blk_far ?_ NB173_179.out _; (with_reducible repeat (first | refine blk_drewN ?_ _ | refine blk_drew ?_ | refine blk_alloc ?_ _)); refine blk_far ?_ NB173_179.out _; (with_reducible repeat (first | refine blk_drewN ?_ _ | refine blk_drew ?_ | refine blk_alloc ?_ _)); refine blk_far ?_ NB173_179.out _; (with_reducible repeat (first | refine blk_drewN ?_ _ | refine blk_drew ?_ | refine blk_alloc ?_ _)); exact BK173.out⟩
      have n1_ : Aside0 (((((w25.setCell ⟨gb179, 0, none⟩ (.int .u32 t174)).setCell ⟨gb179, 1, none⟩ (.int .u32 t175)).setCell ⟨gb179, 2, none⟩ (.int .i64 t176)).setCell ⟨gb179, 3, none⟩ (.int .i64 t177)).heap[gb179]? = some (.cells #[.int .u32 t174, .int .u32 t175, .int .i64 t176, .int .i64 t177] 36 (0, 0))) := ⟨by (with_reducible repeat (first | refine blk_drewN ?_ _ | refine blk_drew ?_ | refine blk_alloc ?_ _)); refine blk_put (cs := #[.int .u32 t174, .int .u32 t175, .int .i64 t176, .int .i64 0]) ?_ 3 _ rfl; (with_reducible repeat (first | refine blk_drewN ?_ _ | refine blk_drew ?_ | refine blk_alloc ?_ _)); refine blk_put (cs := #[.int .u32 t174, .int .u32 t175, .int .i64 0, .int .i64 0]) ?_ 2 _ rfl; (with_reducible repeat (first | refine blk_drewN ?_ _ | refine blk_drew ?_ | refine blk_alloc ?_ _)); refine blk_put (cs := #[.int .u32 t174, .int .u32 0, .int .i64 0, .int .i64 0]) ?_ 1 _ rfl; (with_reducible repeat (first | refine blk_drewN ?_ _ | refine blk_drew ?_ | refine blk_alloc ?_ _)); refine blk_put (cs := #[.int .u32 0, .int .u32 0, .int .i64 0, .int .i64 0]) ?_ 0 _ rfl; (with_reducible repeat (first | refine blk_drewN ?_ _ | refine blk_drew ?_ | refine blk_alloc ?_ _)); exact BK179.out⟩
      have n2_ : Aside0 (Below w.heap.size w ((((w25.setCell ⟨gb179, 0, none⟩ (.int .u32 t174)).setCell ⟨gb179, 1, none⟩ (.int .u32 t175)).setCell ⟨gb179, 2, none⟩ (.int .i64 t176)).setCell ⟨gb179, 3, none⟩ (.int .i64 t177))) := ⟨by repeat (first | (with_reducible first | exact HB.out | apply below_alloc | apply pw_below_drewN | apply below_drew1 | refine below_set ?_ GE173.out | refine below_set ?_ GE179.out) | exact HB.out)⟩
      (try clear BK173)
      (try clear BK179)
      (try clear HB)
      generalize ((((w25.setCell ⟨gb179, 0, none⟩ (.int .u32 t174)).setCell ⟨gb179, 1, none⟩ (.int .u32 t175)).setCell ⟨gb179, 2, none⟩ (.int .i64 t176)).setCell ⟨gb179, 3, none⟩ (.int .i64 t177)) = w28 at n0_ n1_ n2_ ⊢
      have BK173 := n0_
      have BK179 := n1_
      have HB := n2_
      clear n0_ n1_ n2_
      have n0_ := Aside0.mk (blk_drew BK173.out)
      have n1_ := Aside0.mk (blk_drew BK179.out)
      have n2_ := Aside0.mk (below_drew1 HB.out)
      clear BK173
      clear BK179
      clear HB
      have BK173 := n0_
      have BK179 := n1_
      have HB := n2_
      clear n0_ n1_ n2_
      refine start_ (n := 11) (S := fun w' => w'.cell? ⟨gb179, 0, none⟩ = some (.int .u32 t174) ∧ w'.cell? ⟨gb179, 1, none⟩ = some (.int .u32 t175) ∧ w'.cell? ⟨gb179, 2, none⟩ = some (.int .i64 t176) ∧ w'.cell? ⟨gb179, 3, none⟩ = some (.int .i64 t177)) (ds := []) #[false, false, false, false, false, false, false, false, false, false, false] (by kernel_rfl) rfl rfl ⟨(blk_cell BK179.out 0).trans rfl, (blk_cell BK179.out 1).trans rfl, (blk_cell BK179.out 2).trans rfl, (blk_cell BK179.out 3).trans rfl⟩ (fun hHeld => ?_); refine with_tabW impl_AskOf.tab4 impl_AskOf.bits4 (fun HT_ HW_ => ?_)
      generalize w28.drew = w29 at BK173 BK179 HB hHeld ⊢
      refine pure_ (i := 0) (N := some 14) (v := ?_) (a' := ?_) #[true, false, false, false, false, false, false, false, false, false, false] rfl rfl (any_of HT_.out (by kernel_rfl)) (fun _ _ _ h => h) (Or.inl ⟨by rfl, ?_⟩) ?_ ?_
      rotate_left
      · intro w'
        go_simp
        with_reducible rfl
      rotate_left
      · simp only [Act.put, List.setIfInBounds_toArray, List.set_cons_zero, List.set_cons_succ, i64_w, i32_w]
        rfl
      refine pure_ (i := 3) (N := some 17) (v := ?_) (a' := ?_) #[true, false, false, true, false, false, false, false, false, false, false] rfl rfl (any_of HT_.out (by kernel_rfl)) (fun _ _ _ h => h) (Or.inl ⟨by rfl, ?_⟩) ?_ ?_
      rotate_left
      · intro w'
        go_simp
        with_reducible rfl
      rotate_left
      · simp only [Act.put, List.setIfInBounds_toArray, List.set_cons_zero, List.set_cons_succ, i64_w, i32_w]
        rfl
      refine pure_ (i := 5) (N := some 19) (v := ?_) (a' := ?_) #[true, false, false, true, false, true, false, false, false, false, false] rfl rfl (any_of HT_.out (by kernel_rfl)) (fun _ _ _ h => h) (Or.inl ⟨by rfl, ?_⟩) ?_ ?_
      rotate_left
      · intro w'
        go_simp
        with_reducible rfl
      rotate_left
      · simp only [Act.put, List.setIfInBounds_toArray, List.set_cons_zero, List.set_cons_succ, i64_w, i32_w]
        rfl
      refine pure_ (i := 7) (N := some 21) (v := ?_) (a' := ?_) #[true, false, false, true, false, true, false, true, false, false, false] rfl rfl (any_of HT_.out (by kernel_rfl)) (fun _ _ _ h => h) (Or.inl ⟨by rfl, ?_⟩) ?_ ?_
      rotate_left
      · intro w'
        go_simp
        with_reducible rfl
      rotate_left
      · simp only [Act.put, List.setIfInBounds_toArray, List.set_cons_zero, List.set_cons_succ, i64_w, i32_w]
        rfl
      refine take_ (i := 1) (N := some 15) (v := ?_) (a' := ?_) #[true, true, false, true, false, true, false, true, false, false, false] rfl rfl (take_ofW HT_.out HW_.out (by kernel_rfl)) (fun _ _ _ h => h) (Or.inl ⟨by rfl, ?_⟩) hHeld ?_ ?_
      rotate_left
      · rintro w' ⟨s0, s1, s2, s3⟩
        go_simp
        with_reducible rfl
      rotate_left
      · simp only [Act.put, List.setIfInBounds_toArray, List.set_cons_zero, List.set_cons_succ, i64_w, i32_w]
        rfl
      refine take_ (i := 4) (N := some 18) (v := ?_) (a' := ?_) #[true, true, false, true, true, true, false, true, false, false, false] rfl rfl (take_ofW HT_.out HW_.out (by kernel_rfl)) (fun _ _ _ h => h) (Or.inl ⟨by rfl, ?_⟩) hHeld ?_ ?_
      rotate_left
      · rintro w' ⟨s0, s1, s2, s3⟩
        go_simp
        with_reducible rfl
      rotate_left
      · simp only [Act.put, List.setIfInBounds_toArray, List.set_cons_zero, List.set_cons_succ, i64_w, i32_w]
        rfl
      refine take_ (i := 6) (N := some 20) (v := ?_) (a' := ?_) #[true, true, false, true, true, true, true, true, false, false, false] rfl rfl (take_ofW HT_.out HW_.out (by kernel_rfl)) (fun _ _ _ h => h) (Or.inl ⟨by rfl, ?_⟩) hHeld ?_ ?_
      rotate_left
      · rintro w' ⟨s0, s1, s2, s3⟩
        go_simp
        with_reducible rfl
      rotate_left
      · simp only [Act.put, List.setIfInBounds_toArray, List.set_cons_zero, List.set_cons_succ, i64_w, i32_w]
        rfl
      refine take_ (i := 8) (N := some 22) (v := ?_) (a' := ?_) #[true, true, false, true, true, true, true, true, true, false, false] rfl rfl (take_ofW HT_.out HW_.out (by kernel_rfl)) (fun _ _ _ h => h) (Or.inl ⟨by rfl, ?_⟩) hHeld ?_ ?_
      rotate_left
      · rintro w' ⟨s0, s1, s2, s3⟩
        go_simp
        with_reducible rfl
      rotate_left
      · simp only [Act.put, List.setIfInBounds_toArray, List.set_cons_zero, List.set_cons_succ, i64_w, i32_w]
        rfl
      refine one_ (i := 2) (N := some 16) #[true, true, true, true, true, true, true, true, true, false, false] rfl rfl (one_of HT_.out (by kernel_rfl)) (by decide) (fun K hK => ?_)
      refine goes_ Tryd.func10 (by kernel_rfl) rfl #[.int .u32 t174] (by rfl) rfl rfl (by (try simp only [List.map_toArray, List.map_cons, List.map_nil]); first | done | rfl | (simp only [List.length_drop, List.length_take]; rfl)) ?_
      with_reducible refine (opentype_Tag_String.calls t174 t181 _ A3.out).mono ?_
      rintro e w30 ⟨rfl, hb⟩
      refine ⟨_, rfl, ?_⟩
      have n0_ := Aside0.mk (blk_below (g := gb173) (o := .cells #[.string (⟨#[]⟩ : ByteArray), .int .u32 0, .int .i64 0, .int .i64 0] 28 (0, 0)) (by (with_reducible repeat (first | refine blk_drewN ?_ _ | refine blk_drew ?_ | refine blk_alloc ?_ _)); exact BK173.out) hb)
      have n1_ := Aside0.mk (blk_below (g := gb179) (o := .cells #[.int .u32 t174, .int .u32 t175, .int .i64 t176, .int .i64 t177] 36 (0, 0)) (by (with_reducible repeat (first | refine blk_drewN ?_ _ | refine blk_drew ?_ | refine blk_alloc ?_ _)); exact BK179.out) hb)
      have n2_ := Aside0.mk (below_step (by repeat (first | (with_reducible first | exact HB.out | apply below_alloc | apply pw_below_drewN | apply below_drew1 | refine below_set ?_ GE173.out | refine below_set ?_ GE179.out) | exact HB.out)) hb)
      clear BK173
      clear BK179
      clear HB
      have BK173 := n0_
      have BK179 := n1_
      have HB := n2_
      clear n0_ n1_ n2_
      (try clear hb)
      (try clear hb2)
      (try clear hk)
      (try clear hi)
      refine hK.out _ _ ⟨(blk_cell BK179.out 0).trans rfl, (blk_cell BK179.out 1).trans rfl, (blk_cell BK179.out 2).trans rfl, (blk_cell BK179.out 3).trans rfl⟩ (fun hHeld => ?_)
      clear hK K
      refine norm_ (a' := ?_) ?_ ?_
      rotate_left
      · show Act.put _ (some 16) _ = _
        simp only [Act.put, List.setIfInBounds_toArray, List.set_cons_zero, List.set_cons_succ, i64_w, i32_w]
        rfl
      refine pure_ (i := 9) (N := some 23) (v := ?_) (a' := ?_) #[true, true, true, true, true, true, true, true, true, true, false] rfl rfl (any_of HT_.out (by kernel_rfl)) (fun _ _ _ h => h) (Or.inl ⟨by rfl, ?_⟩) ?_ ?_
      rotate_left
      · intro w'
        go_simp
        with_reducible rfl
      rotate_left
      · simp only [Act.put, List.setIfInBounds_toArray, List.set_cons_zero, List.set_cons_succ, i64_w, i32_w]
        rfl
      refine one_ (i := 10) (N := none) #[true, true, true, true, true, true, true, true, true, true, true] rfl rfl (one_of HT_.out (by kernel_rfl)) (by decide) (fun K hK => ?_)
      have hs31 : w30.cell? ⟨gb173, 0, none⟩ = some (.string (⟨#[]⟩ : ByteArray)) := (blk_cell BK173.out 0).trans rfl
      have hfs31 := blk_frozen BK173.out 0
      have hns31_1 := NB179_173.out
      have hms31_1 := NB173_179.out
      have hs32 : w30.cell? ⟨gb173, 1, none⟩ = some (.int .u32 0) := (blk_cell BK173.out 1).trans rfl
      have hfs32 := blk_frozen BK173.out 1
      have hns32_1 := NB179_173.out
      have hms32_1 := NB173_179.out
      have hs33 : w30.cell? ⟨gb173, 2, none⟩ = some (.int .i64 0) := (blk_cell BK173.out 2).trans rfl
      have hfs33 := blk_frozen BK173.out 2
      have hns33_1 := NB179_173.out
      have hms33_1 := NB173_179.out
      have hs34 : w30.cell? ⟨gb173, 3, none⟩ = some (.int .i64 0) := (blk_cell BK173.out 3).trans rfl
      have hfs34 := blk_frozen BK173.out 3
      have hns34_1 := NB179_173.out
      have hms34_1 := NB173_179.out
      refine skip_ (w1 := ?_) (by rfl) rfl ?_ ?_
      rotate_left
      · go_simp
        rfl
      refine hK.out _ _ ⟨((cell_far (p := ⟨gb173, _, none⟩) NB179_173.out _).trans (((cell_far (p := ⟨gb173, _, none⟩) NB179_173.out _).trans (((cell_far (p := ⟨gb173, _, none⟩) NB179_173.out _).trans (((cell_far (p := ⟨gb173, _, none⟩) NB179_173.out _).trans (hHeld.1)))))))), ((cell_far (p := ⟨gb173, _, none⟩) NB179_173.out _).trans (((cell_far (p := ⟨gb173, _, none⟩) NB179_173.out _).trans (((cell_far (p := ⟨gb173, _, none⟩) NB179_173.out _).trans (((cell_far (p := ⟨gb173, _, none⟩) NB179_173.out _).trans (hHeld.2.1)))))))), ((cell_far (p := ⟨gb173, _, none⟩) NB179_173.out _).trans (((cell_far (p := ⟨gb173, _, none⟩) NB179_173.out _).trans (((cell_far (p := ⟨gb173, _, none⟩) NB179_173.out _).trans (((cell_far (p := ⟨gb173, _, none⟩) NB179_173.out _).trans (hHeld.2.2.1)))))))), ((cell_far (p := ⟨gb173, _, none⟩) NB179_173.out _).trans (((cell_far (p := ⟨gb173, _, none⟩) NB179_173.out _).trans (((cell_far (p := ⟨gb173, _, none⟩) NB179_173.out _).trans (((cell_far (p := ⟨gb173, _, none⟩) NB179_173.out _).trans (hHeld.2.2.2))))))))⟩ (fun hHeld => ?_)
      clear hK K
      refine done_ (done_of HT_.out (by kernel_rfl)) ?_
      have n0_ : Aside0 (((((w30.setCell ⟨gb173, 0, none⟩ (.string t181)).setCell ⟨gb173, 1, none⟩ (.int .u32 t175)).setCell ⟨gb173, 2, none⟩ (.int .i64 t176)).setCell ⟨gb173, 3, none⟩ (.int .i64 t177)).heap[gb173]? = some (.cells #[.string t181, .int .u32 t175, .int .i64 t176, .int .i64 t177] 28 (0, 0))) := ⟨by refine blk_put (cs := #[.string t181, .int .u32 t175, .int .i64 t176, .int .i64 0]) ?_ 3 _ rfl; refine blk_put (cs := #[.string t181, .int .u32 t175, .int .i64 0, .int .i64 0]) ?_ 2 _ rfl; refine blk_put (cs := #[.string t181, .int .u32 0, .int .i64 0, .int .i64 0]) ?_ 1 _ rfl; refine blk_put (cs := #[.string (⟨#[]⟩ : ByteArray), .int .u32 0, .int .i64 0, .int .i64 0]) ?_ 0 _ rfl; exact BK173.out⟩
      have n1_ : Aside0 (((((w30.setCell ⟨gb173, 0, none⟩ (.string t181)).setCell ⟨gb173, 1, none⟩ (.int .u32 t175)).setCell ⟨gb173, 2, none⟩ (.int .i64 t176)).setCell ⟨gb173, 3, none⟩ (.int .i64 t177)).heap[gb179]? = some (.cells #[.int .u32 t174, .int .u32 t175, .int .i64 t176, .int .i64 t177] 36 (0, 0))) := ⟨by refine blk_far ?_ NB179_173.out _; refine blk_far ?_ NB179_173.out _; refine blk_far ?_ NB179_173.out _; refine blk_far ?_ NB179_173.out _; exact BK179.out⟩
      have n2_ : Aside0 (Below w.heap.size w ((((w30.setCell ⟨gb173, 0, none⟩ (.string t181)).setCell ⟨gb173, 1, none⟩ (.int .u32 t175)).setCell ⟨gb173, 2, none⟩ (.int .i64 t176)).setCell ⟨gb173, 3, none⟩ (.int .i64 t177))) := ⟨below_set (below_set (below_set (below_set HB.out GE173.out) GE173.out) GE173.out) GE173.out⟩
      clear hHeld
      (try clear hs31)
      (try clear hfs31)
      (try clear hns31_1)
      (try clear hms31_1)
      (try clear hs32)
      (try clear hfs32)
      (try clear hns32_1)
      (try clear hms32_1)
      (try clear hs33)
      (try clear hfs33)
      (try clear hns33_1)
      (try clear hms33_1)
      (try clear hs34)
      (try clear hfs34)
      (try clear hns34_1)
      (try clear hms34_1)
      clear BK173
      clear BK179
      clear HB
      generalize hWM_ : ((((w30.setCell ⟨gb173, 0, none⟩ (.string t181)).setCell ⟨gb173, 1, none⟩ (.int .u32 t175)).setCell ⟨gb173, 2, none⟩ (.int .i64 t176)).setCell ⟨gb173, 3, none⟩ (.int .i64 t177)) = wm at n0_ n1_ n2_ ⊢
      clear hWM_
      have BK173 := n0_
      have BK179 := n1_
      have HB := n2_
      clear n0_ n1_ n2_
      have hcw173_0 : wm.cell? ⟨gb173, 0, none⟩ = some (.string t181) := (blk_cell BK173.out 0).trans rfl
      have hfw173_0 := blk_frozen BK173.out 0
      have hcw173_1 : wm.cell? ⟨gb173, 1, none⟩ = some (.int .u32 t175) := (blk_cell BK173.out 1).trans rfl
      have hfw173_1 := blk_frozen BK173.out 1
      have hcw173_2 : wm.cell? ⟨gb173, 2, none⟩ = some (.int .i64 t176) := (blk_cell BK173.out 2).trans rfl
      have hfw173_2 := blk_frozen BK173.out 2
      have hcw173_3 : wm.cell? ⟨gb173, 3, none⟩ = some (.int .i64 t177) := (blk_cell BK173.out 3).trans rfl
      have hfw173_3 := blk_frozen BK173.out 3
      have hcw179_0 : wm.cell? ⟨gb179, 0, none⟩ = some (.int .u32 t174) := (blk_cell BK179.out 0).trans rfl
      have hfw179_0 := blk_frozen BK179.out 0
      have hcw179_1 : wm.cell? ⟨gb179, 1, none⟩ = some (.int .u32 t175) := (blk_cell BK179.out 1).trans rfl
      have hfw179_1 := blk_frozen BK179.out 1
      have hcw179_2 : wm.cell? ⟨gb179, 2, none⟩ = some (.int .i64 t176) := (blk_cell BK179.out 2).trans rfl
      have hfw179_2 := blk_frozen BK179.out 2
      have hcw179_3 : wm.cell? ⟨gb179, 3, none⟩ = some (.int .i64 t177) := (blk_cell BK179.out 3).trans rfl
      have hfw179_3 := blk_frozen BK179.out 3
      go_wp2
      refine bodyPost_ret (results_ct rfl _ _ gb173 28 #[.string t181, .int .u32 t175, .int .i64 t176, .int .i64 t177] (0, 0) _ rfl (by refine blk_put (cs := #[.string t181, .int .u32 t175, .int .i64 t176, .int .i64 t177]) ?_ 3 _ rfl; refine blk_put (cs := #[.string t181, .int .u32 t175, .int .i64 t176, .int .i64 t177]) ?_ 2 _ rfl; refine blk_put (cs := #[.string t181, .int .u32 t175, .int .i64 t176, .int .i64 t177]) ?_ 1 _ rfl; refine blk_put (cs := #[.string t181, .int .u32 t175, .int .i64 t176, .int .i64 t177]) ?_ 0 _ rfl; exact BK173.out) Tryd.underlying28 rfl (by kernel_rfl)) rfl ?_
      exact ⟨rfl, below_set (below_set (below_set (below_set HB.out GE173.out) GE173.out) GE173.out) GE173.out⟩
  · have H1 : (some ((⟨#[]⟩ : ByteArray), 0, 0, 0, false)) = some (r1, r2, r3, r4, r5) := by rw [if_neg (show ¬ (some q180).isNone = true by simp)] at H; exact H
    clear H
    have H := H1
    clear H1
    try simp only [errW_none, errW_some]
    simp only [Option.some.injEq, Prod.mk.injEq] at H
    obtain ⟨rfl, rfl, rfl, rfl, rfl⟩ := H
    go_enter Tryd.func7, Tryd.ntmps7
    go_wp2_with (first | ((with_reducible refine gate_dst (N := 2) rfl ?_); refine box_event ?hg (N := 2) ?hd (cs := #[.string (⟨#[]⟩ : ByteArray), .int .u32 0, .int .i64 0, .int .i64 0]) (t := 28) ?hr ?_; (case hd => rfl); (case hg => rfl); (case hr => first | (go_simp; done) | (go_simp; rfl)); intro gb173 hg w37 hbox hb; have n0_ := Aside0.mk (below_step (by repeat (first | (with_reducible first | exact HB.out | apply below_alloc | apply pw_below_drewN | apply below_drew1) | exact HB.out)) hb); have n1_ := Aside0.mk (hbox); have n2_ := Aside0.mk ((by rw [hg]; exact (below_size (by repeat (first | (with_reducible first | exact HB.out | apply below_alloc | apply pw_below_drewN | apply below_drew1) | exact HB.out))) : w.heap.size ≤ gb173)); have n3_ := Aside0.mk ((by rw [hg]; exact (below_size (by repeat (first | (with_reducible first | exact HB.out | apply below_alloc | apply pw_below_drewN | apply below_drew1) | exact HB.out))) : w.heap.size ≤ gb173)); clear HB; have HB := n0_; have BK173 := n1_; have GW173 := n2_; have GE173 := n3_; clear n0_ n1_ n2_ n3_; clear hb hbox hg) | ((with_reducible refine gate_callee (f := 9) rfl ?_); refine goesL_ (some 8) rfl rfl Tryd.func9 (by kernel_rfl) rfl #[.string a0] rfl (by (try simp only [List.map_toArray, List.map_cons, List.map_nil]); first | done | rfl | (simp only [List.length_drop, List.length_take]; rfl)) ?_; (with_reducible refine (harfbuzz_ParseFeature.calls k a0 t174 t175 t176 t177 (some q180) _ A2.out (tab_below GG (by repeat (first | (with_reducible first | exact HB.out | apply below_alloc | apply pw_below_drewN | apply below_drew1 | refine below_set ?_ GE173.out | refine below_set ?_ GE179.out | refine below_set ?_ GE194.out | refine below_set ?_ GE200.out) | exact HB.out)))).mono ?_); rintro e w40 ⟨ev38, rfl, he39, hb⟩; refine ⟨_, rfl, ?_⟩; have n0_ := Aside0.mk (blk_below (g := gb173) (o := .cells #[.string (⟨#[]⟩ : ByteArray), .int .u32 0, .int .i64 0, .int .i64 0] 28 (0, 0)) (by (with_reducible repeat (first | refine blk_drewN ?_ _ | refine blk_drew ?_ | refine blk_alloc ?_ _)); exact BK173.out) hb); have n1_ := Aside0.mk (below_step (by repeat (first | (with_reducible first | exact HB.out | apply below_alloc | apply pw_below_drewN | apply below_drew1 | refine below_set ?_ GE173.out) | exact HB.out)) hb); clear BK173; clear HB; have BK173 := n0_; have HB := n1_; clear n0_ n1_; (try clear hb); (try clear hb2); (try clear hk); (try clear hi); (first | (obtain rfl := EV_none he39) | (obtain ⟨te_, pe_, rfl⟩ := EV_some he39) | skip)) | ((with_reducible refine gate_dst (N := 4) rfl ?_); refine box_event ?hg (N := 4) ?hd (cs := #[.int .u32 0, .int .u32 0, .int .i64 0, .int .i64 0]) (t := 36) ?hr ?_; (case hd => rfl); (case hg => rfl); (case hr => first | (go_simp; done) | (go_simp; rfl)); intro gb179 hg w41 hbox hb; have n0_ := Aside0.mk (blk_below (g := gb173) (o := .cells #[.string (⟨#[]⟩ : ByteArray), .int .u32 0, .int .i64 0, .int .i64 0] 28 (0, 0)) (by (with_reducible repeat (first | refine blk_drewN ?_ _ | refine blk_drew ?_ | refine blk_alloc ?_ _)); exact BK173.out) hb); have n1_ := Aside0.mk (below_step (by repeat (first | (with_reducible first | exact HB.out | apply below_alloc | apply pw_below_drewN | apply below_drew1 | refine below_set ?_ GE173.out) | exact HB.out)) hb); have n2_ := Aside0.mk (hbox); have n3_ := Aside0.mk ((by rw [hg]; exact (below_size (by repeat (first | (with_reducible first | exact HB.out | apply below_alloc | apply pw_below_drewN | apply below_drew1 | refine below_set ?_ GE173.out) | exact HB.out))) : w.heap.size ≤ gb179)); have n4_ := Aside0.mk ((by rw [hg]; exact (below_size (by repeat (first | (with_reducible first | exact HB.out | apply below_alloc | apply pw_below_drewN | apply below_drew1 | refine below_set ?_ GE173.out) | exact HB.out))) : w.heap.size ≤ gb179)); have n5_ := Aside0.mk ((by rw [hg]; exact Nat.ne_of_lt (blk_lt (g := gb173) (o := .cells #[.string (⟨#[]⟩ : ByteArray), .int .u32 0, .int .i64 0, .int .i64 0] 28 (0, 0)) (by (with_reducible repeat (first | refine blk_drewN ?_ _ | refine blk_drew ?_ | refine blk_alloc ?_ _)); exact BK173.out)) : gb173 ≠ gb179)); have n6_ := Aside0.mk ((by rw [hg]; exact Nat.ne_of_gt (blk_lt (g := gb173) (o := .cells #[.string (⟨#[]⟩ : ByteArray), .int .u32 0, .int .i64 0, .int .i64 0] 28 (0, 0)) (by (with_reducible repeat (first | refine blk_drewN ?_ _ | refine blk_drew ?_ | refine blk_alloc ?_ _)); exact BK173.out)) : gb179 ≠ gb173)); clear BK173; clear HB; have BK173 := n0_; have HB := n1_; have BK179 := n2_; have GW179 := n3_; have GE179 := n4_; have NB173_179 := n5_; have NB179_173 := n6_; clear n0_ n1_ n2_ n3_ n4_ n5_ n6_; clear hb hbox hg; have hnb42 := NB179_173.out; have hnc42 := NB173_179.out; have hcz43_0 : w41.cell? ⟨gb179, 0, none⟩ = some (.int .u32 0) := (blk_cell BK179.out 0).trans rfl; have hcz43_1 : w41.cell? ⟨gb179, 1, none⟩ = some (.int .u32 0) := (blk_cell BK179.out 1).trans rfl; have hcz43_2 : w41.cell? ⟨gb179, 2, none⟩ = some (.int .i64 0) := (blk_cell BK179.out 2).trans rfl; have hcz43_3 : w41.cell? ⟨gb179, 3, none⟩ = some (.int .i64 0) := (blk_cell BK179.out 3).trans rfl; have hfz43_0 := blk_frozen BK179.out 0; have hfz43_1 := blk_frozen BK179.out 1; have hfz43_2 := blk_frozen BK179.out 2; have hfz43_3 := blk_frozen BK179.out 3; have hcz44_0 : w41.cell? ⟨gb173, 0, none⟩ = some (.string (⟨#[]⟩ : ByteArray)) := (blk_cell BK173.out 0).trans rfl; have hcz44_1 : w41.cell? ⟨gb173, 1, none⟩ = some (.int .u32 0) := (blk_cell BK173.out 1).trans rfl; have hcz44_2 : w41.cell? ⟨gb173, 2, none⟩ = some (.int .i64 0) := (blk_cell BK173.out 2).trans rfl; have hcz44_3 : w41.cell? ⟨gb173, 3, none⟩ = some (.int .i64 0) := (blk_cell BK173.out 3).trans rfl; have hfz44_0 := blk_frozen BK173.out 0; have hfz44_1 := blk_frozen BK173.out 1; have hfz44_2 := blk_frozen BK173.out 2; have hfz44_3 := blk_frozen BK173.out 3))
    refine bodyPost_ret (results_ct rfl _ _ gb173 28 #[.string (⟨#[]⟩ : ByteArray), .int .u32 0, .int .i64 0, .int .i64 0] (0, 0) _ rfl (by (with_reducible repeat (first | refine blk_drewN ?_ _ | refine blk_drew ?_ | refine blk_alloc ?_ _)); refine blk_put (cs := #[.string (⟨#[]⟩ : ByteArray), .int .u32 0, .int .i64 0, .int .i64 0]) ?_ 3 _ rfl; (with_reducible repeat (first | refine blk_drewN ?_ _ | refine blk_drew ?_ | refine blk_alloc ?_ _)); refine blk_put (cs := #[.string (⟨#[]⟩ : ByteArray), .int .u32 0, .int .i64 0, .int .i64 0]) ?_ 2 _ rfl; (with_reducible repeat (first | refine blk_drewN ?_ _ | refine blk_drew ?_ | refine blk_alloc ?_ _)); refine blk_put (cs := #[.string (⟨#[]⟩ : ByteArray), .int .u32 0, .int .i64 0, .int .i64 0]) ?_ 1 _ rfl; (with_reducible repeat (first | refine blk_drewN ?_ _ | refine blk_drew ?_ | refine blk_alloc ?_ _)); refine blk_put (cs := #[.string (⟨#[]⟩ : ByteArray), .int .u32 0, .int .i64 0, .int .i64 0]) ?_ 0 _ rfl; (with_reducible repeat (first | refine blk_drewN ?_ _ | refine blk_drew ?_ | refine blk_alloc ?_ _)); refine blk_far ?_ NB173_179.out _; (with_reducible repeat (first | refine blk_drewN ?_ _ | refine blk_drew ?_ | refine blk_alloc ?_ _)); refine blk_far ?_ NB173_179.out _; (with_reducible repeat (first | refine blk_drewN ?_ _ | refine blk_drew ?_ | refine blk_alloc ?_ _)); refine blk_far ?_ NB173_179.out _; (with_reducible repeat (first | refine blk_drewN ?_ _ | refine blk_drew ?_ | refine blk_alloc ?_ _)); refine blk_far ?_ NB173_179.out _; (with_reducible repeat (first | refine blk_drewN ?_ _ | refine blk_drew ?_ | refine blk_alloc ?_ _)); exact BK173.out) Tryd.underlying28 rfl (by kernel_rfl)) rfl ?_
    exact ⟨by first | rfl | (simp [errW_none, errW_some] <;> rfl) | (simp [*, errW_none, errW_some] <;> rfl), by repeat (first | (with_reducible first | exact HB.out | apply below_alloc | apply pw_below_drewN | apply below_drew1 | refine below_set ?_ GE173.out | refine below_set ?_ GE179.out) | exact HB.out)⟩

/-! ### laws_FnAskNone: function 3 -/
def laws_FnAskNone.f (k : Nat) (a0 : Int) (a1 : Int) (a2 : Int) : Option (Bool) := (laws_askTag.f k a0).bind fun t182 => (if t182.size + 1 ≤ 9223372036854775807 then ((strconv_Itoa.f (wrap64 (a2))).bind fun t183 => (if (t182 ++ (⟨#[91]⟩ : ByteArray)).size + t183.size ≤ 9223372036854775807 then ((laws_askTag.f k a0).bind fun t184 => (if t184.size + 4 ≤ 9223372036854775807 then ((some (([(⟨#[]⟩ : ByteArray), (⟨#[43]⟩ : ByteArray), (⟨#[45]⟩ : ByteArray), (⟨#[91, 51, 93]⟩ : ByteArray), (⟨#[61, 49]⟩ : ByteArray), (t182 ++ (⟨#[91]⟩ : ByteArray)) ++ t183, t184 ++ (⟨#[91, 49, 58, 50]⟩ : ByteArray)] : List ByteArray) : List ByteArray)).bind fun y185 => (if 0 ≤ (Int.tmod a1 7) then (if (Int.tmod a1 7) < (y185.length : Int) then ((impl_AskOf.f k (rdOf ByteArray.empty y185 (Int.tmod a1 7))).bind fun bt189 => ((impl_AskOf.f k (⟨#[107, 101, 114, 110]⟩ : ByteArray)).bind fun bt195 => (if bt189.2.2.2.2 = true then (some false) else (some bt195.2.2.2.2)))) else (none)) else (none))) else (none))) else (none))) else (none))
theorem laws_FnAskNone.mono : ∀ a0 a1 a2 k, LeO (laws_FnAskNone.f k a0 a1 a2) (laws_FnAskNone.f (k + 1) a0 a1 a2) := by
  intro a0 a1 a2 k
  unfold laws_FnAskNone.f
  repeat' first
      | (with_reducible exact impl_AskOf.mono _ _)
      | (with_reducible exact laws_askTag.mono _ _)
      | (with_reducible exact LeO.refl _)
      | (with_reducible exact LeO.none _)
      | (with_reducible refine LeO.ite ?_ ?_)
      | (with_reducible refine LeO.bind ?_ (fun _ => ?_))
      | exact impl_AskOf.mono _ _
      | exact laws_askTag.mono _ _
      | exact LeO.none _
      | refine LeO.ite ?_ ?_
      | refine LeO.bind ?_ (fun _ => ?_)
set_option maxHeartbeats 8000000 in
set_option maxRecDepth 100000 in
theorem laws_FnAskNone.calls (k : Nat) (a0 : Int) (a1 : Int) (a2 : Int) (r : Bool) (w : World) (h : laws_FnAskNone.f k a0 a1 a2 = some r) (GG : Tab w) :
    Calls Tryd.prog 3 #[.int .u32 a0, .int .u8 a1, .int .u16 a2] w fun e w' => e = .returned (.bool r) ∧ Below w.heap.size w w' := by
  have hu28 := Tryd.underlying28
  have HB := Aside0.mk (Below.refl w.heap.size w)
  have H : ((laws_askTag.f k a0).bind fun t182 => (if t182.size + 1 ≤ 9223372036854775807 then ((strconv_Itoa.f (wrap64 (a2))).bind fun t183 => (if (t182 ++ (⟨#[91]⟩ : ByteArray)).size + t183.size ≤ 9223372036854775807 then ((laws_askTag.f k a0).bind fun t184 => (if t184.size + 4 ≤ 9223372036854775807 then ((some (([(⟨#[]⟩ : ByteArray), (⟨#[43]⟩ : ByteArray), (⟨#[45]⟩ : ByteArray), (⟨#[91, 51, 93]⟩ : ByteArray), (⟨#[61, 49]⟩ : ByteArray), (t182 ++ (⟨#[91]⟩ : ByteArray)) ++ t183, t184 ++ (⟨#[91, 49, 58, 50]⟩ : ByteArray)] : List ByteArray) : List ByteArray)).bind fun y185 => (if 0 ≤ (Int.tmod a1 7) then (if (Int.tmod a1 7) < (y185.length : Int) then ((impl_AskOf.f k (rdOf ByteArray.empty y185 (Int.tmod a1 7))).bind fun bt189 => ((impl_AskOf.f k (⟨#[107, 101, 114, 110]⟩ : ByteArray)).bind fun bt195 => (if bt189.2.2.2.2 = true then (some false) else (some bt195.2.2.2.2)))) else (none)) else (none))) else (none))) else (none))) else (none))) = some r := h
  clear h
  replace H := Option.bind_eq_some_iff.mp H
  obtain ⟨t182, A40, H⟩ := H
  replace H : (if t182.size + 1 ≤ 9223372036854775807 then ((strconv_Itoa.f (wrap64 (a2))).bind fun t183 => (if (t182 ++ (⟨#[91]⟩ : ByteArray)).size + t183.size ≤ 9223372036854775807 then ((laws_askTag.f k a0).bind fun t184 => (if t184.size + 4 ≤ 9223372036854775807 then ((some (([(⟨#[]⟩ : ByteArray), (⟨#[43]⟩ : ByteArray), (⟨#[45]⟩ : ByteArray), (⟨#[91, 51, 93]⟩ : ByteArray), (⟨#[61, 49]⟩ : ByteArray), (t182 ++ (⟨#[91]⟩ : ByteArray)) ++ t183, t184 ++ (⟨#[91, 49, 58, 50]⟩ : ByteArray)] : List ByteArray) : List ByteArray)).bind fun y185 => (if 0 ≤ (Int.tmod a1 7) then (if (Int.tmod a1 7) < (y185.length : Int) then ((impl_AskOf.f k (rdOf ByteArray.empty y185 (Int.tmod a1 7))).bind fun bt189 => ((impl_AskOf.f k (⟨#[107, 101, 114, 110]⟩ : ByteArray)).bind fun bt195 => (if bt189.2.2.2.2 = true then (some false) else (some bt195.2.2.2.2)))) else (none)) else (none))) else (none))) else (none))) else (none)) = some r := H
  have A4 := Aside0.mk A40
  clear A40
  by_cases c5 : t182.size + 1 ≤ 9223372036854775807
  · rw [if_pos c5] at H
    have c5b0 := eq_true c5
    have c5b1 : decide (t182.size + 1 ≤ 9223372036854775807) = true := decide_eq_true c5
    try have c5b2 : (9223372036854775807 < t182.size + 1) = False := eq_false (Nat.not_lt.2 c5)
    replace H := Option.bind_eq_some_iff.mp H
    obtain ⟨t183, A60, H⟩ := H
    replace H : (if (t182 ++ (⟨#[91]⟩ : ByteArray)).size + t183.size ≤ 9223372036854775807 then ((laws_askTag.f k a0).bind fun t184 => (if t184.size + 4 ≤ 9223372036854775807 then ((some (([(⟨#[]⟩ : ByteArray), (⟨#[43]⟩ : ByteArray), (⟨#[45]⟩ : ByteArray), (⟨#[91, 51, 93]⟩ : ByteArray), (⟨#[61, 49]⟩ : ByteArray), (t182 ++ (⟨#[91]⟩ : ByteArray)) ++ t183, t184 ++ (⟨#[91, 49, 58, 50]⟩ : ByteArray)] : List ByteArray) : List ByteArray)).bind fun y185 => (if 0 ≤ (Int.tmod a1 7) then (if (Int.tmod a1 7) < (y185.length : Int) then ((impl_AskOf.f k (rdOf ByteArray.empty y185 (Int.tmod a1 7))).bind fun bt189 => ((impl_AskOf.f k (⟨#[107, 101, 114, 110]⟩ : ByteArray)).bind fun bt195 => (if bt189.2.2.2.2 = true then (some false) else (some bt195.2.2.2.2)))) else (none)) else (none))) else (none))) else (none)) = some r := H
    have A6 := Aside0.mk A60
    clear A60
    by_cases c7 : (t182 ++ (⟨#[91]⟩ : ByteArray)).size + t183.size ≤ 9223372036854775807
    · rw [if_pos c7] at H
      have c7b0 := eq_true c7
      have c7b1 : decide ((t182 ++ (⟨#[91]⟩ : ByteArray)).size + t183.size ≤ 9223372036854775807) = true := decide_eq_true c7
      try have c7b2 : (9223372036854775807 < (t182 ++ (⟨#[91]⟩ : ByteArray)).size + t183.size) = False := eq_false (Nat.not_lt.2 c7)
      have c7_sz : (9223372036854775807 < t182.size + 1 + t183.size) = False := eq_false (by have q := c7; simp only [ByteArray.size_append] at q; (try simp only [c_sz, List.size_toArray, List.length_cons, List.length_nil] at q); omega)
      replace H := Option.bind_eq_some_iff.mp H
      obtain ⟨t184, A80, H⟩ := H
      replace H : (if t184.size + 4 ≤ 9223372036854775807 then ((some (([(⟨#[]⟩ : ByteArray), (⟨#[43]⟩ : ByteArray), (⟨#[45]⟩ : ByteArray), (⟨#[91, 51, 93]⟩ : ByteArray), (⟨#[61, 49]⟩ : ByteArray), (t182 ++ (⟨#[91]⟩ : ByteArray)) ++ t183, t184 ++ (⟨#[91, 49, 58, 50]⟩ : ByteArray)] : List ByteArray) : List ByteArray)).bind fun y185 => (if 0 ≤ (Int.tmod a1 7) then (if (Int.tmod a1 7) < (y185.length : Int) then ((impl_AskOf.f k (rdOf ByteArray.empty y185 (Int.tmod a1 7))).bind fun bt189 => ((impl_AskOf.f k (⟨#[107, 101, 114, 110]⟩ : ByteArray)).bind fun bt195 => (if bt189.2.2.2.2 = true then (some false) else (some bt195.2.2.2.2)))) else (none)) else (none))) else (none)) = some r := H
      have A8 := Aside0.mk A80
      clear A80
      by_cases c9 : t184.size + 4 ≤ 9223372036854775807
      · rw [if_pos c9] at H
        have c9b0 := eq_true c9
        have c9b1 : decide (t184.size + 4 ≤ 9223372036854775807) = true := decide_eq_true c9
        try have c9b2 : (9223372036854775807 < t184.size + 4) = False := eq_false (Nat.not_lt.2 c9)
        obtain ⟨y185, hy185⟩ : ∃ y_ : List ByteArray, y_ = (([(⟨#[]⟩ : ByteArray), (⟨#[43]⟩ : ByteArray), (⟨#[45]⟩ : ByteArray), (⟨#[91, 51, 93]⟩ : ByteArray), (⟨#[61, 49]⟩ : ByteArray), (t182 ++ (⟨#[91]⟩ : ByteArray)) ++ t183, t184 ++ (⟨#[91, 49, 58, 50]⟩ : ByteArray)] : List ByteArray)) := ⟨_, rfl⟩
        replace H : (if 0 ≤ (Int.tmod a1 7) then (if (Int.tmod a1 7) < (y185.length : Int) then ((impl_AskOf.f k (rdOf ByteArray.empty y185 (Int.tmod a1 7))).bind fun bt189 => ((impl_AskOf.f k (⟨#[107, 101, 114, 110]⟩ : ByteArray)).bind fun bt195 => (if bt189.2.2.2.2 = true then (some false) else (some bt195.2.2.2.2)))) else (none)) else (none)) = some r := by first | (rw [hy185]; with_reducible exact H) | (have H2_ := (Option.bind_some _ _).symm.trans H; rw [hy185]; with_reducible exact H2_) | (have H2_ := (Option.bind_some _ _).symm.trans H; with_reducible exact H2_) | with_reducible exact H | (rw [hy185]; exact H) | exact H
        have Ny185 := Aside0.mk hy185
        clear hy185
        obtain ⟨ji10, hji10⟩ : ∃ j_ : Int, (Int.tmod a1 7) = j_ := ⟨_, rfl⟩
        replace H : (if 0 ≤ (ji10) then (if (ji10) < (y185.length : Int) then ((impl_AskOf.f k (rdOf ByteArray.empty y185 (ji10))).bind fun bt189 => ((impl_AskOf.f k (⟨#[107, 101, 114, 110]⟩ : ByteArray)).bind fun bt195 => (if bt189.2.2.2.2 = true then (some false) else (some bt195.2.2.2.2)))) else (none)) else (none)) = some r := by first | (rw [hji10] at H; exact H) | (simp only [hji10] at H ⊢; exact H)
        (try rw [hji10] at A4)
        (try rw [hji10] at A6)
        (try rw [hji10] at A8)
        by_cases c11 : 0 ≤ (ji10)
        · rw [if_pos c11] at H
          have c11b0 : decide (0 ≤ (ji10)) = true := decide_eq_true c11
          clear c11
          by_cases c12 : (ji10) < (y185.length : Int)
          · rw [if_pos c12] at H
            have c12b0 : decide ((ji10) < (y185.length : Int)) = true := decide_eq_true c12
            clear c12
            replace H := Option.bind_eq_some_iff.mp H
            obtain ⟨⟨t189, t190, t191, t192, t193⟩, A130, H⟩ := H
            replace H : ((impl_AskOf.f k (⟨#[107, 101, 114, 110]⟩ : ByteArray)).bind fun bt195 => (if t193 = true then (some false) else (some bt195.2.2.2.2))) = some r := H
            have A13 := Aside0.mk A130
            clear A130
            replace H := Option.bind_eq_some_iff.mp H
            obtain ⟨⟨t195, t196, t197, t198, t199⟩, A140, H⟩ := H
            replace H : (if t193 = true then (some false) else (some t199)) = some r := H
            have A14 := Aside0.mk A140
            clear A140
            by_cases c15 : t193 = true
            · subst c15
              have H1 : (some false) = some r := by rw [if_pos rfl] at H; exact H
              clear H
              have H := H1
              clear H1
              obtain rfl := Option.some.inj H
              go_enter Tryd.func3, Tryd.ntmps3
              go_wp2_with (first | ((with_reducible refine gate_callee (f := 5) rfl ?_); refine goesL_ (some 13) rfl rfl Tryd.func5 (by kernel_rfl) rfl #[.int .u32 a0] rfl (by (try simp only [List.map_toArray, List.map_cons, List.map_nil]); first | done | rfl | (simp only [List.length_drop, List.length_take]; rfl)) ?_; (with_reducible refine (laws_askTag.calls k a0 t182 _ A4.out).mono ?_); rintro e w16 ⟨rfl, hb⟩; refine ⟨_, rfl, ?_⟩; have n0_ := Aside0.mk (below_step (by repeat (first | (with_reducible first | exact HB.out | apply below_alloc | apply pw_below_drewN | apply below_drew1) | exact HB.out)) hb); clear HB; have HB := n0_; clear n0_; (try clear hb); (try clear hb2); (try clear hk); (try clear hi)) | ((with_reducible refine gate_callee (f := 6) rfl ?_); refine goesL_ (some 17) rfl rfl Tryd.func6 (by kernel_rfl) rfl #[.int .i64 (wrap64 (a2))] rfl (by (try simp only [List.map_toArray, List.map_cons, List.map_nil]); first | done | rfl | (simp only [List.length_drop, List.length_take]; rfl)) ?_; (with_reducible refine (strconv_Itoa.calls (wrap64 (a2)) t183 _ A6.out (tab_below GG (by repeat (first | (with_reducible first | exact HB.out | apply below_alloc | apply pw_below_drewN | apply below_drew1 | refine below_set ?_ GE173.out | refine below_set ?_ GE179.out | refine below_set ?_ GE194.out | refine below_set ?_ GE200.out) | exact HB.out)))).mono ?_); rintro e w17 ⟨rfl, hb⟩; refine ⟨_, rfl, ?_⟩; have n0_ := Aside0.mk (below_step (by repeat (first | (with_reducible first | exact HB.out | apply below_alloc | apply pw_below_drewN | apply below_drew1) | exact HB.out)) hb); clear HB; have HB := n0_; clear n0_; (try clear hb); (try clear hb2); (try clear hk); (try clear hi)) | ((with_reducible refine gate_callee (f := 5) rfl ?_); refine goesL_ (some 20) rfl rfl Tryd.func5 (by kernel_rfl) rfl #[.int .u32 a0] rfl (by (try simp only [List.map_toArray, List.map_cons, List.map_nil]); first | done | rfl | (simp only [List.length_drop, List.length_take]; rfl)) ?_; (with_reducible refine (laws_askTag.calls k a0 t184 _ A8.out).mono ?_); rintro e w18 ⟨rfl, hb⟩; refine ⟨_, rfl, ?_⟩; have n0_ := Aside0.mk (below_step (by repeat (first | (with_reducible first | exact HB.out | apply below_alloc | apply pw_below_drewN | apply below_drew1) | exact HB.out)) hb); clear HB; have HB := n0_; clear n0_; (try clear hb); (try clear hb2); (try clear hk); (try clear hi)) | ((with_reducible refine gate_dst (N := 22) rfl ?_); refine Kd.R_lit Kd.string _ 9 ?hg (N := 22) ?hd (xs := ([(⟨#[]⟩ : ByteArray), (⟨#[43]⟩ : ByteArray), (⟨#[45]⟩ : ByteArray), (⟨#[91, 51, 93]⟩ : ByteArray), (⟨#[61, 49]⟩ : ByteArray), (t182 ++ (⟨#[91]⟩ : ByteArray)) ++ t183, t184 ++ (⟨#[91, 49, 58, 50]⟩ : ByteArray)] : List ByteArray)) (inner := [.string (⟨#[]⟩ : ByteArray), .string (⟨#[43]⟩ : ByteArray), .string (⟨#[45]⟩ : ByteArray), .string (⟨#[91, 51, 93]⟩ : ByteArray), .string (⟨#[61, 49]⟩ : ByteArray), .string ((t182 ++ (⟨#[91]⟩ : ByteArray)) ++ t183), .string (t184 ++ (⟨#[91, 49, 58, 50]⟩ : ByteArray))]) (ok := fun _ => True) (okp := fun _ => True) ?hr ?hp (fun _ hk => hk) trivial (Below.refl _ _) (Nat.le_refl _) (by simp) ?_; (case hd => rfl); (case hg => rfl); (case hr => first | (go_simp; done) | (go_simp; rfl)); (case hp => exact (Reps.one (show Kd.M Kd.string _ _ _ (⟨#[]⟩ : ByteArray) [.string (⟨#[]⟩ : ByteArray)] from rfl) (Reps.one (show Kd.M Kd.string _ _ _ (⟨#[43]⟩ : ByteArray) [.string (⟨#[43]⟩ : ByteArray)] from rfl) (Reps.one (show Kd.M Kd.string _ _ _ (⟨#[45]⟩ : ByteArray) [.string (⟨#[45]⟩ : ByteArray)] from rfl) (Reps.one (show Kd.M Kd.string _ _ _ (⟨#[91, 51, 93]⟩ : ByteArray) [.string (⟨#[91, 51, 93]⟩ : ByteArray)] from rfl) (Reps.one (show Kd.M Kd.string _ _ _ (⟨#[61, 49]⟩ : ByteArray) [.string (⟨#[61, 49]⟩ : ByteArray)] from rfl) (Reps.one (show Kd.M Kd.string _ _ _ ((t182 ++ (⟨#[91]⟩ : ByteArray)) ++ t183) [.string ((t182 ++ (⟨#[91]⟩ : ByteArray)) ++ t183)] from rfl) (Reps.one (show Kd.M Kd.string _ _ _ (t184 ++ (⟨#[91, 49, 58, 50]⟩ : ByteArray)) [.string (t184 ++ (⟨#[91, 49, 58, 50]⟩ : ByteArray))] from rfl) (Reps.none _ _))))))))); intro v186 w19 ho20 hb hg_ hnew_; clear hg_ hnew_; (first | rw [← Ny185.out] at ho20 | (simp only [Int.reduceToNat] at ho20; rw [← Ny185.out] at ho20)); have n0_ := Aside0.mk (Kd.R_lower ho20 (below_size (by repeat (first | (with_reducible first | exact HB.out | apply below_alloc | apply pw_below_drewN | apply below_drew1) | exact HB.out)))); have n1_ := Aside0.mk (below_step (by repeat (first | (with_reducible first | exact HB.out | apply below_alloc | apply pw_below_drewN | apply below_drew1) | exact HB.out)) hb); clear HB; have HO187 := n0_; have HB := n1_; clear n0_ n1_; clear hb ho20; obtain ⟨Ao21, co21, eo21⟩ := Kd.R_slice HO187.out; subst eo21; have p188 : 0 ≤ ((ji10) : Int) := of_decide_eq_true (by first | (with_reducible assumption) | assumption); have q188 : (ji10) < (y185.length : Int) := of_decide_eq_true (by first | (with_reducible assumption) | assumption); obtain ⟨ad188, e188, hx188_0⟩ := Kd.at_string (Kd.R_reads' HO187.out).2.2 (ji10) p188 q188; cases e188; replace p188 := eq_true p188; replace q188 := eq_true q188) | ((with_reducible refine gate_callee (f := 7) rfl ?_); refine goesL_ (some 29) rfl rfl Tryd.func7 (by kernel_rfl) rfl #[.string (rdOf ByteArray.empty y185 (ji10))] rfl (by (try simp only [List.map_toArray, List.map_cons, List.map_nil]); first | done | (simp only [hji10]; rfl) | rfl | (simp only [List.length_drop, List.length_take]; rfl)) ?_; (with_reducible refine (impl_AskOf.calls k (rdOf ByteArray.empty y185 (ji10)) t189 t190 t191 t192 true _ A13.out (tab_below GG (by repeat (first | (with_reducible first | exact HB.out | apply below_alloc | apply pw_below_drewN | apply below_drew1 | refine below_set ?_ GE173.out | refine below_set ?_ GE179.out | refine below_set ?_ GE194.out | refine below_set ?_ GE200.out) | exact HB.out)))).mono ?_); rintro e w22 ⟨rfl, hb⟩; refine ⟨_, rfl, ?_⟩; have n0_ := Aside0.mk (Kd.R_below (by (with_reducible repeat (first | apply Kd.R_alloc | apply Kd.R_drewN | apply Kd.R_drew)); exact HO187.out) hb); have n1_ := Aside0.mk (below_step (by repeat (first | (with_reducible first | exact HB.out | apply below_alloc | apply pw_below_drewN | apply below_drew1) | exact HB.out)) hb); clear HO187; clear HB; have HO187 := n0_; have HB := n1_; clear n0_ n1_; (try clear hb); (try clear hb2); (try clear hk); (try clear hi)) | ((with_reducible refine gate_dst (N := 8) rfl ?_); refine box_event ?hg (N := 8) ?hd (cs := #[.string (⟨#[]⟩ : ByteArray), .int .u32 0, .int .i64 0, .int .i64 0]) (t := 28) ?hr ?_; (case hd => rfl); (case hg => rfl); (case hr => first | (go_simp; done) | (go_simp; rfl)); intro gb194 hg w23 hbox hb; have n0_ := Aside0.mk (Kd.R_below (by (with_reducible repeat (first | apply Kd.R_alloc | apply Kd.R_drewN | apply Kd.R_drew)); exact HO187.out) hb); have n1_ := Aside0.mk (below_step (by repeat (first | (with_reducible first | exact HB.out | apply below_alloc | apply pw_below_drewN | apply below_drew1) | exact HB.out)) hb); have n2_ := Aside0.mk (hbox); have n3_ := Aside0.mk ((by rw [hg]; exact (below_size (by repeat (first | (with_reducible first | exact HB.out | apply below_alloc | apply pw_below_drewN | apply below_drew1) | exact HB.out))) : w.heap.size ≤ gb194)); have n4_ := Aside0.mk ((by rw [hg]; exact (below_size (by repeat (first | (with_reducible first | exact HB.out | apply below_alloc | apply pw_below_drewN | apply below_drew1) | exact HB.out))) : w.heap.size ≤ gb194)); clear HO187; clear HB; have HO187 := n0_; have HB := n1_; have BK194 := n2_; have GW194 := n3_; have GE194 := n4_; clear n0_ n1_ n2_ n3_ n4_; clear hb hbox hg; have hcz24_0 : w23.cell? ⟨gb194, 0, none⟩ = some (.string (⟨#[]⟩ : ByteArray)) := (blk_cell BK194.out 0).trans rfl; have hcz24_1 : w23.cell? ⟨gb194, 1, none⟩ = some (.int .u32 0) := (blk_cell BK194.out 1).trans rfl; have hcz24_2 : w23.cell? ⟨gb194, 2, none⟩ = some (.int .i64 0) := (blk_cell BK194.out 2).trans rfl; have hcz24_3 : w23.cell? ⟨gb194, 3, none⟩ = some (.int .i64 0) := (blk_cell BK194.out 3).trans rfl; have hfz24_0 := blk_frozen BK194.out 0; have hfz24_1 := blk_frozen BK194.out 1; have hfz24_2 := blk_frozen BK194.out 2; have hfz24_3 := blk_frozen BK194.out 3) | ((with_reducible refine gate_callee (f := 7) rfl ?_); refine goesL_ (some 33) rfl rfl Tryd.func7 (by kernel_rfl) rfl #[.string (⟨#[107, 101, 114, 110]⟩ : ByteArray)] rfl (by (try simp only [List.map_toArray, List.map_cons, List.map_nil]); first | done | rfl | (simp only [List.length_drop, List.length_take]; rfl)) ?_; (with_reducible refine (impl_AskOf.calls k (⟨#[107, 101, 114, 110]⟩ : ByteArray) t195 t196 t197 t198 t199 _ A14.out (tab_below GG (by repeat (first | (with_reducible first | exact HB.out | apply below_alloc | apply pw_below_drewN | apply below_drew1 | refine below_set ?_ GE173.out | refine below_set ?_ GE179.out | refine below_set ?_ GE194.out | refine below_set ?_ GE200.out) | exact HB.out)))).mono ?_); rintro e w25 ⟨rfl, hb⟩; refine ⟨_, rfl, ?_⟩; have n0_ := Aside0.mk (Kd.R_below (by (with_reducible repeat (first | apply Kd.R_alloc | apply Kd.R_drewN | apply Kd.R_drew)); exact (Kd.R_mono (Kd.R_far (p := ⟨gb194, 3, none⟩) (Kd.R_far (p := ⟨gb194, 2, none⟩) (Kd.R_far (p := ⟨gb194, 1, none⟩) (Kd.R_far (p := ⟨gb194, 0, none⟩) (Kd.R_types HO187.out BK194.out (by decide)) (fun _ hk => hk.2) (.string t189)) (fun _ hk => hk.2) (.int .u32 t190)) (fun _ hk => hk.2) (.int .i64 t191)) (fun _ hk => hk.2) (.int .i64 t192)) (fun _ h_ => h_.1))) hb); have n1_ := Aside0.mk (blk_below (g := gb194) (o := .cells #[.string t189, .int .u32 t190, .int .i64 t191, .int .i64 t192] 28 (0, 0)) (by (with_reducible repeat (first | refine blk_drewN ?_ _ | refine blk_drew ?_ | refine blk_alloc ?_ _)); refine blk_put (cs := #[.string t189, .int .u32 t190, .int .i64 t191, .int .i64 0]) ?_ 3 _ rfl; (with_reducible repeat (first | refine blk_drewN ?_ _ | refine blk_drew ?_ | refine blk_alloc ?_ _)); refine blk_put (cs := #[.string t189, .int .u32 t190, .int .i64 0, .int .i64 0]) ?_ 2 _ rfl; (with_reducible repeat (first | refine blk_drewN ?_ _ | refine blk_drew ?_ | refine blk_alloc ?_ _)); refine blk_put (cs := #[.string t189, .int .u32 0, .int .i64 0, .int .i64 0]) ?_ 1 _ rfl; (with_reducible repeat (first | refine blk_drewN ?_ _ | refine blk_drew ?_ | refine blk_alloc ?_ _)); refine blk_put (cs := #[.string (⟨#[]⟩ : ByteArray), .int .u32 0, .int .i64 0, .int .i64 0]) ?_ 0 _ rfl; (with_reducible repeat (first | refine blk_drewN ?_ _ | refine blk_drew ?_ | refine blk_alloc ?_ _)); exact BK194.out) hb); have n2_ := Aside0.mk (below_step (by repeat (first | (with_reducible first | exact HB.out | apply below_alloc | apply pw_below_drewN | apply below_drew1 | refine below_set ?_ GE194.out) | exact HB.out)) hb); clear HO187; clear BK194; clear HB; have HO187 := n0_; have BK194 := n1_; have HB := n2_; clear n0_ n1_ n2_; (try clear hb); (try clear hb2); (try clear hk); (try clear hi)) | ((with_reducible refine gate_dst (N := 10) rfl ?_); refine box_event ?hg (N := 10) ?hd (cs := #[.string (⟨#[]⟩ : ByteArray), .int .u32 0, .int .i64 0, .int .i64 0]) (t := 28) ?hr ?_; (case hd => rfl); (case hg => rfl); (case hr => first | (go_simp; done) | (go_simp; rfl)); intro gb200 hg w26 hbox hb; have n0_ := Aside0.mk (Kd.R_below (by (with_reducible repeat (first | apply Kd.R_alloc | apply Kd.R_drewN | apply Kd.R_drew)); exact HO187.out) hb); have n1_ := Aside0.mk (blk_below (g := gb194) (o := .cells #[.string t189, .int .u32 t190, .int .i64 t191, .int .i64 t192] 28 (0, 0)) (by (with_reducible repeat (first | refine blk_drewN ?_ _ | refine blk_drew ?_ | refine blk_alloc ?_ _)); exact BK194.out) hb); have n2_ := Aside0.mk (below_step (by repeat (first | (with_reducible first | exact HB.out | apply below_alloc | apply pw_below_drewN | apply below_drew1 | refine below_set ?_ GE194.out) | exact HB.out)) hb); have n3_ := Aside0.mk (hbox); have n4_ := Aside0.mk ((by rw [hg]; exact (below_size (by repeat (first | (with_reducible first | exact HB.out | apply below_alloc | apply pw_below_drewN | apply below_drew1 | refine below_set ?_ GE194.out) | exact HB.out))) : w.heap.size ≤ gb200)); have n5_ := Aside0.mk ((by rw [hg]; exact (below_size (by repeat (first | (with_reducible first | exact HB.out | apply below_alloc | apply pw_below_drewN | apply below_drew1 | refine below_set ?_ GE194.out) | exact HB.out))) : w.heap.size ≤ gb200)); have n6_ := Aside0.mk ((by rw [hg]; exact Nat.ne_of_lt (blk_lt (g := gb194) (o := .cells #[.string t189, .int .u32 t190, .int .i64 t191, .int .i64 t192] 28 (0, 0)) (by (with_reducible repeat (first | refine blk_drewN ?_ _ | refine blk_drew ?_ | refine blk_alloc ?_ _)); exact BK194.out)) : gb194 ≠ gb200)); have n7_ := Aside0.mk ((by rw [hg]; exact Nat.ne_of_gt (blk_lt (g := gb194) (o := .cells #[.string t189, .int .u32 t190, .int .i64 t191, .int .i64 t192] 28 (0, 0)) (by (with_reducible repeat (first | refine blk_drewN ?_ _ | refine blk_drew ?_ | refine blk_alloc ?_ _)); exact BK194.out)) : gb200 ≠ gb194)); clear HO187; clear BK194; clear HB; have HO187 := n0_; have BK194 := n1_; have HB := n2_; have BK200 := n3_; have GW200 := n4_; have GE200 := n5_; have NB194_200 := n6_; have NB200_194 := n7_; clear n0_ n1_ n2_ n3_ n4_ n5_ n6_ n7_; clear hb hbox hg; have hnb27 := NB200_194.out; have hnc27 := NB194_200.out; have hcz28_0 : w26.cell? ⟨gb200, 0, none⟩ = some (.string (⟨#[]⟩ : ByteArray)) := (blk_cell BK200.out 0).trans rfl; have hcz28_1 : w26.cell? ⟨gb200, 1, none⟩ = some (.int .u32 0) := (blk_cell BK200.out 1).trans rfl; have hcz28_2 : w26.cell? ⟨gb200, 2, none⟩ = some (.int .i64 0) := (blk_cell BK200.out 2).trans rfl; have hcz28_3 : w26.cell? ⟨gb200, 3, none⟩ = some (.int .i64 0) := (blk_cell BK200.out 3).trans rfl; have hfz28_0 := blk_frozen BK200.out 0; have hfz28_1 := blk_frozen BK200.out 1; have hfz28_2 := blk_frozen BK200.out 2; have hfz28_3 := blk_frozen BK200.out 3))
              go_ret
              exact ⟨by first | rfl | (simp [errW_none, errW_some] <;> rfl) | (simp only [← hji10]; first | rfl | (simp [errW_none, errW_some] <;> rfl)) | (simp [*, errW_none, errW_some] <;> rfl), by repeat (first | (with_reducible first | exact HB.out | apply below_alloc | apply pw_below_drewN | apply below_drew1 | refine below_set ?_ GE194.out | refine below_set ?_ GE200.out) | exact HB.out)⟩
            · replace c15 := Bool.eq_false_iff.mpr c15
              subst c15
              have H1 : (some t199) = some r := by rw [if_neg (show ¬ (false = true) by decide)] at H; exact H
              clear H
              have H := H1
              clear H1
              obtain rfl := Option.some.inj H
              go_enter Tryd.func3, Tryd.ntmps3
              go_wp2_with (first | ((with_reducible refine gate_callee (f := 5) rfl ?_); refine goesL_ (some 13) rfl rfl Tryd.func5 (by kernel_rfl) rfl #[.int .u32 a0] rfl (by (try simp only [List.map_toArray, List.map_cons, List.map_nil]); first | done | rfl | (simp only [List.length_drop, List.length_take]; rfl)) ?_; (with_reducible refine (laws_askTag.calls k a0 t182 _ A4.out).mono ?_); rintro e w29 ⟨rfl, hb⟩; refine ⟨_, rfl, ?_⟩; have n0_ := Aside0.mk (below_step (by repeat (first | (with_reducible first | exact HB.out | apply below_alloc | apply pw_below_drewN | apply below_drew1) | exact HB.out)) hb); clear HB; have HB := n0_; clear n0_; (try clear hb); (try clear hb2); (try clear hk); (try clear hi)) | ((with_reducible refine gate_callee (f := 6) rfl ?_); refine goesL_ (some 17) rfl rfl Tryd.func6 (by kernel_rfl) rfl #[.int .i64 (wrap64 (a2))] rfl (by (try simp only [List.map_toArray, List.map_cons, List.map_nil]); first | done | rfl | (simp only [List.length_drop, List.length_take]; rfl)) ?_; (with_reducible refine (strconv_Itoa.calls (wrap64 (a2)) t183 _ A6.out (tab_below GG (by repeat (first | (with_reducible first | exact HB.out | apply below_alloc | apply pw_below_drewN | apply below_drew1 | refine below_set ?_ GE173.out | refine below_set ?_ GE179.out | refine below_set ?_ GE194.out | refine below_set ?_ GE200.out) | exact HB.out)))).mono ?_); rintro e w30 ⟨rfl, hb⟩; refine ⟨_, rfl, ?_⟩; have n0_ := Aside0.mk (below_step (by repeat (first | (with_reducible first | exact HB.out | apply below_alloc | apply pw_below_drewN | apply below_drew1) | exact HB.out)) hb); clear HB; have HB := n0_; clear n0_; (try clear hb); (try clear hb2); (try clear hk); (try clear hi)) | ((with_reducible refine gate_callee (f := 5) rfl ?_); refine goesL_ (some 20) rfl rfl Tryd.func5 (by kernel_rfl) rfl #[.int .u32 a0] rfl (by (try simp only [List.map_toArray, List.map_cons, List.map_nil]); first | done | rfl | (simp only [List.length_drop, List.length_take]; rfl)) ?_; (with_reducible refine (laws_askTag.calls k a0 t184 _ A8.out).mono ?_); rintro e w31 ⟨rfl, hb⟩; refine ⟨_, rfl, ?_⟩; have n0_ := Aside0.mk (below_step (by repeat (first | (with_reducible first | exact HB.out | apply below_alloc | apply pw_below_drewN | apply below_drew1) | exact HB.out)) hb); clear HB; have HB := n0_; clear n0_; (try clear hb); (try clear hb2); (try clear hk); (try clear hi)) | ((with_reducible refine gate_dst (N := 22) rfl ?_); refine Kd.R_lit Kd.string _ 9 ?hg (N := 22) ?hd (xs := ([(⟨#[]⟩ : ByteArray), (⟨#[43]⟩ : ByteArray), (⟨#[45]⟩ : ByteArray), (⟨#[91, 51, 93]⟩ : ByteArray), (⟨#[61, 49]⟩ : ByteArray), (t182 ++ (⟨#[91]⟩ : ByteArray)) ++ t183, t184 ++ (⟨#[91, 49, 58, 50]⟩ : ByteArray)] : List ByteArray)) (inner := [.string (⟨#[]⟩ : ByteArray), .string (⟨#[43]⟩ : ByteArray), .string (⟨#[45]⟩ : ByteArray), .string (⟨#[91, 51, 93]⟩ : ByteArray), .string (⟨#[61, 49]⟩ : ByteArray), .string ((t182 ++ (⟨#[91]⟩ : ByteArray)) ++ t183), .string (t184 ++ (⟨#[91, 49, 58, 50]⟩ : ByteArray))]) (ok := fun _ => True) (okp := fun _ => True) ?hr ?hp (fun _ hk => hk) trivial (Below.refl _ _) (Nat.le_refl _) (by simp) ?_; (case hd => rfl); (case hg => rfl); (case hr => first | (go_simp; done) | (go_simp; rfl)); (case hp => exact (Reps.one (show Kd.M Kd.string _ _ _ (⟨#[]⟩ : ByteArray) [.string (⟨#[]⟩ : ByteArray)] from rfl) (Reps.one (show Kd.M Kd.string _ _ _ (⟨#[43]⟩ : ByteArray) [.string (⟨#[43]⟩ : ByteArray)] from rfl) (Reps.one (show Kd.M Kd.string _ _ _ (⟨#[45]⟩ : ByteArray) [.string (⟨#[45]⟩ : ByteArray)] from rfl) (Reps.one (show Kd.M Kd.string _ _ _ (⟨#[91, 51, 93]⟩ : ByteArray) [.string (⟨#[91, 51, 93]⟩ : ByteArray)] from rfl) (Reps.one (show Kd.M Kd.string _ _ _ (⟨#[61, 49]⟩ : ByteArray) [.string (⟨#[61, 49]⟩ : ByteArray)] from rfl) (Reps.one (show Kd.M Kd.string _ _ _ ((t182 ++ (⟨#[91]⟩ : ByteArray)) ++ t183) [.string ((t182 ++ (⟨#[91]⟩ : ByteArray)) ++ t183)] from rfl) (Reps.one (show Kd.M Kd.string _ _ _ (t184 ++ (⟨#[91, 49, 58, 50]⟩ : ByteArray)) [.string (t184 ++ (⟨#[91, 49, 58, 50]⟩ : ByteArray))] from rfl) (Reps.none _ _))))))))); intro v186 w32 ho33 hb hg_ hnew_; clear hg_ hnew_; (first | rw [← Ny185.out] at ho33 | (simp only [Int.reduceToNat] at ho33; rw [← Ny185.out] at ho33)); have n0_ := Aside0.mk (Kd.R_lower ho33 (below_size (by repeat (first | (with_reducible first | exact HB.out | apply below_alloc | apply pw_below_drewN | apply below_drew1) | exact HB.out)))); have n1_ := Aside0.mk (below_step (by repeat (first | (with_reducible first | exact HB.out | apply below_alloc | apply pw_below_drewN | apply below_drew1) | exact HB.out)) hb); clear HB; have HO187 := n0_; have HB := n1_; clear n0_ n1_; clear hb ho33; obtain ⟨Ao34, co34, eo34⟩ := Kd.R_slice HO187.out; subst eo34; have p188 : 0 ≤ ((ji10) : Int) := of_decide_eq_true (by first | (with_reducible assumption) | assumption); have q188 : (ji10) < (y185.length : Int) := of_decide_eq_true (by first | (with_reducible assumption) | assumption); obtain ⟨ad188, e188, hx188_0⟩ := Kd.at_string (Kd.R_reads' HO187.out).2.2 (ji10) p188 q188; cases e188; replace p188 := eq_true p188; replace q188 := eq_true q188) | ((with_reducible refine gate_callee (f := 7) rfl ?_); refine goesL_ (some 29) rfl rfl Tryd.func7 (by kernel_rfl) rfl #[.string (rdOf ByteArray.empty y185 (ji10))] rfl (by (try simp only [List.map_toArray, List.map_cons, List.map_nil]); first | done | (simp only [hji10]; rfl) | rfl | (simp only [List.length_drop, List.length_take]; rfl)) ?_; (with_reducible refine (impl_AskOf.calls k (rdOf ByteArray.empty y185 (ji10)) t189 t190 t191 t192 false _ A13.out (tab_below GG (by repeat (first | (with_reducible first | exact HB.out | apply below_alloc | apply pw_below_drewN | apply below_drew1 | refine below_set ?_ GE173.out | refine below_set ?_ GE179.out | refine below_set ?_ GE194.out | refine below_set ?_ GE200.out) | exact HB.out)))).mono ?_); rintro e w35 ⟨rfl, hb⟩; refine ⟨_, rfl, ?_⟩; have n0_ := Aside0.mk (Kd.R_below (by (with_reducible repeat (first | apply Kd.R_alloc | apply Kd.R_drewN | apply Kd.R_drew)); exact HO187.out) hb); have n1_ := Aside0.mk (below_step (by repeat (first | (with_reducible first | exact HB.out | apply below_alloc | apply pw_below_drewN | apply below_drew1) | exact HB.out)) hb); clear HO187; clear HB; have HO187 := n0_; have HB := n1_; clear n0_ n1_; (try clear hb); (try clear hb2); (try clear hk); (try clear hi)) | ((with_reducible refine gate_dst (N := 8) rfl ?_); refine box_event ?hg (N := 8) ?hd (cs := #[.string (⟨#[]⟩ : ByteArray), .int .u32 0, .int .i64 0, .int .i64 0]) (t := 28) ?hr ?_; (case hd => rfl); (case hg => rfl); (case hr => first | (go_simp; done) | (go_simp; rfl)); intro gb194 hg w36 hbox hb; have n0_ := Aside0.mk (Kd.R_below (by (with_reducible repeat (first | apply Kd.R_alloc | apply Kd.R_drewN | apply Kd.R_drew)); exact HO187.out) hb); have n1_ := Aside0.mk (below_step (by repeat (first | (with_reducible first | exact HB.out | apply below_alloc | apply pw_below_drewN | apply below_drew1) | exact HB.out)) hb); have n2_ := Aside0.mk (hbox); have n3_ := Aside0.mk ((by rw [hg]; exact (below_size (by repeat (first | (with_reducible first | exact HB.out | apply below_alloc | apply pw_below_drewN | apply below_drew1) | exact HB.out))) : w.heap.size ≤ gb194)); have n4_ := Aside0.mk ((by rw [hg]; exact (below_size (by repeat (first | (with_reducible first | exact HB.out | apply below_alloc | apply pw_below_drewN | apply below_drew1) | exact HB.out))) : w.heap.size ≤ gb194)); clear HO187; clear HB; have HO187 := n0_; have HB := n1_; have BK194 := n2_; have GW194 := n3_; have GE194 := n4_; clear n0_ n1_ n2_ n3_ n4_; clear hb hbox hg; have hcz37_0 : w36.cell? ⟨gb194, 0, none⟩ = some (.string (⟨#[]⟩ : ByteArray)) := (blk_cell BK194.out 0).trans rfl; have hcz37_1 : w36.cell? ⟨gb194, 1, none⟩ = some (.int .u32 0) := (blk_cell BK194.out 1).trans rfl; have hcz37_2 : w36.cell? ⟨gb194, 2, none⟩ = some (.int .i64 0) := (blk_cell BK194.out 2).trans rfl; have hcz37_3 : w36.cell? ⟨gb194, 3, none⟩ = some (.int .i64 0) := (blk_cell BK194.out 3).trans rfl; have hfz37_0 := blk_frozen BK194.out 0; have hfz37_1 := blk_frozen BK194.out 1; have hfz37_2 := blk_frozen BK194.out 2; have hfz37_3 := blk_frozen BK194.out 3) | ((with_reducible refine gate_callee (f := 7) rfl ?_); refine goesL_ (some 33) rfl rfl Tryd.func7 (by kernel_rfl) rfl #[.string (⟨#[107, 101, 114, 110]⟩ : ByteArray)] rfl (by (try simp only [List.map_toArray, List.map_cons, List.map_nil]); first | done | rfl | (simp only [List.length_drop, List.length_take]; rfl)) ?_; (with_reducible refine (impl_AskOf.calls k (⟨#[107, 101, 114, 110]⟩ : ByteArray) t195 t196 t197 t198 t199 _ A14.out (tab_below GG (by repeat (first | (with_reducible first | exact HB.out | apply below_alloc | apply pw_below_drewN | apply below_drew1 | refine below_set ?_ GE173.out | refine below_set ?_ GE179.out | refine below_set ?_ GE194.out | refine below_set ?_ GE200.out) | exact HB.out)))).mono ?_); rintro e w38 ⟨rfl, hb⟩; refine ⟨_, rfl, ?_⟩; have n0_ := Aside0.mk (Kd.R_below (by (with_reducible repeat (first | apply Kd.R_alloc | apply Kd.R_drewN | apply Kd.R_drew)); exact (Kd.R_mono (Kd.R_far (p := ⟨gb194, 3, none⟩) (Kd.R_far (p := ⟨gb194, 2, none⟩) (Kd.R_far (p := ⟨gb194, 1, none⟩) (Kd.R_far (p := ⟨gb194, 0, none⟩) (Kd.R_types HO187.out BK194.out (by decide)) (fun _ hk => hk.2) (.string t189)) (fun _ hk => hk.2) (.int .u32 t190)) (fun _ hk => hk.2) (.int .i64 t191)) (fun _ hk => hk.2) (.int .i64 t192)) (fun _ h_ => h_.1))) hb); have n1_ := Aside0.mk (blk_below (g := gb194) (o := .cells #[.string t189, .int .u32 t190, .int .i64 t191, .int .i64 t192] 28 (0, 0)) (by (with_reducible repeat (first | refine blk_drewN ?_ _ | refine blk_drew ?_ | refine blk_alloc ?_ _)); refine blk_put (cs := #[.string t189, .int .u32 t190, .int .i64 t191, .int .i64 0]) ?_ 3 _ rfl; (with_reducible repeat (first | refine blk_drewN ?_ _ | refine blk_drew ?_ | refine blk_alloc ?_ _)); refine blk_put (cs := #[.string t189, .int .u32 t190, .int .i64 0, .int .i64 0]) ?_ 2 _ rfl; (with_reducible repeat (first | refine blk_drewN ?_ _ | refine blk_drew ?_ | refine blk_alloc ?_ _)); refine blk_put (cs := #[.string t189, .int .u32 0, .int .i64 0, .int .i64 0]) ?_ 1 _ rfl; (with_reducible repeat (first | refine blk_drewN ?_ _ | refine blk_drew ?_ | refine blk_alloc ?_ _)); refine blk_put (cs := #[.string (⟨#[]⟩ : ByteArray), .int .u32 0, .int .i64 0, .int .i64 0]) ?_ 0 _ rfl; (with_reducible repeat (first | refine blk_drewN ?_ _ | refine blk_drew ?_ | refine blk_alloc ?_ _)); exact BK194.out) hb); have n2_ := Aside0.mk (below_step (by repeat (first | (with_reducible first | exact HB.out | apply below_alloc | apply pw_below_drewN | apply below_drew1 | refine below_set ?_ GE194.out) | exact HB.out)) hb); clear HO187; clear BK194; clear HB; have HO187 := n0_; have BK194 := n1_; have HB := n2_; clear n0_ n1_ n2_; (try clear hb); (try clear hb2); (try clear hk); (try clear hi)) | ((with_reducible refine gate_dst (N := 10) rfl ?_); refine box_event ?hg (N := 10) ?hd (cs := #[.string (⟨#[]⟩ : ByteArray), .int .u32 0, .int .i64 0, .int .i64 0]) (t := 28) ?hr ?_; (case hd => rfl); (case hg => rfl); (case hr => first | (go_simp; done) | (go_simp; rfl)); intro gb200 hg w39 hbox hb; have n0_ := Aside0.mk (Kd.R_below (by (with_reducible repeat (first | apply Kd.R_alloc | apply Kd.R_drewN | apply Kd.R_drew)); exact HO187.out) hb); have n1_ := Aside0.mk (blk_below (g := gb194) (o := .cells #[.string t189, .int .u32 t190, .int .i64 t191, .int .i64 t192] 28 (0, 0)) (by (with_reducible repeat (first | refine blk_drewN ?_ _ | refine blk_drew ?_ | refine blk_alloc ?_ _)); exact BK194.out) hb); have n2_ := Aside0.mk (below_step (by repeat (first | (with_reducible first | exact HB.out | apply below_alloc | apply pw_below_drewN | apply below_drew1 | refine below_set ?_ GE194.out) | exact HB.out)) hb); have n3_ := Aside0.mk (hbox); have n4_ := Aside0.mk ((by rw [hg]; exact (below_size (by repeat (first | (with_reducible first | exact HB.out | apply below_alloc | apply pw_below_drewN | apply below_drew1 | refine below_set ?_ GE194.out) | exact HB.out))) : w.heap.size ≤ gb200)); have n5_ := Aside0.mk ((by rw [hg]; exact (below_size (by repeat (first | (with_reducible first | exact HB.out | apply below_alloc | apply pw_below_drewN | apply below_drew1 | refine below_set ?_ GE194.out) | exact HB.out))) : w.heap.size ≤ gb200)); have n6_ := Aside0.mk ((by rw [hg]; exact Nat.ne_of_lt (blk_lt (g := gb194) (o := .cells #[.string t189, .int .u32 t190, .int .i64 t191, .int .i64 t192] 28 (0, 0)) (by (with_reducible repeat (first | refine blk_drewN ?_ _ | refine blk_drew ?_ | refine blk_alloc ?_ _)); exact BK194.out)) : gb194 ≠ gb200)); have n7_ := Aside0.mk ((by rw [hg]; exact Nat.ne_of_gt (blk_lt (g := gb194) (o := .cells #[.string t189, .int .u32 t190, .int .i64 t191, .int .i64 t192] 28 (0, 0)) (by (with_reducible repeat (first | refine blk_drewN ?_ _ | refine blk_drew ?_ | refine blk_alloc ?_ _)); exact BK194.out)) : gb200 ≠ gb194)); clear HO187; clear BK194; clear HB; have HO187 := n0_; have BK194 := n1_; have HB := n2_; have BK200 := n3_; have GW200 := n4_; have GE200 := n5_; have NB194_200 := n6_; have NB200_194 := n7_; clear n0_ n1_ n2_ n3_ n4_ n5_ n6_ n7_; clear hb hbox hg; have hnb40 := NB200_194.out; have hnc40 := NB194_200.out; have hcz41_0 : w39.cell? ⟨gb200, 0, none⟩ = some (.string (⟨#[]⟩ : ByteArray)) := (blk_cell BK200.out 0).trans rfl; have hcz41_1 : w39.cell? ⟨gb200, 1, none⟩ = some (.int .u32 0) := (blk_cell BK200.out 1).trans rfl; have hcz41_2 : w39.cell? ⟨gb200, 2, none⟩ = some (.int .i64 0) := (blk_cell BK200.out 2).trans rfl; have hcz41_3 : w39.cell? ⟨gb200, 3, none⟩ = some (.int .i64 0) := (blk_cell BK200.out 3).trans rfl; have hfz41_0 := blk_frozen BK200.out 0; have hfz41_1 := blk_frozen BK200.out 1; have hfz41_2 := blk_frozen BK200.out 2; have hfz41_3 := blk_frozen BK200.out 3))
              go_ret
              exact ⟨by first | rfl | (simp [errW_none, errW_some] <;> rfl) | (simp only [← hji10]; first | rfl | (simp [errW_none, errW_some] <;> rfl)) | (simp [*, errW_none, errW_some] <;> rfl), by repeat (first | (with_reducible first | exact HB.out | apply below_alloc | apply pw_below_drewN | apply below_drew1 | refine below_set ?_ GE194.out | refine below_set ?_ GE200.out) | exact HB.out)⟩
          · rw [if_neg c12] at H
            exact absurd H (by simp)
        · rw [if_neg c11] at H
          exact absurd H (by simp)
      · rw [if_neg c9] at H
        exact absurd H (by simp)
    · rw [if_neg c7] at H
      exact absurd H (by simp)
  · rw [if_neg c5] at H
    exact absurd H (by simp)

/-- THE ONE PURE STATEMENT of laws_FnAskNone: yours. -/
def laws_FnAskNone.Pure : Prop := ∀ (a0 : Int) (a1 : Int) (a2 : Int), (Lit.int .u32 a0).wf = true → (Lit.int .u8 a1).wf = true → (Lit.int .u16 a2).wf = true → ∃ k, laws_FnAskNone.f k a0 a1 a2 = some true
theorem laws_FnAskNone.walk (P : laws_FnAskNone.Pure) (a0 : Int) (a1 : Int) (a2 : Int) (w : World) (w0 : (Lit.int .u32 a0).wf = true) (w1 : (Lit.int .u8 a1).wf = true) (w2 : (Lit.int .u16 a2).wf = true) (GG : Tab w) :
    Calls Tryd.prog 3 #[.int .u32 a0, .int .u8 a1, .int .u16 a2] w fun e w' => e = .returned (.bool true) ∧ Below w.heap.size w w' := by
  obtain ⟨k, h⟩ := P a0 a1 a2 w0 w1 w2
  refine (laws_FnAskNone.calls k a0 a1 a2 true w h GG).mono ?_
  rintro e w' ⟨rfl, hd⟩
  exact ⟨rfl, hd⟩

end Go.Proofs.YtlclakahgmoafaaDoor.PFnAskNone
