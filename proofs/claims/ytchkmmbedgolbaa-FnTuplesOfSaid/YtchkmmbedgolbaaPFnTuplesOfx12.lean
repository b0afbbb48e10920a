-- Written by a program of this session (xprint) out of the translation; Lean checks it.
import Derived.Test.YtchkmmbedgolbaaPFnTuplesOfx0
import Derived.Test.YtchkmmbedgolbaaPFnTuplesOfx9
namespace Go.Proofs.Ytchkmmbedgolbaa.PFnTuplesOf
open Go.RowKit Go.Proofs.YtchkmmbedgolbaaW.PrintWords Go.Proofs.YtchkmmbedgolbaaW.PrintLast Go.Proofs.YtchkmmbedgolbaaW.PrintMore
attribute [local go_sem] max2_int min2_int max_two min_two max_three min_three max_four min_four   -- for this text's walks alone
set_option linter.unusedVariables false
set_option linter.unusedSimpArgs false
theorem prx12 {P : Program} {ops : Array Oper} {Q : Exit → Act → World → Prop} {md : Region.Mode} {S : World → Prop} {ds : List Nat} (i N : Nat) {oi : Oper} {v : Value} {fuel : Nat} {l : Array Bool} {a : Act} {w : World} (l' : Array Bool) {a' : Act} (h : wpAnyLast P md ops Q S ds fuel l' a' w) (hi : ops[i]? = some oi := by rfl) (hN : oi.dst = some N := by rfl) (hc : anyB md ops l l' i = true := by first | exact any_of HT_.out (by kernel_rfl) | kernel_rfl) (hQ : ∀ c a w, Q (.panic c) (a.put oi.dst v) w → Q (.panic c) a w := by exact fun _ _ _ h => h) (hy : Yields P ops oi v a := by refine Or.inl ⟨by rfl, ?_⟩; intro w'; go_simp; with_reducible rfl) (ha : a.put (some N) v = a' := by first | (simp only [Act.put, L1_, L2_, L3_, i64_w, i32_w]; rfl) | ((try go_ints); (try simp (disch := omega) only [n3_]); simp only [Act.put, L1_, L2_, L3_, i64_w, i32_w]; rfl)) : wpAnyLast P md ops Q S ds (fuel + 1) l a w := pure_ l' hi hN hc hQ hy ha h
theorem z12_6 {p : Prop} (h : p := by (with_reducible repeat (first | apply b1_ | apply b2_ | apply b3_)); exact BK390.out) : p := h
theorem z12_5 {p : Prop} (h : p := by kernel_rfl) : p := h
theorem z12_4 {p : Prop} (h : p := by (with_reducible repeat (first | apply b1_ | apply b2_ | apply b3_)); refine blk_put (cs := #[.slice none 0 0]) ?_ 0 _ rfl; (with_reducible repeat (first | apply b1_ | apply b2_ | apply b3_)); exact BK389.out) : p := h
theorem z12_3 {p : Prop} (h : p := by rw [hg]; exact (below_size z12_0)) : p := h
theorem z12_2 {p : Prop} (h : p := by first | (with_reducible assumption) | assumption) : p := h
theorem z12_1 {p : Prop} (h : p := by (with_reducible repeat (first | apply b1_ | apply b2_ | apply b3_)); exact BK389.out) : p := h
theorem z12_0 {p : Prop} (h : p := by repeat (first | (with_reducible first | exact HB.out | apply below_alloc | apply pw_below_drewN | apply below_drew1 | refine below_set ?_ GB28.out | refine below_set ?_ GE389.out | refine below_set ?_ GE390.out) | exact HB.out)) : p := h

def tPT.l0 : Nat → List Int → Int → Int → Int → Int → List Int → Option (List Int × Int × Option Int)
 | 0, _, _, _, _, _, _ => none
 | k + 1, x0, x1, x8, x24, x25, x391000 => if x25 < x24 then (if 0 ≤ (wrap64 (x25 * 2)) then (if (wrap64 (x25 * 2)) ≤ (x0.length : Int) then ((bU.f (x0.drop ((wrap64 (x25 * 2)) : Int).toNat)).bind fun t396 => (if 0 ≤ x25 then (if x25 < (x391000.length : Int) then (tPT.l0 k x0 x1 x8 x24 (wrap64 (x25 + 1)) (x391000.set (x25 : Int).toNat (IntKind.i16.wrap (t396)))) else (none)) else (none))) else (none)) else (none)) else (some (x391000, wrap64 (x8 + (wrap64 (x1 * 2))), none))
def tPT.f (k : Nat) (l0 : List Int) (a1 : Int) : Option (List Int × Int × Option Int) := if (l0.length : Int) < (wrap64 (a1 * 2)) then ((eN.f (⟨#[114, 101, 97, 100, 105, 110, 103, 32, 84, 117, 112, 108, 101, 58, 32, 69, 79, 70, 58, 32, 101, 120, 112, 101, 99, 116, 101, 100, 32, 108, 101, 110, 103, 116, 104, 58, 32, 37, 100, 44, 32, 103, 111, 116, 32, 37, 100]⟩ : ByteArray)).bind fun t391 => (some (([] : List Int), 0, t391))) else (if 0 ≤ a1 then (if (a1 : Int).toNat ≤ 140737488355328 then ((some (List.replicate (a1 : Int).toNat 0 : List Int)).bind fun y392 => (tPT.l0 k l0 a1 0 (y392.length : Int) 0 y392)) else (none)) else (none))
theorem tPT.mono_l : ∀ k, (∀ y0 y1 y2 y3 y4 y5, LeO (tPT.l0 k y0 y1 y2 y3 y4 y5) (tPT.l0 (k + 1) y0 y1 y2 y3 y4 y5))
 | 0 => fun _ _ _ _ _ _ r h => by simp [tPT.l0] at h
 | k + 1 => by
  have ih0 := tPT.mono_l k
  ·intro y0 y1 y2 y3 y4 y5
   unfold tPT.l0
   repeat' first
   | (with_reducible exact ih0 _ _ _ _ _ _)
   | (with_reducible exact LeO.refl _)
   | (with_reducible exact LeO.none _)
   | (with_reducible refine LeO.ite ?_ ?_)
   | (with_reducible refine LeO.bind ?_ (fun _ => ?_))
theorem tPT.mono : ∀ a0 a1 k, LeO (tPT.f k a0 a1) (tPT.f (k + 1) a0 a1) := by
 intro a0 a1 k
 have ih0 := tPT.mono_l k
 unfold tPT.f
 repeat' first
   | (with_reducible exact ih0 _ _ _ _ _ _)
   | (with_reducible exact LeO.refl _)
   | (with_reducible exact LeO.none _)
   | (with_reducible refine LeO.ite ?_ ?_)
   | (with_reducible refine LeO.bind ?_ (fun _ => ?_))
def tPT.T10 : Bool × List (List Nat × List Nat) := (true, [([], []), ([0], [0]), ([], []), ([], []), ([], []), ([], []), ([5], [5]), ([4, 6], [4, 6]), ([3, 7], [3, 7]), ([8], [8]), ([1, 2, 0, 1, 2, 3, 4, 5, 6, 7, 8, 9], [1, 2]), ([10, 9, 8, 0, 1, 2, 3, 4, 5, 6, 7, 8, 9], [9, 10])])
def tPT.B10 : List Nat := [0, 1, 0, 0, 0, 0, 32, 112, 248, 504, 1023, 2047]
theorem tPT.tab10 : rtab .any (opsOf Try.f96 10) = tPT.T10 := by kernel_rfl
theorem tPT.bits10 : waitsOk tPT.T10.2 tPT.B10 = true := by kernel_rfl
set_option maxHeartbeats 8000000 in
set_option maxRecDepth 100000 in
theorem tPT.calls (k : Nat) (A0 : Option Addr) (c0 : Nat) (l0 : List Int) (a1 : Int) (r1 : List Int) (r2 : Int) (r3 : Option Int) (w : World) (hr0 : Kd.C (Kd.int .u8) w A0 l0.length l0) (hc0 : l0.length ≤ c0) (h : tPT.f k l0 a1 = some (r1, r2, r3)) :
  Calls Try.prog 96 #[.slice A0 l0.length c0, .int .i64 a1] w fun e w' => ∃ v0_ : Value, ∃ e2_ : Value, e = .returned (.tuple #[.agg #[v0_], .int .i64 r2, e2_]) ∧ Kd.R (Kd.int .i16) 145 w' w.heap.size (fun _ => True) v0_ r1 ∧ EV e2_ r3 ∧ Below w.heap.size w w' := by
 have hu164 := Try.underlying164
 have HR0 := Aside0.mk hr0
 have HC0 := Aside0.mk hc0
 clear hr0 hc0
 have HB := Aside0.mk (Below.refl w.heap.size w)
 have H : (if (l0.length : Int) < (wrap64 (a1 * 2)) then ((eN.f (⟨#[114, 101, 97, 100, 105, 110, 103, 32, 84, 117, 112, 108, 101, 58, 32, 69, 79, 70, 58, 32, 101, 120, 112, 101, 99, 116, 101, 100, 32, 108, 101, 110, 103, 116, 104, 58, 32, 37, 100, 44, 32, 103, 111, 116, 32, 37, 100]⟩ : ByteArray)).bind fun t391 => (some (([] : List Int), 0, t391))) else (if 0 ≤ a1 then (if (a1 : Int).toNat ≤ 140737488355328 then ((some (List.replicate (a1 : Int).toNat 0 : List Int)).bind fun y392 => (tPT.l0 k l0 a1 0 (y392.length : Int) 0 y392)) else (none)) else (none))) = some (r1, r2, r3) := h
 clear h
 by_cases c3 : (l0.length : Int) < (wrap64 (a1 * 2))
 ·rw [if_pos c3] at H
  have c3b0 : decide ((l0.length : Int) < (wrap64 (a1 * 2))) = true := decide_eq_true c3
  clear c3
  replace H := Option.bind_eq_some_iff.mp H
  obtain ⟨t391, A40, H⟩ := H
  replace H : (some (([] : List Int), 0, t391)) = some (r1, r2, r3) := H
  have A4 := Aside0.mk A40
  clear A40
  simp only [Option.some.injEq, Prod.mk.injEq] at H
  obtain ⟨rfl, rfl, rfl⟩ := H
  go_enter Try.func96, Try.ntmps96
  try go_wp2_with (first | ((with_reducible refine gate_dst (N := 4) rfl ?_); refine box_event ?hg (N := 4) ?hd (cs := #[.slice none 0 0]) (t := 164) ?hr ?_; (case hd => rfl); (case hg => rfl); (case hr => first | (go_simp; done) | (go_simp; rfl)); intro gb389 hg w5 hbox hb; have n0_ := Aside0.mk (below_step z12_0 hb); have n1_ := Aside0.mk (hbox); have n2_ := Aside0.mk ((z12_3 : w.heap.size ≤ gb389)); have n3_ := Aside0.mk ((z12_3 : w.heap.size ≤ gb389)); clear HB; have HB := n0_; have BK389 := n1_; have GW389 := n2_; have GE389 := n3_; clear n0_ n1_ n2_ n3_; clear hb hbox hg) | ((with_reducible refine gate_dst (N := 7) rfl ?_); refine box_event ?hg (N := 7) ?hd (cs := #[.slice none 0 0]) (t := 164) ?hr ?_; (case hd => rfl); (case hg => rfl); (case hr => first | (go_simp; done) | (go_simp; rfl)); intro gb390 hg w6 hbox hb; have n0_ := Aside0.mk (blk_below (g := gb389) (o := .cells #[.slice none 0 0] 164 (0, 0)) z12_1 hb); have n1_ := Aside0.mk (below_step z12_0 hb); have n2_ := Aside0.mk (hbox); have n3_ := Aside0.mk ((z12_3 : w.heap.size ≤ gb390)); have n4_ := Aside0.mk ((z12_3 : w.heap.size ≤ gb390)); have n5_ := Aside0.mk ((by rw [hg]; exact Nat.ne_of_lt (blk_lt (g := gb389) (o := .cells #[.slice none 0 0] 164 (0, 0)) z12_1) : gb389 ≠ gb390)); have n6_ := Aside0.mk ((by rw [hg]; exact Nat.ne_of_gt (blk_lt (g := gb389) (o := .cells #[.slice none 0 0] 164 (0, 0)) z12_1) : gb390 ≠ gb389)); clear BK389; clear HB; have BK389 := n0_; have HB := n1_; have BK390 := n2_; have GW390 := n3_; have GE390 := n4_; have NB389_390 := n5_; have NB390_389 := n6_; clear n0_ n1_ n2_ n3_ n4_ n5_ n6_; clear hb hbox hg))
  have n0_ := Aside0.mk (blk_drew BK389.out)
  have n1_ := Aside0.mk (blk_drew BK390.out)
  have n2_ := Aside0.mk (below_drew1 HB.out)
  clear BK389
  clear BK390
  clear HB
  have BK389 := n0_
  have BK390 := n1_
  have HB := n2_
  clear n0_ n1_ n2_
  refine start_ (n := 5) (S := fun w' => w'.cell? ⟨gb390, 0, none⟩ = some (.slice none 0 0)) (ds := []) #[false, false, false, false, false] z12_5 rfl rfl ((blk_cell BK390.out 0).trans rfl) (fun hHeld => ?_)
  generalize w6.drew = w7 at BK389 BK390 HB hHeld ⊢
  refine take_ (i := 0) (N := some 17) (v := ?_) (a' := ?_) #[true, false, false, false, false] rfl rfl z12_5 (fun _ _ _ h => h) (Or.inl ⟨by rfl, ?_⟩) hHeld ?_ ?_
  rotate_left
  ·intro w' s0
   go_simp
   with_reducible rfl
  rotate_left
  ·simp only [Act.put, L1_, L2_, L3_, i64_w, i32_w]
   rfl
  refine one_ (i := 1) (N := some 18) #[true, true, false, false, false] rfl rfl z12_5 (by decide) (fun K hK => ?_)
  refine goes_ Try.func56 z12_5 rfl #[.string (⟨#[114, 101, 97, 100, 105, 110, 103, 32, 84, 117, 112, 108, 101, 58, 32, 69, 79, 70, 58, 32, 101, 120, 112, 101, 99, 116, 101, 100, 32, 108, 101, 110, 103, 116, 104, 58, 32, 37, 100, 44, 32, 103, 111, 116, 32, 37, 100]⟩ : ByteArray)] (by rfl) rfl rfl (by (try simp only [List.map_toArray, List.map_cons, List.map_nil]); first | done | rfl | (simp only [List.length_drop, List.length_take]; rfl)) ?_
  with_reducible refine (eN.calls (⟨#[114, 101, 97, 100, 105, 110, 103, 32, 84, 117, 112, 108, 101, 58, 32, 69, 79, 70, 58, 32, 101, 120, 112, 101, 99, 116, 101, 100, 32, 108, 101, 110, 103, 116, 104, 58, 32, 37, 100, 44, 32, 103, 111, 116, 32, 37, 100]⟩ : ByteArray) t391 _ A4.out).mono ?_
  rintro e w10 ⟨ev8, rfl, he9, hb⟩
  refine ⟨_, rfl, ?_⟩
  have n0_ := Aside0.mk (blk_below (g := gb389) (o := .cells #[.slice none 0 0] 164 (0, 0)) z12_1 hb)
  have n1_ := Aside0.mk (blk_below (g := gb390) (o := .cells #[.slice none 0 0] 164 (0, 0)) z12_6 hb)
  have n2_ := Aside0.mk (below_step z12_0 hb)
  clear BK389
  clear BK390
  clear HB
  have BK389 := n0_
  have BK390 := n1_
  have HB := n2_
  clear n0_ n1_ n2_
  clear hb
  (first | (obtain rfl := EV_none he9) | (obtain ⟨te_, pe_, rfl⟩ := EV_some he9) | skip)
  refine hK.out _ _ ((blk_cell BK390.out 0).trans rfl) (fun hHeld => ?_)
  clear hK K
  refine norm_ (a' := ?_) ?_ ?_
  rotate_left
  ·show Act.put _ (some 18) _ = _
   simp only [Act.put, L1_, L2_, L3_, i64_w, i32_w]
   rfl
  refine one_ (i := 2) (N := none) #[true, true, true, false, false] rfl rfl z12_5 (by decide) (fun K hK => ?_)
  have hs11 : w10.cell? ⟨gb389, 0, none⟩ = some (.slice none 0 0) := (blk_cell BK389.out 0).trans rfl
  have hfs11 := blk_frozen BK389.out 0
  have hns11_1 := NB390_389.out
  have hms11_1 := NB389_390.out
  refine skip_ (w1 := ?_) (by rfl) rfl ?_ ?_
  rotate_left
  ·go_simp
   rfl
  refine hK.out _ _ (((cell_far (p := ⟨gb389, _, none⟩) NB390_389.out _).trans (hHeld))) (fun hHeld => ?_)
  clear hK K
  refine prx12 3 5 #[true, true, true, true, false] ?_
  refine prx12 4 6 #[true, true, true, true, true] ?_
  refine done_ z12_5 ?_
  try go_wp2
  refine bodyPost_ret (results_ctt rfl _ _ gb389 164 #[.slice none 0 0] (0, 0) _ rfl z12_4 Try.underlying164 rfl z12_5) rfl ?_
  exact ⟨_, _, by first | rfl | (simp [errW_none, errW_some] <;> rfl) | (simp [*, errW_none, errW_some] <;> rfl), by first | exact Kd.R_nil _ _ _ _ _ | exact Kd.N_nil _ _ _ _ _ | exact Kd.V_nil _ _ _ _ _ | exact Kd.Q_nil _ _ _ _ _ | exact Kd.S_nil _ _ _ _ _, (by first | assumption | exact rfl | exact ⟨_, _, rfl⟩), by repeat (first | (with_reducible first | exact HB.out | apply below_alloc | apply pw_below_drewN | apply below_drew1 | refine below_set ?_ GB28.out | refine below_set ?_ GE389.out | refine below_set ?_ GE390.out) | exact HB.out)⟩
 ·rw [if_neg c3] at H
  have c3b0 : decide ((l0.length : Int) < (wrap64 (a1 * 2))) = false := decide_eq_false c3
  clear c3
  by_cases c12 : 0 ≤ a1
  rotate_left
  ·rw [if_neg c12] at H
   exact absurd H (by simp)
  rw [if_pos c12] at H
  have c12b0 := eq_true c12
  have c12b1 : decide (0 ≤ a1) = true := decide_eq_true c12
  clear c12
  by_cases c13 : (a1 : Int).toNat ≤ 140737488355328
  rotate_left
  ·rw [if_neg c13] at H
   exact absurd H (by simp)
  rw [if_pos c13] at H
  have c13b0 := eq_true c13
  have c13b1 : decide ((a1 : Int).toNat ≤ 140737488355328) = true := decide_eq_true c13
  clear c13
  obtain ⟨y392, hy392⟩ : ∃ y_ : List Int, y_ = (List.replicate (a1 : Int).toNat 0) := ⟨_, rfl⟩
  replace H : (tPT.l0 k l0 a1 0 (y392.length : Int) 0 y392) = some (r1, r2, r3) := by first | (rw [hy392]; with_reducible exact H) | (have H2_ := (Option.bind_some _ _).symm.trans H; rw [hy392]; with_reducible exact H2_) | (have H2_ := (Option.bind_some _ _).symm.trans H; with_reducible exact H2_) | with_reducible exact H | (rw [hy392]; exact H) | exact H
  have Ny392 := Aside0.mk hy392
  clear hy392
  have H' := Aside0.mk H
  clear H
  go_enter Try.func96, Try.ntmps96
  go_wp2_with (first | ((with_reducible refine gate_dst (N := 4) rfl ?_); refine box_event ?hg (N := 4) ?hd (cs := #[.slice none 0 0]) (t := 164) ?hr ?_; (case hd => rfl); (case hg => rfl); (case hr => first | (go_simp; done) | (go_simp; rfl)); intro gb389 hg w14 hbox hb; have n0_ := Aside0.mk (below_step z12_0 hb); have n1_ := Aside0.mk (hbox); have n2_ := Aside0.mk ((z12_3 : w.heap.size ≤ gb389)); have n3_ := Aside0.mk ((z12_3 : w.heap.size ≤ gb389)); clear HB; have HB := n0_; have BK389 := n1_; have GW389 := n2_; have GE389 := n3_; clear n0_ n1_ n2_ n3_; clear hb hbox hg) | ((with_reducible refine gate_dst (N := 7) rfl ?_); refine box_event ?hg (N := 7) ?hd (cs := #[.slice none 0 0]) (t := 164) ?hr ?_; (case hd => rfl); (case hg => rfl); (case hr => first | (go_simp; done) | (go_simp; rfl)); intro gb390 hg w15 hbox hb; have n0_ := Aside0.mk (blk_below (g := gb389) (o := .cells #[.slice none 0 0] 164 (0, 0)) z12_1 hb); have n1_ := Aside0.mk (below_step z12_0 hb); have n2_ := Aside0.mk (hbox); have n3_ := Aside0.mk ((z12_3 : w.heap.size ≤ gb390)); have n4_ := Aside0.mk ((z12_3 : w.heap.size ≤ gb390)); have n5_ := Aside0.mk ((by rw [hg]; exact Nat.ne_of_lt (blk_lt (g := gb389) (o := .cells #[.slice none 0 0] 164 (0, 0)) z12_1) : gb389 ≠ gb390)); have n6_ := Aside0.mk ((by rw [hg]; exact Nat.ne_of_gt (blk_lt (g := gb389) (o := .cells #[.slice none 0 0] 164 (0, 0)) z12_1) : gb390 ≠ gb389)); clear BK389; clear HB; have BK389 := n0_; have HB := n1_; have BK390 := n2_; have GW390 := n3_; have GE390 := n4_; have NB389_390 := n5_; have NB390_389 := n6_; clear n0_ n1_ n2_ n3_ n4_ n5_ n6_; clear hb hbox hg) | ((with_reducible refine gate_dst (N := 20) rfl ?_); refine Kd.R_make (Kd.int .i16) _ 145 rfl (N := 20) rfl 141 _ _ rfl a1 rfl rfl Try.underlying141 (.int .i16 0) 2 info145 rfl (by decide) (by omega) 0 (ok := fun _ => True) (okp := fun _ => True) rfl (fun _ hk => hk) trivial (of_decide_eq_true z12_2) (Nat.le_trans (Nat.mul_le_mul_right _ (of_decide_eq_true z12_2 : a1.toNat ≤ 140737488355328)) (by omega)) (Below.refl _ _) (Nat.le_refl _) ?_; intro v393 w16 ho17 hb hg_ hnew_; clear hg_ hnew_; (first | rw [← Ny392.out] at ho17 | (simp only [Int.reduceToNat] at ho17; rw [← Ny392.out] at ho17)); have n0_ := Aside0.mk (Kd.R_lower ho17 (below_size z12_0)); have n1_ := Aside0.mk (blk_below (g := gb389) (o := .cells #[.slice none 0 0] 164 (0, 0)) z12_1 hb); have n2_ := Aside0.mk (blk_below (g := gb390) (o := .cells #[.slice none 0 0] 164 (0, 0)) z12_6 hb); have n3_ := Aside0.mk (below_step z12_0 hb); clear BK389; clear BK390; clear HB; have HO394 := n0_; have BK389 := n1_; have BK390 := n2_; have HB := n3_; clear n0_ n1_ n2_ n3_; clear hb ho17; obtain ⟨Ao18, co18, eo18⟩ := Kd.R_slice HO394.out; subst eo18; have hnb19 := NB390_389.out; have hnc19 := NB389_390.out; have hcz20_0 : w16.cell? ⟨gb390, 0, none⟩ = some (.slice none 0 0) := (blk_cell BK390.out 0).trans rfl; have hfz20_0 := blk_frozen BK390.out 0))
  go_loopg [25] k (fun kq v25 w' => ∃ (x25_1 : Int) (x391000_1 : List Int) (u391000 : Value), v25 = .int .i64 x25_1 ∧ Aside0 (tPT.l0 kq l0 a1 0 (y392.length : Int) x25_1 x391000_1 = some (r1, r2, r3)) ∧ Aside0 (kq ≤ k) ∧ Aside0 (Kd.R (Kd.int .i16) 145 w' w.heap.size (fun _ => True) u391000 x391000_1) ∧ Aside0 (w'.heap[gb389]? = some (.cells #[(.slice none 0 0)] 164 (0, 0))) ∧ Aside0 (w'.heap[gb390]? = some (.cells #[u391000] 164 (0, 0))) ∧ Aside0 (Below w.heap.size w w'))
  case atStart => exact ⟨(0), (y392), (.slice Ao18 y392.length co18), (by first | rfl | (simp; done) | (simp [*]; done)), H', ⟨Nat.le_refl _⟩, ⟨by (with_reducible repeat (first | apply Kd.R_alloc | apply Kd.R_drewN | apply Kd.R_drew)); exact Kd.R_mono (Kd.R_far (p := ⟨gb390, 0, none⟩) (Kd.R_types HO394.out BK390.out (by decide)) (fun _ hk => hk.2) (.slice Ao18 y392.length co18)) (fun _ hk => trivial)⟩, ⟨by (with_reducible repeat (first | apply b1_ | apply b2_ | apply b3_)); refine blk_far ?_ NB389_390.out _; (with_reducible repeat (first | apply b1_ | apply b2_ | apply b3_)); exact BK389.out⟩, ⟨by (with_reducible repeat (first | apply b1_ | apply b2_ | apply b3_)); refine blk_put (cs := #[.slice none 0 0]) ?_ 0 _ rfl; (with_reducible repeat (first | apply b1_ | apply b2_ | apply b3_)); exact BK390.out⟩, ⟨z12_0⟩⟩
  case round =>
   clear H'
   clear c3b0 c12b0 c12b1 c13b0 c13b1 hcz20_0 hfz20_0
   obtain ⟨x25_1, x391000_1, u391000, rfl, HA, HK1, HO_391000, BK389, BK390, HB⟩ := hrel
   cases gk with
   | zero => exact absurd HA.out (by simp [tPT.l0])
   | succ k1 =>
    have H := HA.out
    clear HA
    simp only [tPT.l0] at H
    simp only [Int.zero_add] at H
    by_cases c21 : x25_1 < (y392.length : Int)
    ·rw [if_pos c21] at H
     have c21b0 : decide (x25_1 < (y392.length : Int)) = true := decide_eq_true c21
     clear c21
     obtain ⟨ji22, hji22⟩ : ∃ j_ : Int, (wrap64 (x25_1 * 2)) = j_ := ⟨_, rfl⟩
     replace H : (if 0 ≤ (ji22) then (if (ji22) ≤ (l0.length : Int) then ((bU.f (l0.drop ((ji22) : Int).toNat)).bind fun t396 => (if 0 ≤ x25_1 then (if x25_1 < (x391000_1.length : Int) then (tPT.l0 k1 l0 a1 0 (y392.length : Int) (wrap64 (x25_1 + 1)) (x391000_1.set (x25_1 : Int).toNat (IntKind.i16.wrap (t396)))) else (none)) else (none))) else (none)) else (none)) = some (r1, r2, r3) := by first | (rw [hji22] at H; exact H) | (simp only [hji22] at H ⊢; exact H)
     have hji22w : (IntKind.i64.wrap (x25_1 * 2)) = ji22 := (i64_w _).trans hji22
     by_cases c23 : 0 ≤ (ji22)
     rotate_left
     ·rw [if_neg c23] at H
      exact absurd H (by simp)
     rw [if_pos c23] at H
     have c23b0 := eq_true c23
     have c23b1 : decide (0 ≤ (ji22)) = true := decide_eq_true c23
     clear c23
     by_cases c24 : (ji22) ≤ (l0.length : Int)
     rotate_left
     ·rw [if_neg c24] at H
      exact absurd H (by simp)
     rw [if_pos c24] at H
     have c24b0 := eq_true c24
     have c24b1 : decide ((ji22) ≤ (l0.length : Int)) = true := decide_eq_true c24
     clear c24
     replace H := Option.bind_eq_some_iff.mp H
     obtain ⟨t396, A250, H⟩ := H
     replace H : (if 0 ≤ x25_1 then (if x25_1 < (x391000_1.length : Int) then (tPT.l0 k1 l0 a1 0 (y392.length : Int) (wrap64 (x25_1 + 1)) (x391000_1.set (x25_1 : Int).toNat (IntKind.i16.wrap (t396)))) else (none)) else (none)) = some (r1, r2, r3) := H
     have A25 := Aside0.mk A250
     clear A250
     by_cases c26 : 0 ≤ x25_1
     rotate_left
     ·rw [if_neg c26] at H
      exact absurd H (by simp)
     rw [if_pos c26] at H
     have c26b0 : decide (0 ≤ x25_1) = true := decide_eq_true c26
     clear c26
     by_cases c27 : x25_1 < (x391000_1.length : Int)
     rotate_left
     ·rw [if_neg c27] at H
      exact absurd H (by simp)
     rw [if_pos c27] at H
     have c27b0 : decide (x25_1 < (x391000_1.length : Int)) = true := decide_eq_true c27
     clear c27
     obtain ⟨y397, hy397⟩ : ∃ y_ : List Int, y_ = (x391000_1.set (x25_1 : Int).toNat (IntKind.i16.wrap (t396))) := ⟨_, rfl⟩
     replace H : (tPT.l0 k1 l0 a1 0 (y392.length : Int) (wrap64 (x25_1 + 1)) y397) = some (r1, r2, r3) := by first | (rw [hy397]; with_reducible exact H) | (have H2_ := (Option.bind_some _ _).symm.trans H; rw [hy397]; with_reducible exact H2_) | (have H2_ := (Option.bind_some _ _).symm.trans H; with_reducible exact H2_) | with_reducible exact H | (rw [hy397]; exact H) | exact H
     have Ny397 := Aside0.mk hy397
     clear hy397
     have H' := Aside0.mk H
     clear H
     try go_wp2
     have n0_ := Aside0.mk (Kd.R_drew HO_391000.out)
     have n1_ := Aside0.mk (blk_drew BK389.out)
     have n2_ := Aside0.mk (blk_drew BK390.out)
     have n3_ := Aside0.mk (below_drew1 HB.out)
     clear HO_391000
     clear BK389
     clear BK390
     clear HB
     have HO_391000 := n0_
     have BK389 := n1_
     have BK390 := n2_
     have HB := n3_
     clear n0_ n1_ n2_ n3_
     obtain ⟨i030, hi030, _, hsz30, _⟩ := info_parts info5
     obtain ⟨A30, hcut30, hA30, hC30⟩ := print_drop_of (P := Try.prog) (Value.int .u8) 0 22 5 .i64 Try.underlying22 hi030 hsz30 A0 c0 l0 (ji22) (of_decide_eq_true z12_2) (of_decide_eq_true z12_2) HC0.out
     have HR395 := Aside0.mk (Kd.C_of_reads (h1 := fun _ => rfl) (hA30 _ (Kd.reads_of_C HR0.out)))
     have HC395 := Aside0.mk hC30
     clear hA30 hC30 hi030 hsz30
     refine start_ (n := 12) (S := fun w' => w'.cell? ⟨gb390, 0, none⟩ = some (u391000)) (ds := [11]) #[ff,ff,ff,ff,ff,ff,ff,ff,ff,ff,ff,ff] z12_5 rfl rfl ((blk_cell BK390.out 0).trans rfl) (fun hHeld => ?_); refine with_tabW tPT.tab10 tPT.bits10 (fun HT_ HW_ => ?_)
     generalize wr.drew = w29 at HO_391000 BK389 BK390 HB HR395 hHeld ⊢
     refine prx12 0 28 #[tt,ff,ff,ff,ff,ff,ff,ff,ff,ff,ff,ff] ?_
     refine prx12 2 30 #[tt,ff,tt,ff,ff,ff,ff,ff,ff,ff,ff,ff] ?_
     refine prx12 3 31 #[tt,ff,tt,tt,ff,ff,ff,ff,ff,ff,ff,ff] ?_
     refine prx12 4 32 #[tt,ff,tt,tt,tt,ff,ff,ff,ff,ff,ff,ff] ?_
     refine prx12 5 33 #[tt,ff,tt,tt,tt,tt,ff,ff,ff,ff,ff,ff] ?_
     refine prx12 6 34 #[tt,ff,tt,tt,tt,tt,tt,ff,ff,ff,ff,ff] ?_
     refine prx12 7 35 #[tt,ff,tt,tt,tt,tt,tt,tt,ff,ff,ff,ff] ?_
     refine take_ (i := 1) (N := some 29) (v := ?_) (a' := ?_) #[tt,tt,tt,tt,tt,tt,tt,tt,ff,ff,ff,ff] rfl rfl (take_ofW HT_.out HW_.out z12_5) (fun _ _ _ h => h) (Or.inl ⟨by rfl, ?_⟩) hHeld ?_ ?_
     rotate_left
     ·intro w' s0
      go_simp
      with_reducible rfl
     rotate_left
     ·simp only [Act.put, L1_, L2_, L3_, i64_w, i32_w]
      rfl
     refine one_ (i := 8) (N := some 36) #[tt,tt,tt,tt,tt,tt,tt,tt,tt,ff,ff,ff] rfl rfl (one_of HT_.out z12_5) (by decide) (fun K hK => ?_)
     refine goes_ Try.func57 z12_5 rfl #[.agg #[], .slice A30 (l0.drop ((ji22) : Int).toNat).length (c0 - (ji22).toNat)] (by rfl) rfl rfl (by (try simp only [List.map_toArray, List.map_cons, List.map_nil]); first | done | (rw [show (l0.drop ((ji22) : Int).toNat).length = (l0.length - (ji22).toNat) from List.length_drop] <;> rfl) | (simp only [hji22]; rfl) | rfl | (simp only [List.length_drop, List.length_take]; rfl)) ?_
     with_reducible refine (bU.calls _ _ (l0.drop ((ji22) : Int).toNat) t396 _ ?side1 ?side2 A25.out).mono ?_
     (case side1 => repeat (first | exact (Kd.C_below HR395.out HB.out) | (with_reducible refine Kd.C_alloc ?_ _) | (with_reducible refine Kd.C_drewN ?_ _) | (with_reducible refine Kd.C_drew ?_)))
     (case side2 => exact HC395.out)
     rintro e w31 ⟨rfl, hb⟩
     refine ⟨_, rfl, ?_⟩
     have n0_ := Aside0.mk (Kd.R_below (by (with_reducible repeat (first | apply Kd.R_alloc | apply Kd.R_drewN | apply Kd.R_drew)); exact HO_391000.out) hb)
     have n1_ := Aside0.mk (blk_below (g := gb389) (o := .cells #[.slice none 0 0] 164 (0, 0)) z12_1 hb)
     have n2_ := Aside0.mk (blk_below (g := gb390) (o := .cells #[u391000] 164 (0, 0)) z12_6 hb)
     have n3_ := Aside0.mk (below_step z12_0 hb)
     clear HO_391000
     clear BK389
     clear BK390
     clear HB
     have HO_391000 := n0_
     have BK389 := n1_
     have BK390 := n2_
     have HB := n3_
     clear n0_ n1_ n2_ n3_
     clear hb
     have p28 : 0 ≤ (x25_1 : Int) := of_decide_eq_true z12_2
     have q28 : (x25_1 : Int) < ((x391000_1.length : Int) : Int) := of_decide_eq_true z12_2
     obtain ⟨go28, co28, eo28, gb28, gl28, cl28, HG28⟩ := Kd.R_form HO_391000.out (by omega)
     (first | cases eo28 | (injection eo28 with ea_ en_ ec_; (first | subst ea_ | (injection ea_ with ea_; subst ea_)); subst ec_; clear en_))
     have GB28 := Aside0.mk gb28
     have GG28 := Aside0.mk HG28
     clear gb28 gl28 HG28
     obtain ⟨hx28_0, hf28_0⟩ := Kd.R_celln 0 HO_391000.out (x25_1 : Int) p28 q28
     replace p28 := eq_true p28
     replace q28 := eq_true q28
     have HP32 := Kd.R_putn HO_391000.out (x25_1 : Int) (IntKind.i16.wrap (t396))
     rw [← Ny397.out] at HP32
     have HQ32 := Aside0.mk HP32
     clear HP32
     refine hK.out _ _ ((blk_cell BK390.out 0).trans rfl) (fun hHeld => ?_)
     clear hK K
     refine norm_ (a' := ?_) ?_ ?_
     rotate_left
     ·show Act.put _ (some 36) _ = _
      simp only [Act.put, L1_, L2_, L3_, i64_w, i32_w]
      rfl
     refine prx12 9 37 #[tt,tt,tt,tt,tt,tt,tt,tt,tt,tt,ff,ff] ?_
     refine prx12 10 38 #[tt,tt,tt,tt,tt,tt,tt,tt,tt,tt,tt,ff] ?_
     refine last_ (i := 11) (N := none) #[tt,tt,tt,tt,tt,tt,tt,tt,tt,tt,tt,tt] rfl rfl (one_of HT_.out z12_5) (by decide) (fun K hK => ?_)
     refine skip_ (w1 := ?_) (by rfl) rfl ?_ ?_
     rotate_left
     ·go_simp
      rfl
     refine hK.out _ _ ?_
     clear hK K
     refine done_ (done_of HT_.out z12_5) ?_
     try go_wp2
     go_roundg k1
     case measure => have := HK1.out; omega
     case rel => exact ⟨(wrap64 (x25_1 + 1)), (y397), (.slice (some ⟨go28, 0, none⟩) x391000_1.length co28), (by first | rfl | (simp; done) | (simp [*]; done)), H', ⟨by have := HK1.out; omega⟩, ⟨by (with_reducible repeat (first | apply Kd.R_alloc | apply Kd.R_drewN | apply Kd.R_drew)); exact HQ32.out⟩, ⟨by (with_reducible repeat (first | apply b1_ | apply b2_ | apply b3_)); refine blk_far ?_ (by have h_ := Kd.R_ne HO_391000.out BK389.out (by decide); intro e_; exact h_ (by rw [e_]; rfl)) _; (with_reducible repeat (first | apply b1_ | apply b2_ | apply b3_)); exact BK389.out⟩, ⟨by (with_reducible repeat (first | apply b1_ | apply b2_ | apply b3_)); refine blk_far ?_ (by have h_ := Kd.R_ne HO_391000.out BK390.out (by decide); intro e_; exact h_ (by rw [e_]; rfl)) _; (with_reducible repeat (first | apply b1_ | apply b2_ | apply b3_)); exact BK390.out⟩, ⟨z12_0⟩⟩
    ·rw [if_neg c21] at H
     have c21b0 : decide (x25_1 < (y392.length : Int)) = false := decide_eq_false c21
     clear c21
     simp only [Option.some.injEq, Prod.mk.injEq] at H
     obtain ⟨rfl, rfl, rfl⟩ := H
     have hnb33 := NB390_389.out
     have hnc33 := NB389_390.out
     have hcz34_0 : wr.cell? ⟨gb390, 0, none⟩ = some (u391000) := (blk_cell BK390.out 0).trans rfl
     have hfz34_0 := blk_frozen BK390.out 0
     obtain ⟨Ao35, co35, eo35⟩ := Kd.R_slice HO_391000.out
     subst eo35
     have hcz36_0 : wr.cell? ⟨gb389, 0, none⟩ = some (.slice none 0 0) := (blk_cell BK389.out 0).trans rfl
     have hfz36_0 := blk_frozen BK389.out 0
     go_wp2
     refine bodyPost_ret (results_ctt rfl _ _ gb389 164 #[.slice Ao35 x391000_1.length co35] (0, 0) _ rfl z12_4 Try.underlying164 rfl z12_5) rfl ?_
     exact ⟨_, _, by first | rfl | (simp [errW_none, errW_some] <;> rfl) | (simp [*, errW_none, errW_some] <;> rfl), by (with_reducible repeat (first | apply Kd.R_alloc | apply Kd.R_drewN | apply Kd.R_drew)); exact Kd.R_mono (Kd.R_far (p := ⟨gb389, 0, none⟩) (Kd.R_types HO_391000.out BK389.out (by decide)) (fun _ hk => hk.2) (.slice Ao35 x391000_1.length co35)) (fun _ hk => trivial), (by first | assumption | exact rfl | exact ⟨_, _, rfl⟩), by repeat (first | (with_reducible first | exact HB.out | apply below_alloc | apply pw_below_drewN | apply below_drew1 | refine below_set ?_ GB28.out | refine below_set ?_ GE389.out | refine below_set ?_ GE390.out) | exact HB.out)⟩

end Go.Proofs.Ytchkmmbedgolbaa.PFnTuplesOf

