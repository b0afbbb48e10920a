-- Written by a program of this session (xprint) out of the translation; Lean checks it.
import Derived.Test.YtlbmfnjhpojghaaPFnNormalizedx0
namespace Go.Proofs.Ytlbmfnjhpojghaa.PFnNormalized
open Go.RowKit Go.Proofs.YtlbmfnjhpojghaaW.PrintWords Go.Proofs.YtlbmfnjhpojghaaW.PrintLast Go.Proofs.YtlbmfnjhpojghaaW.PrintMore
attribute [local go_sem] max2_int min2_int max_two min_two max_three min_three max_four min_four   -- for this text's walks alone
set_option linter.unusedVariables false
set_option linter.unusedSimpArgs false

attribute [local go_sem] f_add f_sub f_mul f_quo f_conv f_same f_int f_max f_min f_neg f_store
/-- A state of type 102 at block g of W; what its slices lead to came in by w0. -/
def IsS102 (w0 W : World) (g : Nat) (f0 : Int) (f1 : Int) (f2 : Bool) : Prop := W.heap[g]? = some (.cells #[.int .i64 f0, .int .i64 f1, .bool f2] 102 (0, 0)) ∧ w0.heap.size ≤ g
theorem IsS102.grown {w0 W : World} {g : Nat} {f0 : Int} {f1 : Int} {f2 : Bool} {W1 : World} {row : Option Nat} (h : IsS102 w0 W g f0 f1 f2) (hw : W.grownBy W1 row) (hne : some g ≠ row) : IsS102 w0 W1 g f0 f1 f2 := by
 obtain ⟨hb, hg⟩ := h
 exact ⟨blk_grown hb hw hne, hg⟩
theorem IsS102.own_neN {w0 W : World} {g : Nat} {f0 : Int} {f1 : Int} {f2 : Bool} {α : Type} {d : Kd α} {e : Nat} {base : Nat} {ok : Nat → Prop} {v : Value} {xs : List α} (h : IsS102 w0 W g f0 f1 f2) (ho : Kd.N d e W base ok v xs) (ht : e ≠ 102) : some g ≠ v.ownBlock := by
 obtain ⟨hb, hg⟩ := h
 exact Kd.N_ne ho hb ht
theorem IsS102.fresh {w0 W : World} {g : Nat} {f0 : Int} {f1 : Int} {f2 : Bool} (h : IsS102 w0 W g f0 f1 f2) : ∀ k, W.heap.size ≤ k → k ≠ g := by
 obtain ⟨hb, hg⟩ := h
 exact Kd.freshB hb
theorem IsS102.kept {w0 W : World} {g : Nat} {f0 : Int} {f1 : Int} {f2 : Bool} {W1 : World} {S : Nat → Prop} (h : IsS102 w0 W g f0 f1 f2) (hk : Kept W W1 S) (hne : ¬ S g) : IsS102 w0 W1 g f0 f1 f2 := by
 obtain ⟨hb, hg⟩ := h
 exact ⟨blk_kept hb hk hne, hg⟩
theorem IsS102.below {w0 W : World} {g : Nat} {f0 : Int} {f1 : Int} {f2 : Bool} {W1 : World} (h : IsS102 w0 W g f0 f1 f2) (hw : Below W.heap.size W W1) : IsS102 w0 W1 g f0 f1 f2 := h.grown (grown_of_below hw none) (by simp)
theorem IsS102.alloc {w0 W : World} {g : Nat} {f0 : Int} {f1 : Int} {f2 : Bool} (h : IsS102 w0 W g f0 f1 f2) (o : Obj) : IsS102 w0 (W.alloc o) g f0 f1 f2 := h.below (below_alloc (Below.refl _ _) o)
theorem IsS102.drewN {w0 W : World} {g : Nat} {f0 : Int} {f1 : Int} {f2 : Bool} (h : IsS102 w0 W g f0 f1 f2) (m : Nat) : IsS102 w0 (W.drewN m) g f0 f1 f2 := h
theorem IsS102.drew {w0 W : World} {g : Nat} {f0 : Int} {f1 : Int} {f2 : Bool} (h : IsS102 w0 W g f0 f1 f2) : IsS102 w0 W.drew g f0 f1 f2 := h
theorem IsS102.at_ {w0 W : World} {g : Nat} {f0 : Int} {f1 : Int} {f2 : Bool} {w' : World} {m : Nat} (hq : W.drewN m = w') (h : IsS102 w0 W g f0 f1 f2) : IsS102 w0 w' g f0 f1 f2 := by subst hq; exact IsS102.drewN h m
theorem IsS102.apart {w0 W : World} {g : Nat} {f0 : Int} {f1 : Int} {f2 : Bool} {α : Type} {d : Kd α} {e : Nat} {base : Nat} {ok : Nat → Prop} {v : Value} {xs : List α} (h : IsS102 w0 W g f0 f1 f2) (ho : d.R e W base ok v xs) (ht : ∀ q, q ∈ e :: d.E → q ≠ 102) : d.R e W base (fun k => ok k ∧ k ≠ g) v xs := by
 obtain ⟨hb, hg⟩ := h
 exact Kd.R_types ho hb ht
theorem IsS102.own_ne {w0 W : World} {g : Nat} {f0 : Int} {f1 : Int} {f2 : Bool} {α : Type} {d : Kd α} {e : Nat} {base : Nat} {ok : Nat → Prop} {v : Value} {xs : List α} (h : IsS102 w0 W g f0 f1 f2) (ho : d.R e W base ok v xs) (ht : e ≠ 102) : some g ≠ v.ownBlock := by
 obtain ⟨hb, hg⟩ := h
 exact Kd.R_ne ho hb ht
theorem IsS102.apartQ {w0 W : World} {g : Nat} {f0 : Int} {f1 : Int} {f2 : Bool} {α : Type} {d : Kd α} {e : Nat} {base : Nat} {ok : Nat → Prop} {v : Value} {xs : List α} (h : IsS102 w0 W g f0 f1 f2) (ho : d.Q e W base ok v xs) (ht : ∀ q, q ∈ e :: d.E → q ≠ 102) : d.Q e W base (fun k => ok k ∧ k ≠ g) v xs := by
 obtain ⟨hb, hg⟩ := h
 exact Kd.Q_types ho hb ht
theorem IsS102.own_neQ {w0 W : World} {g : Nat} {f0 : Int} {f1 : Int} {f2 : Bool} {α : Type} {d : Kd α} {e : Nat} {base : Nat} {ok : Nat → Prop} {v : Value} {xs : List α} (h : IsS102 w0 W g f0 f1 f2) (ho : d.Q e W base ok v xs) (ht : e ≠ 102) : some g ≠ v.ownBlock := by
 obtain ⟨hb, hg⟩ := h
 exact Kd.Q_ne ho hb ht
theorem IsS102.apartS {w0 W : World} {g : Nat} {f0 : Int} {f1 : Int} {f2 : Bool} {α : Type} {d : Kd α} {e : Nat} {base : Nat} {ok : Nat → Prop} {v : Value} {xs : List α} (h : IsS102 w0 W g f0 f1 f2) (ho : d.S e W base ok v xs) (ht : ∀ q, q ∈ e :: d.E → q ≠ 102) : d.S e W base (fun k => ok k ∧ k ≠ g) v xs := by
 obtain ⟨hb, hg⟩ := h
 exact Kd.S_types ho hb ht
theorem IsS102.own_neS {w0 W : World} {g : Nat} {f0 : Int} {f1 : Int} {f2 : Bool} {α : Type} {d : Kd α} {e : Nat} {base : Nat} {ok : Nat → Prop} {v : Value} {xs : List α} (h : IsS102 w0 W g f0 f1 f2) (ho : d.S e W base ok v xs) (ht : e ≠ 102) : some g ≠ v.ownBlock := by
 obtain ⟨hb, hg⟩ := h
 exact Kd.S_ne ho hb ht
theorem IsS102.lt {w0 W : World} {g : Nat} {f0 : Int} {f1 : Int} {f2 : Bool} (h : IsS102 w0 W g f0 f1 f2) : g < W.heap.size := by
 obtain ⟨hb, hg⟩ := h
 exact blk_lt hb
theorem IsS102.ge {w0 W : World} {g : Nat} {f0 : Int} {f1 : Int} {f2 : Bool} (h : IsS102 w0 W g f0 f1 f2) : w0.heap.size ≤ g := by
 obtain ⟨hb, hg⟩ := h
 exact hg
theorem IsS102.ne_blk {w0 W : World} {g : Nat} {f0 : Int} {f1 : Int} {f2 : Bool} {a : Nat} {cs : Array Value} {t : TypeId} {fr : Nat × Nat} (h : IsS102 w0 W g f0 f1 f2) (hb2 : W.heap[a]? = some (.cells cs t fr)) (ht : t ≠ 102) : g ≠ a := by
 obtain ⟨hb, hg⟩ := h
 rintro rfl
 rw [hb] at hb2
 injection hb2 with hb2
 injection hb2 with _ ht2
 exact ht ht2.symm
theorem IsS102.far {w0 W : World} {g : Nat} {f0 : Int} {f1 : Int} {f2 : Bool} {p : Addr} (h : IsS102 w0 W g f0 f1 f2) (hne : g ≠ p.block) (u : Value) : IsS102 w0 (W.setCell p u) g f0 f1 f2 := by
 obtain ⟨hb, hg⟩ := h
 exact ⟨blk_far hb hne u, hg⟩
theorem IsS102.of {w0 W : World} {g : Nat} {f0 : Int} {f1 : Int} {f2 : Bool} (h : W.heap[g]? = some (.cells #[.int .i64 f0, .int .i64 f1, .bool f2] 102 (0, 0))) (hg : w0.heap.size ≤ g) : IsS102 w0 W g f0 f1 f2 := ⟨h, hg⟩
theorem IsS102.cells {w0 W : World} {g : Nat} {f0 : Int} {f1 : Int} {f2 : Bool} (h : IsS102 w0 W g f0 f1 f2) : W.heap[g]? = some (.cells #[.int .i64 f0, .int .i64 f1, .bool f2] 102 (0, 0)) := h.1
theorem cellS102_0 {W : World} {g : Nat} {f0 : Int} {f1 : Int} {f2 : Bool} (h : W.heap[g]? = some (.cells #[.int .i64 f0, .int .i64 f1, .bool f2] 102 (0, 0))) : W.cell? ⟨g, 0, none⟩ = some (.int .i64 f0) := (blk_cell h 0).trans rfl
theorem IsS102.set_0 {w0 W : World} {g : Nat} {f0 : Int} {f1 : Int} {f2 : Bool} (h : IsS102 w0 W g f0 f1 f2) (x : Int) : IsS102 w0 (W.setCell ⟨g, 0, none⟩ (.int .i64 x)) g x f1 f2 := by
 obtain ⟨hb, hg⟩ := h
 exact ⟨by simpa using blk_set hb 0 (.int .i64 x), hg⟩
theorem cellS102_1 {W : World} {g : Nat} {f0 : Int} {f1 : Int} {f2 : Bool} (h : W.heap[g]? = some (.cells #[.int .i64 f0, .int .i64 f1, .bool f2] 102 (0, 0))) : W.cell? ⟨g, 1, none⟩ = some (.int .i64 f1) := (blk_cell h 1).trans rfl
theorem IsS102.set_1 {w0 W : World} {g : Nat} {f0 : Int} {f1 : Int} {f2 : Bool} (h : IsS102 w0 W g f0 f1 f2) (x : Int) : IsS102 w0 (W.setCell ⟨g, 1, none⟩ (.int .i64 x)) g f0 x f2 := by
 obtain ⟨hb, hg⟩ := h
 exact ⟨by simpa using blk_set hb 1 (.int .i64 x), hg⟩
theorem cellS102_2 {W : World} {g : Nat} {f0 : Int} {f1 : Int} {f2 : Bool} (h : W.heap[g]? = some (.cells #[.int .i64 f0, .int .i64 f1, .bool f2] 102 (0, 0))) : W.cell? ⟨g, 2, none⟩ = some (.bool f2) := (blk_cell h 2).trans rfl
theorem IsS102.set_2 {w0 W : World} {g : Nat} {f0 : Int} {f1 : Int} {f2 : Bool} (h : IsS102 w0 W g f0 f1 f2) (x : Bool) : IsS102 w0 (W.setCell ⟨g, 2, none⟩ (.bool x)) g f0 f1 x := by
 obtain ⟨hb, hg⟩ := h
 exact ⟨by simpa using blk_set hb 2 (.bool x), hg⟩
theorem IsS102.new (w0 W : World) (f0 : Int) (f1 : Int) (f2 : Bool) (hB : Below w0.heap.size w0 W) : IsS102 w0 (W.alloc (.cells #[.int .i64 f0, .int .i64 f1, .bool f2] 102)) W.heap.size f0 f1 f2 := ⟨by simpa using heap_alloc_new W _, hB.size⟩

/-! ### impl_builder_must: function 50 -/
def impl_builder_must.f (s0_0 : Int) (s0_1 : Int) (s0_2 : Bool) (a1 : Bool) : Option (Int × Int × Bool) := if s0_2 = true then (some (s0_0, s0_1, true)) else (some (s0_0, s0_1, !a1))
set_option maxHeartbeats 8000000 in
set_option maxRecDepth 100000 in
theorem impl_builder_must.calls (g : Nat) (s0_0 : Int) (s0_1 : Int) (s0_2 : Bool) (a1 : Bool) (r1 : Int) (r2 : Int) (r3 : Bool) (w0 w : World) (hI : IsS102 w0 w g s0_0 s0_1 s0_2) (hB : Below w0.heap.size w0 w) (h : impl_builder_must.f s0_0 s0_1 s0_2 a1 = some (r1, r2, r3)) :
  Calls Try.prog 50 #[.pointer (some ⟨g, 0, none⟩), .bool a1] w fun e w' => e = .returned (.tuple #[]) ∧ IsS102 w0 w' g r1 r2 r3 ∧ Below w0.heap.size w0 w' ∧ KeepBut w w' g none := by
 have HI0 := Aside0.mk hI
 have HK := Aside0.mk (KeepBut.refl w g none)
 have HL := Aside0.mk hB.size
 clear hI
 have HW0 := Aside0.mk hB.size
 have HB := Aside0.mk hB
 clear hB
 have H : (if s0_2 = true then (some (s0_0, s0_1, true)) else (some (s0_0, s0_1, !a1))) = some (r1, r2, r3) := h
 clear h
 by_cases c3 : s0_2 = true
 ·subst c3
  have H1 : (some (s0_0, s0_1, true)) = some (r1, r2, r3) := by rw [if_pos rfl] at H; exact H
  clear H
  have H := H1
  clear H1
  simp only [Option.some.injEq, Prod.mk.injEq] at H
  obtain ⟨rfl, rfl, rfl⟩ := H
  obtain ⟨HGz4, hgz4⟩ := HI0.out
  have hcz4_0 := cellS102_0 HGz4
  have hcz4_1 := cellS102_1 HGz4
  have hcz4_2 := cellS102_2 HGz4
  have hfz4_0 := blk_frozen HGz4 0
  have hfz4_1 := blk_frozen HGz4 1
  have hfz4_2 := blk_frozen HGz4 2
  clear HGz4 hgz4
  go_enter Try.func50, Try.ntmps50
  go_wp2
  first | go_end0 | ((try simp only [Exit.inBlock, Exit.then]); refine bodyPost_ret (results_none rfl _ _ _) rfl ?_)
  exact ⟨by first | rfl | (simp [errW_none, errW_some] <;> rfl) | (simp [*, errW_none, errW_some] <;> rfl), by repeat (first | (with_reducible first | exact HI0.out | apply IsS102.alloc | apply IsS102.drewN | apply IsS102.drew | apply IsS102.set_0 | apply IsS102.set_1 | apply IsS102.set_2) | exact HI0.out), by repeat (first | (with_reducible first | exact HB.out | apply below_alloc | apply pw_below_drewN | apply below_drew1 | refine below_set ?_ (IsS102.ge HI0.out)) | exact HB.out), by repeat (first | (with_reducible first | exact HK.out | apply KeepBut.set_ | apply keep_drewN | apply keep_drew | apply keep_alloc) | exact HK.out)⟩
 ·replace c3 := Bool.eq_false_iff.mpr c3
  subst c3
  have H1 : (some (s0_0, s0_1, !a1)) = some (r1, r2, r3) := by rw [if_neg (show ¬ (false = true) by decide)] at H; exact H
  clear H
  have H := H1
  clear H1
  simp only [Option.some.injEq, Prod.mk.injEq] at H
  obtain ⟨rfl, rfl, rfl⟩ := H
  obtain ⟨HGz5, hgz5⟩ := HI0.out
  have hcz5_0 := cellS102_0 HGz5
  have hcz5_1 := cellS102_1 HGz5
  have hcz5_2 := cellS102_2 HGz5
  have hfz5_0 := blk_frozen HGz5 0
  have hfz5_1 := blk_frozen HGz5 1
  have hfz5_2 := blk_frozen HGz5 2
  clear HGz5 hgz5
  go_enter Try.func50, Try.ntmps50
  go_wp2
  first | go_end0 | ((try simp only [Exit.inBlock, Exit.then]); refine bodyPost_ret (results_none rfl _ _ _) rfl ?_)
  exact ⟨by first | rfl | (simp [errW_none, errW_some] <;> rfl) | (simp [*, errW_none, errW_some] <;> rfl), by repeat (first | (with_reducible first | exact HI0.out | apply IsS102.alloc | apply IsS102.drewN | apply IsS102.drew | apply IsS102.set_0 | apply IsS102.set_1 | apply IsS102.set_2) | exact HI0.out), by repeat (first | (with_reducible first | exact HB.out | apply below_alloc | apply pw_below_drewN | apply below_drew1 | refine below_set ?_ (IsS102.ge HI0.out)) | exact HB.out), by repeat (first | (with_reducible first | exact HK.out | apply KeepBut.set_ | apply keep_drewN | apply keep_drew | apply keep_alloc) | exact HK.out)⟩

/-! ### impl_builder_signed: function 51 -/
def impl_builder_signed.f (s0_0 : Int) (s0_1 : Int) (s0_2 : Bool) (a1 : Int) : Option (Int × Int × Int × Bool) := if a1 ≥ (-32768) then ((impl_builder_must.f s0_0 s0_1 s0_2 (decide (a1 ≤ 32767))).bind fun bt172 => (some (IntKind.i16.wrap (a1), bt172.1, bt172.2.1, bt172.2.2))) else ((impl_builder_must.f s0_0 s0_1 s0_2 false).bind fun bt175 => (some (IntKind.i16.wrap (a1), bt175.1, bt175.2.1, bt175.2.2)))
set_option maxHeartbeats 8000000 in
set_option maxRecDepth 100000 in
theorem impl_builder_signed.calls (g : Nat) (s0_0 : Int) (s0_1 : Int) (s0_2 : Bool) (a1 : Int) (r1 : Int) (r2 : Int) (r3 : Int) (r4 : Bool) (w0 w : World) (hI : IsS102 w0 w g s0_0 s0_1 s0_2) (hB : Below w0.heap.size w0 w) (h : impl_builder_signed.f s0_0 s0_1 s0_2 a1 = some (r1, r2, r3, r4)) :
  Calls Try.prog 51 #[.pointer (some ⟨g, 0, none⟩), .int .i64 a1] w fun e w' => e = .returned (.int .i16 r1) ∧ IsS102 w0 w' g r2 r3 r4 ∧ Below w0.heap.size w0 w' ∧ KeepBut w w' g none := by
 have HI0 := Aside0.mk hI
 have HK := Aside0.mk (KeepBut.refl w g none)
 have HL := Aside0.mk hB.size
 clear hI
 have HW0 := Aside0.mk hB.size
 have HB := Aside0.mk hB
 clear hB
 have H : (if a1 ≥ (-32768) then ((impl_builder_must.f s0_0 s0_1 s0_2 (decide (a1 ≤ 32767))).bind fun bt172 => (some (IntKind.i16.wrap (a1), bt172.1, bt172.2.1, bt172.2.2))) else ((impl_builder_must.f s0_0 s0_1 s0_2 false).bind fun bt175 => (some (IntKind.i16.wrap (a1), bt175.1, bt175.2.1, bt175.2.2)))) = some (r1, r2, r3, r4) := h
 clear h
 by_cases c3 : a1 ≥ (-32768)
 ·rw [if_pos c3] at H
  have c3b0 : decide ((-32768) ≤ a1) = true := decide_eq_true c3
  clear c3
  replace H := Option.bind_eq_some_iff.mp H
  obtain ⟨⟨t172, t173, t174⟩, A40, H⟩ := H
  replace H : (some (IntKind.i16.wrap (a1), t172, t173, t174)) = some (r1, r2, r3, r4) := H
  have A4 := Aside0.mk A40
  clear A40
  simp only [Option.some.injEq, Prod.mk.injEq] at H
  obtain ⟨rfl, rfl, rfl, rfl⟩ := H
  go_enter Try.func51, Try.ntmps51
  go_wp2_with (first | ((with_reducible refine gate_callee (f := 50) rfl ?_); refine goesL_ (some 12) rfl rfl Try.func50 (by kernel_rfl) rfl #[.pointer (some ⟨g, 0, none⟩), .bool (decide (a1 ≤ 32767))] rfl (by (try simp only [List.map_toArray, List.map_cons, List.map_nil]); first | done | rfl | (simp only [List.length_drop, List.length_take]; rfl)) ?_; (with_reducible refine (impl_builder_must.calls g s0_0 s0_1 s0_2 (decide (a1 ≤ 32767)) t172 t173 t174 w0 _ ?side1 ?side2 A4.out).mono ?_); (case side1 => repeat (first | (with_reducible first | exact HI0.out | apply IsS102.alloc | apply IsS102.drewN | apply IsS102.drew | apply IsS102.set_0 | apply IsS102.set_1 | apply IsS102.set_2) | exact HI0.out)); (case side2 => repeat (first | (with_reducible first | exact HB.out | apply below_alloc | apply pw_below_drewN | apply below_drew1 | refine below_set ?_ (IsS102.ge HI0.out)) | exact HB.out)); rintro e w5 ⟨rfl, hi, hb, hk⟩; refine ⟨_, rfl, ?_⟩; have n0_ := Aside0.mk (KeepBut.trans (by repeat (first | (with_reducible first | exact HK.out | apply KeepBut.set_ | apply keep_drewN | apply keep_drew | apply keep_alloc) | exact HK.out)) hk (.inl rfl)); have n1_ := Aside0.mk (hb); have n2_ := Aside0.mk (hi); clear HK; clear HB; clear HI0; have HK := n0_; have HB := n1_; have HI0 := n2_; clear n0_ n1_ n2_; (try clear hb); (try clear hb2); (try clear hk); (try clear hi)))
  go_ret
  exact ⟨by first | rfl | (simp [errW_none, errW_some] <;> rfl) | (simp [*, errW_none, errW_some] <;> rfl), by repeat (first | (with_reducible first | exact HI0.out | apply IsS102.alloc | apply IsS102.drewN | apply IsS102.drew | apply IsS102.set_0 | apply IsS102.set_1 | apply IsS102.set_2) | exact HI0.out), by repeat (first | (with_reducible first | exact HB.out | apply below_alloc | apply pw_below_drewN | apply below_drew1 | refine below_set ?_ (IsS102.ge HI0.out)) | exact HB.out), by repeat (first | (with_reducible first | exact HK.out | apply KeepBut.set_ | apply keep_drewN | apply keep_drew | apply keep_alloc) | exact HK.out)⟩
 ·rw [if_neg c3] at H
  have c3b0 : decide ((-32768) ≤ a1) = false := decide_eq_false c3
  clear c3
  replace H := Option.bind_eq_some_iff.mp H
  obtain ⟨⟨t175, t176, t177⟩, A60, H⟩ := H
  replace H : (some (IntKind.i16.wrap (a1), t175, t176, t177)) = some (r1, r2, r3, r4) := H
  have A6 := Aside0.mk A60
  clear A60
  simp only [Option.some.injEq, Prod.mk.injEq] at H
  obtain ⟨rfl, rfl, rfl, rfl⟩ := H
  go_enter Try.func51, Try.ntmps51
  go_wp2_with (first | ((with_reducible refine gate_callee (f := 50) rfl ?_); refine goesL_ (some 12) rfl rfl Try.func50 (by kernel_rfl) rfl #[.pointer (some ⟨g, 0, none⟩), .bool false] rfl (by (try simp only [List.map_toArray, List.map_cons, List.map_nil]); first | done | rfl | (simp only [List.length_drop, List.length_take]; rfl)) ?_; (with_reducible refine (impl_builder_must.calls g s0_0 s0_1 s0_2 false t175 t176 t177 w0 _ ?side1 ?side2 A6.out).mono ?_); (case side1 => repeat (first | (with_reducible first | exact HI0.out | apply IsS102.alloc | apply IsS102.drewN | apply IsS102.drew | apply IsS102.set_0 | apply IsS102.set_1 | apply IsS102.set_2) | exact HI0.out)); (case side2 => repeat (first | (with_reducible first | exact HB.out | apply below_alloc | apply pw_below_drewN | apply below_drew1 | refine below_set ?_ (IsS102.ge HI0.out)) | exact HB.out)); rintro e w7 ⟨rfl, hi, hb, hk⟩; refine ⟨_, rfl, ?_⟩; have n0_ := Aside0.mk (KeepBut.trans (by repeat (first | (with_reducible first | exact HK.out | apply KeepBut.set_ | apply keep_drewN | apply keep_drew | apply keep_alloc) | exact HK.out)) hk (.inl rfl)); have n1_ := Aside0.mk (hb); have n2_ := Aside0.mk (hi); clear HK; clear HB; clear HI0; have HK := n0_; have HB := n1_; have HI0 := n2_; clear n0_ n1_ n2_; (try clear hb); (try clear hb2); (try clear hk); (try clear hi)))
  go_ret
  exact ⟨by first | rfl | (simp [errW_none, errW_some] <;> rfl) | (simp [*, errW_none, errW_some] <;> rfl), by repeat (first | (with_reducible first | exact HI0.out | apply IsS102.alloc | apply IsS102.drewN | apply IsS102.drew | apply IsS102.set_0 | apply IsS102.set_1 | apply IsS102.set_2) | exact HI0.out), by repeat (first | (with_reducible first | exact HB.out | apply below_alloc | apply pw_below_drewN | apply below_drew1 | refine below_set ?_ (IsS102.ge HI0.out)) | exact HB.out), by repeat (first | (with_reducible first | exact HK.out | apply KeepBut.set_ | apply keep_drewN | apply keep_drew | apply keep_alloc) | exact HK.out)⟩

/-! ### tables_Coord: function 56 -/
def tables_Coord.l0 : Nat → List Int → List Int → Int → Int → Option (List Int)
 | 0, _, _, _, _ => none
 | k + 1, x2, x5, x6, x7 => if x7 < x6 then (if 0 ≤ x7 then (if x7 < (x5.length : Int) then (if x2.length < 17592186044416 then (tables_Coord.l0 k (x2 ++ [wrap64 (rd x5 x7)]) x5 x6 (wrap64 (x7 + 1))) else (none)) else (none)) else (none)) else (some x2)
def tables_Coord.f (k : Nat) (l0 : List Int) : Option (List Int) := tables_Coord.l0 k ([] : List Int) l0 (l0.length : Int) 0
theorem tables_Coord.mono_l : ∀ k, (∀ y0 y1 y2 y3, LeO (tables_Coord.l0 k y0 y1 y2 y3) (tables_Coord.l0 (k + 1) y0 y1 y2 y3))
 | 0 => fun _ _ _ _ r h => by simp [tables_Coord.l0] at h
 | k + 1 => by
  have ih0 := tables_Coord.mono_l k
  ·intro y0 y1 y2 y3
   unfold tables_Coord.l0
   repeat' first
   | (with_reducible exact ih0 _ _ _ _)
   | (with_reducible exact LeO.refl _)
   | (with_reducible exact LeO.none _)
   | (with_reducible refine LeO.ite ?_ ?_)
   | (with_reducible refine LeO.bind ?_ (fun _ => ?_))
   | exact ih0 _ _ _ _
   | exact LeO.none _
   | refine LeO.ite ?_ ?_
   | refine LeO.bind ?_ (fun _ => ?_)
theorem tables_Coord.mono : ∀ a0 k, LeO (tables_Coord.f k a0) (tables_Coord.f (k + 1) a0) := by
 intro a0 k
 have ih0 := tables_Coord.mono_l k
 unfold tables_Coord.f
 repeat' first
   | (with_reducible exact ih0 _ _ _ _)
   | (with_reducible exact LeO.refl _)
   | (with_reducible exact LeO.none _)
   | (with_reducible refine LeO.ite ?_ ?_)
   | (with_reducible refine LeO.bind ?_ (fun _ => ?_))
   | exact ih0 _ _ _ _
   | exact LeO.none _
   | refine LeO.ite ?_ ?_
   | refine LeO.bind ?_ (fun _ => ?_)
set_option maxHeartbeats 8000000 in
set_option maxRecDepth 100000 in
theorem tables_Coord.calls (k : Nat) (A0 : Option Addr) (c0 : Nat) (l0 : List Int) (r : List Int) (w : World) (hr0 : Kd.C (Kd.int .i16) w A0 l0.length l0) (hc0 : l0.length ≤ c0) (h : tables_Coord.f k l0 = some r) :
  Calls Try.prog 56 #[.slice A0 l0.length c0] w fun e w' => ∃ v0_ : Value, e = .returned (v0_) ∧ Kd.R (Kd.int .i64) 3 w' w.heap.size (fun _ => True) v0_ r ∧ Below w.heap.size w w' := by
 have HR0 := Aside0.mk hr0
 have HC0 := Aside0.mk hc0
 clear hr0 hc0
 have HB := Aside0.mk (Below.refl w.heap.size w)
 have H : (tables_Coord.l0 k ([] : List Int) l0 (l0.length : Int) 0) = some r := h
 clear h
 have H' := Aside0.mk H
 clear H
 go_enter Try.func56, Try.ntmps56
 go_wp2
 go_loopg [2, 7] k (fun kq v2 v7 w' => ∃ (x2_1 : List Int) (x7_1 : Int), v7 = .int .i64 x7_1 ∧ Aside0 (tables_Coord.l0 kq x2_1 l0 (l0.length : Int) x7_1 = some r) ∧ Aside0 (kq ≤ k) ∧ Aside0 (Kd.R (Kd.int .i64) 3 w' w.heap.size (fun _ => True) v2 x2_1) ∧ Aside0 (Below w.heap.size w w'))
 case atStart => exact ⟨(([] : List Int)), (0), (by first | rfl | (simp; done) | (simp [*]; done)), H', ⟨Nat.le_refl _⟩, ⟨by first | exact Kd.R_nil _ _ _ _ _ | exact Kd.N_nil _ _ _ _ _ | exact Kd.V_nil _ _ _ _ _ | exact Kd.Q_nil _ _ _ _ _ | exact Kd.S_nil _ _ _ _ _⟩, ⟨by repeat (first | (with_reducible first | exact HB.out | apply below_alloc | apply pw_below_drewN | apply below_drew1) | exact HB.out)⟩⟩
 case round =>
  clear H'
  obtain ⟨x2_1, x7_1, rfl, HA, HK1, HO_2, HB⟩ := hrel
  cases gk with
  | zero => exact absurd HA.out (by simp [tables_Coord.l0])
  | succ k1 =>
   have H := HA.out
   clear HA
   simp only [tables_Coord.l0] at H
   by_cases c2 : x7_1 < (l0.length : Int)
   ·rw [if_pos c2] at H
    have c2b0 : decide (x7_1 < (l0.length : Int)) = true := decide_eq_true c2
    clear c2
    by_cases c3 : 0 ≤ x7_1
    ·rw [if_pos c3] at H
     have c3b0 : decide (0 ≤ x7_1) = true := decide_eq_true c3
     clear c3
     by_cases c4 : x7_1 < (l0.length : Int)
     ·rw [if_pos c4] at H
      have c4b0 : decide (x7_1 < (l0.length : Int)) = true := decide_eq_true c4
      clear c4
      by_cases c5 : x2_1.length < 17592186044416
      ·rw [if_pos c5] at H
       have LMc5 := Aside0.mk c5
       clear c5
       obtain ⟨y179, hy179⟩ : ∃ y_ : List Int, y_ = (x2_1 ++ [wrap64 (rd l0 x7_1)]) := ⟨_, rfl⟩
       replace H : (tables_Coord.l0 k1 y179 l0 (l0.length : Int) (wrap64 (x7_1 + 1))) = some r := by first | (rw [hy179]; with_reducible exact H) | (have H2_ := (Option.bind_some _ _).symm.trans H; rw [hy179]; with_reducible exact H2_) | (have H2_ := (Option.bind_some _ _).symm.trans H; with_reducible exact H2_) | with_reducible exact H | (rw [hy179]; exact H) | exact H
       have Ny179 := Aside0.mk hy179
       clear hy179
       have H' := Aside0.mk H
       clear H
       have p178 : 0 ≤ (x7_1 : Int) := of_decide_eq_true (by first | (with_reducible assumption) | assumption)
       have q178 : x7_1 < (l0.length : Int) := of_decide_eq_true (by first | (with_reducible assumption) | assumption)
       obtain ⟨ad178, e178, hx178_0⟩ := Kd.at_int HR0.out x7_1 p178 q178
       cases e178
       replace hx178_0 := (HB.out.cell (World.block_lt_of_cell? w _ hx178_0)).trans hx178_0
       replace p178 := eq_true p178
       replace q178 := eq_true q178
       go_wp2_with (first | ((with_reducible refine gate_builtin (b := .append) (xs := #[.tmp 11, .tmp 14]) rfl ?_); at_builtin; refine Kd.R_append (Kd.int .i64) (w0 := w) w.heap.size rfl (.tmp 11) (.tmp 14) 31 3 (.int .i64 0) 8 rfl Try.underlying31 info3 rfl (by decide) (by omega) u2 x2_1 (wrap64 (rd l0 x7_1)) [.int .i64 (wrap64 (rd l0 x7_1))] (fun _ => True) (fun _ => False) rfl rfl ?aP (fun _ hk => hk.elim) ?aF ?aO ?aB ?aS ?aL ?_; (case aP => exact rfl); (case aB => exact (by repeat (first | (with_reducible first | exact HB.out | apply below_alloc | apply pw_below_drewN | apply below_drew1) | exact HB.out))); (case aF => exact (fun _ _ => trivial)); (case aO => exact (by (with_reducible repeat (first | apply Kd.R_alloc | apply Kd.R_drewN | apply Kd.R_drew)); exact HO_2.out)); (case aS => exact (below_size (by repeat (first | (with_reducible first | exact HB.out | apply below_alloc | apply pw_below_drewN | apply below_drew1) | exact HB.out)))); (case aL => have := LMc5.out; omega); intro v180 w6 ho hb hg hat; rw [← Ny179.out] at ho; have n0_ := Aside0.mk (hb); have n1_ := Aside0.mk (ho); clear HB; clear HO_2; have HB := n0_; have HO181 := n1_; clear n0_ n1_; clear ho hb hg hat))
       go_roundg k1
       case measure => have := HK1.out; omega
       case rel => exact ⟨(y179), (wrap64 (x7_1 + 1)), (by first | rfl | (simp; done) | (simp [*]; done)), H', ⟨by have := HK1.out; omega⟩, ⟨by (with_reducible repeat (first | apply Kd.R_alloc | apply Kd.R_drewN | apply Kd.R_drew)); exact HO181.out⟩, ⟨by repeat (first | (with_reducible first | exact HB.out | apply below_alloc | apply pw_below_drewN | apply below_drew1) | exact HB.out)⟩⟩
      ·rw [if_neg c5] at H
       exact absurd H (by simp)
     ·rw [if_neg c4] at H
      exact absurd H (by simp)
    ·rw [if_neg c3] at H
     exact absurd H (by simp)
   ·rw [if_neg c2] at H
    have c2b0 : decide (x7_1 < (l0.length : Int)) = false := decide_eq_false c2
    clear c2
    obtain rfl := Option.some.inj H
    go_wp2
    go_ret
    exact ⟨_, by first | rfl | (simp [errW_none, errW_some] <;> rfl) | (simp [*, errW_none, errW_some] <;> rfl), by (with_reducible repeat (first | apply Kd.R_alloc | apply Kd.R_drewN | apply Kd.R_drew)); exact HO_2.out, by repeat (first | (with_reducible first | exact HB.out | apply below_alloc | apply pw_below_drewN | apply below_drew1) | exact HB.out)⟩

/-! ### math_Round: function 102 -/
def math_Round.e (a0 : Nat) : Int := Go.bits .and .u64 ((a0 : Int) / 4503599627370496) 2047
def math_Round.g (a0 : Nat) : Int := if math_Round.e a0 < 1023 then (if math_Round.e a0 = 1022 then Go.bits .or .u64 (Go.bits .and .u64 (a0 : Int) 9223372036854775808) 4607182418800017408 else Go.bits .and .u64 (a0 : Int) 9223372036854775808) else (if math_Round.e a0 < 1075 then Go.bits .andNot .u64 (IntKind.u64.wrap ((a0 : Int) + (2251799813685248 / 2 ^ (math_Round.e a0 - 1023).toNat))) (4503599627370495 / 2 ^ (math_Round.e a0 - 1023).toNat) else (a0 : Int))
def math_Round.f (a0 : Nat) : Option (Nat) := some (math_Round.g a0).toNat
set_option maxRecDepth 1000000 in
set_option maxHeartbeats 4000000 in
theorem math_Round.calls (a0 : Nat) (r : Nat) (w : World) (h : math_Round.f a0 = some r) :
    Calls Try.prog 102 #[.float .f64 a0] w fun e w' => e = .returned (.float .f64 r) ∧ Drawn0 w w' := by
  have hb : ∀ (x : Nat) (W : World), (callFunc 106 #[.float .f64 x]).run Try.prog W = .ok (.value (.int .u64 x)) W := fun x W => by
    rw [run_callFunc_extern Try.func106 (by kernel_rfl) (by kernel_rfl) (by kernel_rfl) (e := Extern.MathFloatBits.float64bits) (by kernel_rfl)]
    rfl
  have hf : ∀ (x : Int) (W : World), (callFunc 107 #[.int .u64 x]).run Try.prog W = .ok (.value (.float .f64 x.toNat)) W := fun x W => by
    rw [run_callFunc_extern Try.func107 (by kernel_rfl) (by kernel_rfl) (by kernel_rfl) (e := Extern.MathFloatBits.float64frombits) (by kernel_rfl)]
    rfl
  unfold math_Round.f at h
  obtain rfl := Option.some.inj h
  clear h
  obtain ⟨G, hG⟩ : ∃ G, G = math_Round.g a0 := ⟨_, rfl⟩
  rw [← hG]
  unfold math_Round.g at hG
  by_cases c3 : math_Round.e a0 < 1023
  · rw [if_pos c3] at hG
    by_cases c4 : math_Round.e a0 = 1022
    · rw [if_pos c4] at hG
      unfold math_Round.e at c3 c4
      go_enter Try.func102, Try.ntmps102
      go_wp2_with (simp only [hb, hf])
      go_ret
      exact ⟨by first | (rw [hG]; rfl) | rfl | (show Ending.returned (Value.float .f64 _) = _; rw [hG]), by repeat (first | exact Drawn0.refl _ | apply Drawn0.step)⟩
    · rw [if_neg c4] at hG
      unfold math_Round.e at c3 c4
      go_enter Try.func102, Try.ntmps102
      go_wp2_with (simp only [hb, hf])
      go_ret
      exact ⟨by first | (rw [hG]; rfl) | rfl | (show Ending.returned (Value.float .f64 _) = _; rw [hG]), by repeat (first | exact Drawn0.refl _ | apply Drawn0.step)⟩
  · rw [if_neg c3] at hG
    by_cases c7 : math_Round.e a0 < 1075
    · rw [if_pos c7] at hG
      unfold math_Round.e at *
      go_enter Try.func102, Try.ntmps102
      go_wp2_with (simp only [hb, hf])
      go_ret
      exact ⟨by first | (rw [hG]; rfl) | rfl | (show Ending.returned (Value.float .f64 _) = _; rw [hG]), by repeat (first | exact Drawn0.refl _ | apply Drawn0.step)⟩
    · rw [if_neg c7] at hG
      unfold math_Round.e at c3 c7
      go_enter Try.func102, Try.ntmps102
      go_wp2_with (simp only [hb, hf])
      go_ret
      exact ⟨by first | (rw [hG]; rfl) | rfl | (show Ending.returned (Value.float .f64 _) = _; rw [hG]), by repeat (first | exact Drawn0.refl _ | apply Drawn0.step)⟩

end Go.Proofs.Ytlbmfnjhpojghaa.PFnNormalized
