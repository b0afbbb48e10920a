-- Written by a program of this session (xprint) out of the translation; Lean checks it.
import Derived.Test.YtlbmfnjhpojghaaPFnDeltax0
namespace Go.Proofs.Ytlbmfnjhpojghaa.PFnDelta
open Go.RowKit Go.Proofs.YtlbmfnjhpojghaaW.PrintWords Go.Proofs.YtlbmfnjhpojghaaW.PrintLast Go.Proofs.YtlbmfnjhpojghaaW.PrintMore
attribute [local go_sem] max2_int min2_int max_two min_two max_three min_three max_four min_four   -- for this text's walks alone
set_option linter.unusedVariables false
set_option linter.unusedSimpArgs false

attribute [local go_sem] f_add f_sub f_mul f_quo f_conv f_same f_int f_max
/-- A state of type 102 at block g of W; what its slices lead to came in by w0. -/
def IsS102 (w0 W : World) (g : Nat) (f0 : Int) (f1 : Int) (f2 : Bool) : Prop := W.heap[g]? = some (.cells #[.int .i64 f0, .int .i64 f1, .bool f2] 102 (0, 0)) ∧ w0.heap.size ≤ g
theorem IsS102.grown {w0 W : World} {g : Nat} {f0 : Int} {f1 : Int} {f2 : Bool} {W1 : World} {row : Option Nat} (h : IsS102 w0 W g f0 f1 f2) (hw : W.grownBy W1 row) (hne : some g ≠ row) : IsS102 w0 W1 g f0 f1 f2 := by
 obtain ⟨hb, hg⟩ := h
 exact ⟨blk_grown hb hw hne, hg⟩
theorem IsS102.own_neN {w0 W : World} {g : Nat} {f0 : Int} {f1 : Int} {f2 : Bool} {α : Type} {d : Kd α} {e : Nat} {base : Nat} {ok : Nat → Prop} {v : Value} {xs : List α} (h : IsS102 w0 W g f0 f1 f2) (ho : Kd.N d e W base ok v xs) (ht : e ≠ 102) : some g ≠ v.ownBlock := by
 obtain ⟨hb, hg⟩ := h
 exact Kd.N_ne ho hb ht
theorem IsS102.fresh {w0 W : World} {g : Nat} {f0 : Int} {f1 : Int} {f2 : Bool} (h : IsS102 w0 W g f0 f1 f2) : ∀ k, W.heap.size ≤ k → k ≠ g := by
 obtain ⟨hb, hg⟩ := h
 exact Kd.freshB hb
theorem IsS102.kept {w0 W : World} {g : Nat} {f0 : Int} {f1 : Int} {f2 : Bool} {W1 : World} {S : Nat → Prop} (h : IsS102 w0 W g f0 f1 f2) (hk : Kept W W1 S) (hne : ¬ S g) : IsS102 w0 W1 g f0 f1 f2 := by
 obtain ⟨hb, hg⟩ := h
 exact ⟨blk_kept hb hk hne, hg⟩
theorem IsS102.below {w0 W : World} {g : Nat} {f0 : Int} {f1 : Int} {f2 : Bool} {W1 : World} (h : IsS102 w0 W g f0 f1 f2) (hw : Below W.heap.size W W1) : IsS102 w0 W1 g f0 f1 f2 := h.grown (grown_of_below hw none) (by simp)
theorem IsS102.alloc {w0 W : World} {g : Nat} {f0 : Int} {f1 : Int} {f2 : Bool} (h : IsS102 w0 W g f0 f1 f2) (o : Obj) : IsS102 w0 (W.alloc o) g f0 f1 f2 := h.below (below_alloc (Below.refl _ _) o)
theorem IsS102.drewN {w0 W : World} {g : Nat} {f0 : Int} {f1 : Int} {f2 : Bool} (h : IsS102 w0 W g f0 f1 f2) (m : Nat) : IsS102 w0 (W.drewN m) g f0 f1 f2 := h
theorem IsS102.drew {w0 W : World} {g : Nat} {f0 : Int} {f1 : Int} {f2 : Bool} (h : IsS102 w0 W g f0 f1 f2) : IsS102 w0 W.drew g f0 f1 f2 := h
theorem IsS102.at_ {w0 W : World} {g : Nat} {f0 : Int} {f1 : Int} {f2 : Bool} {w' : World} {m : Nat} (hq : W.drewN m = w') (h : IsS102 w0 W g f0 f1 f2) : IsS102 w0 w' g f0 f1 f2 := by subst hq; exact IsS102.drewN h m
theorem IsS102.apart {w0 W : World} {g : Nat} {f0 : Int} {f1 : Int} {f2 : Bool} {α : Type} {d : Kd α} {e : Nat} {base : Nat} {ok : Nat → Prop} {v : Value} {xs : List α} (h : IsS102 w0 W g f0 f1 f2) (ho : d.R e W base ok v xs) (ht : ∀ q, q ∈ e :: d.E → q ≠ 102) : d.R e W base (fun k => ok k ∧ k ≠ g) v xs := by
 obtain ⟨hb, hg⟩ := h
 exact Kd.R_types ho hb ht
theorem IsS102.own_ne {w0 W : World} {g : Nat} {f0 : Int} {f1 : Int} {f2 : Bool} {α : Type} {d : Kd α} {e : Nat} {base : Nat} {ok : Nat → Prop} {v : Value} {xs : List α} (h : IsS102 w0 W g f0 f1 f2) (ho : d.R e W base ok v xs) (ht : e ≠ 102) : some g ≠ v.ownBlock := by
 obtain ⟨hb, hg⟩ := h
 exact Kd.R_ne ho hb ht
theorem IsS102.apartQ {w0 W : World} {g : Nat} {f0 : Int} {f1 : Int} {f2 : Bool} {α : Type} {d : Kd α} {e : Nat} {base : Nat} {ok : Nat → Prop} {v : Value} {xs : List α} (h : IsS102 w0 W g f0 f1 f2) (ho : d.Q e W base ok v xs) (ht : ∀ q, q ∈ e :: d.E → q ≠ 102) : d.Q e W base (fun k => ok k ∧ k ≠ g) v xs := by
 obtain ⟨hb, hg⟩ := h
 exact Kd.Q_types ho hb ht
theorem IsS102.own_neQ {w0 W : World} {g : Nat} {f0 : Int} {f1 : Int} {f2 : Bool} {α : Type} {d : Kd α} {e : Nat} {base : Nat} {ok : Nat → Prop} {v : Value} {xs : List α} (h : IsS102 w0 W g f0 f1 f2) (ho : d.Q e W base ok v xs) (ht : e ≠ 102) : some g ≠ v.ownBlock := by
 obtain ⟨hb, hg⟩ := h
 exact Kd.Q_ne ho hb ht
theorem IsS102.apartS {w0 W : World} {g : Nat} {f0 : Int} {f1 : Int} {f2 : Bool} {α : Type} {d : Kd α} {e : Nat} {base : Nat} {ok : Nat → Prop} {v : Value} {xs : List α} (h : IsS102 w0 W g f0 f1 f2) (ho : d.S e W base ok v xs) (ht : ∀ q, q ∈ e :: d.E → q ≠ 102) : d.S e W base (fun k => ok k ∧ k ≠ g) v xs := by
 obtain ⟨hb, hg⟩ := h
 exact Kd.S_types ho hb ht
theorem IsS102.own_neS {w0 W : World} {g : Nat} {f0 : Int} {f1 : Int} {f2 : Bool} {α : Type} {d : Kd α} {e : Nat} {base : Nat} {ok : Nat → Prop} {v : Value} {xs : List α} (h : IsS102 w0 W g f0 f1 f2) (ho : d.S e W base ok v xs) (ht : e ≠ 102) : some g ≠ v.ownBlock := by
 obtain ⟨hb, hg⟩ := h
 exact Kd.S_ne ho hb ht
theorem IsS102.lt {w0 W : World} {g : Nat} {f0 : Int} {f1 : Int} {f2 : Bool} (h : IsS102 w0 W g f0 f1 f2) : g < W.heap.size := by
 obtain ⟨hb, hg⟩ := h
 exact blk_lt hb
theorem IsS102.ge {w0 W : World} {g : Nat} {f0 : Int} {f1 : Int} {f2 : Bool} (h : IsS102 w0 W g f0 f1 f2) : w0.heap.size ≤ g := by
 obtain ⟨hb, hg⟩ := h
 exact hg
theorem IsS102.ne_blk {w0 W : World} {g : Nat} {f0 : Int} {f1 : Int} {f2 : Bool} {a : Nat} {cs : Array Value} {t : TypeId} {fr : Nat × Nat} (h : IsS102 w0 W g f0 f1 f2) (hb2 : W.heap[a]? = some (.cells cs t fr)) (ht : t ≠ 102) : g ≠ a := by
 obtain ⟨hb, hg⟩ := h
 rintro rfl
 rw [hb] at hb2
 injection hb2 with hb2
 injection hb2 with _ ht2
 exact ht ht2.symm
theorem IsS102.far {w0 W : World} {g : Nat} {f0 : Int} {f1 : Int} {f2 : Bool} {p : Addr} (h : IsS102 w0 W g f0 f1 f2) (hne : g ≠ p.block) (u : Value) : IsS102 w0 (W.setCell p u) g f0 f1 f2 := by
 obtain ⟨hb, hg⟩ := h
 exact ⟨blk_far hb hne u, hg⟩
theorem IsS102.of {w0 W : World} {g : Nat} {f0 : Int} {f1 : Int} {f2 : Bool} (h : W.heap[g]? = some (.cells #[.int .i64 f0, .int .i64 f1, .bool f2] 102 (0, 0))) (hg : w0.heap.size ≤ g) : IsS102 w0 W g f0 f1 f2 := ⟨h, hg⟩
theorem IsS102.cells {w0 W : World} {g : Nat} {f0 : Int} {f1 : Int} {f2 : Bool} (h : IsS102 w0 W g f0 f1 f2) : W.heap[g]? = some (.cells #[.int .i64 f0, .int .i64 f1, .bool f2] 102 (0, 0)) := h.1
theorem cellS102_0 {W : World} {g : Nat} {f0 : Int} {f1 : Int} {f2 : Bool} (h : W.heap[g]? = some (.cells #[.int .i64 f0, .int .i64 f1, .bool f2] 102 (0, 0))) : W.cell? ⟨g, 0, none⟩ = some (.int .i64 f0) := (blk_cell h 0).trans rfl
theorem IsS102.set_0 {w0 W : World} {g : Nat} {f0 : Int} {f1 : Int} {f2 : Bool} (h : IsS102 w0 W g f0 f1 f2) (x : Int) : IsS102 w0 (W.setCell ⟨g, 0, none⟩ (.int .i64 x)) g x f1 f2 := by
 obtain ⟨hb, hg⟩ := h
 exact ⟨by simpa using blk_set hb 0 (.int .i64 x), hg⟩
theorem cellS102_1 {W : World} {g : Nat} {f0 : Int} {f1 : Int} {f2 : Bool} (h : W.heap[g]? = some (.cells #[.int .i64 f0, .int .i64 f1, .bool f2] 102 (0, 0))) : W.cell? ⟨g, 1, none⟩ = some (.int .i64 f1) := (blk_cell h 1).trans rfl
theorem IsS102.set_1 {w0 W : World} {g : Nat} {f0 : Int} {f1 : Int} {f2 : Bool} (h : IsS102 w0 W g f0 f1 f2) (x : Int) : IsS102 w0 (W.setCell ⟨g, 1, none⟩ (.int .i64 x)) g f0 x f2 := by
 obtain ⟨hb, hg⟩ := h
 exact ⟨by simpa using blk_set hb 1 (.int .i64 x), hg⟩
theorem cellS102_2 {W : World} {g : Nat} {f0 : Int} {f1 : Int} {f2 : Bool} (h : W.heap[g]? = some (.cells #[.int .i64 f0, .int .i64 f1, .bool f2] 102 (0, 0))) : W.cell? ⟨g, 2, none⟩ = some (.bool f2) := (blk_cell h 2).trans rfl
theorem IsS102.set_2 {w0 W : World} {g : Nat} {f0 : Int} {f1 : Int} {f2 : Bool} (h : IsS102 w0 W g f0 f1 f2) (x : Bool) : IsS102 w0 (W.setCell ⟨g, 2, none⟩ (.bool x)) g f0 f1 x := by
 obtain ⟨hb, hg⟩ := h
 exact ⟨by simpa using blk_set hb 2 (.bool x), hg⟩
theorem IsS102.new (w0 W : World) (f0 : Int) (f1 : Int) (f2 : Bool) (hB : Below w0.heap.size w0 W) : IsS102 w0 (W.alloc (.cells #[.int .i64 f0, .int .i64 f1, .bool f2] 102)) W.heap.size f0 f1 f2 := ⟨by simpa using heap_alloc_new W _, hB.size⟩

/-! ### impl_builder_must: function 50 -/
def impl_builder_must.f (s0_0 : Int) (s0_1 : Int) (s0_2 : Bool) (a1 : Bool) : Option (Int × Int × Bool) := if s0_2 = true then (some (s0_0, s0_1, true)) else (some (s0_0, s0_1, !a1))
set_option maxHeartbeats 8000000 in
set_option maxRecDepth 100000 in
theorem impl_builder_must.calls (g : Nat) (s0_0 : Int) (s0_1 : Int) (s0_2 : Bool) (a1 : Bool) (r1 : Int) (r2 : Int) (r3 : Bool) (w0 w : World) (hI : IsS102 w0 w g s0_0 s0_1 s0_2) (hB : Below w0.heap.size w0 w) (h : impl_builder_must.f s0_0 s0_1 s0_2 a1 = some (r1, r2, r3)) :
  Calls Try.prog 50 #[.pointer (some ⟨g, 0, none⟩), .bool a1] w fun e w' => e = .returned (.tuple #[]) ∧ IsS102 w0 w' g r1 r2 r3 ∧ Below w0.heap.size w0 w' ∧ KeepBut w w' g none := by
 have HI0 := Aside0.mk hI
 have HK := Aside0.mk (KeepBut.refl w g none)
 have HL := Aside0.mk hB.size
 clear hI
 have HW0 := Aside0.mk hB.size
 have HB := Aside0.mk hB
 clear hB
 have H : (if s0_2 = true then (some (s0_0, s0_1, true)) else (some (s0_0, s0_1, !a1))) = some (r1, r2, r3) := h
 clear h
 by_cases c3 : s0_2 = true
 ·subst c3
  have H1 : (some (s0_0, s0_1, true)) = some (r1, r2, r3) := by rw [if_pos rfl] at H; exact H
  clear H
  have H := H1
  clear H1
  simp only [Option.some.injEq, Prod.mk.injEq] at H
  obtain ⟨rfl, rfl, rfl⟩ := H
  obtain ⟨HGz4, hgz4⟩ := HI0.out
  have hcz4_0 := cellS102_0 HGz4
  have hcz4_1 := cellS102_1 HGz4
  have hcz4_2 := cellS102_2 HGz4
  have hfz4_0 := blk_frozen HGz4 0
  have hfz4_1 := blk_frozen HGz4 1
  have hfz4_2 := blk_frozen HGz4 2
  clear HGz4 hgz4
  go_enter Try.func50, Try.ntmps50
  go_wp2
  first | go_end0 | ((try simp only [Exit.inBlock, Exit.then]); refine bodyPost_ret (results_none rfl _ _ _) rfl ?_)
  exact ⟨by first | rfl | (simp [errW_none, errW_some] <;> rfl) | (simp [*, errW_none, errW_some] <;> rfl), by repeat (first | (with_reducible first | exact HI0.out | apply IsS102.alloc | apply IsS102.drewN | apply IsS102.drew | apply IsS102.set_0 | apply IsS102.set_1 | apply IsS102.set_2) | exact HI0.out), by repeat (first | (with_reducible first | exact HB.out | apply below_alloc | apply pw_below_drewN | apply below_drew1 | refine below_set ?_ (IsS102.ge HI0.out)) | exact HB.out), by repeat (first | (with_reducible first | exact HK.out | apply KeepBut.set_ | apply keep_drewN | apply keep_drew | apply keep_alloc) | exact HK.out)⟩
 ·replace c3 := Bool.eq_false_iff.mpr c3
  subst c3
  have H1 : (some (s0_0, s0_1, !a1)) = some (r1, r2, r3) := by rw [if_neg (show ¬ (false = true) by decide)] at H; exact H
  clear H
  have H := H1
  clear H1
  simp only [Option.some.injEq, Prod.mk.injEq] at H
  obtain ⟨rfl, rfl, rfl⟩ := H
  obtain ⟨HGz5, hgz5⟩ := HI0.out
  have hcz5_0 := cellS102_0 HGz5
  have hcz5_1 := cellS102_1 HGz5
  have hcz5_2 := cellS102_2 HGz5
  have hfz5_0 := blk_frozen HGz5 0
  have hfz5_1 := blk_frozen HGz5 1
  have hfz5_2 := blk_frozen HGz5 2
  clear HGz5 hgz5
  go_enter Try.func50, Try.ntmps50
  go_wp2
  first | go_end0 | ((try simp only [Exit.inBlock, Exit.then]); refine bodyPost_ret (results_none rfl _ _ _) rfl ?_)
  exact ⟨by first | rfl | (simp [errW_none, errW_some] <;> rfl) | (simp [*, errW_none, errW_some] <;> rfl), by repeat (first | (with_reducible first | exact HI0.out | apply IsS102.alloc | apply IsS102.drewN | apply IsS102.drew | apply IsS102.set_0 | apply IsS102.set_1 | apply IsS102.set_2) | exact HI0.out), by repeat (first | (with_reducible first | exact HB.out | apply below_alloc | apply pw_below_drewN | apply below_drew1 | refine below_set ?_ (IsS102.ge HI0.out)) | exact HB.out), by repeat (first | (with_reducible first | exact HK.out | apply KeepBut.set_ | apply keep_drewN | apply keep_drew | apply keep_alloc) | exact HK.out)⟩

/-! ### impl_builder_small: function 35 -/
def impl_builder_small.f (s0_0 : Int) (s0_1 : Int) (s0_2 : Bool) (a1 : Int) : Option (Int × Int × Int × Bool) := if a1 ≥ 0 then ((impl_builder_must.f s0_0 s0_1 s0_2 (decide (a1 ≤ 65535))).bind fun bt146 => (some (IntKind.u16.wrap (a1), bt146.1, bt146.2.1, bt146.2.2))) else ((impl_builder_must.f s0_0 s0_1 s0_2 false).bind fun bt149 => (some (IntKind.u16.wrap (a1), bt149.1, bt149.2.1, bt149.2.2)))
set_option maxHeartbeats 8000000 in
set_option maxRecDepth 100000 in
theorem impl_builder_small.calls (g : Nat) (s0_0 : Int) (s0_1 : Int) (s0_2 : Bool) (a1 : Int) (r1 : Int) (r2 : Int) (r3 : Int) (r4 : Bool) (w0 w : World) (hI : IsS102 w0 w g s0_0 s0_1 s0_2) (hB : Below w0.heap.size w0 w) (h : impl_builder_small.f s0_0 s0_1 s0_2 a1 = some (r1, r2, r3, r4)) :
  Calls Try.prog 35 #[.pointer (some ⟨g, 0, none⟩), .int .i64 a1] w fun e w' => e = .returned (.int .u16 r1) ∧ IsS102 w0 w' g r2 r3 r4 ∧ Below w0.heap.size w0 w' ∧ KeepBut w w' g none := by
 have HI0 := Aside0.mk hI
 have HK := Aside0.mk (KeepBut.refl w g none)
 have HL := Aside0.mk hB.size
 clear hI
 have HW0 := Aside0.mk hB.size
 have HB := Aside0.mk hB
 clear hB
 have H : (if a1 ≥ 0 then ((impl_builder_must.f s0_0 s0_1 s0_2 (decide (a1 ≤ 65535))).bind fun bt146 => (some (IntKind.u16.wrap (a1), bt146.1, bt146.2.1, bt146.2.2))) else ((impl_builder_must.f s0_0 s0_1 s0_2 false).bind fun bt149 => (some (IntKind.u16.wrap (a1), bt149.1, bt149.2.1, bt149.2.2)))) = some (r1, r2, r3, r4) := h
 clear h
 by_cases c3 : a1 ≥ 0
 ·rw [if_pos c3] at H
  have c3b0 : decide (0 ≤ a1) = true := decide_eq_true c3
  clear c3
  replace H := Option.bind_eq_some_iff.mp H
  obtain ⟨⟨t146, t147, t148⟩, A40, H⟩ := H
  replace H : (some (IntKind.u16.wrap (a1), t146, t147, t148)) = some (r1, r2, r3, r4) := H
  have A4 := Aside0.mk A40
  clear A40
  simp only [Option.some.injEq, Prod.mk.injEq] at H
  obtain ⟨rfl, rfl, rfl, rfl⟩ := H
  go_enter Try.func35, Try.ntmps35
  go_wp2_with (first | ((with_reducible refine gate_callee (f := 50) rfl ?_); refine goesL_ (some 12) rfl rfl Try.func50 (by kernel_rfl) rfl #[.pointer (some ⟨g, 0, none⟩), .bool (decide (a1 ≤ 65535))] rfl (by (try simp only [List.map_toArray, List.map_cons, List.map_nil]); first | done | rfl | (simp only [List.length_drop, List.length_take]; rfl)) ?_; (with_reducible refine (impl_builder_must.calls g s0_0 s0_1 s0_2 (decide (a1 ≤ 65535)) t146 t147 t148 w0 _ ?side1 ?side2 A4.out).mono ?_); (case side1 => repeat (first | (with_reducible first | exact HI0.out | apply IsS102.alloc | apply IsS102.drewN | apply IsS102.drew | apply IsS102.set_0 | apply IsS102.set_1 | apply IsS102.set_2) | exact HI0.out)); (case side2 => repeat (first | (with_reducible first | exact HB.out | apply below_alloc | apply pw_below_drewN | apply below_drew1 | refine below_set ?_ (IsS102.ge HI0.out)) | exact HB.out)); rintro e w5 ⟨rfl, hi, hb, hk⟩; refine ⟨_, rfl, ?_⟩; have n0_ := Aside0.mk (KeepBut.trans (by repeat (first | (with_reducible first | exact HK.out | apply KeepBut.set_ | apply keep_drewN | apply keep_drew | apply keep_alloc) | exact HK.out)) hk (.inl rfl)); have n1_ := Aside0.mk (hb); have n2_ := Aside0.mk (hi); clear HK; clear HB; clear HI0; have HK := n0_; have HB := n1_; have HI0 := n2_; clear n0_ n1_ n2_; (try clear hb); (try clear hb2); (try clear hk); (try clear hi)))
  go_ret
  exact ⟨by first | rfl | (simp [errW_none, errW_some] <;> rfl) | (simp [*, errW_none, errW_some] <;> rfl), by repeat (first | (with_reducible first | exact HI0.out | apply IsS102.alloc | apply IsS102.drewN | apply IsS102.drew | apply IsS102.set_0 | apply IsS102.set_1 | apply IsS102.set_2) | exact HI0.out), by repeat (first | (with_reducible first | exact HB.out | apply below_alloc | apply pw_below_drewN | apply below_drew1 | refine below_set ?_ (IsS102.ge HI0.out)) | exact HB.out), by repeat (first | (with_reducible first | exact HK.out | apply KeepBut.set_ | apply keep_drewN | apply keep_drew | apply keep_alloc) | exact HK.out)⟩
 ·rw [if_neg c3] at H
  have c3b0 : decide (0 ≤ a1) = false := decide_eq_false c3
  clear c3
  replace H := Option.bind_eq_some_iff.mp H
  obtain ⟨⟨t149, t150, t151⟩, A60, H⟩ := H
  replace H : (some (IntKind.u16.wrap (a1), t149, t150, t151)) = some (r1, r2, r3, r4) := H
  have A6 := Aside0.mk A60
  clear A60
  simp only [Option.some.injEq, Prod.mk.injEq] at H
  obtain ⟨rfl, rfl, rfl, rfl⟩ := H
  go_enter Try.func35, Try.ntmps35
  go_wp2_with (first | ((with_reducible refine gate_callee (f := 50) rfl ?_); refine goesL_ (some 12) rfl rfl Try.func50 (by kernel_rfl) rfl #[.pointer (some ⟨g, 0, none⟩), .bool false] rfl (by (try simp only [List.map_toArray, List.map_cons, List.map_nil]); first | done | rfl | (simp only [List.length_drop, List.length_take]; rfl)) ?_; (with_reducible refine (impl_builder_must.calls g s0_0 s0_1 s0_2 false t149 t150 t151 w0 _ ?side1 ?side2 A6.out).mono ?_); (case side1 => repeat (first | (with_reducible first | exact HI0.out | apply IsS102.alloc | apply IsS102.drewN | apply IsS102.drew | apply IsS102.set_0 | apply IsS102.set_1 | apply IsS102.set_2) | exact HI0.out)); (case side2 => repeat (first | (with_reducible first | exact HB.out | apply below_alloc | apply pw_below_drewN | apply below_drew1 | refine below_set ?_ (IsS102.ge HI0.out)) | exact HB.out)); rintro e w7 ⟨rfl, hi, hb, hk⟩; refine ⟨_, rfl, ?_⟩; have n0_ := Aside0.mk (KeepBut.trans (by repeat (first | (with_reducible first | exact HK.out | apply KeepBut.set_ | apply keep_drewN | apply keep_drew | apply keep_alloc) | exact HK.out)) hk (.inl rfl)); have n1_ := Aside0.mk (hb); have n2_ := Aside0.mk (hi); clear HK; clear HB; clear HI0; have HK := n0_; have HB := n1_; have HI0 := n2_; clear n0_ n1_ n2_; (try clear hb); (try clear hb2); (try clear hk); (try clear hi)))
  go_ret
  exact ⟨by first | rfl | (simp [errW_none, errW_some] <;> rfl) | (simp [*, errW_none, errW_some] <;> rfl), by repeat (first | (with_reducible first | exact HI0.out | apply IsS102.alloc | apply IsS102.drewN | apply IsS102.drew | apply IsS102.set_0 | apply IsS102.set_1 | apply IsS102.set_2) | exact HI0.out), by repeat (first | (with_reducible first | exact HB.out | apply below_alloc | apply pw_below_drewN | apply below_drew1 | refine below_set ?_ (IsS102.ge HI0.out)) | exact HB.out), by repeat (first | (with_reducible first | exact HK.out | apply KeepBut.set_ | apply keep_drewN | apply keep_drew | apply keep_alloc) | exact HK.out)⟩

/-! ### impl_builder_signed: function 51 -/
def impl_builder_signed.f (s0_0 : Int) (s0_1 : Int) (s0_2 : Bool) (a1 : Int) : Option (Int × Int × Int × Bool) := if a1 ≥ (-32768) then ((impl_builder_must.f s0_0 s0_1 s0_2 (decide (a1 ≤ 32767))).bind fun bt152 => (some (IntKind.i16.wrap (a1), bt152.1, bt152.2.1, bt152.2.2))) else ((impl_builder_must.f s0_0 s0_1 s0_2 false).bind fun bt155 => (some (IntKind.i16.wrap (a1), bt155.1, bt155.2.1, bt155.2.2)))
set_option maxHeartbeats 8000000 in
set_option maxRecDepth 100000 in
theorem impl_builder_signed.calls (g : Nat) (s0_0 : Int) (s0_1 : Int) (s0_2 : Bool) (a1 : Int) (r1 : Int) (r2 : Int) (r3 : Int) (r4 : Bool) (w0 w : World) (hI : IsS102 w0 w g s0_0 s0_1 s0_2) (hB : Below w0.heap.size w0 w) (h : impl_builder_signed.f s0_0 s0_1 s0_2 a1 = some (r1, r2, r3, r4)) :
  Calls Try.prog 51 #[.pointer (some ⟨g, 0, none⟩), .int .i64 a1] w fun e w' => e = .returned (.int .i16 r1) ∧ IsS102 w0 w' g r2 r3 r4 ∧ Below w0.heap.size w0 w' ∧ KeepBut w w' g none := by
 have HI0 := Aside0.mk hI
 have HK := Aside0.mk (KeepBut.refl w g none)
 have HL := Aside0.mk hB.size
 clear hI
 have HW0 := Aside0.mk hB.size
 have HB := Aside0.mk hB
 clear hB
 have H : (if a1 ≥ (-32768) then ((impl_builder_must.f s0_0 s0_1 s0_2 (decide (a1 ≤ 32767))).bind fun bt152 => (some (IntKind.i16.wrap (a1), bt152.1, bt152.2.1, bt152.2.2))) else ((impl_builder_must.f s0_0 s0_1 s0_2 false).bind fun bt155 => (some (IntKind.i16.wrap (a1), bt155.1, bt155.2.1, bt155.2.2)))) = some (r1, r2, r3, r4) := h
 clear h
 by_cases c3 : a1 ≥ (-32768)
 ·rw [if_pos c3] at H
  have c3b0 : decide ((-32768) ≤ a1) = true := decide_eq_true c3
  clear c3
  replace H := Option.bind_eq_some_iff.mp H
  obtain ⟨⟨t152, t153, t154⟩, A40, H⟩ := H
  replace H : (some (IntKind.i16.wrap (a1), t152, t153, t154)) = some (r1, r2, r3, r4) := H
  have A4 := Aside0.mk A40
  clear A40
  simp only [Option.some.injEq, Prod.mk.injEq] at H
  obtain ⟨rfl, rfl, rfl, rfl⟩ := H
  go_enter Try.func51, Try.ntmps51
  go_wp2_with (first | ((with_reducible refine gate_callee (f := 50) rfl ?_); refine goesL_ (some 12) rfl rfl Try.func50 (by kernel_rfl) rfl #[.pointer (some ⟨g, 0, none⟩), .bool (decide (a1 ≤ 32767))] rfl (by (try simp only [List.map_toArray, List.map_cons, List.map_nil]); first | done | rfl | (simp only [List.length_drop, List.length_take]; rfl)) ?_; (with_reducible refine (impl_builder_must.calls g s0_0 s0_1 s0_2 (decide (a1 ≤ 32767)) t152 t153 t154 w0 _ ?side1 ?side2 A4.out).mono ?_); (case side1 => repeat (first | (with_reducible first | exact HI0.out | apply IsS102.alloc | apply IsS102.drewN | apply IsS102.drew | apply IsS102.set_0 | apply IsS102.set_1 | apply IsS102.set_2) | exact HI0.out)); (case side2 => repeat (first | (with_reducible first | exact HB.out | apply below_alloc | apply pw_below_drewN | apply below_drew1 | refine below_set ?_ (IsS102.ge HI0.out)) | exact HB.out)); rintro e w5 ⟨rfl, hi, hb, hk⟩; refine ⟨_, rfl, ?_⟩; have n0_ := Aside0.mk (KeepBut.trans (by repeat (first | (with_reducible first | exact HK.out | apply KeepBut.set_ | apply keep_drewN | apply keep_drew | apply keep_alloc) | exact HK.out)) hk (.inl rfl)); have n1_ := Aside0.mk (hb); have n2_ := Aside0.mk (hi); clear HK; clear HB; clear HI0; have HK := n0_; have HB := n1_; have HI0 := n2_; clear n0_ n1_ n2_; (try clear hb); (try clear hb2); (try clear hk); (try clear hi)))
  go_ret
  exact ⟨by first | rfl | (simp [errW_none, errW_some] <;> rfl) | (simp [*, errW_none, errW_some] <;> rfl), by repeat (first | (with_reducible first | exact HI0.out | apply IsS102.alloc | apply IsS102.drewN | apply IsS102.drew | apply IsS102.set_0 | apply IsS102.set_1 | apply IsS102.set_2) | exact HI0.out), by repeat (first | (with_reducible first | exact HB.out | apply below_alloc | apply pw_below_drewN | apply below_drew1 | refine below_set ?_ (IsS102.ge HI0.out)) | exact HB.out), by repeat (first | (with_reducible first | exact HK.out | apply KeepBut.set_ | apply keep_drewN | apply keep_drew | apply keep_alloc) | exact HK.out)⟩
 ·rw [if_neg c3] at H
  have c3b0 : decide ((-32768) ≤ a1) = false := decide_eq_false c3
  clear c3
  replace H := Option.bind_eq_some_iff.mp H
  obtain ⟨⟨t155, t156, t157⟩, A60, H⟩ := H
  replace H : (some (IntKind.i16.wrap (a1), t155, t156, t157)) = some (r1, r2, r3, r4) := H
  have A6 := Aside0.mk A60
  clear A60
  simp only [Option.some.injEq, Prod.mk.injEq] at H
  obtain ⟨rfl, rfl, rfl, rfl⟩ := H
  go_enter Try.func51, Try.ntmps51
  go_wp2_with (first | ((with_reducible refine gate_callee (f := 50) rfl ?_); refine goesL_ (some 12) rfl rfl Try.func50 (by kernel_rfl) rfl #[.pointer (some ⟨g, 0, none⟩), .bool false] rfl (by (try simp only [List.map_toArray, List.map_cons, List.map_nil]); first | done | rfl | (simp only [List.length_drop, List.length_take]; rfl)) ?_; (with_reducible refine (impl_builder_must.calls g s0_0 s0_1 s0_2 false t155 t156 t157 w0 _ ?side1 ?side2 A6.out).mono ?_); (case side1 => repeat (first | (with_reducible first | exact HI0.out | apply IsS102.alloc | apply IsS102.drewN | apply IsS102.drew | apply IsS102.set_0 | apply IsS102.set_1 | apply IsS102.set_2) | exact HI0.out)); (case side2 => repeat (first | (with_reducible first | exact HB.out | apply below_alloc | apply pw_below_drewN | apply below_drew1 | refine below_set ?_ (IsS102.ge HI0.out)) | exact HB.out)); rintro e w7 ⟨rfl, hi, hb, hk⟩; refine ⟨_, rfl, ?_⟩; have n0_ := Aside0.mk (KeepBut.trans (by repeat (first | (with_reducible first | exact HK.out | apply KeepBut.set_ | apply keep_drewN | apply keep_drew | apply keep_alloc) | exact HK.out)) hk (.inl rfl)); have n1_ := Aside0.mk (hb); have n2_ := Aside0.mk (hi); clear HK; clear HB; clear HI0; have HK := n0_; have HB := n1_; have HI0 := n2_; clear n0_ n1_ n2_; (try clear hb); (try clear hb2); (try clear hk); (try clear hi)))
  go_ret
  exact ⟨by first | rfl | (simp [errW_none, errW_some] <;> rfl) | (simp [*, errW_none, errW_some] <;> rfl), by repeat (first | (with_reducible first | exact HI0.out | apply IsS102.alloc | apply IsS102.drewN | apply IsS102.drew | apply IsS102.set_0 | apply IsS102.set_1 | apply IsS102.set_2) | exact HI0.out), by repeat (first | (with_reducible first | exact HB.out | apply below_alloc | apply pw_below_drewN | apply below_drew1 | refine below_set ?_ (IsS102.ge HI0.out)) | exact HB.out), by repeat (first | (with_reducible first | exact HK.out | apply KeepBut.set_ | apply keep_drewN | apply keep_drew | apply keep_alloc) | exact HK.out)⟩

/-! ### impl_builder_store: function 33 -/
mutual
def impl_builder_store.l0 : Nat → List (List (S36)) → List (S41) → Int → List (List (S36)) → Int → Int → Int → Int → Bool → Int → Int → List (S182) → Option (Int × Int × (List (S182)) × (List (S186)) × Int × Int × Bool)
 | 0, _, _, _, _, _, _, _, _, _, _, _, _ => none
 | k + 1, x1, x2, x3, x24, x25, x26, x1000, x1001, x1002, x159000, x159001, x159002 => if x26 < x25 then (if 0 ≤ x26 then (if x26 < (x24.length : Int) then ((impl_builder_must.f x1000 x1001 x1002 (((rd_L8 x24 x26).length : Int) == x3)).bind fun bt160 => (impl_builder_store.l1 k x1 x2 x3 x24 x25 x26 (rd_L8 x24 x26) ((rd_L8 x24 x26).length : Int) 0 bt160.1 bt160.2.1 bt160.2.2 x159000 x159001 x159002 ([] : List (S184)))) else (none)) else (none)) else (impl_builder_store.l2 k x1 x2 (x2.length : Int) 0 x1000 x1001 x1002 x159000 x159001 x159002 ([] : List (S186)))
def impl_builder_store.l1 : Nat → List (List (S36)) → List (S41) → Int → List (List (S36)) → Int → Int → List (S36) → Int → Int → Int → Int → Bool → Int → Int → List (S182) → List (S184) → Option (Int × Int × (List (S182)) × (List (S186)) × Int × Int × Bool)
 | 0, _, _, _, _, _, _, _, _, _, _, _, _, _, _, _, _ => none
 | k + 1, x1, x2, x3, x24, x25, x26, x36, x37, x38, x1000, x1001, x1002, x159000, x159001, x159002, x164000 => if x38 < x37 then (if 0 ≤ x38 then (if x38 < (x36.length : Int) then ((impl_builder_signed.f x1000 x1001 x1002 ((rd_T36 x36 x38).f0)).bind fun bt166 => ((impl_builder_signed.f bt166.2.1 bt166.2.2.1 bt166.2.2.2 ((rd_T36 x36 x38).f1)).bind fun bt170 => ((impl_builder_signed.f bt170.2.1 bt170.2.2.1 bt170.2.2.2 ((rd_T36 x36 x38).f2)).bind fun bt174 => (if x164000.length < 23456248059221 then (impl_builder_store.l1 k x1 x2 x3 x24 x25 x26 x36 x37 (wrap64 (x38 + 1)) bt174.2.1 bt174.2.2.1 bt174.2.2.2 x159000 x159001 x159002 (x164000 ++ [(⟨bt166.1, bt170.1, bt174.1⟩ : S184)])) else (none))))) else (none)) else (none)) else (if x159002.length < 5864062014805 then (impl_builder_store.l0 k x1 x2 x3 x24 x25 (wrap64 (x26 + 1)) x1000 x1001 x1002 x159000 x159001 (x159002 ++ [(⟨x164000⟩ : S182)])) else (none))
def impl_builder_store.l2 : Nat → List (List (S36)) → List (S41) → Int → Int → Int → Int → Bool → Int → Int → List (S182) → List (S186) → Option (Int × Int × (List (S182)) × (List (S186)) × Int × Int × Bool)
 | 0, _, _, _, _, _, _, _, _, _, _, _ => none
 | k + 1, x1, x70, x71, x72, x1000, x1001, x1002, x159000, x159001, x159002, x159003 => if x72 < x71 then (if 0 ≤ x72 then (if x72 < (x70.length : Int) then (impl_builder_store.l3 k x1 x70 x71 x72 ((rd_T41 x70 x72).f0) (((rd_T41 x70 x72).f0).length : Int) 0 x1000 x1001 x1002 x159000 x159001 x159002 x159003 ((rd_T41 x70 x72).f0) ((rd_T41 x70 x72).f1) 0 0 0 ([] : List Int)) else (none)) else (none)) else (some (x159000, x159001, x159002, x159003, x1000, x1001, x1002))
def impl_builder_store.l3 : Nat → List (List (S36)) → List (S41) → Int → Int → List Int → Int → Int → Int → Int → Bool → Int → Int → List (S182) → List (S186) → List Int → List (List Int) → Int → Int → Int → List Int → Option (Int × Int × (List (S182)) × (List (S186)) × Int × Int × Bool)
 | 0, _, _, _, _, _, _, _, _, _, _, _, _, _, _, _, _, _, _, _, _ => none
 | k + 1, x1, x70, x71, x72, x77, x78, x79, x1000, x1001, x1002, x159000, x159001, x159002, x159003, x186000, x186001, x187000, x187001, x187002, x187003 => if x79 < x78 then (if 0 ≤ x79 then (if x79 < (x77.length : Int) then (if (rd x77 x79) ≥ 0 then ((impl_builder_must.f x1000 x1001 x1002 (decide ((rd x77 x79) < (x1.length : Int)))).bind fun bt188 => ((impl_builder_small.f bt188.1 bt188.2.1 bt188.2.2 (rd x77 x79)).bind fun bt191 => (if x187003.length < 70368744177664 then (impl_builder_store.l3 k x1 x70 x71 x72 x77 x78 (wrap64 (x79 + 1)) bt191.2.1 bt191.2.2.1 bt191.2.2.2 x159000 x159001 x159002 x159003 x186000 x186001 x187000 x187001 x187002 (x187003 ++ [bt191.1])) else (none)))) else ((impl_builder_must.f x1000 x1001 x1002 false).bind fun bt198 => ((impl_builder_small.f bt198.1 bt198.2.1 bt198.2.2 (rd x77 x79)).bind fun bt201 => (if x187003.length < 70368744177664 then (impl_builder_store.l3 k x1 x70 x71 x72 x77 x78 (wrap64 (x79 + 1)) bt201.2.1 bt201.2.2.1 bt201.2.2.2 x159000 x159001 x159002 x159003 x186000 x186001 x187000 x187001 x187002 (x187003 ++ [bt201.1])) else (none))))) else (none)) else (none)) else (impl_builder_store.l4 k x1 x70 x71 x72 x186001 (x186001.length : Int) 0 x1000 x1001 x1002 x159000 x159001 x159002 x159003 x186000 x186001 x187000 x187001 x187002 x187003 ([] : List (List Int)))
def impl_builder_store.l4 : Nat → List (List (S36)) → List (S41) → Int → Int → List (List Int) → Int → Int → Int → Int → Bool → Int → Int → List (S182) → List (S186) → List Int → List (List Int) → Int → Int → Int → List Int → List (List Int) → Option (Int × Int × (List (S182)) × (List (S186)) × Int × Int × Bool)
 | 0, _, _, _, _, _, _, _, _, _, _, _, _, _, _, _, _, _, _, _, _, _ => none
 | k + 1, x1, x70, x71, x72, x103, x104, x105, x1000, x1001, x1002, x159000, x159001, x159002, x159003, x186000, x186001, x187000, x187001, x187002, x187003, x187004 => if x105 < x104 then (if 0 ≤ x105 then (if x105 < (x103.length : Int) then ((impl_builder_must.f x1000 x1001 x1002 (((rd_L9 x103 x105).length : Int) == (x186000.length : Int))).bind fun bt212 => (impl_builder_store.l5 k x1 ([] : List Int) x70 x71 x72 x103 x104 x105 (rd_L9 x103 x105) ((rd_L9 x103 x105).length : Int) 0 bt212.1 bt212.2.1 bt212.2.2 x159000 x159001 x159002 x159003 x186000 x186001 x187000 x187001 x187002 x187003 x187004)) else (none)) else (none)) else (if x159003.length < 2513169434916 then (impl_builder_store.l2 k x1 x70 x71 (wrap64 (x72 + 1)) x1000 x1001 x1002 x159000 x159001 x159002 (x159003 ++ [(⟨x187000, x187001, x187002, x187003, x187004⟩ : S186)])) else (none))
def impl_builder_store.l5 : Nat → List (List (S36)) → List Int → List (S41) → Int → Int → List (List Int) → Int → Int → List Int → Int → Int → Int → Int → Bool → Int → Int → List (S182) → List (S186) → List Int → List (List Int) → Int → Int → Int → List Int → List (List Int) → Option (Int × Int × (List (S182)) × (List (S186)) × Int × Int × Bool)
 | 0, _, _, _, _, _, _, _, _, _, _, _, _, _, _, _, _, _, _, _, _, _, _, _, _, _ => none
 | k + 1, x1, x21, x70, x71, x72, x103, x104, x105, x117, x118, x119, x1000, x1001, x1002, x159000, x159001, x159002, x159003, x186000, x186001, x187000, x187001, x187002, x187003, x187004 => if x119 < x118 then (if 0 ≤ x119 then (if x119 < (x117.length : Int) then ((impl_builder_signed.f x1000 x1001 x1002 (rd x117 x119)).bind fun bt216 => (if x21.length < 70368744177664 then (impl_builder_store.l5 k x1 (x21 ++ [bt216.1]) x70 x71 x72 x103 x104 x105 x117 x118 (wrap64 (x119 + 1)) bt216.2.1 bt216.2.2.1 bt216.2.2.2 x159000 x159001 x159002 x159003 x186000 x186001 x187000 x187001 x187002 x187003 x187004) else (none))) else (none)) else (none)) else (if x187004.length < 5864062014805 then (impl_builder_store.l4 k x1 x70 x71 x72 x103 x104 (wrap64 (x105 + 1)) x1000 x1001 x1002 x159000 x159001 x159002 x159003 x186000 x186001 x187000 x187001 x187002 x187003 (x187004 ++ [x21])) else (none))
end
def impl_builder_store.f (k : Nat) (s0_0 : Int) (s0_1 : Int) (s0_2 : Bool) (l1 : List (List (S36))) (l2 : List (S41)) (a3 : Int) : Option (Int × Int × (List (S182)) × (List (S186)) × Int × Int × Bool) := impl_builder_store.l0 k l1 l2 a3 l1 (l1.length : Int) 0 s0_0 s0_1 s0_2 0 0 ([] : List (S182))
theorem impl_builder_store.mono_l : ∀ k, (∀ y0 y1 y2 y3 y4 y5 y6 y7 y8 y9 y10 y11, LeO (impl_builder_store.l0 k y0 y1 y2 y3 y4 y5 y6 y7 y8 y9 y10 y11) (impl_builder_store.l0 (k + 1) y0 y1 y2 y3 y4 y5 y6 y7 y8 y9 y10 y11)) ∧ (∀ y0 y1 y2 y3 y4 y5 y6 y7 y8 y9 y10 y11 y12 y13 y14 y15, LeO (impl_builder_store.l1 k y0 y1 y2 y3 y4 y5 y6 y7 y8 y9 y10 y11 y12 y13 y14 y15) (impl_builder_store.l1 (k + 1) y0 y1 y2 y3 y4 y5 y6 y7 y8 y9 y10 y11 y12 y13 y14 y15)) ∧ (∀ y0 y1 y2 y3 y4 y5 y6 y7 y8 y9 y10, LeO (impl_builder_store.l2 k y0 y1 y2 y3 y4 y5 y6 y7 y8 y9 y10) (impl_builder_store.l2 (k + 1) y0 y1 y2 y3 y4 y5 y6 y7 y8 y9 y10)) ∧ (∀ y0 y1 y2 y3 y4 y5 y6 y7 y8 y9 y10 y11 y12 y13 y14 y15 y16 y17 y18 y19, LeO (impl_builder_store.l3 k y0 y1 y2 y3 y4 y5 y6 y7 y8 y9 y10 y11 y12 y13 y14 y15 y16 y17 y18 y19) (impl_builder_store.l3 (k + 1) y0 y1 y2 y3 y4 y5 y6 y7 y8 y9 y10 y11 y12 y13 y14 y15 y16 y17 y18 y19)) ∧ (∀ y0 y1 y2 y3 y4 y5 y6 y7 y8 y9 y10 y11 y12 y13 y14 y15 y16 y17 y18 y19 y20, LeO (impl_builder_store.l4 k y0 y1 y2 y3 y4 y5 y6 y7 y8 y9 y10 y11 y12 y13 y14 y15 y16 y17 y18 y19 y20) (impl_builder_store.l4 (k + 1) y0 y1 y2 y3 y4 y5 y6 y7 y8 y9 y10 y11 y12 y13 y14 y15 y16 y17 y18 y19 y20)) ∧ (∀ y0 y1 y2 y3 y4 y5 y6 y7 y8 y9 y10 y11 y12 y13 y14 y15 y16 y17 y18 y19 y20 y21 y22 y23 y24, LeO (impl_builder_store.l5 k y0 y1 y2 y3 y4 y5 y6 y7 y8 y9 y10 y11 y12 y13 y14 y15 y16 y17 y18 y19 y20 y21 y22 y23 y24) (impl_builder_store.l5 (k + 1) y0 y1 y2 y3 y4 y5 y6 y7 y8 y9 y10 y11 y12 y13 y14 y15 y16 y17 y18 y19 y20 y21 y22 y23 y24))
 | 0 => ⟨fun _ _ _ _ _ _ _ _ _ _ _ _ r h => by simp [impl_builder_store.l0] at h, fun _ _ _ _ _ _ _ _ _ _ _ _ _ _ _ _ r h => by simp [impl_builder_store.l1] at h, fun _ _ _ _ _ _ _ _ _ _ _ r h => by simp [impl_builder_store.l2] at h, fun _ _ _ _ _ _ _ _ _ _ _ _ _ _ _ _ _ _ _ _ r h => by simp [impl_builder_store.l3] at h, fun _ _ _ _ _ _ _ _ _ _ _ _ _ _ _ _ _ _ _ _ _ r h => by simp [impl_builder_store.l4] at h, fun _ _ _ _ _ _ _ _ _ _ _ _ _ _ _ _ _ _ _ _ _ _ _ _ _ r h => by simp [impl_builder_store.l5] at h⟩
 | k + 1 => by
  obtain ⟨ih0, ih1, ih2, ih3, ih4, ih5⟩ := impl_builder_store.mono_l k
  refine ⟨?_, ?_, ?_, ?_, ?_, ?_⟩
  ·intro y0 y1 y2 y3 y4 y5 y6 y7 y8 y9 y10 y11
   unfold impl_builder_store.l0
   repeat' first
   | (with_reducible exact ih0 _ _ _ _ _ _ _ _ _ _ _ _)
   | (with_reducible exact ih1 _ _ _ _ _ _ _ _ _ _ _ _ _ _ _ _)
   | (with_reducible exact ih2 _ _ _ _ _ _ _ _ _ _ _)
   | (with_reducible exact ih3 _ _ _ _ _ _ _ _ _ _ _ _ _ _ _ _ _ _ _ _)
   | (with_reducible exact ih4 _ _ _ _ _ _ _ _ _ _ _ _ _ _ _ _ _ _ _ _ _)
   | (with_reducible exact ih5 _ _ _ _ _ _ _ _ _ _ _ _ _ _ _ _ _ _ _ _ _ _ _ _ _)
   | (with_reducible exact LeO.refl _)
   | (with_reducible exact LeO.none _)
   | (with_reducible refine LeO.ite ?_ ?_)
   | (with_reducible refine LeO.bind ?_ (fun _ => ?_))
   | exact ih0 _ _ _ _ _ _ _ _ _ _ _ _
   | exact ih1 _ _ _ _ _ _ _ _ _ _ _ _ _ _ _ _
   | exact ih2 _ _ _ _ _ _ _ _ _ _ _
   | exact ih3 _ _ _ _ _ _ _ _ _ _ _ _ _ _ _ _ _ _ _ _
   | exact ih4 _ _ _ _ _ _ _ _ _ _ _ _ _ _ _ _ _ _ _ _ _
   | exact ih5 _ _ _ _ _ _ _ _ _ _ _ _ _ _ _ _ _ _ _ _ _ _ _ _ _
   | exact LeO.none _
   | refine LeO.ite ?_ ?_
   | refine LeO.bind ?_ (fun _ => ?_)
  ·intro y0 y1 y2 y3 y4 y5 y6 y7 y8 y9 y10 y11 y12 y13 y14 y15
   unfold impl_builder_store.l1
   repeat' first
   | (with_reducible exact ih0 _ _ _ _ _ _ _ _ _ _ _ _)
   | (with_reducible exact ih1 _ _ _ _ _ _ _ _ _ _ _ _ _ _ _ _)
   | (with_reducible exact ih2 _ _ _ _ _ _ _ _ _ _ _)
   | (with_reducible exact ih3 _ _ _ _ _ _ _ _ _ _ _ _ _ _ _ _ _ _ _ _)
   | (with_reducible exact ih4 _ _ _ _ _ _ _ _ _ _ _ _ _ _ _ _ _ _ _ _ _)
   | (with_reducible exact ih5 _ _ _ _ _ _ _ _ _ _ _ _ _ _ _ _ _ _ _ _ _ _ _ _ _)
   | (with_reducible exact LeO.refl _)
   | (with_reducible exact LeO.none _)
   | (with_reducible refine LeO.ite ?_ ?_)
   | (with_reducible refine LeO.bind ?_ (fun _ => ?_))
   | exact ih0 _ _ _ _ _ _ _ _ _ _ _ _
   | exact ih1 _ _ _ _ _ _ _ _ _ _ _ _ _ _ _ _
   | exact ih2 _ _ _ _ _ _ _ _ _ _ _
   | exact ih3 _ _ _ _ _ _ _ _ _ _ _ _ _ _ _ _ _ _ _ _
   | exact ih4 _ _ _ _ _ _ _ _ _ _ _ _ _ _ _ _ _ _ _ _ _
   | exact ih5 _ _ _ _ _ _ _ _ _ _ _ _ _ _ _ _ _ _ _ _ _ _ _ _ _
   | exact LeO.none _
   | refine LeO.ite ?_ ?_
   | refine LeO.bind ?_ (fun _ => ?_)
  ·intro y0 y1 y2 y3 y4 y5 y6 y7 y8 y9 y10
   unfold impl_builder_store.l2
   repeat' first
   | (with_reducible exact ih0 _ _ _ _ _ _ _ _ _ _ _ _)
   | (with_reducible exact ih1 _ _ _ _ _ _ _ _ _ _ _ _ _ _ _ _)
   | (with_reducible exact ih2 _ _ _ _ _ _ _ _ _ _ _)
   | (with_reducible exact ih3 _ _ _ _ _ _ _ _ _ _ _ _ _ _ _ _ _ _ _ _)
   | (with_reducible exact ih4 _ _ _ _ _ _ _ _ _ _ _ _ _ _ _ _ _ _ _ _ _)
   | (with_reducible exact ih5 _ _ _ _ _ _ _ _ _ _ _ _ _ _ _ _ _ _ _ _ _ _ _ _ _)
   | (with_reducible exact LeO.refl _)
   | (with_reducible exact LeO.none _)
   | (with_reducible refine LeO.ite ?_ ?_)
   | (with_reducible refine LeO.bind ?_ (fun _ => ?_))
   | exact ih0 _ _ _ _ _ _ _ _ _ _ _ _
   | exact ih1 _ _ _ _ _ _ _ _ _ _ _ _ _ _ _ _
   | exact ih2 _ _ _ _ _ _ _ _ _ _ _
   | exact ih3 _ _ _ _ _ _ _ _ _ _ _ _ _ _ _ _ _ _ _ _
   | exact ih4 _ _ _ _ _ _ _ _ _ _ _ _ _ _ _ _ _ _ _ _ _
   | exact ih5 _ _ _ _ _ _ _ _ _ _ _ _ _ _ _ _ _ _ _ _ _ _ _ _ _
   | exact LeO.none _
   | refine LeO.ite ?_ ?_
   | refine LeO.bind ?_ (fun _ => ?_)
  ·intro y0 y1 y2 y3 y4 y5 y6 y7 y8 y9 y10 y11 y12 y13 y14 y15 y16 y17 y18 y19
   unfold impl_builder_store.l3
   repeat' first
   | (with_reducible exact ih0 _ _ _ _ _ _ _ _ _ _ _ _)
   | (with_reducible exact ih1 _ _ _ _ _ _ _ _ _ _ _ _ _ _ _ _)
   | (with_reducible exact ih2 _ _ _ _ _ _ _ _ _ _ _)
   | (with_reducible exact ih3 _ _ _ _ _ _ _ _ _ _ _ _ _ _ _ _ _ _ _ _)
   | (with_reducible exact ih4 _ _ _ _ _ _ _ _ _ _ _ _ _ _ _ _ _ _ _ _ _)
   | (with_reducible exact ih5 _ _ _ _ _ _ _ _ _ _ _ _ _ _ _ _ _ _ _ _ _ _ _ _ _)
   | (with_reducible exact LeO.refl _)
   | (with_reducible exact LeO.none _)
   | (with_reducible refine LeO.ite ?_ ?_)
   | (with_reducible refine LeO.bind ?_ (fun _ => ?_))
   | exact ih0 _ _ _ _ _ _ _ _ _ _ _ _
   | exact ih1 _ _ _ _ _ _ _ _ _ _ _ _ _ _ _ _
   | exact ih2 _ _ _ _ _ _ _ _ _ _ _
   | exact ih3 _ _ _ _ _ _ _ _ _ _ _ _ _ _ _ _ _ _ _ _
   | exact ih4 _ _ _ _ _ _ _ _ _ _ _ _ _ _ _ _ _ _ _ _ _
   | exact ih5 _ _ _ _ _ _ _ _ _ _ _ _ _ _ _ _ _ _ _ _ _ _ _ _ _
   | exact LeO.none _
   | refine LeO.ite ?_ ?_
   | refine LeO.bind ?_ (fun _ => ?_)
  ·intro y0 y1 y2 y3 y4 y5 y6 y7 y8 y9 y10 y11 y12 y13 y14 y15 y16 y17 y18 y19 y20
   unfold impl_builder_store.l4
   repeat' first
   | (with_reducible exact ih0 _ _ _ _ _ _ _ _ _ _ _ _)
   | (with_reducible exact ih1 _ _ _ _ _ _ _ _ _ _ _ _ _ _ _ _)
   | (with_reducible exact ih2 _ _ _ _ _ _ _ _ _ _ _)
   | (with_reducible exact ih3 _ _ _ _ _ _ _ _ _ _ _ _ _ _ _ _ _ _ _ _)
   | (with_reducible exact ih4 _ _ _ _ _ _ _ _ _ _ _ _ _ _ _ _ _ _ _ _ _)
   | (with_reducible exact ih5 _ _ _ _ _ _ _ _ _ _ _ _ _ _ _ _ _ _ _ _ _ _ _ _ _)
   | (with_reducible exact LeO.refl _)
   | (with_reducible exact LeO.none _)
   | (with_reducible refine LeO.ite ?_ ?_)
   | (with_reducible refine LeO.bind ?_ (fun _ => ?_))
   | exact ih0 _ _ _ _ _ _ _ _ _ _ _ _
   | exact ih1 _ _ _ _ _ _ _ _ _ _ _ _ _ _ _ _
   | exact ih2 _ _ _ _ _ _ _ _ _ _ _
   | exact ih3 _ _ _ _ _ _ _ _ _ _ _ _ _ _ _ _ _ _ _ _
   | exact ih4 _ _ _ _ _ _ _ _ _ _ _ _ _ _ _ _ _ _ _ _ _
   | exact ih5 _ _ _ _ _ _ _ _ _ _ _ _ _ _ _ _ _ _ _ _ _ _ _ _ _
   | exact LeO.none _
   | refine LeO.ite ?_ ?_
   | refine LeO.bind ?_ (fun _ => ?_)
  ·intro y0 y1 y2 y3 y4 y5 y6 y7 y8 y9 y10 y11 y12 y13 y14 y15 y16 y17 y18 y19 y20 y21 y22 y23 y24
   unfold impl_builder_store.l5
   repeat' first
   | (with_reducible exact ih0 _ _ _ _ _ _ _ _ _ _ _ _)
   | (with_reducible exact ih1 _ _ _ _ _ _ _ _ _ _ _ _ _ _ _ _)
   | (with_reducible exact ih2 _ _ _ _ _ _ _ _ _ _ _)
   | (with_reducible exact ih3 _ _ _ _ _ _ _ _ _ _ _ _ _ _ _ _ _ _ _ _)
   | (with_reducible exact ih4 _ _ _ _ _ _ _ _ _ _ _ _ _ _ _ _ _ _ _ _ _)
   | (with_reducible exact ih5 _ _ _ _ _ _ _ _ _ _ _ _ _ _ _ _ _ _ _ _ _ _ _ _ _)
   | (with_reducible exact LeO.refl _)
   | (with_reducible exact LeO.none _)
   | (with_reducible refine LeO.ite ?_ ?_)
   | (with_reducible refine LeO.bind ?_ (fun _ => ?_))
   | exact ih0 _ _ _ _ _ _ _ _ _ _ _ _
   | exact ih1 _ _ _ _ _ _ _ _ _ _ _ _ _ _ _ _
   | exact ih2 _ _ _ _ _ _ _ _ _ _ _
   | exact ih3 _ _ _ _ _ _ _ _ _ _ _ _ _ _ _ _ _ _ _ _
   | exact ih4 _ _ _ _ _ _ _ _ _ _ _ _ _ _ _ _ _ _ _ _ _
   | exact ih5 _ _ _ _ _ _ _ _ _ _ _ _ _ _ _ _ _ _ _ _ _ _ _ _ _
   | exact LeO.none _
   | refine LeO.ite ?_ ?_
   | refine LeO.bind ?_ (fun _ => ?_)
theorem impl_builder_store.mono : ∀ a0 a1 a2 a3 a4 a5 k, LeO (impl_builder_store.f k a0 a1 a2 a3 a4 a5) (impl_builder_store.f (k + 1) a0 a1 a2 a3 a4 a5) := by
 intro a0 a1 a2 a3 a4 a5 k
 obtain ⟨ih0, ih1, ih2, ih3, ih4, ih5⟩ := impl_builder_store.mono_l k
 unfold impl_builder_store.f
 repeat' first
   | (with_reducible exact ih0 _ _ _ _ _ _ _ _ _ _ _ _)
   | (with_reducible exact ih1 _ _ _ _ _ _ _ _ _ _ _ _ _ _ _ _)
   | (with_reducible exact ih2 _ _ _ _ _ _ _ _ _ _ _)
   | (with_reducible exact ih3 _ _ _ _ _ _ _ _ _ _ _ _ _ _ _ _ _ _ _ _)
   | (with_reducible exact ih4 _ _ _ _ _ _ _ _ _ _ _ _ _ _ _ _ _ _ _ _ _)
   | (with_reducible exact ih5 _ _ _ _ _ _ _ _ _ _ _ _ _ _ _ _ _ _ _ _ _ _ _ _ _)
   | (with_reducible exact LeO.refl _)
   | (with_reducible exact LeO.none _)
   | (with_reducible refine LeO.ite ?_ ?_)
   | (with_reducible refine LeO.bind ?_ (fun _ => ?_))
   | exact ih0 _ _ _ _ _ _ _ _ _ _ _ _
   | exact ih1 _ _ _ _ _ _ _ _ _ _ _ _ _ _ _ _
   | exact ih2 _ _ _ _ _ _ _ _ _ _ _
   | exact ih3 _ _ _ _ _ _ _ _ _ _ _ _ _ _ _ _ _ _ _ _
   | exact ih4 _ _ _ _ _ _ _ _ _ _ _ _ _ _ _ _ _ _ _ _ _
   | exact ih5 _ _ _ _ _ _ _ _ _ _ _ _ _ _ _ _ _ _ _ _ _ _ _ _ _
   | exact LeO.none _
   | refine LeO.ite ?_ ?_
   | refine LeO.bind ?_ (fun _ => ?_)

end Go.Proofs.Ytlbmfnjhpojghaa.PFnDelta
