-- Written by a program of this session (xprint) out of the translation; Lean checks it.
import Derived.Test.YtkfphiccfnfkdaaPFnKernedx0
namespace Go.Proofs.Ytkfphiccfnfkdaa.PFnKerned
open Go.RowKit Go.Proofs.YtkfphiccfnfkdaaW.PrintWords Go.Proofs.YtkfphiccfnfkdaaW.PrintLast Go.Proofs.YtkfphiccfnfkdaaW.PrintMore
attribute [local go_sem] max2_int min2_int max_two min_two max_three min_three max_four min_four   -- for this text's walks alone
set_option linter.unusedVariables false
set_option linter.unusedSimpArgs false

/-! ### spec_Has: function 26 -/
def spec_Has.l0 : Nat → Int → List Int → Int → Int → Option (Bool)
  | 0, _, _, _, _ => none
  | k + 1, x1, x7, x8, x9 => if x9 < x8 then (if 0 ≤ x9 then (if x9 < (x7.length : Int) then (if (wrap64 (rd x7 x9)) = x1 then (some true) else (spec_Has.l0 k x1 x7 x8 (wrap64 (x9 + 1)))) else (none)) else (none)) else (some false)
def spec_Has.f (k : Nat) (l0 : List Int) (a1 : Int) : Option (Bool) := spec_Has.l0 k a1 l0 (l0.length : Int) 0
theorem spec_Has.mono_l : ∀ k, (∀ y0 y1 y2 y3, LeO (spec_Has.l0 k y0 y1 y2 y3) (spec_Has.l0 (k + 1) y0 y1 y2 y3))
  | 0 => fun _ _ _ _ r h => by simp [spec_Has.l0] at h
  | k + 1 => by
    have ih0 := spec_Has.mono_l k
    · intro y0 y1 y2 y3
      unfold spec_Has.l0
      repeat' first
      | (with_reducible exact ih0 _ _ _ _)
      | (with_reducible exact LeO.refl _)
      | (with_reducible exact LeO.none _)
      | (with_reducible refine LeO.ite ?_ ?_)
      | (with_reducible refine LeO.bind ?_ (fun _ => ?_))
      | exact ih0 _ _ _ _
      | exact LeO.none _
      | refine LeO.ite ?_ ?_
      | refine LeO.bind ?_ (fun _ => ?_)
theorem spec_Has.mono : ∀ a0 a1 k, LeO (spec_Has.f k a0 a1) (spec_Has.f (k + 1) a0 a1) := by
  intro a0 a1 k
  have ih0 := spec_Has.mono_l k
  unfold spec_Has.f
  repeat' first
      | (with_reducible exact ih0 _ _ _ _)
      | (with_reducible exact LeO.refl _)
      | (with_reducible exact LeO.none _)
      | (with_reducible refine LeO.ite ?_ ?_)
      | (with_reducible refine LeO.bind ?_ (fun _ => ?_))
      | exact ih0 _ _ _ _
      | exact LeO.none _
      | refine LeO.ite ?_ ?_
      | refine LeO.bind ?_ (fun _ => ?_)
set_option maxHeartbeats 8000000 in
set_option maxRecDepth 100000 in
theorem spec_Has.calls (k : Nat) (A0 : Option Addr) (c0 : Nat) (l0 : List Int) (a1 : Int) (r : Bool) (w : World) (hr0 : Kd.C (Kd.int .u8) w A0 l0.length l0) (hc0 : l0.length ≤ c0) (h : spec_Has.f k l0 a1 = some r) :
    Calls Try.prog 26 #[.slice A0 l0.length c0, .int .i64 a1] w fun e w' => e = .returned (.bool r) ∧ Drawn0 w w' := by
  have HR0 := Aside0.mk hr0
  have HC0 := Aside0.mk hc0
  clear hr0 hc0
  have H : (spec_Has.l0 k a1 l0 (l0.length : Int) 0) = some r := h
  clear h
  have H' := Aside0.mk H
  clear H
  go_enter Try.func26, Try.ntmps26
  go_wp2
  go_loopg [9] k (fun kq v9 w' => ∃ (x9_1 : Int), v9 = .int .i64 x9_1 ∧ Aside0 (spec_Has.l0 kq a1 l0 (l0.length : Int) x9_1 = some r) ∧ Aside0 (kq ≤ k) ∧ Drawn0 w w')
  case atStart => exact ⟨(0), (by first | rfl | (simp; done) | (simp [*]; done)), H', ⟨Nat.le_refl _⟩, by repeat (first | exact Drawn0.refl _ | apply Drawn0.step)⟩
  case round =>
    clear H'
    try clear c2
    try clear p2
    obtain ⟨x9_1, rfl, HA, HK1, ⟨m1, rfl⟩⟩ := hrel
    cases gk with
    | zero => exact absurd HA.out (by simp [spec_Has.l0])
    | succ k1 =>
      have H := HA.out
      clear HA
      simp only [spec_Has.l0] at H
      by_cases c3 : x9_1 < (l0.length : Int)
      · rw [if_pos c3] at H
        have c3b0 : decide (x9_1 < (l0.length : Int)) = true := decide_eq_true c3
        clear c3
        by_cases c4 : 0 ≤ x9_1
        · rw [if_pos c4] at H
          have c4b0 : decide (0 ≤ x9_1) = true := decide_eq_true c4
          clear c4
          by_cases c5 : x9_1 < (l0.length : Int)
          · rw [if_pos c5] at H
            have c5b0 : decide (x9_1 < (l0.length : Int)) = true := decide_eq_true c5
            clear c5
            by_cases c6 : (wrap64 (rd l0 x9_1)) = a1
            · rw [if_pos c6] at H
              have c6b0 : ((wrap64 (rd l0 x9_1)) == a1) = true := beq_iff_eq.mpr c6
              have c6b1 : ((wrap64 (rd l0 x9_1)) != a1) = false := bne_eq_false_iff_eq.mpr c6
              clear c6
              obtain rfl := Option.some.inj H
              have p101 : 0 ≤ (x9_1 : Int) := of_decide_eq_true (by first | (with_reducible assumption) | assumption)
              have q101 : x9_1 < (l0.length : Int) := of_decide_eq_true (by first | (with_reducible assumption) | assumption)
              obtain ⟨ad101, e101, hx101_0⟩ := Kd.at_int HR0.out x9_1 p101 q101
              cases e101
              replace p101 := eq_true p101
              replace q101 := eq_true q101
              go_wp2
              go_ret
              exact ⟨by first | rfl | (simp; done) | (simp [*]; done), by repeat (first | exact Drawn0.refl _ | apply Drawn0.step)⟩
            · rw [if_neg c6] at H
              have c6b0 : ((wrap64 (rd l0 x9_1)) == a1) = false := beq_eq_false_iff_ne.mpr c6
              have c6b1 : ((wrap64 (rd l0 x9_1)) != a1) = true := bne_iff_ne.mpr c6
              have H' := Aside0.mk H
              clear H
              have p101 : 0 ≤ (x9_1 : Int) := of_decide_eq_true (by first | (with_reducible assumption) | assumption)
              have q101 : x9_1 < (l0.length : Int) := of_decide_eq_true (by first | (with_reducible assumption) | assumption)
              obtain ⟨ad101, e101, hx101_0⟩ := Kd.at_int HR0.out x9_1 p101 q101
              cases e101
              replace p101 := eq_true p101
              replace q101 := eq_true q101
              go_wp2
              go_roundg k1
              case measure => have := HK1.out; omega
              case rel => exact ⟨(wrap64 (x9_1 + 1)), (by first | rfl | (simp; done) | (simp [*]; done)), H', ⟨by have := HK1.out; omega⟩, by repeat (first | exact Drawn0.refl _ | apply Drawn0.step)⟩
          · rw [if_neg c5] at H
            exact absurd H (by simp)
        · rw [if_neg c4] at H
          exact absurd H (by simp)
      · rw [if_neg c3] at H
        have c3b0 : decide (x9_1 < (l0.length : Int)) = false := decide_eq_false c3
        clear c3
        obtain rfl := Option.some.inj H
        go_wp2
        go_ret
        exact ⟨by first | rfl | (simp; done) | (simp [*]; done), by repeat (first | exact Drawn0.refl _ | apply Drawn0.step)⟩

/-! ### spec_Nth: function 27 -/
def spec_Nth.f (l0 : List Int) (a1 : Int) : Option (Int) := if (l0.length : Int) = 0 then (some 0) else (if 0 ≤ (Int.tmod a1 (l0.length : Int)) then (if (Int.tmod a1 (l0.length : Int)) < (l0.length : Int) then (some (wrap64 (rd l0 (Int.tmod a1 (l0.length : Int))))) else (none)) else (none))
set_option maxHeartbeats 8000000 in
set_option maxRecDepth 100000 in
theorem spec_Nth.calls (A0 : Option Addr) (c0 : Nat) (l0 : List Int) (a1 : Int) (r : Int) (w : World) (hr0 : Kd.C (Kd.int .i16) w A0 l0.length l0) (hc0 : l0.length ≤ c0) (h : spec_Nth.f l0 a1 = some r) :
    Calls Try.prog 27 #[.slice A0 l0.length c0, .int .i64 a1] w fun e w' => e = .returned (.int .i64 r) ∧ Drawn0 w w' := by
  have HR0 := Aside0.mk hr0
  have HC0 := Aside0.mk hc0
  clear hr0 hc0
  have H : (if (l0.length : Int) = 0 then (some 0) else (if 0 ≤ (Int.tmod a1 (l0.length : Int)) then (if (Int.tmod a1 (l0.length : Int)) < (l0.length : Int) then (some (wrap64 (rd l0 (Int.tmod a1 (l0.length : Int))))) else (none)) else (none))) = some r := h
  clear h
  by_cases c3 : (l0.length : Int) = 0
  · rw [if_pos c3] at H
    have c3b0 : ((l0.length : Int) == 0) = true := beq_iff_eq.mpr c3
    have c3b1 : ((l0.length : Int) != 0) = false := bne_eq_false_iff_eq.mpr c3
    clear c3
    obtain rfl := Option.some.inj H
    go_enter Try.func27, Try.ntmps27
    go_wp2
    go_ret
    exact ⟨by first | rfl | (simp; done) | (simp [*]; done), by repeat (first | exact Drawn0.refl _ | apply Drawn0.step)⟩
  · rw [if_neg c3] at H
    have c3b0 : ((l0.length : Int) == 0) = false := beq_eq_false_iff_ne.mpr c3
    have c3b1 : ((l0.length : Int) != 0) = true := bne_iff_ne.mpr c3
    have c3b2 : ¬ (l0 = []) := fun h_ => c3 (by rw [h_]; rfl)
    obtain ⟨ji4, hji4⟩ : ∃ j_ : Int, (Int.tmod a1 (l0.length : Int)) = j_ := ⟨_, rfl⟩
    replace H : (if 0 ≤ (ji4) then (if (ji4) < (l0.length : Int) then (some (wrap64 (rd l0 (ji4)))) else (none)) else (none)) = some r := by first | (rw [hji4] at H; exact H) | (simp only [hji4] at H ⊢; exact H)
    by_cases c5 : 0 ≤ (ji4)
    · rw [if_pos c5] at H
      have c5b0 : decide (0 ≤ (ji4)) = true := decide_eq_true c5
      clear c5
      by_cases c6 : (ji4) < (l0.length : Int)
      · rw [if_pos c6] at H
        have c6b0 : decide ((ji4) < (l0.length : Int)) = true := decide_eq_true c6
        clear c6
        obtain rfl := Option.some.inj H
        have p102 : 0 ≤ ((ji4) : Int) := of_decide_eq_true (by first | (with_reducible assumption) | assumption)
        have q102 : (ji4) < (l0.length : Int) := of_decide_eq_true (by first | (with_reducible assumption) | assumption)
        obtain ⟨ad102, e102, hx102_0⟩ := Kd.at_int HR0.out (ji4) p102 q102
        cases e102
        replace p102 := eq_true p102
        replace q102 := eq_true q102
        go_enter Try.func27, Try.ntmps27
        go_wp2
        go_ret
        exact ⟨by first | rfl | (simp; done) | (simp only [← hji4] <;> (first | rfl | simp)) | (simp [*]; done), by repeat (first | exact Drawn0.refl _ | apply Drawn0.step)⟩
      · rw [if_neg c6] at H
        exact absurd H (by simp)
    · rw [if_neg c5] at H
      exact absurd H (by simp)

/-- A state of type 95 at block g of W; what its slices lead to came in by w0. -/
def IsS95 (w0 W : World) (g : Nat) (f0 : Int) (f1 : Int) (f2 : Bool) : Prop := W.heap[g]? = some (.cells #[.int .i64 f0, .int .i64 f1, .bool f2] 95 (0, 0)) ∧ w0.heap.size ≤ g
theorem IsS95.grown {w0 W : World} {g : Nat} {f0 : Int} {f1 : Int} {f2 : Bool} {W1 : World} {row : Option Nat} (h : IsS95 w0 W g f0 f1 f2) (hw : W.grownBy W1 row) (hne : some g ≠ row) : IsS95 w0 W1 g f0 f1 f2 := by
  obtain ⟨hb, hg⟩ := h
  exact ⟨blk_grown hb hw hne, hg⟩
theorem IsS95.own_neN {w0 W : World} {g : Nat} {f0 : Int} {f1 : Int} {f2 : Bool} {α : Type} {d : Kd α} {e : Nat} {base : Nat} {ok : Nat → Prop} {v : Value} {xs : List α} (h : IsS95 w0 W g f0 f1 f2) (ho : Kd.N d e W base ok v xs) (ht : e ≠ 95) : some g ≠ v.ownBlock := by
  obtain ⟨hb, hg⟩ := h
  exact Kd.N_ne ho hb ht
theorem IsS95.fresh {w0 W : World} {g : Nat} {f0 : Int} {f1 : Int} {f2 : Bool} (h : IsS95 w0 W g f0 f1 f2) : ∀ k, W.heap.size ≤ k → k ≠ g := by
  obtain ⟨hb, hg⟩ := h
  exact Kd.freshB hb
theorem IsS95.kept {w0 W : World} {g : Nat} {f0 : Int} {f1 : Int} {f2 : Bool} {W1 : World} {S : Nat → Prop} (h : IsS95 w0 W g f0 f1 f2) (hk : Kept W W1 S) (hne : ¬ S g) : IsS95 w0 W1 g f0 f1 f2 := by
  obtain ⟨hb, hg⟩ := h
  exact ⟨blk_kept hb hk hne, hg⟩
theorem IsS95.below {w0 W : World} {g : Nat} {f0 : Int} {f1 : Int} {f2 : Bool} {W1 : World} (h : IsS95 w0 W g f0 f1 f2) (hw : Below W.heap.size W W1) : IsS95 w0 W1 g f0 f1 f2 := h.grown (grown_of_below hw none) (by simp)
theorem IsS95.alloc {w0 W : World} {g : Nat} {f0 : Int} {f1 : Int} {f2 : Bool} (h : IsS95 w0 W g f0 f1 f2) (o : Obj) : IsS95 w0 (W.alloc o) g f0 f1 f2 := h.below (below_alloc (Below.refl _ _) o)
theorem IsS95.drewN {w0 W : World} {g : Nat} {f0 : Int} {f1 : Int} {f2 : Bool} (h : IsS95 w0 W g f0 f1 f2) (m : Nat) : IsS95 w0 (W.drewN m) g f0 f1 f2 := h
theorem IsS95.drew {w0 W : World} {g : Nat} {f0 : Int} {f1 : Int} {f2 : Bool} (h : IsS95 w0 W g f0 f1 f2) : IsS95 w0 W.drew g f0 f1 f2 := h
theorem IsS95.at_ {w0 W : World} {g : Nat} {f0 : Int} {f1 : Int} {f2 : Bool} {w' : World} {m : Nat} (hq : W.drewN m = w') (h : IsS95 w0 W g f0 f1 f2) : IsS95 w0 w' g f0 f1 f2 := by subst hq; exact IsS95.drewN h m
theorem IsS95.apart {w0 W : World} {g : Nat} {f0 : Int} {f1 : Int} {f2 : Bool} {α : Type} {d : Kd α} {e : Nat} {base : Nat} {ok : Nat → Prop} {v : Value} {xs : List α} (h : IsS95 w0 W g f0 f1 f2) (ho : d.R e W base ok v xs) (ht : ∀ q, q ∈ e :: d.E → q ≠ 95) : d.R e W base (fun k => ok k ∧ k ≠ g) v xs := by
  obtain ⟨hb, hg⟩ := h
  exact Kd.R_types ho hb ht
theorem IsS95.own_ne {w0 W : World} {g : Nat} {f0 : Int} {f1 : Int} {f2 : Bool} {α : Type} {d : Kd α} {e : Nat} {base : Nat} {ok : Nat → Prop} {v : Value} {xs : List α} (h : IsS95 w0 W g f0 f1 f2) (ho : d.R e W base ok v xs) (ht : e ≠ 95) : some g ≠ v.ownBlock := by
  obtain ⟨hb, hg⟩ := h
  exact Kd.R_ne ho hb ht
theorem IsS95.apartQ {w0 W : World} {g : Nat} {f0 : Int} {f1 : Int} {f2 : Bool} {α : Type} {d : Kd α} {e : Nat} {base : Nat} {ok : Nat → Prop} {v : Value} {xs : List α} (h : IsS95 w0 W g f0 f1 f2) (ho : d.Q e W base ok v xs) (ht : ∀ q, q ∈ e :: d.E → q ≠ 95) : d.Q e W base (fun k => ok k ∧ k ≠ g) v xs := by
  obtain ⟨hb, hg⟩ := h
  exact Kd.Q_types ho hb ht
theorem IsS95.own_neQ {w0 W : World} {g : Nat} {f0 : Int} {f1 : Int} {f2 : Bool} {α : Type} {d : Kd α} {e : Nat} {base : Nat} {ok : Nat → Prop} {v : Value} {xs : List α} (h : IsS95 w0 W g f0 f1 f2) (ho : d.Q e W base ok v xs) (ht : e ≠ 95) : some g ≠ v.ownBlock := by
  obtain ⟨hb, hg⟩ := h
  exact Kd.Q_ne ho hb ht
theorem IsS95.apartS {w0 W : World} {g : Nat} {f0 : Int} {f1 : Int} {f2 : Bool} {α : Type} {d : Kd α} {e : Nat} {base : Nat} {ok : Nat → Prop} {v : Value} {xs : List α} (h : IsS95 w0 W g f0 f1 f2) (ho : d.S e W base ok v xs) (ht : ∀ q, q ∈ e :: d.E → q ≠ 95) : d.S e W base (fun k => ok k ∧ k ≠ g) v xs := by
  obtain ⟨hb, hg⟩ := h
  exact Kd.S_types ho hb ht
theorem IsS95.own_neS {w0 W : World} {g : Nat} {f0 : Int} {f1 : Int} {f2 : Bool} {α : Type} {d : Kd α} {e : Nat} {base : Nat} {ok : Nat → Prop} {v : Value} {xs : List α} (h : IsS95 w0 W g f0 f1 f2) (ho : d.S e W base ok v xs) (ht : e ≠ 95) : some g ≠ v.ownBlock := by
  obtain ⟨hb, hg⟩ := h
  exact Kd.S_ne ho hb ht
theorem IsS95.lt {w0 W : World} {g : Nat} {f0 : Int} {f1 : Int} {f2 : Bool} (h : IsS95 w0 W g f0 f1 f2) : g < W.heap.size := by
  obtain ⟨hb, hg⟩ := h
  exact blk_lt hb
theorem IsS95.ge {w0 W : World} {g : Nat} {f0 : Int} {f1 : Int} {f2 : Bool} (h : IsS95 w0 W g f0 f1 f2) : w0.heap.size ≤ g := by
  obtain ⟨hb, hg⟩ := h
  exact hg
theorem IsS95.ne_blk {w0 W : World} {g : Nat} {f0 : Int} {f1 : Int} {f2 : Bool} {a : Nat} {cs : Array Value} {t : TypeId} {fr : Nat × Nat} (h : IsS95 w0 W g f0 f1 f2) (hb2 : W.heap[a]? = some (.cells cs t fr)) (ht : t ≠ 95) : g ≠ a := by
  obtain ⟨hb, hg⟩ := h
  rintro rfl
  rw [hb] at hb2
  injection hb2 with hb2
  injection hb2 with _ ht2
  exact ht ht2.symm
theorem IsS95.far {w0 W : World} {g : Nat} {f0 : Int} {f1 : Int} {f2 : Bool} {p : Addr} (h : IsS95 w0 W g f0 f1 f2) (hne : g ≠ p.block) (u : Value) : IsS95 w0 (W.setCell p u) g f0 f1 f2 := by
  obtain ⟨hb, hg⟩ := h
  exact ⟨blk_far hb hne u, hg⟩
theorem IsS95.of {w0 W : World} {g : Nat} {f0 : Int} {f1 : Int} {f2 : Bool} (h : W.heap[g]? = some (.cells #[.int .i64 f0, .int .i64 f1, .bool f2] 95 (0, 0))) (hg : w0.heap.size ≤ g) : IsS95 w0 W g f0 f1 f2 := ⟨h, hg⟩
theorem IsS95.cells {w0 W : World} {g : Nat} {f0 : Int} {f1 : Int} {f2 : Bool} (h : IsS95 w0 W g f0 f1 f2) : W.heap[g]? = some (.cells #[.int .i64 f0, .int .i64 f1, .bool f2] 95 (0, 0)) := h.1
theorem cellS95_0 {W : World} {g : Nat} {f0 : Int} {f1 : Int} {f2 : Bool} (h : W.heap[g]? = some (.cells #[.int .i64 f0, .int .i64 f1, .bool f2] 95 (0, 0))) : W.cell? ⟨g, 0, none⟩ = some (.int .i64 f0) := (blk_cell h 0).trans rfl
theorem IsS95.set_0 {w0 W : World} {g : Nat} {f0 : Int} {f1 : Int} {f2 : Bool} (h : IsS95 w0 W g f0 f1 f2) (x : Int) : IsS95 w0 (W.setCell ⟨g, 0, none⟩ (.int .i64 x)) g x f1 f2 := by
  obtain ⟨hb, hg⟩ := h
  exact ⟨by simpa using blk_set hb 0 (.int .i64 x), hg⟩
theorem cellS95_1 {W : World} {g : Nat} {f0 : Int} {f1 : Int} {f2 : Bool} (h : W.heap[g]? = some (.cells #[.int .i64 f0, .int .i64 f1, .bool f2] 95 (0, 0))) : W.cell? ⟨g, 1, none⟩ = some (.int .i64 f1) := (blk_cell h 1).trans rfl
theorem IsS95.set_1 {w0 W : World} {g : Nat} {f0 : Int} {f1 : Int} {f2 : Bool} (h : IsS95 w0 W g f0 f1 f2) (x : Int) : IsS95 w0 (W.setCell ⟨g, 1, none⟩ (.int .i64 x)) g f0 x f2 := by
  obtain ⟨hb, hg⟩ := h
  exact ⟨by simpa using blk_set hb 1 (.int .i64 x), hg⟩
theorem cellS95_2 {W : World} {g : Nat} {f0 : Int} {f1 : Int} {f2 : Bool} (h : W.heap[g]? = some (.cells #[.int .i64 f0, .int .i64 f1, .bool f2] 95 (0, 0))) : W.cell? ⟨g, 2, none⟩ = some (.bool f2) := (blk_cell h 2).trans rfl
theorem IsS95.set_2 {w0 W : World} {g : Nat} {f0 : Int} {f1 : Int} {f2 : Bool} (h : IsS95 w0 W g f0 f1 f2) (x : Bool) : IsS95 w0 (W.setCell ⟨g, 2, none⟩ (.bool x)) g f0 f1 x := by
  obtain ⟨hb, hg⟩ := h
  exact ⟨by simpa using blk_set hb 2 (.bool x), hg⟩
theorem IsS95.new (w0 W : World) (f0 : Int) (f1 : Int) (f2 : Bool) (hB : Below w0.heap.size w0 W) : IsS95 w0 (W.alloc (.cells #[.int .i64 f0, .int .i64 f1, .bool f2] 95)) W.heap.size f0 f1 f2 := ⟨by simpa using heap_alloc_new W _, hB.size⟩

/-! ### impl_builder_must: function 52 -/
def impl_builder_must.f (s0_0 : Int) (s0_1 : Int) (s0_2 : Bool) (a1 : Bool) : Option (Int × Int × Bool) := if s0_2 = true then (some (s0_0, s0_1, true)) else (some (s0_0, s0_1, !a1))
set_option maxHeartbeats 8000000 in
set_option maxRecDepth 100000 in
theorem impl_builder_must.calls (g : Nat) (s0_0 : Int) (s0_1 : Int) (s0_2 : Bool) (a1 : Bool) (r1 : Int) (r2 : Int) (r3 : Bool) (w0 w : World) (hI : IsS95 w0 w g s0_0 s0_1 s0_2) (hB : Below w0.heap.size w0 w) (h : impl_builder_must.f s0_0 s0_1 s0_2 a1 = some (r1, r2, r3)) :
    Calls Try.prog 52 #[.pointer (some ⟨g, 0, none⟩), .bool a1] w fun e w' => e = .returned (.tuple #[]) ∧ IsS95 w0 w' g r1 r2 r3 ∧ Below w0.heap.size w0 w' ∧ KeepBut w w' g none := by
  have HI0 := Aside0.mk hI
  have HK := Aside0.mk (KeepBut.refl w g none)
  have HL := Aside0.mk hB.size
  clear hI
  have HW0 := Aside0.mk hB.size
  have HB := Aside0.mk hB
  clear hB
  have H : (if s0_2 = true then (some (s0_0, s0_1, true)) else (some (s0_0, s0_1, !a1))) = some (r1, r2, r3) := h
  clear h
  by_cases c3 : s0_2 = true
  · subst c3
    have H1 : (some (s0_0, s0_1, true)) = some (r1, r2, r3) := by rw [if_pos rfl] at H; exact H
    clear H
    have H := H1
    clear H1
    simp only [Option.some.injEq, Prod.mk.injEq] at H
    obtain ⟨rfl, rfl, rfl⟩ := H
    obtain ⟨HGz4, hgz4⟩ := HI0.out
    have hcz4_0 := cellS95_0 HGz4
    have hcz4_1 := cellS95_1 HGz4
    have hcz4_2 := cellS95_2 HGz4
    have hfz4_0 := blk_frozen HGz4 0
    have hfz4_1 := blk_frozen HGz4 1
    have hfz4_2 := blk_frozen HGz4 2
    clear HGz4 hgz4
    go_enter Try.func52, Try.ntmps52
    go_wp2
    first | go_end0 | ((try simp only [Exit.inBlock, Exit.then]); refine bodyPost_ret (results_none rfl _ _ _) rfl ?_)
    exact ⟨by first | rfl | (simp [errW_none, errW_some] <;> rfl) | (simp [*, errW_none, errW_some] <;> rfl), by repeat (first | (with_reducible first | exact HI0.out | apply IsS95.alloc | apply IsS95.drewN | apply IsS95.drew | apply IsS95.set_0 | apply IsS95.set_1 | apply IsS95.set_2) | exact HI0.out), by repeat (first | (with_reducible first | exact HB.out | apply below_alloc | apply pw_below_drewN | apply below_drew1 | refine below_set ?_ (IsS95.ge HI0.out)) | exact HB.out), by repeat (first | (with_reducible first | exact HK.out | apply KeepBut.set_ | apply keep_drewN | apply keep_drew | apply keep_alloc) | exact HK.out)⟩
  · replace c3 := Bool.eq_false_iff.mpr c3
    subst c3
    have H1 : (some (s0_0, s0_1, !a1)) = some (r1, r2, r3) := by rw [if_neg (show ¬ (false = true) by decide)] at H; exact H
    clear H
    have H := H1
    clear H1
    simp only [Option.some.injEq, Prod.mk.injEq] at H
    obtain ⟨rfl, rfl, rfl⟩ := H
    obtain ⟨HGz5, hgz5⟩ := HI0.out
    have hcz5_0 := cellS95_0 HGz5
    have hcz5_1 := cellS95_1 HGz5
    have hcz5_2 := cellS95_2 HGz5
    have hfz5_0 := blk_frozen HGz5 0
    have hfz5_1 := blk_frozen HGz5 1
    have hfz5_2 := blk_frozen HGz5 2
    clear HGz5 hgz5
    go_enter Try.func52, Try.ntmps52
    go_wp2
    first | go_end0 | ((try simp only [Exit.inBlock, Exit.then]); refine bodyPost_ret (results_none rfl _ _ _) rfl ?_)
    exact ⟨by first | rfl | (simp [errW_none, errW_some] <;> rfl) | (simp [*, errW_none, errW_some] <;> rfl), by repeat (first | (with_reducible first | exact HI0.out | apply IsS95.alloc | apply IsS95.drewN | apply IsS95.drew | apply IsS95.set_0 | apply IsS95.set_1 | apply IsS95.set_2) | exact HI0.out), by repeat (first | (with_reducible first | exact HB.out | apply below_alloc | apply pw_below_drewN | apply below_drew1 | refine below_set ?_ (IsS95.ge HI0.out)) | exact HB.out), by repeat (first | (with_reducible first | exact HK.out | apply KeepBut.set_ | apply keep_drewN | apply keep_drew | apply keep_alloc) | exact HK.out)⟩

/-! ### impl_builder_small: function 53 -/
def impl_builder_small.f (s0_0 : Int) (s0_1 : Int) (s0_2 : Bool) (a1 : Int) : Option (Int × Int × Int × Bool) := if a1 ≥ 0 then ((impl_builder_must.f s0_0 s0_1 s0_2 (decide (a1 ≤ 65535))).bind fun bt103 => (some (IntKind.u16.wrap (a1), bt103.1, bt103.2.1, bt103.2.2))) else ((impl_builder_must.f s0_0 s0_1 s0_2 false).bind fun bt106 => (some (IntKind.u16.wrap (a1), bt106.1, bt106.2.1, bt106.2.2)))
set_option maxHeartbeats 8000000 in
set_option maxRecDepth 100000 in
theorem impl_builder_small.calls (g : Nat) (s0_0 : Int) (s0_1 : Int) (s0_2 : Bool) (a1 : Int) (r1 : Int) (r2 : Int) (r3 : Int) (r4 : Bool) (w0 w : World) (hI : IsS95 w0 w g s0_0 s0_1 s0_2) (hB : Below w0.heap.size w0 w) (h : impl_builder_small.f s0_0 s0_1 s0_2 a1 = some (r1, r2, r3, r4)) :
    Calls Try.prog 53 #[.pointer (some ⟨g, 0, none⟩), .int .i64 a1] w fun e w' => e = .returned (.int .u16 r1) ∧ IsS95 w0 w' g r2 r3 r4 ∧ Below w0.heap.size w0 w' ∧ KeepBut w w' g none := by
  have HI0 := Aside0.mk hI
  have HK := Aside0.mk (KeepBut.refl w g none)
  have HL := Aside0.mk hB.size
  clear hI
  have HW0 := Aside0.mk hB.size
  have HB := Aside0.mk hB
  clear hB
  have H : (if a1 ≥ 0 then ((impl_builder_must.f s0_0 s0_1 s0_2 (decide (a1 ≤ 65535))).bind fun bt103 => (some (IntKind.u16.wrap (a1), bt103.1, bt103.2.1, bt103.2.2))) else ((impl_builder_must.f s0_0 s0_1 s0_2 false).bind fun bt106 => (some (IntKind.u16.wrap (a1), bt106.1, bt106.2.1, bt106.2.2)))) = some (r1, r2, r3, r4) := h
  clear h
  by_cases c3 : a1 ≥ 0
  · rw [if_pos c3] at H
    have c3b0 : decide (0 ≤ a1) = true := decide_eq_true c3
    clear c3
    replace H := Option.bind_eq_some_iff.mp H
    obtain ⟨⟨t103, t104, t105⟩, A40, H⟩ := H
    replace H : (some (IntKind.u16.wrap (a1), t103, t104, t105)) = some (r1, r2, r3, r4) := H
    have A4 := Aside0.mk A40
    clear A40
    simp only [Option.some.injEq, Prod.mk.injEq] at H
    obtain ⟨rfl, rfl, rfl, rfl⟩ := H
    go_enter Try.func53, Try.ntmps53
    go_wp2_with (first | ((with_reducible refine gate_callee (f := 52) rfl ?_); refine goesL_ (some 12) rfl rfl Try.func52 (by kernel_rfl) rfl #[.pointer (some ⟨g, 0, none⟩), .bool (decide (a1 ≤ 65535))] rfl (by (try simp only [List.map_toArray, List.map_cons, List.map_nil]); first | done | rfl | (simp only [List.length_drop, List.length_take]; rfl)) ?_; (with_reducible refine (impl_builder_must.calls g s0_0 s0_1 s0_2 (decide (a1 ≤ 65535)) t103 t104 t105 w0 _ ?side1 ?side2 A4.out).mono ?_); (case side1 => repeat (first | (with_reducible first | exact HI0.out | apply IsS95.alloc | apply IsS95.drewN | apply IsS95.drew | apply IsS95.set_0 | apply IsS95.set_1 | apply IsS95.set_2) | exact HI0.out)); (case side2 => repeat (first | (with_reducible first | exact HB.out | apply below_alloc | apply pw_below_drewN | apply below_drew1 | refine below_set ?_ (IsS95.ge HI0.out)) | exact HB.out)); rintro e w5 ⟨rfl, hi, hb, hk⟩; refine ⟨_, rfl, ?_⟩; have n0_ := Aside0.mk (KeepBut.trans (by repeat (first | (with_reducible first | exact HK.out | apply KeepBut.set_ | apply keep_drewN | apply keep_drew | apply keep_alloc) | exact HK.out)) hk (.inl rfl)); have n1_ := Aside0.mk (hb); have n2_ := Aside0.mk (hi); clear HK; clear HB; clear HI0; have HK := n0_; have HB := n1_; have HI0 := n2_; clear n0_ n1_ n2_; (try clear hb); (try clear hb2); (try clear hk); (try clear hi)))
    go_ret
    exact ⟨by first | rfl | (simp [errW_none, errW_some] <;> rfl) | (simp [*, errW_none, errW_some] <;> rfl), by repeat (first | (with_reducible first | exact HI0.out | apply IsS95.alloc | apply IsS95.drewN | apply IsS95.drew | apply IsS95.set_0 | apply IsS95.set_1 | apply IsS95.set_2) | exact HI0.out), by repeat (first | (with_reducible first | exact HB.out | apply below_alloc | apply pw_below_drewN | apply below_drew1 | refine below_set ?_ (IsS95.ge HI0.out)) | exact HB.out), by repeat (first | (with_reducible first | exact HK.out | apply KeepBut.set_ | apply keep_drewN | apply keep_drew | apply keep_alloc) | exact HK.out)⟩
  · rw [if_neg c3] at H
    have c3b0 : decide (0 ≤ a1) = false := decide_eq_false c3
    clear c3
    replace H := Option.bind_eq_some_iff.mp H
    obtain ⟨⟨t106, t107, t108⟩, A60, H⟩ := H
    replace H : (some (IntKind.u16.wrap (a1), t106, t107, t108)) = some (r1, r2, r3, r4) := H
    have A6 := Aside0.mk A60
    clear A60
    simp only [Option.some.injEq, Prod.mk.injEq] at H
    obtain ⟨rfl, rfl, rfl, rfl⟩ := H
    go_enter Try.func53, Try.ntmps53
    go_wp2_with (first | ((with_reducible refine gate_callee (f := 52) rfl ?_); refine goesL_ (some 12) rfl rfl Try.func52 (by kernel_rfl) rfl #[.pointer (some ⟨g, 0, none⟩), .bool false] rfl (by (try simp only [List.map_toArray, List.map_cons, List.map_nil]); first | done | rfl | (simp only [List.length_drop, List.length_take]; rfl)) ?_; (with_reducible refine (impl_builder_must.calls g s0_0 s0_1 s0_2 false t106 t107 t108 w0 _ ?side1 ?side2 A6.out).mono ?_); (case side1 => repeat (first | (with_reducible first | exact HI0.out | apply IsS95.alloc | apply IsS95.drewN | apply IsS95.drew | apply IsS95.set_0 | apply IsS95.set_1 | apply IsS95.set_2) | exact HI0.out)); (case side2 => repeat (first | (with_reducible first | exact HB.out | apply below_alloc | apply pw_below_drewN | apply below_drew1 | refine below_set ?_ (IsS95.ge HI0.out)) | exact HB.out)); rintro e w7 ⟨rfl, hi, hb, hk⟩; refine ⟨_, rfl, ?_⟩; have n0_ := Aside0.mk (KeepBut.trans (by repeat (first | (with_reducible first | exact HK.out | apply KeepBut.set_ | apply keep_drewN | apply keep_drew | apply keep_alloc) | exact HK.out)) hk (.inl rfl)); have n1_ := Aside0.mk (hb); have n2_ := Aside0.mk (hi); clear HK; clear HB; clear HI0; have HK := n0_; have HB := n1_; have HI0 := n2_; clear n0_ n1_ n2_; (try clear hb); (try clear hb2); (try clear hk); (try clear hi)))
    go_ret
    exact ⟨by first | rfl | (simp [errW_none, errW_some] <;> rfl) | (simp [*, errW_none, errW_some] <;> rfl), by repeat (first | (with_reducible first | exact HI0.out | apply IsS95.alloc | apply IsS95.drewN | apply IsS95.drew | apply IsS95.set_0 | apply IsS95.set_1 | apply IsS95.set_2) | exact HI0.out), by repeat (first | (with_reducible first | exact HB.out | apply below_alloc | apply pw_below_drewN | apply below_drew1 | refine below_set ?_ (IsS95.ge HI0.out)) | exact HB.out), by repeat (first | (with_reducible first | exact HK.out | apply KeepBut.set_ | apply keep_drewN | apply keep_drew | apply keep_alloc) | exact HK.out)⟩

/-! ### impl_builder_signed: function 54 -/
def impl_builder_signed.f (s0_0 : Int) (s0_1 : Int) (s0_2 : Bool) (a1 : Int) : Option (Int × Int × Int × Bool) := if a1 ≥ (-32768) then ((impl_builder_must.f s0_0 s0_1 s0_2 (decide (a1 ≤ 32767))).bind fun bt109 => (some (IntKind.i16.wrap (a1), bt109.1, bt109.2.1, bt109.2.2))) else ((impl_builder_must.f s0_0 s0_1 s0_2 false).bind fun bt112 => (some (IntKind.i16.wrap (a1), bt112.1, bt112.2.1, bt112.2.2)))
set_option maxHeartbeats 8000000 in
set_option maxRecDepth 100000 in
theorem impl_builder_signed.calls (g : Nat) (s0_0 : Int) (s0_1 : Int) (s0_2 : Bool) (a1 : Int) (r1 : Int) (r2 : Int) (r3 : Int) (r4 : Bool) (w0 w : World) (hI : IsS95 w0 w g s0_0 s0_1 s0_2) (hB : Below w0.heap.size w0 w) (h : impl_builder_signed.f s0_0 s0_1 s0_2 a1 = some (r1, r2, r3, r4)) :
    Calls Try.prog 54 #[.pointer (some ⟨g, 0, none⟩), .int .i64 a1] w fun e w' => e = .returned (.int .i16 r1) ∧ IsS95 w0 w' g r2 r3 r4 ∧ Below w0.heap.size w0 w' ∧ KeepBut w w' g none := by
  have HI0 := Aside0.mk hI
  have HK := Aside0.mk (KeepBut.refl w g none)
  have HL := Aside0.mk hB.size
  clear hI
  have HW0 := Aside0.mk hB.size
  have HB := Aside0.mk hB
  clear hB
  have H : (if a1 ≥ (-32768) then ((impl_builder_must.f s0_0 s0_1 s0_2 (decide (a1 ≤ 32767))).bind fun bt109 => (some (IntKind.i16.wrap (a1), bt109.1, bt109.2.1, bt109.2.2))) else ((impl_builder_must.f s0_0 s0_1 s0_2 false).bind fun bt112 => (some (IntKind.i16.wrap (a1), bt112.1, bt112.2.1, bt112.2.2)))) = some (r1, r2, r3, r4) := h
  clear h
  by_cases c3 : a1 ≥ (-32768)
  · rw [if_pos c3] at H
    have c3b0 : decide ((-32768) ≤ a1) = true := decide_eq_true c3
    clear c3
    replace H := Option.bind_eq_some_iff.mp H
    obtain ⟨⟨t109, t110, t111⟩, A40, H⟩ := H
    replace H : (some (IntKind.i16.wrap (a1), t109, t110, t111)) = some (r1, r2, r3, r4) := H
    have A4 := Aside0.mk A40
    clear A40
    simp only [Option.some.injEq, Prod.mk.injEq] at H
    obtain ⟨rfl, rfl, rfl, rfl⟩ := H
    go_enter Try.func54, Try.ntmps54
    go_wp2_with (first | ((with_reducible refine gate_callee (f := 52) rfl ?_); refine goesL_ (some 12) rfl rfl Try.func52 (by kernel_rfl) rfl #[.pointer (some ⟨g, 0, none⟩), .bool (decide (a1 ≤ 32767))] rfl (by (try simp only [List.map_toArray, List.map_cons, List.map_nil]); first | done | rfl | (simp only [List.length_drop, List.length_take]; rfl)) ?_; (with_reducible refine (impl_builder_must.calls g s0_0 s0_1 s0_2 (decide (a1 ≤ 32767)) t109 t110 t111 w0 _ ?side1 ?side2 A4.out).mono ?_); (case side1 => repeat (first | (with_reducible first | exact HI0.out | apply IsS95.alloc | apply IsS95.drewN | apply IsS95.drew | apply IsS95.set_0 | apply IsS95.set_1 | apply IsS95.set_2) | exact HI0.out)); (case side2 => repeat (first | (with_reducible first | exact HB.out | apply below_alloc | apply pw_below_drewN | apply below_drew1 | refine below_set ?_ (IsS95.ge HI0.out)) | exact HB.out)); rintro e w5 ⟨rfl, hi, hb, hk⟩; refine ⟨_, rfl, ?_⟩; have n0_ := Aside0.mk (KeepBut.trans (by repeat (first | (with_reducible first | exact HK.out | apply KeepBut.set_ | apply keep_drewN | apply keep_drew | apply keep_alloc) | exact HK.out)) hk (.inl rfl)); have n1_ := Aside0.mk (hb); have n2_ := Aside0.mk (hi); clear HK; clear HB; clear HI0; have HK := n0_; have HB := n1_; have HI0 := n2_; clear n0_ n1_ n2_; (try clear hb); (try clear hb2); (try clear hk); (try clear hi)))
    go_ret
    exact ⟨by first | rfl | (simp [errW_none, errW_some] <;> rfl) | (simp [*, errW_none, errW_some] <;> rfl), by repeat (first | (with_reducible first | exact HI0.out | apply IsS95.alloc | apply IsS95.drewN | apply IsS95.drew | apply IsS95.set_0 | apply IsS95.set_1 | apply IsS95.set_2) | exact HI0.out), by repeat (first | (with_reducible first | exact HB.out | apply below_alloc | apply pw_below_drewN | apply below_drew1 | refine below_set ?_ (IsS95.ge HI0.out)) | exact HB.out), by repeat (first | (with_reducible first | exact HK.out | apply KeepBut.set_ | apply keep_drewN | apply keep_drew | apply keep_alloc) | exact HK.out)⟩
  · rw [if_neg c3] at H
    have c3b0 : decide ((-32768) ≤ a1) = false := decide_eq_false c3
    clear c3
    replace H := Option.bind_eq_some_iff.mp H
    obtain ⟨⟨t112, t113, t114⟩, A60, H⟩ := H
    replace H : (some (IntKind.i16.wrap (a1), t112, t113, t114)) = some (r1, r2, r3, r4) := H
    have A6 := Aside0.mk A60
    clear A60
    simp only [Option.some.injEq, Prod.mk.injEq] at H
    obtain ⟨rfl, rfl, rfl, rfl⟩ := H
    go_enter Try.func54, Try.ntmps54
    go_wp2_with (first | ((with_reducible refine gate_callee (f := 52) rfl ?_); refine goesL_ (some 12) rfl rfl Try.func52 (by kernel_rfl) rfl #[.pointer (some ⟨g, 0, none⟩), .bool false] rfl (by (try simp only [List.map_toArray, List.map_cons, List.map_nil]); first | done | rfl | (simp only [List.length_drop, List.length_take]; rfl)) ?_; (with_reducible refine (impl_builder_must.calls g s0_0 s0_1 s0_2 false t112 t113 t114 w0 _ ?side1 ?side2 A6.out).mono ?_); (case side1 => repeat (first | (with_reducible first | exact HI0.out | apply IsS95.alloc | apply IsS95.drewN | apply IsS95.drew | apply IsS95.set_0 | apply IsS95.set_1 | apply IsS95.set_2) | exact HI0.out)); (case side2 => repeat (first | (with_reducible first | exact HB.out | apply below_alloc | apply pw_below_drewN | apply below_drew1 | refine below_set ?_ (IsS95.ge HI0.out)) | exact HB.out)); rintro e w7 ⟨rfl, hi, hb, hk⟩; refine ⟨_, rfl, ?_⟩; have n0_ := Aside0.mk (KeepBut.trans (by repeat (first | (with_reducible first | exact HK.out | apply KeepBut.set_ | apply keep_drewN | apply keep_drew | apply keep_alloc) | exact HK.out)) hk (.inl rfl)); have n1_ := Aside0.mk (hb); have n2_ := Aside0.mk (hi); clear HK; clear HB; clear HI0; have HK := n0_; have HB := n1_; have HI0 := n2_; clear n0_ n1_ n2_; (try clear hb); (try clear hb2); (try clear hk); (try clear hi)))
    go_ret
    exact ⟨by first | rfl | (simp [errW_none, errW_some] <;> rfl) | (simp [*, errW_none, errW_some] <;> rfl), by repeat (first | (with_reducible first | exact HI0.out | apply IsS95.alloc | apply IsS95.drewN | apply IsS95.drew | apply IsS95.set_0 | apply IsS95.set_1 | apply IsS95.set_2) | exact HI0.out), by repeat (first | (with_reducible first | exact HB.out | apply below_alloc | apply pw_below_drewN | apply below_drew1 | refine below_set ?_ (IsS95.ge HI0.out)) | exact HB.out), by repeat (first | (with_reducible first | exact HK.out | apply KeepBut.set_ | apply keep_drewN | apply keep_drew | apply keep_alloc) | exact HK.out)⟩

/-! ### font_recordKey: function 74 -/
def font_recordKey.f (a0_0 : Int) (a0_1 : Int) (a0_2 : Int) : Option (Int) := some (Go.bits .or .u32 ((((a0_0) % 4294967296) * 65536) % 4294967296) ((a0_1) % 4294967296))
set_option maxHeartbeats 8000000 in
set_option maxRecDepth 100000 in
theorem font_recordKey.calls (a0_0 : Int) (a0_1 : Int) (a0_2 : Int) (r : Int) (w : World) (h : font_recordKey.f a0_0 a0_1 a0_2 = some r) :
    Calls Try.prog 74 #[.agg #[.int .u16 a0_0, .int .u16 a0_1, .int .i16 a0_2]] w fun e w' => e = .returned (.int .u32 r) ∧ Below w.heap.size w w' := by
  have hu102 := Try.underlying102
  have HB := Aside0.mk (Below.refl w.heap.size w)
  have H : (some (Go.bits .or .u32 ((((a0_0) % 4294967296) * 65536) % 4294967296) ((a0_1) % 4294967296))) = some r := h
  clear h
  obtain rfl := Option.some.inj H
  go_enter Try.func74, Try.ntmps74
  go_wp2_with (first | ((with_reducible refine gate_dst (N := 1) rfl ?_); refine box_event ?hg (N := 1) ?hd (cs := #[.int .u16 a0_0, .int .u16 a0_1, .int .i16 a0_2]) (t := 102) ?hr ?_; (case hd => rfl); (case hg => rfl); (case hr => first | (go_simp; done) | (go_simp; rfl)); intro gb115 hg w2 hbox hb; have n0_ := Aside0.mk (below_step (by repeat (first | (with_reducible first | exact HB.out | apply below_alloc | apply pw_below_drewN | apply below_drew1) | exact HB.out)) hb); have n1_ := Aside0.mk (hbox); have n2_ := Aside0.mk ((by rw [hg]; exact (below_size (by repeat (first | (with_reducible first | exact HB.out | apply below_alloc | apply pw_below_drewN | apply below_drew1) | exact HB.out))) : w.heap.size ≤ gb115)); have n3_ := Aside0.mk ((by rw [hg]; exact (below_size (by repeat (first | (with_reducible first | exact HB.out | apply below_alloc | apply pw_below_drewN | apply below_drew1) | exact HB.out))) : w.heap.size ≤ gb115)); clear HB; have HB := n0_; have BK115 := n1_; have GW115 := n2_; have GE115 := n3_; clear n0_ n1_ n2_ n3_; clear hb hbox hg; have hcz3_0 : w2.cell? ⟨gb115, 0, none⟩ = some (.int .u16 a0_0) := (blk_cell BK115.out 0).trans rfl; have hcz3_1 : w2.cell? ⟨gb115, 1, none⟩ = some (.int .u16 a0_1) := (blk_cell BK115.out 1).trans rfl; have hcz3_2 : w2.cell? ⟨gb115, 2, none⟩ = some (.int .i16 a0_2) := (blk_cell BK115.out 2).trans rfl; have hfz3_0 := blk_frozen BK115.out 0; have hfz3_1 := blk_frozen BK115.out 1; have hfz3_2 := blk_frozen BK115.out 2))
  go_ret
  exact ⟨by first | rfl | (simp [errW_none, errW_some] <;> rfl) | (simp [*, errW_none, errW_some] <;> rfl), by repeat (first | (with_reducible first | exact HB.out | apply below_alloc | apply pw_below_drewN | apply below_drew1 | refine below_set ?_ GE115.out) | exact HB.out)⟩

/-! ### font_kernPair: function 72 -/
def font_kernPair.l0 : Nat → List (S102) → Int → Int → Int → Option (Int)
  | 0, _, _, _, _ => none
  | k + 1, x0, x7, x8, x9 => if x8 < x9 then (if 0 ≤ (wrap64 (x8 + (wrap64 (Int.tdiv (wrap64 (x9 - x8)) 2)))) then (if (wrap64 (x8 + (wrap64 (Int.tdiv (wrap64 (x9 - x8)) 2)))) < (x0.length : Int) then ((font_recordKey.f ((rd_T102 x0 (wrap64 (x8 + (wrap64 (Int.tdiv (wrap64 (x9 - x8)) 2))))).f0) ((rd_T102 x0 (wrap64 (x8 + (wrap64 (Int.tdiv (wrap64 (x9 - x8)) 2))))).f1) ((rd_T102 x0 (wrap64 (x8 + (wrap64 (Int.tdiv (wrap64 (x9 - x8)) 2))))).f2)).bind fun t117 => (if x7 < t117 then (font_kernPair.l0 k x0 x7 x8 (wrap64 (x8 + (wrap64 (Int.tdiv (wrap64 (x9 - x8)) 2))))) else (if x7 > t117 then (font_kernPair.l0 k x0 x7 (wrap64 ((wrap64 (x8 + (wrap64 (Int.tdiv (wrap64 (x9 - x8)) 2)))) + 1)) x9) else (some ((rd_T102 x0 (wrap64 (x8 + (wrap64 (Int.tdiv (wrap64 (x9 - x8)) 2))))).f2))))) else (none)) else (none)) else (some 0)
def font_kernPair.f (k : Nat) (l0 : List (S102)) (a1 : Int) (a2 : Int) : Option (Int) := font_kernPair.l0 k l0 (Go.bits .or .u32 ((a1 * 65536) % 4294967296) a2) 0 (l0.length : Int)
theorem font_kernPair.mono_l : ∀ k, (∀ y0 y1 y2 y3, LeO (font_kernPair.l0 k y0 y1 y2 y3) (font_kernPair.l0 (k + 1) y0 y1 y2 y3))
  | 0 => fun _ _ _ _ r h => by simp [font_kernPair.l0] at h
  | k + 1 => by
    have ih0 := font_kernPair.mono_l k
    · intro y0 y1 y2 y3
      unfold font_kernPair.l0
      repeat' first
      | (with_reducible exact ih0 _ _ _ _)
      | (with_reducible exact LeO.refl _)
      | (with_reducible exact LeO.none _)
      | (with_reducible refine LeO.ite ?_ ?_)
      | (with_reducible refine LeO.bind ?_ (fun _ => ?_))
      | exact ih0 _ _ _ _
      | exact LeO.none _
      | refine LeO.ite ?_ ?_
      | refine LeO.bind ?_ (fun _ => ?_)
theorem font_kernPair.mono : ∀ a0 a1 a2 k, LeO (font_kernPair.f k a0 a1 a2) (font_kernPair.f (k + 1) a0 a1 a2) := by
  intro a0 a1 a2 k
  have ih0 := font_kernPair.mono_l k
  unfold font_kernPair.f
  repeat' first
      | (with_reducible exact ih0 _ _ _ _)
      | (with_reducible exact LeO.refl _)
      | (with_reducible exact LeO.none _)
      | (with_reducible refine LeO.ite ?_ ?_)
      | (with_reducible refine LeO.bind ?_ (fun _ => ?_))
      | exact ih0 _ _ _ _
      | exact LeO.none _
      | refine LeO.ite ?_ ?_
      | refine LeO.bind ?_ (fun _ => ?_)
set_option maxHeartbeats 8000000 in
set_option maxRecDepth 100000 in
theorem font_kernPair.calls (k : Nat) (A0 : Option Addr) (c0 : Nat) (l0 : List (S102)) (a1 : Int) (a2 : Int) (r : Int) (w : World) (hr0 : Kd.C k102 w A0 l0.length l0) (hc0 : l0.length ≤ c0) (h : font_kernPair.f k l0 a1 a2 = some r) :
    Calls Try.prog 72 #[.slice A0 l0.length c0, .int .u32 a1, .int .u32 a2] w fun e w' => e = .returned (.int .i16 r) ∧ Below w.heap.size w w' := by
  have hu102 := Try.underlying102
  have HR0 := Aside0.mk hr0
  have HC0 := Aside0.mk hc0
  clear hr0 hc0
  have HB := Aside0.mk (Below.refl w.heap.size w)
  have H : (font_kernPair.l0 k l0 (Go.bits .or .u32 ((a1 * 65536) % 4294967296) a2) 0 (l0.length : Int)) = some r := h
  clear h
  have H' := Aside0.mk H
  clear H
  go_enter Try.func72, Try.ntmps72
  go_wp2
  go_loopg [8, 9] k (fun kq v8 v9 w' => ∃ (x8_1 : Int) (x9_1 : Int), v8 = .int .i64 x8_1 ∧ v9 = .int .i64 x9_1 ∧ Aside0 (font_kernPair.l0 kq l0 (Go.bits .or .u32 ((a1 * 65536) % 4294967296) a2) x8_1 x9_1 = some r) ∧ Aside0 (kq ≤ k) ∧ Aside0 (Below w.heap.size w w'))
  case atStart => exact ⟨(0), ((l0.length : Int)), (by first | rfl | (simp; done) | (simp [*]; done)), (by first | rfl | (simp; done) | (simp [*]; done)), H', ⟨Nat.le_refl _⟩, ⟨by repeat (first | (with_reducible first | exact HB.out | apply below_alloc | apply pw_below_drewN | apply below_drew1) | exact HB.out)⟩⟩
  case round =>
    clear H'
    try clear p2
    obtain ⟨x8_1, x9_1, rfl, rfl, HA, HK1, HB⟩ := hrel
    cases gk with
    | zero => exact absurd HA.out (by simp [font_kernPair.l0])
    | succ k1 =>
      have H := HA.out
      clear HA
      simp only [font_kernPair.l0] at H
      by_cases c4 : x8_1 < x9_1
      · rw [if_pos c4] at H
        have c4b0 : decide (x8_1 < x9_1) = true := decide_eq_true c4
        clear c4
        obtain ⟨ji5, hji5⟩ : ∃ j_ : Int, (wrap64 (x8_1 + (wrap64 (Int.tdiv (wrap64 (x9_1 - x8_1)) 2)))) = j_ := ⟨_, rfl⟩
        replace H : (if 0 ≤ (ji5) then (if (ji5) < (l0.length : Int) then ((font_recordKey.f ((rd_T102 l0 (ji5)).f0) ((rd_T102 l0 (ji5)).f1) ((rd_T102 l0 (ji5)).f2)).bind fun t117 => (if (Go.bits .or .u32 ((a1 * 65536) % 4294967296) a2) < t117 then (font_kernPair.l0 k1 l0 (Go.bits .or .u32 ((a1 * 65536) % 4294967296) a2) x8_1 ji5) else (if (Go.bits .or .u32 ((a1 * 65536) % 4294967296) a2) > t117 then (font_kernPair.l0 k1 l0 (Go.bits .or .u32 ((a1 * 65536) % 4294967296) a2) (wrap64 ((ji5) + 1)) x9_1) else (some ((rd_T102 l0 (ji5)).f2))))) else (none)) else (none)) = some r := by first | (rw [hji5] at H; exact H) | (simp only [hji5] at H ⊢; exact H)
        have hji5w : (IntKind.i64.wrap (x8_1 + (wrap64 (Int.tdiv (wrap64 (x9_1 - x8_1)) 2)))) = ji5 := (i64_w _).trans hji5
        by_cases c6 : 0 ≤ (ji5)
        · rw [if_pos c6] at H
          have c6b0 : decide (0 ≤ (ji5)) = true := decide_eq_true c6
          clear c6
          by_cases c7 : (ji5) < (l0.length : Int)
          · rw [if_pos c7] at H
            have c7b0 : decide ((ji5) < (l0.length : Int)) = true := decide_eq_true c7
            clear c7
            replace H := Option.bind_eq_some_iff.mp H
            obtain ⟨t117, A80, H⟩ := H
            replace H : (if (Go.bits .or .u32 ((a1 * 65536) % 4294967296) a2) < t117 then (font_kernPair.l0 k1 l0 (Go.bits .or .u32 ((a1 * 65536) % 4294967296) a2) x8_1 ji5) else (if (Go.bits .or .u32 ((a1 * 65536) % 4294967296) a2) > t117 then (font_kernPair.l0 k1 l0 (Go.bits .or .u32 ((a1 * 65536) % 4294967296) a2) (wrap64 ((ji5) + 1)) x9_1) else (some ((rd_T102 l0 (ji5)).f2)))) = some r := H
            have A8 := Aside0.mk A80
            clear A80
            by_cases c9 : (Go.bits .or .u32 ((a1 * 65536) % 4294967296) a2) < t117
            · rw [if_pos c9] at H
              have c9b0 : decide ((Go.bits .or .u32 ((a1 * 65536) % 4294967296) a2) < t117) = true := decide_eq_true c9
              clear c9
              have H' := Aside0.mk H
              clear H
              have p116 : 0 ≤ ((ji5) : Int) := of_decide_eq_true (by first | (with_reducible assumption) | assumption)
              have q116 : (ji5) < (l0.length : Int) := of_decide_eq_true (by first | (with_reducible assumption) | assumption)
              obtain ⟨ad116, e116, hx116_0, hx116_1, hx116_2⟩ := at_T102 HR0.out (ji5) p116 q116
              cases e116
              replace hx116_0 := (HB.out.cell (World.block_lt_of_cell? w _ hx116_0)).trans hx116_0
              replace hx116_1 := (HB.out.cell (World.block_lt_of_cell? w _ hx116_1)).trans hx116_1
              replace hx116_2 := (HB.out.cell (World.block_lt_of_cell? w _ hx116_2)).trans hx116_2
              replace p116 := eq_true p116
              replace q116 := eq_true q116
              go_wp2_with (first | ((with_reducible refine gate_callee (f := 74) rfl ?_); refine goesL_ (some 31) rfl rfl Try.func74 (by kernel_rfl) rfl #[.agg #[.int .u16 ((rd_T102 l0 (ji5)).f0), .int .u16 ((rd_T102 l0 (ji5)).f1), .int .i16 ((rd_T102 l0 (ji5)).f2)]] rfl (by (try simp only [List.map_toArray, List.map_cons, List.map_nil]); first | done | (simp only [hji5]; rfl) | rfl | (simp only [List.length_drop, List.length_take]; rfl)) ?_; (with_reducible refine (font_recordKey.calls ((rd_T102 l0 (ji5)).f0) ((rd_T102 l0 (ji5)).f1) ((rd_T102 l0 (ji5)).f2) t117 _ A8.out).mono ?_); rintro e w10 ⟨rfl, hb⟩; refine ⟨_, rfl, ?_⟩; have n0_ := Aside0.mk (below_step (by repeat (first | (with_reducible first | exact HB.out | apply below_alloc | apply pw_below_drewN | apply below_drew1) | exact HB.out)) hb); clear HB; have HB := n0_; clear n0_; (try clear hb); (try clear hb2); (try clear hk); (try clear hi)))
              go_roundg k1
              case measure => have := HK1.out; omega
              case rel => exact ⟨(x8_1), (ji5), (by first | rfl | (simp; done) | (simp [*]; done)), (by first | rfl | (simp; done) | (simp only [← hji5] <;> (first | rfl | simp)) | (simp [*]; done)), H', ⟨by have := HK1.out; omega⟩, ⟨by repeat (first | (with_reducible first | exact HB.out | apply below_alloc | apply pw_below_drewN | apply below_drew1) | exact HB.out)⟩⟩
            · rw [if_neg c9] at H
              have c9b0 : decide ((Go.bits .or .u32 ((a1 * 65536) % 4294967296) a2) < t117) = false := decide_eq_false c9
              clear c9
              by_cases c11 : (Go.bits .or .u32 ((a1 * 65536) % 4294967296) a2) > t117
              · rw [if_pos c11] at H
                have c11b0 : decide (t117 < (Go.bits .or .u32 ((a1 * 65536) % 4294967296) a2)) = true := decide_eq_true c11
                clear c11
                have H' := Aside0.mk H
                clear H
                have p116 : 0 ≤ ((ji5) : Int) := of_decide_eq_true (by first | (with_reducible assumption) | assumption)
                have q116 : (ji5) < (l0.length : Int) := of_decide_eq_true (by first | (with_reducible assumption) | assumption)
                obtain ⟨ad116, e116, hx116_0, hx116_1, hx116_2⟩ := at_T102 HR0.out (ji5) p116 q116
                cases e116
                replace hx116_0 := (HB.out.cell (World.block_lt_of_cell? w _ hx116_0)).trans hx116_0
                replace hx116_1 := (HB.out.cell (World.block_lt_of_cell? w _ hx116_1)).trans hx116_1
                replace hx116_2 := (HB.out.cell (World.block_lt_of_cell? w _ hx116_2)).trans hx116_2
                replace p116 := eq_true p116
                replace q116 := eq_true q116
                go_wp2_with (first | ((with_reducible refine gate_callee (f := 74) rfl ?_); refine goesL_ (some 31) rfl rfl Try.func74 (by kernel_rfl) rfl #[.agg #[.int .u16 ((rd_T102 l0 (ji5)).f0), .int .u16 ((rd_T102 l0 (ji5)).f1), .int .i16 ((rd_T102 l0 (ji5)).f2)]] rfl (by (try simp only [List.map_toArray, List.map_cons, List.map_nil]); first | done | (simp only [hji5]; rfl) | rfl | (simp only [List.length_drop, List.length_take]; rfl)) ?_; (with_reducible refine (font_recordKey.calls ((rd_T102 l0 (ji5)).f0) ((rd_T102 l0 (ji5)).f1) ((rd_T102 l0 (ji5)).f2) t117 _ A8.out).mono ?_); rintro e w12 ⟨rfl, hb⟩; refine ⟨_, rfl, ?_⟩; have n0_ := Aside0.mk (below_step (by repeat (first | (with_reducible first | exact HB.out | apply below_alloc | apply pw_below_drewN | apply below_drew1) | exact HB.out)) hb); clear HB; have HB := n0_; clear n0_; (try clear hb); (try clear hb2); (try clear hk); (try clear hi)))
                go_roundg k1
                case measure => have := HK1.out; omega
                case rel => exact ⟨(wrap64 ((ji5) + 1)), (x9_1), (by first | rfl | (simp; done) | (simp only [← hji5] <;> (first | rfl | simp)) | (simp [*]; done)), (by first | rfl | (simp; done) | (simp [*]; done)), H', ⟨by have := HK1.out; omega⟩, ⟨by repeat (first | (with_reducible first | exact HB.out | apply below_alloc | apply pw_below_drewN | apply below_drew1) | exact HB.out)⟩⟩
              · rw [if_neg c11] at H
                have c11b0 : decide (t117 < (Go.bits .or .u32 ((a1 * 65536) % 4294967296) a2)) = false := decide_eq_false c11
                clear c11
                obtain rfl := Option.some.inj H
                have p116 : 0 ≤ ((ji5) : Int) := of_decide_eq_true (by first | (with_reducible assumption) | assumption)
                have q116 : (ji5) < (l0.length : Int) := of_decide_eq_true (by first | (with_reducible assumption) | assumption)
                obtain ⟨ad116, e116, hx116_0, hx116_1, hx116_2⟩ := at_T102 HR0.out (ji5) p116 q116
                cases e116
                replace hx116_0 := (HB.out.cell (World.block_lt_of_cell? w _ hx116_0)).trans hx116_0
                replace hx116_1 := (HB.out.cell (World.block_lt_of_cell? w _ hx116_1)).trans hx116_1
                replace hx116_2 := (HB.out.cell (World.block_lt_of_cell? w _ hx116_2)).trans hx116_2
                replace p116 := eq_true p116
                replace q116 := eq_true q116
                go_wp2_with (first | ((with_reducible refine gate_callee (f := 74) rfl ?_); refine goesL_ (some 31) rfl rfl Try.func74 (by kernel_rfl) rfl #[.agg #[.int .u16 ((rd_T102 l0 (ji5)).f0), .int .u16 ((rd_T102 l0 (ji5)).f1), .int .i16 ((rd_T102 l0 (ji5)).f2)]] rfl (by (try simp only [List.map_toArray, List.map_cons, List.map_nil]); first | done | (simp only [hji5]; rfl) | rfl | (simp only [List.length_drop, List.length_take]; rfl)) ?_; (with_reducible refine (font_recordKey.calls ((rd_T102 l0 (ji5)).f0) ((rd_T102 l0 (ji5)).f1) ((rd_T102 l0 (ji5)).f2) t117 _ A8.out).mono ?_); rintro e w13 ⟨rfl, hb⟩; refine ⟨_, rfl, ?_⟩; have n0_ := Aside0.mk (below_step (by repeat (first | (with_reducible first | exact HB.out | apply below_alloc | apply pw_below_drewN | apply below_drew1) | exact HB.out)) hb); clear HB; have HB := n0_; clear n0_; (try clear hb); (try clear hb2); (try clear hk); (try clear hi); have p118 : 0 ≤ ((ji5) : Int) := of_decide_eq_true (by first | (with_reducible assumption) | assumption); have q118 : (ji5) < (l0.length : Int) := of_decide_eq_true (by first | (with_reducible assumption) | assumption); obtain ⟨ad118, e118, hx118_0, hx118_1, hx118_2⟩ := at_T102 HR0.out (ji5) p118 q118; obtain rfl : ad116 = ad118 := (by injection e118); replace hx118_0 := (HB.out.cell (World.block_lt_of_cell? w _ hx118_0)).trans hx118_0; replace hx118_1 := (HB.out.cell (World.block_lt_of_cell? w _ hx118_1)).trans hx118_1; replace hx118_2 := (HB.out.cell (World.block_lt_of_cell? w _ hx118_2)).trans hx118_2; replace p118 := eq_true p118; replace q118 := eq_true q118))
                go_ret
                exact ⟨by first | rfl | (simp [errW_none, errW_some] <;> rfl) | (simp only [← hji5]; first | rfl | (simp [errW_none, errW_some] <;> rfl)) | (simp [*, errW_none, errW_some] <;> rfl), by repeat (first | (with_reducible first | exact HB.out | apply below_alloc | apply pw_below_drewN | apply below_drew1) | exact HB.out)⟩
          · rw [if_neg c7] at H
            exact absurd H (by simp)
        · rw [if_neg c6] at H
          exact absurd H (by simp)
      · rw [if_neg c4] at H
        have c4b0 : decide (x8_1 < x9_1) = false := decide_eq_false c4
        clear c4
        obtain rfl := Option.some.inj H
        go_wp2
        go_ret
        exact ⟨by first | rfl | (simp [errW_none, errW_some] <;> rfl) | (simp [*, errW_none, errW_some] <;> rfl), by repeat (first | (with_reducible first | exact HB.out | apply below_alloc | apply pw_below_drewN | apply below_drew1) | exact HB.out)⟩

/-! ### font_Kern0_KernPair: function 55 -/
def font_Kern0_KernPair.f (k : Nat) (l0 : List (S102)) (a1 : Int) (a2 : Int) : Option (Int) := (font_kernPair.f k l0 a1 a2).bind fun t119 => (some t119)
theorem font_Kern0_KernPair.mono : ∀ a0 a1 a2 k, LeO (font_Kern0_KernPair.f k a0 a1 a2) (font_Kern0_KernPair.f (k + 1) a0 a1 a2) := by
  intro a0 a1 a2 k
  unfold font_Kern0_KernPair.f
  repeat' first
      | (with_reducible exact font_kernPair.mono _ _ _ _)
      | (with_reducible exact LeO.refl _)
      | (with_reducible exact LeO.none _)
      | (with_reducible refine LeO.ite ?_ ?_)
      | (with_reducible refine LeO.bind ?_ (fun _ => ?_))
      | exact font_kernPair.mono _ _ _ _
      | exact LeO.none _
      | refine LeO.ite ?_ ?_
      | refine LeO.bind ?_ (fun _ => ?_)
set_option maxHeartbeats 8000000 in
set_option maxRecDepth 100000 in
theorem font_Kern0_KernPair.calls (k : Nat) (A0 : Option Addr) (c0 : Nat) (l0 : List (S102)) (a1 : Int) (a2 : Int) (r : Int) (w : World) (hr0 : Kd.C k102 w A0 l0.length l0) (hc0 : l0.length ≤ c0) (h : font_Kern0_KernPair.f k l0 a1 a2 = some r) :
    Calls Try.prog 55 #[.slice A0 l0.length c0, .int .u32 a1, .int .u32 a2] w fun e w' => e = .returned (.int .i16 r) ∧ Below w.heap.size w w' := by
  have HR0 := Aside0.mk hr0
  have HC0 := Aside0.mk hc0
  clear hr0 hc0
  have HB := Aside0.mk (Below.refl w.heap.size w)
  have H : ((font_kernPair.f k l0 a1 a2).bind fun t119 => (some t119)) = some r := h
  clear h
  replace H := Option.bind_eq_some_iff.mp H
  obtain ⟨t119, A40, H⟩ := H
  replace H : (some t119) = some r := H
  have A4 := Aside0.mk A40
  clear A40
  obtain rfl := Option.some.inj H
  go_enter Try.func55, Try.ntmps55
  go_wp2_with (first | ((with_reducible refine gate_callee (f := 72) rfl ?_); refine goesL_ (some 10) rfl rfl Try.func72 (by kernel_rfl) rfl #[.slice A0 l0.length c0, .int .u32 a1, .int .u32 a2] rfl (by (try simp only [List.map_toArray, List.map_cons, List.map_nil]); first | done | rfl | (simp only [List.length_drop, List.length_take]; rfl)) ?_; (with_reducible refine (font_kernPair.calls k _ _ l0 a1 a2 t119 _ ?side1 ?side2 A4.out).mono ?_); (case side1 => repeat (first | exact HR0.out | (with_reducible refine Kd.C_alloc ?_ _) | (with_reducible refine Kd.C_drewN ?_ _) | (with_reducible refine Kd.C_drew ?_))); (case side2 => exact HC0.out); rintro e w5 ⟨rfl, hb⟩; refine ⟨_, rfl, ?_⟩; have n0_ := Aside0.mk (below_step (by repeat (first | (with_reducible first | exact HB.out | apply below_alloc | apply pw_below_drewN | apply below_drew1) | exact HB.out)) hb); clear HB; have HB := n0_; clear n0_; (try clear hb); (try clear hb2); (try clear hk); (try clear hi)))
  go_ret
  exact ⟨by first | rfl | (simp [errW_none, errW_some] <;> rfl) | (simp [*, errW_none, errW_some] <;> rfl), by repeat (first | (with_reducible first | exact HB.out | apply below_alloc | apply pw_below_drewN | apply below_drew1) | exact HB.out)⟩

end Go.Proofs.Ytkfphiccfnfkdaa.PFnKerned
