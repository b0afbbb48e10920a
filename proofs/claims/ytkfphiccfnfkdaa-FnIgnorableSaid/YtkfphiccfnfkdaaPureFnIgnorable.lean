/- The law FnIgnorable holds for every number: which characters are ignored by default are those of Unicode's property (not asked of Hangul fillers, of shorthand's controls, and of the fourth variation selector of Mongolian: the law's own guard). Condition: none. -/

import Derived.Lib.IndexLaws
import Derived.Test.YtkfphiccfnfkdaaPFnIgnorablex
namespace Go.Proofs.Ytkfphiccfnfkdaa.Pure
open Go.RowKit Go.Proofs.Ytkfphiccfnfkdaa.PFnIgnorable Go.Proofs.YtkfphiccfnfkdaaW.PrintWords Go.Proofs.YtkfphiccfnfkdaaW.PrintLast Go.Proofs.YtkfphiccfnfkdaaW.PrintMore

/-- is r in one of the ranges, or was b so already? -/
def acc (r : Int) : List S60 → Bool → Bool
  | [], b => b
  | x :: l, b => acc r l (if b = true then true else if r ≥ x.f0 then decide (r ≤ x.f1) else false)

theorem ign_loop (r : Int) (L : List S60) (t : Bool) (hL : L.length ≤ 1000) (ht : impl_Ignorable.f r = some t) (h173 : impl_Ignorable.f 173 = some true) (d : Nat) :
    ∀ (i : Nat) (b : Bool), i + d = L.length → acc r (L.drop i) b = t → Ev (fun k => laws_FnIgnorable.l0 k r b L (L.length : Int) (i : Int)) true := by
  induction d with
  | zero =>
    intro i b hi ha
    refine Ev.step (f := fun _ => some true) (fun k => ?_) (Ev.now _)
    have : L.drop i = [] := List.drop_eq_nil_of_le (by omega)
    rw [this] at ha
    simp only [acc] at ha
    simp only [laws_FnIgnorable.l0]
    rw [if_neg (by omega), ht, ha]
    simp only [Option.bind_some, beq_self_eq_true, if_true, h173]
  | succ d ih =>
    intro i b hi ha
    have hw : wrap64 ((i : Int) + 1) = ((i + 1 : Nat) : Int) := by unfold wrap64; omega
    have hd : L.drop i = L[i] :: L.drop (i + 1) := List.drop_eq_getElem_cons (by omega)
    have hr : rd_T60 L (i : Int) = L[i] := by
      unfold rd_T60
      simp [List.getD_eq_getElem?_getD, List.getElem?_eq_getElem (show i < L.length by omega)]
    rw [hd] at ha
    simp only [acc] at ha
    refine Ev.step (fun k => ?_) (ih (i + 1) _ (by omega) ha)
    simp only [laws_FnIgnorable.l0]
    rw [if_pos (by omega), if_pos (by omega), if_pos (by omega), hr, hw]
    by_cases hb : b = true
    · rw [if_pos hb, if_pos hb]
    · rw [if_neg hb, if_neg hb]
      by_cases hc : r ≥ L[i].f0
      · rw [if_pos hc, if_pos hc]
      · rw [if_neg hc, if_neg hc]

theorem acc_or (r : Int) (L : List S60) : ∀ b, acc r L b = (b || L.any fun x => decide (x.f0 ≤ r) && decide (r ≤ x.f1)) := by
  induction L with
  | nil => intro b; simp [acc]
  | cons x l ih =>
    intro b
    simp only [acc, ih, List.any_cons]
    cases b with
    | true => simp
    | false =>
      simp only [Bool.false_eq_true, if_false, Bool.false_or]
      by_cases hc : r ≥ x.f0
      · rw [if_pos hc]
        have : decide (x.f0 ≤ r) = true := decide_eq_true hc
        rw [this]; simp
      · rw [if_neg hc]
        have : decide (x.f0 ≤ r) = false := decide_eq_false hc
        rw [this]; simp

def ranges : List S60 := [(⟨173, 173⟩ : S60), (⟨847, 847⟩ : S60), (⟨1564, 1564⟩ : S60), (⟨4447, 4448⟩ : S60), (⟨6068, 6069⟩ : S60), (⟨6155, 6159⟩ : S60), (⟨8203, 8207⟩ : S60), (⟨8234, 8238⟩ : S60), (⟨8288, 8303⟩ : S60), (⟨12644, 12644⟩ : S60), (⟨65024, 65039⟩ : S60), (⟨65279, 65279⟩ : S60), (⟨65440, 65440⟩ : S60), (⟨65520, 65528⟩ : S60), (⟨113824, 113827⟩ : S60), (⟨119155, 119162⟩ : S60), (⟨917504, 921599⟩ : S60)]

def InRange (r : Int) : Prop := r = 173 ∨ r = 847 ∨ r = 1564 ∨ (4447 ≤ r ∧ r ≤ 4448) ∨ (6068 ≤ r ∧ r ≤ 6069) ∨ (6155 ≤ r ∧ r ≤ 6159) ∨ (8203 ≤ r ∧ r ≤ 8207) ∨ (8234 ≤ r ∧ r ≤ 8238) ∨ (8288 ≤ r ∧ r ≤ 8303) ∨ r = 12644 ∨ (65024 ≤ r ∧ r ≤ 65039) ∨ r = 65279 ∨ r = 65440 ∨ (65520 ≤ r ∧ r ≤ 65528) ∨ (113824 ≤ r ∧ r ≤ 113827) ∨ (119155 ≤ r ∧ r ≤ 119162) ∨ (917504 ≤ r ∧ r ≤ 921599)

theorem in_ranges (r : Int) : (acc r ranges false = true) ↔ InRange r := by
  rw [acc_or]
  unfold ranges InRange
  simp only [List.any_cons, List.any_nil, Bool.or_false, Bool.false_or, Bool.or_eq_true, Bool.and_eq_true, decide_eq_true_eq]
  omega

instance (r : Int) : Decidable (InRange r) := by unfold InRange; infer_instance

theorem ite_to {c : Prop} [Decidable c] {a b x : Option Bool} (h1 : c → a = x) (h2 : ¬ c → b = x) : (if c then a else b) = x := by
  by_cases h : c
  · rw [if_pos h]; exact h1 h
  · rw [if_neg h]; exact h2 h

theorem pack_is (r : Int) (h0 : 0 ≤ r) (h1 : r < 1114112) (hx : r ≠ 6159 ∧ r ≠ 4447 ∧ r ≠ 4448 ∧ r ≠ 12644 ∧ r ≠ 65440 ∧ ¬ (113824 ≤ r ∧ r ≤ 113827)) : harfbuzz_IsDefaultIgnorable.f r = some (decide (InRange r)) := by
  unfold harfbuzz_IsDefaultIgnorable.f
  repeat' (refine ite_to (fun _ => ?_) (fun _ => ?_))
  all_goals (refine congrArg some ?_; rw [Bool.eq_iff_iff, decide_eq_true_eq (p := InRange r)]; unfold InRange; first | (rw [beq_iff_eq]; omega) | (rw [decide_eq_true_eq]; omega) | (rw [true_iff_iff]; omega) | (rw [eq_self, true_iff]; omega) | (rw [Bool.false_eq_true, false_iff]; omega))

theorem FnIgnorable : laws_FnIgnorable.Pure := by
  intro a0 h
  have h0 : 0 ≤ a0 := by simp only [Lit.wf, Bool.and_eq_true, decide_eq_true_eq] at h; exact h.1
  have m0 : 0 ≤ Int.tmod a0 1114112 := Int.tmod_nonneg _ h0
  have m1 : Int.tmod a0 1114112 < 1114112 := Int.tmod_lt_of_pos a0 (by omega)
  unfold laws_FnIgnorable.f
  generalize Int.tmod a0 1114112 = m at m0 m1 ⊢
  have hw : wrap32 m = m := by unfold wrap32; omega
  rw [hw]
  have h173 : impl_Ignorable.f 173 = some true := by decide +kernel
  have main : (m ≠ 6159 ∧ m ≠ 4447 ∧ m ≠ 4448 ∧ m ≠ 12644 ∧ m ≠ 65440 ∧ ¬ (113824 ≤ m ∧ m ≤ 113827)) → ∃ k, laws_FnIgnorable.j0 k m = some true := by
    intro hx
    have ht : impl_Ignorable.f m = some (decide (InRange m)) := by unfold impl_Ignorable.f; rw [pack_is m m0 m1 hx]; rfl
    have e : acc m ranges false = decide (InRange m) := by
      rw [Bool.eq_iff_iff, in_ranges, decide_eq_true_eq]
    have := ign_loop m ranges (decide (InRange m)) (by decide) ht h173 ranges.length 0 false (by omega) e
    refine Ev.rounds (Ev.step (f := fun k => laws_FnIgnorable.l0 k m false ranges (ranges.length : Int) 0) (fun k => rfl) this)
  by_cases c1 : m = 6159
  · simp only [if_pos c1, h173, Option.bind_some]; exact ⟨0, trivial⟩
  by_cases c2 : m = 4447
  · simp only [if_neg c1, if_pos c2, h173, Option.bind_some]; exact ⟨0, trivial⟩
  by_cases c3 : m = 4448
  · simp only [if_neg c1, if_neg c2, if_pos c3, h173, Option.bind_some]; exact ⟨0, trivial⟩
  by_cases c4 : m = 12644
  · simp only [if_neg c1, if_neg c2, if_neg c3, if_pos c4, h173, Option.bind_some]; exact ⟨0, trivial⟩
  by_cases c5 : m = 65440
  · simp only [if_neg c1, if_neg c2, if_neg c3, if_neg c4, if_pos c5, h173, Option.bind_some]; exact ⟨0, trivial⟩
  by_cases c6 : m ≥ 113824
  · by_cases c7 : m ≤ 113827
    · simp only [if_neg c1, if_neg c2, if_neg c3, if_neg c4, if_neg c5, if_pos c6, if_pos c7, h173, Option.bind_some]; exact ⟨0, trivial⟩
    · simp only [if_neg c1, if_neg c2, if_neg c3, if_neg c4, if_neg c5, if_pos c6, if_neg c7]
      exact main ⟨c1, c2, c3, c4, c5, fun q => c7 q.2⟩
  · simp only [if_neg c1, if_neg c2, if_neg c3, if_neg c4, if_neg c5, if_neg c6]
    exact main ⟨c1, c2, c3, c4, c5, fun q => c6 q.1⟩


end Go.Proofs.Ytkfphiccfnfkdaa.Pure
