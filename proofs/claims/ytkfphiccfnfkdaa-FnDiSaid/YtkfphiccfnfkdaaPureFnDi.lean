/- The law FnDi holds for every input: whatever is done with one of the four directions, its axis, its progression and how vertical text stands are as the document says. Condition: none (the statement's own bound on sizes lies in the law). -/

import Derived.Lib.IndexLaws
import Derived.Laws.BitsLemmas
import Derived.Test.YtkfphiccfnfkdaaPFnDix
namespace Go.Proofs.Ytkfphiccfnfkdaa.Pure
open Go.RowKit Go.Proofs.Ytkfphiccfnfkdaa.PFnDi Go.Proofs.YtkfphiccfnfkdaaW.PrintWords Go.Proofs.YtkfphiccfnfkdaaW.PrintLast Go.Proofs.YtkfphiccfnfkdaaW.PrintMore

def tellsOf (d : Nat) : Bool × Bool × Bool × Bool × Bool × Int :=
  (d.testBit 1, d.testBit 0, d.testBit 1, d.testBit 2, d.testBit 1 && d.testBit 3, 4 + (d % 4 : Nat))

/-- what a direction and the state that is wanted have in common -/
def fit (d : Nat) (v t kn o s : Bool) : Bool :=
  decide (d < 16) && (d.testBit 1 == v) && (d.testBit 0 == t) && (!kn || (d.testBit 2 == o && ((d.testBit 1 && d.testBit 3) == s))) && (!d.testBit 3 || d.testBit 2)

def sameTells (r : Option (Bool × Bool × Bool × Bool × Bool × Int)) (q : Bool × Bool × Bool × Bool × Bool × Int) : Bool :=
  match r with
  | some (a, b, c, e, f, h) => a == q.1 && b == q.2.1 && c == q.2.2.1 && e == q.2.2.2.1 && f == q.2.2.2.2.1 && decide (h = q.2.2.2.2.2)
  | none => false

theorem sameTells_eq {r : Option (Bool × Bool × Bool × Bool × Bool × Int)} {q : Bool × Bool × Bool × Bool × Bool × Int} (h : sameTells r q = true) : r = some q := by
  match r, h with
  | some (a, b, c, e, f, n), h =>
    simp only [sameTells, Bool.and_eq_true, beq_iff_eq, decide_eq_true_eq] at h
    obtain ⟨⟨⟨⟨⟨rfl, rfl⟩, rfl⟩, rfl⟩, rfl⟩, rfl⟩ := h
    rfl
  | none, h => cases h

theorem tells16 : ∀ d : Fin 16, sameTells (impl_DiTells.f (d.val : Int)) (tellsOf d.val) = true := by decide +kernel

theorem tells (d : Nat) (h : d < 16) : impl_DiTells.f (d : Int) = some (tellsOf d) := sameTells_eq (tells16 ⟨d, h⟩)

/-- one act -/
def act (d : Nat) (a : Nat) : Nat := if a = 0 then d ^^^ 2 else if a = 1 then d &&& 254 else if a = 2 then d ||| 1 else if a = 4 then (d ||| 6) ||| 8 else (d ||| 6) &&& 247

theorem act_fit : ∀ d : Fin 16, ∀ a : Fin 5, ∀ v t kn o s : Bool, fit d.val v t kn o s = true →
    ∃ r, spec_Di_Does.f v t kn o s (a.val : Int) = some r ∧ fit (act d.val a.val) r.1 r.2.1 r.2.2.1 r.2.2.2.1 r.2.2.2.2 = true := by
  intro d a v t kn o s h
  have all : ∀ d : Fin 16, ∀ a : Fin 5, ∀ v t kn o s : Bool, fit d.val v t kn o s = true →
      (match spec_Di_Does.f v t kn o s (a.val : Int) with | some r => fit (act d.val a.val) r.1 r.2.1 r.2.2.1 r.2.2.2.1 r.2.2.2.2 | none => false) = true := by decide +kernel
  have := all d a v t kn o s h
  split at this
  · rename_i r hr; exact ⟨r, hr, this⟩
  · cases this

theorem act0 : ∀ d : Fin 16, impl_DiSwitch.f (d.val : Int) = some ((act d.val 0 : Nat) : Int) := by decide +kernel
theorem act12 : ∀ d : Fin 16, impl_DiSetProgression.f (d.val : Int) false = some ((act d.val 1 : Nat) : Int) ∧ impl_DiSetProgression.f (d.val : Int) true = some ((act d.val 2 : Nat) : Int) := by decide +kernel
theorem act34 : ∀ d : Fin 16, impl_DiSetSideways.f (d.val : Int) false = some ((act d.val 3 : Nat) : Int) ∧ impl_DiSetSideways.f (d.val : Int) true = some ((act d.val 4 : Nat) : Int) := by decide +kernel

theorem end_di (x0 : Int) (l : List Int) (x5 i : Int) (v t kn o s : Bool) : Ev (fun k => laws_FnDi.j5 k x0 l x5 i true v t kn o s) true := by
  refine Ev.step (f := fun _ => some true) (fun k => ?_) (Ev.now _)
  simp only [laws_FnDi.j5, if_true]
  rw [show impl_DiTells.f 3 = some (tellsOf 3) from tells 3 (by decide)]
  rfl

theorem j4_ok (x0 : Int) (l : List Int) (x5 : Int) (i : Nat) (v t kn o s : Bool) (hi : i ≤ 40)
    (h : i < l.length → Ev (fun k => laws_FnDi.j5 k x0 l x5 (i : Int) false v t kn o s) true) (hl : i ≤ l.length) : Ev (fun k => laws_FnDi.j4 k x0 l x5 (i : Int) false v t kn o s) true := by
  by_cases hlast : i = l.length
  · refine Ev.step (fun k => ?_) (end_di x0 l x5 (i : Int) v t kn o s)
    simp only [laws_FnDi.j4, Bool.false_eq_true, if_false]
    rw [if_pos (by omega)]
  · by_cases h40 : i = 40
    · refine Ev.step (fun k => ?_) (end_di x0 l x5 (i : Int) v t kn o s)
      simp only [laws_FnDi.j4, Bool.false_eq_true, if_false]
      rw [if_neg (by omega)]
      have : ((i : Int) == 40) = true := by rw [beq_iff_eq]; omega
      rw [this]
    · refine Ev.step (fun k => ?_) (h (by omega))
      simp only [laws_FnDi.j4, Bool.false_eq_true, if_false]
      rw [if_neg (by omega)]
      have : ((i : Int) == 40) = false := by rw [beq_eq_false_iff_ne]; omega
      rw [this]

theorem j3_ok (x0 : Int) (l : List Int) (x5 i : Int) (v t kn o s A P V H S : Bool) (B : Int) (hc : B = wrap64 (4 + wrap64 (Int.tmod x0 4)) ∨ i ≠ 0)
    (h : Ev (fun k => laws_FnDi.j4 k x0 l x5 i false v t kn o s) true) : Ev (fun k => laws_FnDi.j3 k x0 l x5 i false v t kn o s A P V H S B) true := by
  refine Ev.step (fun k => ?_) h
  simp only [laws_FnDi.j3, Bool.false_eq_true, if_false]
  cases kn with
  | false => simp only [Bool.false_eq_true, if_false]
  | true =>
    simp only [if_true]
    cases o with
    | true => simp only [if_true]
    | false =>
      simp only [Bool.false_eq_true, if_false]
      by_cases q : B = wrap64 (4 + wrap64 (Int.tmod x0 4))
      · rw [if_pos q]
      · rw [if_neg q]
        have : (i == 0) = false := by
          rw [beq_eq_false_iff_ne]
          rcases hc with z | z
          · exact absurd z q
          · exact z
        rw [this]

theorem j2_ok (x0 : Int) (l : List Int) (x5 i : Int) (v t kn o s A P V H S : Bool) (B : Int) (hk : kn = true → H = o ∧ S = s) (hs : S = true → H = true ∧ A = true)
    (h : Ev (fun k => laws_FnDi.j3 k x0 l x5 i false v t kn o s A P V H S B) true) : Ev (fun k => laws_FnDi.j2 k x0 l x5 i false v t kn o s A P V H S B) true := by
  refine Ev.step (fun k => ?_) h
  simp only [laws_FnDi.j2, Bool.false_eq_true, if_false]
  have side : ∀ X Y Z : Option Bool, (S = true → H = true → A = true → X = Z) → (if S = true then (if H = true then X else Y) else Z) = Z := by
    intro X Y Z hX
    by_cases q : S = true
    · obtain ⟨q1, q2⟩ := hs q
      rw [if_pos q, if_pos q1, hX q q1 q2]
    · rw [if_neg q]
  have sX : ∀ k, S = true → H = true → A = true → laws_FnDi.j3 k x0 l x5 i (!A) v t kn o s A P V H S B = laws_FnDi.j3 k x0 l x5 i false v t kn o s A P V H S B := by
    intro k _ _ q; rw [q]; rfl
  cases kn with
  | false => simp only [Bool.false_eq_true, if_false]; exact side _ _ _ (sX k)
  | true =>
    obtain ⟨e2, e3⟩ := hk rfl
    have n1 : (H != o) = false := by rw [e2]; simp
    have n2 : (S != s) = false := by rw [e3]; simp
    simp only [if_true, n1, n2, Bool.false_eq_true, if_false]
    exact side _ _ _ (sX k)

theorem j1_ok (x0 : Int) (l : List Int) (d : Nat) (i : Int) (v t kn o s : Bool) (q : Bool × Bool × Bool × Bool × Bool × Int) (he : impl_DiTells.f (d : Int) = some q) (hv : q.1 = v) (ht : q.2.1 = t) (hv2 : q.2.2.1 = v)
    (h : Ev (fun k => laws_FnDi.j2 k x0 l (d : Int) i false v t kn o s q.1 q.2.1 q.2.2.1 q.2.2.2.1 q.2.2.2.2.1 q.2.2.2.2.2) true) : Ev (fun k => laws_FnDi.j1 k x0 l (d : Int) i true v t kn o s) true := by
  refine Ev.step (fun k => ?_) h
  have n1 : (q.1 != v) = false := by rw [hv]; simp
  have n2 : (q.2.1 != t) = false := by rw [ht]; simp
  have n3 : (q.2.2.1 != v) = false := by rw [hv2]; simp
  simp only [laws_FnDi.j1, if_true, he, Option.bind_some, n1, n2, n3, Bool.false_eq_true, if_false]

theorem j6_12 (x0 : Int) (l : List Int) (d : Nat) (hd : d < 16) (i : Int) (v t kn o s : Bool) (a : Nat) (ha : a = 1 ∨ a = 2) (r : Bool × Bool × Bool × Bool × Bool) (hdo : spec_Di_Does.f v t kn o s (a : Int) = some r)
    (h : Ev (fun k => laws_FnDi.l0 k x0 l ((act d a : Nat) : Int) (wrap64 (i + 1)) r.1 r.2.1 r.2.2.1 r.2.2.2.1 r.2.2.2.2) true) : Ev (fun k => laws_FnDi.j6 k x0 l (d : Int) i (a : Int) true v t kn o s) true := by
  refine Ev.step (fun k => ?_) h
  obtain ⟨e1, e2⟩ := act12 ⟨d, hd⟩
  have e1' : impl_DiSetProgression.f (d : Int) false = some ((act d 1 : Nat) : Int) := e1
  have e2' : impl_DiSetProgression.f (d : Int) true = some ((act d 2 : Nat) : Int) := e2
  simp only [laws_FnDi.j6, if_true, hdo, Option.bind_some]
  rcases ha with rfl | rfl
  · have q : (((1 : Nat) : Int) == 2) = false := by decide
    rw [q, e1']; rfl
  · have q : (((2 : Nat) : Int) == 2) = true := by decide
    rw [q, e2']; rfl

theorem j6_34 (x0 : Int) (l : List Int) (d : Nat) (hd : d < 16) (i : Int) (v t kn o s : Bool) (a : Nat) (ha : a = 3 ∨ a = 4) (r : Bool × Bool × Bool × Bool × Bool) (hdo : spec_Di_Does.f v t kn o s (a : Int) = some r)
    (h : Ev (fun k => laws_FnDi.l0 k x0 l ((act d a : Nat) : Int) (wrap64 (i + 1)) r.1 r.2.1 r.2.2.1 r.2.2.2.1 r.2.2.2.2) true) : Ev (fun k => laws_FnDi.j6 k x0 l (d : Int) i (a : Int) false v t kn o s) true := by
  refine Ev.step (fun k => ?_) h
  obtain ⟨e1, e2⟩ := act34 ⟨d, hd⟩
  have e1' : impl_DiSetSideways.f (d : Int) false = some ((act d 3 : Nat) : Int) := e1
  have e2' : impl_DiSetSideways.f (d : Int) true = some ((act d 4 : Nat) : Int) := e2
  simp only [laws_FnDi.j6, Bool.false_eq_true, if_false, hdo, Option.bind_some]
  rcases ha with rfl | rfl
  · have q : (((3 : Nat) : Int) == 4) = false := by decide
    rw [q, e1']; rfl
  · have q : (((4 : Nat) : Int) == 4) = true := by decide
    rw [q, e2']; rfl

theorem di_loop (x0 : Int) (l : List Int) (hx : 0 ≤ x0 ∧ x0 ≤ 255) (hw : ∀ x ∈ l, 0 ≤ x ∧ x ≤ 255) (n : Nat) :
    ∀ (i d : Nat) (v t kn o s : Bool), i + n = 41 → i ≤ l.length → fit d v t kn o s = true → (i = 0 → (d : Int) = Int.tmod x0 4) →
    Ev (fun k => laws_FnDi.l0 k x0 l (d : Int) (i : Int) v t kn o s) true := by
  induction n with
  | zero =>
    intro i d v t kn o s hi hil _ _
    have hj : Ev (fun k => laws_FnDi.j1 k x0 l (d : Int) (i : Int) false v t kn o s) true := by
      refine Ev.step (f := fun _ => some true) (fun k => ?_) (Ev.now _)
      simp only [laws_FnDi.j1, Bool.false_eq_true, if_false]
      rw [show impl_DiTells.f 3 = some (tellsOf 3) from tells 3 (by decide)]
      rfl
    refine Ev.step (fun k => ?_) hj
    simp only [laws_FnDi.l0]
    rw [if_pos (by omega)]
    have : decide ((i : Int) ≤ 40) = false := decide_eq_false (by omega)
    rw [this]
  | succ n ih =>
    intro i d v t kn o s hi hil hf h0
    have hf' := hf
    unfold fit at hf'
    simp only [Bool.and_eq_true, decide_eq_true_eq, beq_iff_eq, Bool.or_eq_true, Bool.not_eq_true'] at hf'
    obtain ⟨⟨⟨⟨hd, hv⟩, ht⟩, hk⟩, h3⟩ := hf'
    have he := tells d hd
    have hw1 : wrap64 ((i : Int) + 1) = ((i + 1 : Nat) : Int) := by unfold wrap64; omega
    have j5 : i < l.length → Ev (fun k => laws_FnDi.j5 k x0 l (d : Int) (i : Int) false v t kn o s) true := by
      intro hlt
      have hx := hw l[i] (List.getElem_mem hlt)
      have hr : rd l (i : Int) = l[i] := by simp [rd, List.getD_eq_getElem?_getD, List.getElem?_eq_getElem hlt]
      have hm0 : 0 ≤ Int.tmod l[i] 5 := Int.tmod_nonneg _ hx.1
      have hm1 : Int.tmod l[i] 5 < 5 := Int.tmod_lt_of_pos _ (by omega)
      obtain ⟨a, ha⟩ : ∃ a : Nat, Int.tmod l[i] 5 = a := ⟨(Int.tmod l[i] 5).toNat, by omega⟩
      have ha5 : a < 5 := by omega
      obtain ⟨r, hdo, hfr⟩ := act_fit ⟨d, hd⟩ ⟨a, ha5⟩ v t kn o s hf
      have hdo' : spec_Di_Does.f v t kn o s (a : Int) = some r := hdo
      have hgo : Ev (fun k => laws_FnDi.l0 k x0 l ((act d a : Nat) : Int) (wrap64 ((i : Int) + 1)) r.1 r.2.1 r.2.2.1 r.2.2.2.1 r.2.2.2.2) true := by
        rw [hw1]
        exact ih (i + 1) (act d a) r.1 r.2.1 r.2.2.1 r.2.2.2.1 r.2.2.2.2 (by omega) (by omega) hfr (fun h => by omega)
      have c1 : (0 : Int) ≤ (i : Int) := by omega
      have c2 : (i : Int) < (l.length : Int) := by omega
      by_cases ha0 : a = 0
      · subst ha0
        have e0 : impl_DiSwitch.f (d : Int) = some ((act d 0 : Nat) : Int) := act0 ⟨d, hd⟩
        have z0 : ((0 : Nat) : Int) = 0 := rfl
        rw [z0] at ha hdo'
        refine Ev.step (fun k => ?_) hgo
        simp only [laws_FnDi.j5, Bool.false_eq_true, if_false]
        rw [if_pos c1, if_pos c2, hr, ha, if_pos rfl, e0, hdo']
        rfl
      · have c3 : ¬ (a : Int) = 0 := by omega
        by_cases h12 : a = 1 ∨ a = 2
        · refine Ev.step (fun k => ?_) (j6_12 x0 l d hd (i : Int) v t kn o s a h12 r hdo' hgo)
          simp only [laws_FnDi.j5, Bool.false_eq_true, if_false]
          rw [if_pos c1, if_pos c2, hr, ha, if_neg c3]
          rcases h12 with q | q
          · have e : ((a : Int) == 1) = true := by rw [beq_iff_eq]; omega
            rw [if_pos (by omega), e]
          · have e : ((a : Int) == 2) = true := by rw [beq_iff_eq]; omega
            rw [if_neg (by omega), e]
        · refine Ev.step (fun k => ?_) (j6_34 x0 l d hd (i : Int) v t kn o s a (by omega) r hdo' hgo)
          simp only [laws_FnDi.j5, Bool.false_eq_true, if_false]
          have e : ((a : Int) == 2) = false := by rw [beq_eq_false_iff_ne]; omega
          rw [if_pos c1, if_pos c2, hr, ha, if_neg c3, if_neg (by omega), e]
    have hB : (tellsOf d).2.2.2.2.2 = wrap64 (4 + wrap64 (Int.tmod x0 4)) ∨ (i : Int) ≠ 0 := by
      by_cases hi0 : i = 0
      · left
        have e := h0 hi0
        have m0 : 0 ≤ Int.tmod x0 4 := Int.tmod_nonneg _ hx.1
        have m1 : Int.tmod x0 4 < 4 := Int.tmod_lt_of_pos _ (by omega)
        rw [← e]
        have e1 : wrap64 (d : Int) = (d : Int) := by unfold wrap64; omega
        have e2 : wrap64 (4 + (d : Int)) = 4 + (d : Int) := by unfold wrap64; omega
        rw [e1, e2]
        have e3 : d % 4 = d := Nat.mod_eq_of_lt (by omega)
        show 4 + ((d % 4 : Nat) : Int) = 4 + (d : Int)
        rw [e3]
      · right; omega
    have hS : (tellsOf d).2.2.2.2.1 = true → (tellsOf d).2.2.2.1 = true ∧ (tellsOf d).1 = true := by
      intro q
      have q' : (d.testBit 1 && d.testBit 3) = true := q
      rw [Bool.and_eq_true] at q'
      refine ⟨?_, q'.1⟩
      rcases h3 with z | z
      · rw [z] at q'; exact absurd q'.2 (by decide)
      · exact z
    have hK : kn = true → (tellsOf d).2.2.2.1 = o ∧ (tellsOf d).2.2.2.2.1 = s := by
      intro q
      rcases hk with z | z
      · rw [z] at q; cases q
      · exact z
    have j1 := j1_ok x0 l d (i : Int) v t kn o s (tellsOf d) he hv ht hv (j2_ok _ _ _ _ _ _ _ _ _ _ _ _ _ _ _ hK hS (j3_ok _ _ _ _ _ _ _ _ _ _ _ _ _ _ _ hB (j4_ok x0 l (d : Int) i v t kn o s (by omega) j5 hil)))
    refine Ev.step (fun k => ?_) j1
    simp only [laws_FnDi.l0]
    rw [if_pos (by omega)]
    have : decide ((i : Int) ≤ 40) = true := decide_eq_true (by omega)
    rw [this]

theorem FnDi : laws_FnDi.Pure := by
  intro a0 l1 w0 _ _ w1
  have wf : ∀ x : Int, (Lit.int .u8 x).wf = true → 0 ≤ x ∧ x ≤ 255 := fun x h => by
    simp only [Lit.wf, Bool.and_eq_true, decide_eq_true_eq] at h; exact h
  have h0 := wf a0 w0
  have m0 : 0 ≤ Int.tmod a0 4 := Int.tmod_nonneg _ h0.1
  have m1 : Int.tmod a0 4 < 4 := Int.tmod_lt_of_pos _ (by omega)
  obtain ⟨d, hd⟩ : ∃ d : Nat, Int.tmod a0 4 = d := ⟨(Int.tmod a0 4).toNat, by omega⟩
  have hd4 : d < 4 := by omega
  unfold laws_FnDi.f
  by_cases c : (l1.length : Int) > 2147483647
  · simp only [if_pos c]; exact ⟨0, trivial⟩
  · simp only [if_neg c]
    have key : ∀ d : Fin 4, ∃ r, spec_DiOf.f (d.val : Int) = some r ∧ fit d.val r.1 r.2.1 r.2.2.1 r.2.2.2.1 r.2.2.2.2 = true := by
      intro d
      have all : ∀ d : Fin 4, (match spec_DiOf.f (d.val : Int) with | some r => fit d.val r.1 r.2.1 r.2.2.1 r.2.2.2.1 r.2.2.2.2 | none => false) = true := by decide +kernel
      have := all d
      split at this
      · rename_i r hr; exact ⟨r, hr, this⟩
      · cases this
    obtain ⟨r, hr, hf⟩ := key ⟨d, hd4⟩
    simp only [hd]
    rw [show spec_DiOf.f (d : Int) = some r from hr]
    simp only [Option.bind_some]
    exact (di_loop a0 l1 h0 (fun x hx => wf x (w1 x hx)) 41 0 d r.1 r.2.1 r.2.2.1 r.2.2.2.1 r.2.2.2.2 (by omega) (by omega) hf (fun _ => hd.symm)).rounds


end Go.Proofs.Ytkfphiccfnfkdaa.Pure
