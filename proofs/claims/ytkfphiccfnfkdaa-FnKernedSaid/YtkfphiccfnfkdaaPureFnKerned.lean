/- The law FnKerned holds for every input: the kerning of a pair is that which the table has of it; 0, if it has none. Condition: none (the statement's own bounds on sizes lie in the law). -/

import Derived.Lib.IndexLaws
import Derived.Laws.BitsLemmas
import Derived.Test.YtkfphiccfnfkdaaPFnKernedx3
namespace Go.Proofs.Ytkfphiccfnfkdaa.Pure
open Go.RowKit Go.Proofs.Ytkfphiccfnfkdaa.PFnKerned Go.Proofs.YtkfphiccfnfkdaaW.PrintWords Go.Proofs.YtkfphiccfnfkdaaW.PrintLast Go.Proofs.YtkfphiccfnfkdaaW.PrintMore

theorem w64 (x : Int) (h : -9223372036854775808 ≤ x ∧ x ≤ 9223372036854775807) : wrap64 x = x := by unfold wrap64; omega

theorem rd_get (xs : List Int) (i : Nat) (h : i < xs.length) : rd xs (i : Int) = xs[i] := by
  simp [rd, List.getD_eq_getElem?_getD, List.getElem?_eq_getElem h]

theorem wf_u8 {x : Int} (h : (Lit.int .u8 x).wf = true) : 0 ≤ x ∧ x ≤ 255 := by
  simp only [Lit.wf, Bool.and_eq_true, decide_eq_true_eq] at h; exact h
theorem wf_i16 {x : Int} (h : (Lit.int .i16 x).wf = true) : -32768 ≤ x ∧ x ≤ 32767 := by
  simp only [Lit.wf, Bool.and_eq_true, decide_eq_true_eq] at h; exact h

/-! ### has a list a number -/
theorem has_loop (l : List Int) (n : Int) (hl : l.length ≤ 140737488351232) (d : Nat) : ∀ i : Nat, i + d = l.length →
    ∃ b, Ev (fun k => spec_Has.l0 k n l (l.length : Int) (i : Int)) b := by
  induction d with
  | zero =>
    intro i hi
    refine ⟨false, Ev.step (f := fun _ => some false) (fun k => ?_) (Ev.now _)⟩
    simp only [spec_Has.l0]; rw [if_neg (by omega)]
  | succ d ih =>
    intro i hi
    have hw : wrap64 ((i : Int) + 1) = ((i + 1 : Nat) : Int) := by unfold wrap64; omega
    by_cases c : wrap64 (rd l (i : Int)) = n
    · refine ⟨true, Ev.step (f := fun _ => some true) (fun k => ?_) (Ev.now _)⟩
      simp only [spec_Has.l0]; rw [if_pos (by omega), if_pos (by omega), if_pos (by omega), if_pos c]
    · obtain ⟨b, h⟩ := ih (i + 1) (by omega)
      refine ⟨b, Ev.step (fun k => ?_) h⟩
      simp only [spec_Has.l0]; rw [if_pos (by omega), if_pos (by omega), if_pos (by omega), if_neg c, hw]

theorem has_ends (l : List Int) (n : Int) (hl : l.length ≤ 140737488351232) : ∃ b, Ev (fun k => spec_Has.f k l n) b :=
  has_loop l n hl l.length 0 (by omega)

theorem nth_ends (l : List Int) (n : Int) (hn : 0 ≤ n) (hb : ∀ x ∈ l, -32768 ≤ x ∧ x ≤ 32767) : ∃ v, spec_Nth.f l n = some v ∧ -32768 ≤ v ∧ v ≤ 32767 := by
  unfold spec_Nth.f
  by_cases h : (l.length : Int) = 0
  · exact ⟨0, by rw [if_pos h], by omega, by omega⟩
  · have h1 : 0 ≤ Int.tmod n (l.length : Int) := Int.tmod_nonneg _ hn
    have h2 : Int.tmod n (l.length : Int) < (l.length : Int) := Int.tmod_lt_of_pos n (by omega)
    obtain ⟨j, hj⟩ : ∃ j : Nat, Int.tmod n (l.length : Int) = j := ⟨(Int.tmod n (l.length : Int)).toNat, by omega⟩
    rw [hj] at h1 h2 ⊢
    have hj' : j < l.length := by omega
    have hx := hb l[j] (List.getElem_mem hj')
    refine ⟨l[j], ?_, hx.1, hx.2⟩
    rw [if_neg h, if_pos h1, if_pos h2, rd_get l j hj', w64 _ (by omega)]

/-! ### the table: pairs that rise -/
def keyOf (x : S52) : Int := x.f0 * 65536 + x.f1
def Fits (x : S52) : Prop := (0 ≤ x.f0 ∧ x.f0 ≤ 255) ∧ (0 ≤ x.f1 ∧ x.f1 ≤ 255) ∧ (-32768 ≤ x.f2 ∧ x.f2 ≤ 32767)
def Rises (P : List S52) : Prop := ∀ i j (hi : i < P.length) (hj : j < P.length), i < j → keyOf P[i] < keyOf P[j]

def recOf (x : S52) : S102 := ⟨x.f0, x.f1, x.f2⟩

/-- the value of a pair, if there is one -/
def IsWant (P : List S52) (a b v : Int) : Prop := (∀ i (h : i < P.length), P[i].f0 = a → P[i].f1 = b → v = P[i].f2) ∧ ((∀ i (h : i < P.length), ¬ (P[i].f0 = a ∧ P[i].f1 = b)) → v = 0)

theorem rd52 (P : List S52) (i : Nat) (h : i < P.length) : rd_T52 P (i : Int) = P[i] := by
  simp [rd_T52, List.getD_eq_getElem?_getD, List.getElem?_eq_getElem h]

theorem rd102 (P : List S52) (i : Nat) (h : i < P.length) : rd_T102 (P.map recOf) (i : Int) = recOf P[i] := by
  simp [rd_T102, List.getD_eq_getElem?_getD, List.getElem?_eq_getElem h]

theorem bits_key (a b : Int) (ha : 0 ≤ a ∧ a ≤ 255) (hb : 0 ≤ b ∧ b ≤ 255) : Go.bits .or .u32 ((a * 65536) % 4294967296) b = a * 65536 + b := by
  have e : (a * 65536) % 4294967296 = a * 65536 := by omega
  rw [e]
  exact Go.bits_join .u32 32 (by decide) (fun n h0 h1 => by rw [Go.IntKind.wrap_u32]; omega) 16 (a * 65536) b (by omega) (by omega) (by omega) hb.1 (by omega) (by omega)

theorem record_key (x : S52) (hx : Fits x) : font_recordKey.f x.f0 x.f1 x.f2 = some (keyOf x) := by
  obtain ⟨h0, h1, _⟩ := hx
  unfold font_recordKey.f keyOf
  have e0 : x.f0 % 4294967296 = x.f0 := by omega
  have e1 : x.f1 % 4294967296 = x.f1 := by omega
  rw [e0, e1, bits_key _ _ h0 h1]

theorem mid_is (lo hi : Nat) (h : lo < hi) (hh : hi ≤ 1000) : wrap64 ((lo : Int) + wrap64 (Int.tdiv (wrap64 ((hi : Int) - (lo : Int))) 2)) = ((lo + (hi - lo) / 2 : Nat) : Int) := by
  rw [w64 ((hi : Int) - (lo : Int)) (by omega)]
  have e : Int.tdiv ((hi : Int) - (lo : Int)) 2 = (((hi - lo) / 2 : Nat) : Int) := by
    rw [Int.tdiv_eq_ediv_of_nonneg (by omega)]; omega
  rw [e, w64 (((hi - lo) / 2 : Nat) : Int) (by omega), w64 _ (by omega)]; omega

theorem search (P : List S52) (hP : P.length ≤ 1000) (hf : ∀ x ∈ P, Fits x) (hr : Rises P) (a b v : Int) (hb : 0 ≤ b ∧ b ≤ 255) (hv : IsWant P a b v) (d : Nat) :
    ∀ lo hi : Nat, hi - lo ≤ d → hi ≤ P.length → (∀ i (h : i < P.length), keyOf P[i] = a * 65536 + b → lo ≤ i ∧ i < hi) →
    Ev (fun k => font_kernPair.l0 k (P.map recOf) (a * 65536 + b) (lo : Int) (hi : Int)) v := by
  have iff : ∀ i (h : i < P.length), keyOf P[i] = a * 65536 + b ↔ (P[i].f0 = a ∧ P[i].f1 = b) := by
    intro i h
    obtain ⟨h0, h1, _⟩ := hf _ (List.getElem_mem h)
    unfold keyOf; omega
  induction d with
  | zero =>
    intro lo hi hd hh hin
    have : v = 0 := hv.2 (fun i h q => by have := hin i h ((iff i h).2 q); omega)
    subst this
    refine Ev.step (f := fun _ => some 0) (fun k => ?_) (Ev.now _)
    simp only [font_kernPair.l0]; rw [if_neg (by omega)]
  | succ d ih =>
    intro lo hi hd hh hin
    by_cases hlt : lo < hi
    · obtain ⟨m, hm⟩ : ∃ m, m = lo + (hi - lo) / 2 := ⟨_, rfl⟩
      have hml : lo ≤ m ∧ m < hi := by omega
      have hmp : m < P.length := by omega
      have hfm := hf _ (List.getElem_mem hmp)
      have hk := record_key P[m] hfm
      have unf : ∀ k, font_kernPair.l0 (k + 1) (P.map recOf) (a * 65536 + b) (lo : Int) (hi : Int) =
          if a * 65536 + b < keyOf P[m] then font_kernPair.l0 k (P.map recOf) (a * 65536 + b) (lo : Int) (m : Int)
          else if a * 65536 + b > keyOf P[m] then font_kernPair.l0 k (P.map recOf) (a * 65536 + b) ((m + 1 : Nat) : Int) (hi : Int) else some P[m].f2 := by
        intro k
        simp only [font_kernPair.l0, mid_is lo hi hlt (by omega), ← hm]
        rw [if_pos (by omega), if_pos (by omega), if_pos (by simp; omega), rd102 P m hmp]
        have e : font_recordKey.f (recOf P[m]).f0 (recOf P[m]).f1 (recOf P[m]).f2 = some (keyOf P[m]) := hk
        rw [e]; simp only [Option.bind_some]
        rw [w64 ((m : Int) + 1) (by omega)]
        rfl
      by_cases c1 : a * 65536 + b < keyOf P[m]
      · refine Ev.step (fun k => by rw [unf k, if_pos c1]) (ih lo m (by omega) (by omega) ?_)
        intro i h q
        have := hin i h q
        refine ⟨this.1, ?_⟩
        apply Classical.byContradiction
        intro n
        rcases Nat.lt_or_ge m i with g | g
        · have := hr m i hmp h g; omega
        · have : i = m := by omega
          subst this; omega
      · by_cases c2 : a * 65536 + b > keyOf P[m]
        · refine Ev.step (fun k => by rw [unf k, if_neg c1, if_pos c2]) (ih (m + 1) hi (by omega) (by omega) ?_)
          intro i h q
          have := hin i h q
          refine ⟨?_, this.2⟩
          apply Classical.byContradiction
          intro n
          rcases Nat.lt_or_ge i m with g | g
          · have := hr i m h hmp g; omega
          · have : i = m := by omega
            subst this; omega
        · have q := (iff m hmp).1 (by omega)
          have hvm := hv.1 m hmp q.1 q.2
          subst hvm
          exact Ev.step (f := fun _ => some P[m].f2) (fun k => by rw [unf k, if_neg c1, if_neg c2]) (Ev.now _)
    · have : v = 0 := hv.2 (fun i h q => by have := hin i h ((iff i h).2 q); omega)
      subst this
      refine Ev.step (f := fun _ => some 0) (fun k => ?_) (Ev.now _)
      simp only [font_kernPair.l0]; rw [if_neg (by omega)]

theorem must_ok (x y : Int) (b : Bool) (h : b = true) : impl_builder_must.f x y false b = some (x, y, false) := by
  subst h; rfl
theorem small_ok (x y n : Int) (h : 0 ≤ n ∧ n ≤ 255) : impl_builder_small.f x y false n = some (n, x, y, false) := by
  unfold impl_builder_small.f
  rw [if_pos h.1, must_ok x y _ (decide_eq_true (by omega))]
  have : IntKind.u16.wrap n = n := by simp only [IntKind.wrap, IntKind.bits, IntKind.signed]; simp; omega
  simp only [Option.bind_some, this]
theorem signed_ok (x y n : Int) (h : -32768 ≤ n ∧ n ≤ 32767) : impl_builder_signed.f x y false n = some (n, x, y, false) := by
  unfold impl_builder_signed.f
  rw [if_pos h.1, must_ok x y _ (decide_eq_true h.2)]
  have : IntKind.i16.wrap n = n := by simp only [IntKind.wrap, IntKind.bits, IntKind.signed]; simp; omega
  simp only [Option.bind_some, this]

/-! ### the table is made -/
theorem made_loop (P : List S52) (hP : P.length ≤ 1000) (hf : ∀ x ∈ P, Fits x) (hr : Rises P) (a b v : Int) (ha : 0 ≤ a ∧ a ≤ 255) (hb : 0 ≤ b ∧ b ≤ 255) (hv : IsWant P a b v) (hvr : -32768 ≤ v ∧ v ≤ 32767) (d : Nat) :
    ∀ i : Nat, i + d = P.length → Ev (fun k => impl_Kerned.l0 k P a b ((P.take i).map recOf) P (P.length : Int) (i : Int) 0 0 false) v := by
  induction d with
  | zero =>
    intro i hi
    have e : P.take i = P := List.take_of_length_le (by omega)
    rw [e]
    have hs := search P hP hf hr a b v hb hv P.length 0 P.length (by omega) (by omega) (fun i h _ => ⟨by omega, h⟩)
    refine Ev.step (f := fun k => (font_Kern0_KernPair.f k (P.map recOf) a b).bind fun t161 => some (wrap64 t161)) (fun k => ?_) ?_
    · simp only [impl_Kerned.l0]
      rw [if_neg (by omega), small_ok 0 0 a ha]
      simp only [Option.bind_some]
      rw [small_ok 0 0 b hb]
      simp only [Option.bind_some]
      have e1 : a % 4294967296 = a := by omega
      have e2 : b % 4294967296 = b := by omega
      rw [e1, e2]
      rfl
    · have hk : Ev (fun k => font_Kern0_KernPair.f k (P.map recOf) a b) v := by
        refine Ev.congr (f := fun k => (font_kernPair.l0 k (P.map recOf) (a * 65536 + b) 0 (P.length : Int)).bind fun t => some t) (fun k => ?_) (Ev.bind hs (Ev.now _))
        unfold font_Kern0_KernPair.f font_kernPair.f
        rw [bits_key a b ha hb]; simp
      refine Ev.bind hk ?_
      rw [w64 v (by omega)]
      exact Ev.now _
  | succ d ih =>
    intro i hi
    have hip : i < P.length := by omega
    obtain ⟨h0, h1, h2⟩ := hf _ (List.getElem_mem hip)
    have hw : wrap64 ((i : Int) + 1) = ((i + 1 : Nat) : Int) := by unfold wrap64; omega
    have ht : (P.take (i + 1)).map recOf = (P.take i).map recOf ++ [(⟨P[i].f0, P[i].f1, P[i].f2⟩ : S102)] := by
      rw [List.take_succ_eq_append_getElem hip, List.map_append]; rfl
    have hj : Ev (fun k => impl_Kerned.j1 k P a b ((P.take i).map recOf) P (P.length : Int) (i : Int) 0 0 false P[i].f0 P[i].f1 P[i].f2) v := by
      refine Ev.step (fun k => ?_) (ih (i + 1) (by omega))
      simp only [impl_Kerned.j1]
      rw [small_ok 0 0 _ h0]; simp only [Option.bind_some]
      rw [small_ok 0 0 _ h1]; simp only [Option.bind_some]
      rw [signed_ok 0 0 _ h2]; simp only [Option.bind_some]
      rw [if_pos (by simp; omega), hw, ht]
    refine Ev.step (fun k => ?_) hj
    simp only [impl_Kerned.l0]
    rw [if_pos (by omega), if_pos (by omega), if_pos (by omega), rd52 P i hip]
    by_cases z : (i : Int) = 0
    · rw [if_pos z, must_ok 0 0 true rfl]; rfl
    · have em : wrap64 ((i : Int) - 1) = ((i - 1 : Nat) : Int) := by unfold wrap64; omega
      have hq : i - 1 < P.length := by omega
      have hlt := hr (i - 1) i hq hip (by omega)
      obtain ⟨g0, g1, _⟩ := hf _ (List.getElem_mem hq)
      unfold keyOf at hlt
      rw [if_neg z, em, if_pos (by omega), if_pos (by omega), rd52 P (i - 1) hq]
      by_cases c1 : P[i].f0 > P[i - 1].f0
      · rw [if_pos c1, must_ok 0 0 true rfl]; rfl
      · have c2 : P[i].f0 = P[i - 1].f0 := by omega
        rw [if_neg c1, if_pos c2, must_ok 0 0 _ (decide_eq_true (by omega))]; rfl

theorem made (P : List S52) (hP : P.length ≤ 1000) (hf : ∀ x ∈ P, Fits x) (hr : Rises P) (a b v : Int) (ha : 0 ≤ a ∧ a ≤ 255) (hb : 0 ≤ b ∧ b ≤ 255) (hv : IsWant P a b v) (hvr : -32768 ≤ v ∧ v ≤ 32767) :
    Ev (fun k => impl_Kerned.f k P a b) v := by
  have := made_loop P hP hf hr a b v ha hb hv hvr P.length 0 (by omega)
  exact this

/-! ### the law -/
theorem want_loop (P : List S52) (hP : P.length ≤ 1000) (hf : ∀ x ∈ P, Fits x) (hr : Rises P) (a b : Int) (ha : 0 ≤ a ∧ a ≤ 255) (hb : 0 ≤ b ∧ b ≤ 255) (d : Nat) :
    ∀ (i : Nat) (v : Int), i + d = P.length → (-32768 ≤ v ∧ v ≤ 32767) →
    (∀ j (h : j < P.length), j < i → P[j].f0 = a → P[j].f1 = b → v = P[j].f2) → ((∀ j (h : j < P.length), j < i → ¬ (P[j].f0 = a ∧ P[j].f1 = b)) → v = 0) →
    Ev (fun k => laws_FnKerned.l2 k a b P v P (P.length : Int) (i : Int)) true := by
  have wa : wrap64 a = a := w64 a (by omega)
  have wb : wrap64 b = b := w64 b (by omega)
  induction d with
  | zero =>
    intro i v hi hvr h1 h2
    have hv : IsWant P a b v := ⟨fun j h q1 q2 => h1 j h (by omega) q1 q2, fun q => h2 (fun j h _ => q j h)⟩
    have hm := made P hP hf hr a b v ha hb hv hvr
    have h3 : Ev (fun k => impl_Kerned.f k (([(⟨1, 2, 3⟩ : S52)] : List (S52))) 1 2) 3 := Ev.of (k := 20) (fun k => impl_Kerned.mono _ _ _ k) (by decide +kernel)
    refine Ev.step (f := fun k => (impl_Kerned.f k P a b).bind fun t170 => (if t170 = v then ((impl_Kerned.f k (([(⟨1, 2, 3⟩ : S52)] : List (S52))) 1 2).bind fun t174 => (some (t174 == 3))) else (some false))) (fun k => ?_) ?_
    · simp only [laws_FnKerned.l2]; rw [if_neg (by omega), wa, wb]
    · refine Ev.bind hm ?_
      simp only [if_true]
      exact Ev.bind h3 (Ev.now _)
  | succ d ih =>
    intro i v hi hvr h1 h2
    have hip : i < P.length := by omega
    have hw : wrap64 ((i : Int) + 1) = ((i + 1 : Nat) : Int) := by unfold wrap64; omega
    obtain ⟨_, _, g2⟩ := hf _ (List.getElem_mem hip)
    have uniq : ∀ j (h : j < P.length), j < i → P[j].f0 = a → P[j].f1 = b → P[i].f0 = a → P[i].f1 = b → False := by
      intro j h hj q1 q2 q3 q4
      have := hr j i h hip hj
      unfold keyOf at this
      omega
    have key : Ev (fun k => laws_FnKerned.j5 k a b P v P (P.length : Int) (i : Int) (decide (P[i].f0 = a ∧ P[i].f1 = b)) P[i].f0 P[i].f1 P[i].f2) true := by
      by_cases c : P[i].f0 = a ∧ P[i].f1 = b
      · refine Ev.step (fun k => ?_) (ih (i + 1) P[i].f2 (by omega) g2 ?_ ?_)
        · simp only [laws_FnKerned.j5]; rw [if_pos (decide_eq_true c), hw]
        · intro j h hj q1 q2
          rcases Nat.lt_or_ge j i with g | g
          · exact absurd (uniq j h g q1 q2 c.1 c.2) id
          · have : j = i := by omega
            subst this; rfl
        · intro q; exact absurd c (q i hip (by omega))
      · refine Ev.step (fun k => ?_) (ih (i + 1) v (by omega) hvr ?_ ?_)
        · simp only [laws_FnKerned.j5]; rw [if_neg (by simpa using c), hw]
        · intro j h hj q1 q2
          rcases Nat.lt_or_ge j i with g | g
          · exact h1 j h g q1 q2
          · have : j = i := by omega
            subst this; exact absurd ⟨q1, q2⟩ c
        · intro q
          exact h2 (fun j h hj => q j h (by omega))
    refine Ev.step (fun k => ?_) key
    simp only [laws_FnKerned.l2]
    rw [if_pos (by omega), if_pos (by omega), if_pos (by omega), rd52 P i hip, wa, wb]
    by_cases c : P[i].f0 = a
    · rw [if_pos c]
      have : (P[i].f1 == b) = decide (P[i].f0 = a ∧ P[i].f1 = b) := by
        rw [Bool.eq_iff_iff]; simp [c]
      rw [this]
    · rw [if_neg c]
      have : decide (P[i].f0 = a ∧ P[i].f1 = b) = false := decide_eq_false (fun q => c q.1)
      rw [this]

/-- what the law's own loops keep: the pairs rise, and stand ahead of what comes -/
def Inv (P : List S52) (m : Nat) : Prop := P.length ≤ 200 ∧ (∀ x ∈ P, Fits x) ∧ Rises P ∧ ∀ x ∈ P, x.f0 * 256 + x.f1 < m

theorem Inv.next {P : List S52} {m : Nat} (h : Inv P m) : Inv P (m + 1) := ⟨h.1, h.2.1, h.2.2.1, fun x hx => by have := h.2.2.2 x hx; omega⟩

theorem Inv.add {P : List S52} {x y : Nat} {v : Int} (h : Inv P (256 * x + y)) (hl : P.length < 200) (hx : x < 256) (hy : y < 256) (hv : -32768 ≤ v ∧ v ≤ 32767) : Inv (P ++ [(⟨x, y, v⟩ : S52)]) (256 * x + y + 1) := by
  obtain ⟨h1, h2, h3, h4⟩ := h
  refine ⟨by simp; omega, ?_, ?_, ?_⟩
  · intro z hz
    rcases List.mem_append.1 hz with q | q
    · exact h2 z q
    · rw [List.mem_singleton.1 q]; exact ⟨⟨by simp, by simp; omega⟩, ⟨by simp, by simp; omega⟩, hv⟩
  · intro i j hi hj hij
    have hj' : j < P.length + 1 := by simpa using hj
    rcases Nat.lt_or_ge j P.length with q | q
    · have hi' : i < P.length := by omega
      rw [List.getElem_append_left q, List.getElem_append_left hi']
      exact h3 i j hi' q hij
    · have ej : j = P.length := by omega
      subst ej
      have hi' : i < P.length := hij
      rw [List.getElem_append_left hi', List.getElem_append_right (Nat.le_refl _)]
      have := h4 _ (List.getElem_mem hi')
      obtain ⟨g0, g1, _⟩ := h2 _ (List.getElem_mem hi')
      simp only [keyOf, Nat.sub_self, List.getElem_cons_zero]
      omega
  · intro z hz
    rcases List.mem_append.1 hz with q | q
    · have := h4 z q; omega
    · rw [List.mem_singleton.1 q]; simp; omega

theorem law_inner (l0 l1 l2 : List Int) (a b : Int) (hl0 : l0.length ≤ 140737488351232) (hl1 : l1.length ≤ 140737488351232) (hb2 : ∀ x ∈ l2, -32768 ≤ x ∧ x ≤ 32767)
    (x : Nat) (hx : x < 256) (rest : ∀ P, Inv P (256 * (x + 1)) → Ev (fun k => laws_FnKerned.l0 k l0 l1 l2 a b P ((x + 1 : Nat) : Int)) true) (d : Nat) :
    ∀ (y : Nat) (P : List S52), y + d = 256 → Inv P (256 * x + y) → Ev (fun k => laws_FnKerned.l1 k l0 l1 l2 a b P (x : Int) (x : Int) (y : Int)) true := by
  have hwx : wrap64 ((x : Int) + 1) = ((x + 1 : Nat) : Int) := by unfold wrap64; omega
  induction d with
  | zero =>
    intro y P hy hP
    have : y = 256 := by omega
    subst this
    refine Ev.step (fun k => ?_) (rest P (by rw [show 256 * (x + 1) = 256 * x + 256 by omega]; exact hP))
    simp only [laws_FnKerned.l1]; rw [if_neg (by omega), hwx]
  | succ d ih =>
    intro y P hy hP
    have hwy : wrap64 ((y : Int) + 1) = ((y + 1 : Nat) : Int) := by unfold wrap64; omega
    have hno : Ev (fun k => laws_FnKerned.j3 k l0 l1 l2 a b P (x : Int) (y : Int) (x : Int) (y : Int) false) true := by
      refine Ev.step (fun k => ?_) (ih (y + 1) P (by omega) (by rw [show 256 * x + (y + 1) = 256 * x + y + 1 by omega]; exact hP.next))
      simp only [laws_FnKerned.j3]; rw [if_neg (by decide), hwy]
    have hyes : P.length < 200 → Ev (fun k => laws_FnKerned.j3 k l0 l1 l2 a b P (x : Int) (y : Int) (x : Int) (y : Int) true) true := by
      intro hl
      obtain ⟨v, hv, hv1, hv2⟩ := nth_ends l2 (P.length : Int) (by omega) hb2
      refine Ev.step (fun k => ?_) (ih (y + 1) (P ++ [(⟨x, y, v⟩ : S52)]) (by omega) (by rw [show 256 * x + (y + 1) = 256 * x + y + 1 by omega]; exact hP.add hl hx (by omega) ⟨hv1, hv2⟩))
      simp only [laws_FnKerned.j3, if_true, hv, Option.bind_some]; rw [if_pos (by omega), hwy]
    by_cases hl : P.length < 200
    · obtain ⟨p, hp⟩ := has_ends l0 (x : Int) hl0
      obtain ⟨q, hq⟩ := has_ends l1 (y : Int) hl1
      have hj : ∀ t, Ev (fun k => laws_FnKerned.j3 k l0 l1 l2 a b P (x : Int) (y : Int) (x : Int) (y : Int) t) true := by
        intro t; cases t with
        | true => exact hyes hl
        | false => exact hno
      refine Ev.step (f := fun k => (spec_Has.f k l0 (x : Int)).bind fun t162 => (if t162 = true then ((spec_Has.f k l1 (y : Int)).bind fun t163 => (laws_FnKerned.j3 k l0 l1 l2 a b P (x : Int) (y : Int) (x : Int) (y : Int) t163)) else (laws_FnKerned.j3 k l0 l1 l2 a b P (x : Int) (y : Int) (x : Int) (y : Int) false))) (fun k => ?_) ?_
      · simp only [laws_FnKerned.l1]; rw [if_pos (by omega), if_pos (by omega)]
      · refine Ev.bind hp ?_
        cases p with
        | true => simp only [if_true]; exact Ev.bind hq (hj q)
        | false => simp only [Bool.false_eq_true, if_false]; exact hno
    · refine Ev.step (fun k => ?_) hno
      simp only [laws_FnKerned.l1]; rw [if_pos (by omega), if_neg (by omega)]

theorem law_outer (l0 l1 l2 : List Int) (a b : Int) (hl0 : l0.length ≤ 140737488351232) (hl1 : l1.length ≤ 140737488351232) (hb2 : ∀ x ∈ l2, -32768 ≤ x ∧ x ≤ 32767)
    (ha : 0 ≤ a ∧ a ≤ 255) (hb : 0 ≤ b ∧ b ≤ 255) (d : Nat) : ∀ (x : Nat) (P : List S52), x + d = 256 → Inv P (256 * x) → Ev (fun k => laws_FnKerned.l0 k l0 l1 l2 a b P (x : Int)) true := by
  induction d with
  | zero =>
    intro x P hx hP
    refine Ev.step (fun k => ?_) (want_loop P (by have := hP.1; omega) hP.2.1 hP.2.2.1 a b ha hb P.length 0 0 (by omega) (by omega) (fun j h hj => absurd hj (Nat.not_lt_zero _)) (fun _ => rfl))
    simp only [laws_FnKerned.l0]; rw [if_neg (by omega)]; rfl
  | succ d ih =>
    intro x P hx hP
    refine Ev.step (fun k => ?_) (law_inner l0 l1 l2 a b hl0 hl1 hb2 x (by omega) (fun Q hQ => ih (x + 1) Q (by omega) hQ) 256 0 P (by omega) hP)
    simp only [laws_FnKerned.l0]; rw [if_pos (by omega)]; rfl

theorem FnKerned : laws_FnKerned.Pure := by
  intro l0 l1 l2 a b _ h0 _ _ h1 _ _ _ w2 wa wb
  have hj : ∀ t, Ev (fun k => laws_FnKerned.j0 k l0 l1 l2 a b t) true := by
    intro t
    cases t with
    | true => exact Ev.step (f := fun _ => some true) (fun k => by simp only [laws_FnKerned.j0]; rfl) (Ev.now _)
    | false =>
      refine Ev.step (fun k => ?_) (law_outer l0 l1 l2 a b (by omega) (by omega) (fun x hx => wf_i16 (w2 x hx)) (wf_u8 wa) (wf_u8 wb) 256 0 [] (by omega)
        ⟨by simp, by simp, fun i j hi => absurd hi (by simp), by simp⟩)
      simp only [laws_FnKerned.j0]; rfl
  unfold laws_FnKerned.f
  by_cases c0 : (l0.length : Int) > 2147483647
  · simp only [if_pos c0]; exact (hj _).rounds
  · by_cases c1 : (l1.length : Int) > 2147483647
    · simp only [if_neg c0, if_pos c1]; exact (hj _).rounds
    · simp only [if_neg c0, if_neg c1]; exact (hj _).rounds


end Go.Proofs.Ytkfphiccfnfkdaa.Pure
