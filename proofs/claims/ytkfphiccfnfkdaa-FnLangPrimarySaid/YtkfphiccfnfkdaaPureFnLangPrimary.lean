/- The law FnLangPrimary holds for every text: Primary is what stands ahead of the first hyphen; a tag is undetermined if that is und. Condition: none (the statement's own bound on sizes lies in the law). -/

import Derived.Lib.IndexLaws
import Derived.Test.YtkfphiccfnfkdaaPFnLangPrimaryx
namespace Go.Proofs.Ytkfphiccfnfkdaa.Pure
open Go.RowKit Go.Proofs.Ytkfphiccfnfkdaa.PFnLangPrimary Go.Proofs.YtkfphiccfnfkdaaW.PrintWords Go.Proofs.YtkfphiccfnfkdaaW.PrintLast Go.Proofs.YtkfphiccfnfkdaaW.PrintMore

/-! ### what NewLanguage's reference does: it ends, with small letters, digits and hyphens alone -/
def okc (y : Int) : Prop := (97 ≤ y ∧ y ≤ 122) ∨ (48 ≤ y ∧ y ≤ 57) ∨ y = 45

theorem new_j1 (s : ByteArray) (x3 : List Int) (c n i : Int) (b : Bool) (hl : x3.length < 140737488355328) (hok : ∀ y ∈ x3, okc y) (hb : b = true → 65 ≤ c ∧ c ≤ 90) :
    ∃ x3' : List Int, x3'.length ≤ x3.length + 1 ∧ (∀ y ∈ x3', okc y) ∧ ∀ k, spec_LangNew.j1 (k + 1) s x3 c n i b = spec_LangNew.l0 k s x3' n (wrap64 (i + 1)) := by
  have add : ∀ y, okc y → ∀ z ∈ x3 ++ [y], okc z := by
    intro y hy z hz
    rcases List.mem_append.1 hz with h | h
    · exact hok z h
    · rw [List.mem_singleton.1 h]; exact hy
  by_cases h0 : b = true
  · obtain ⟨h1, h2⟩ := hb h0
    refine ⟨x3 ++ [(c + 32) % 256], by simp, add _ (Or.inl (by omega)), fun k => ?_⟩
    simp only [spec_LangNew.j1]; rw [if_pos h0, if_pos hl]
  by_cases h1 : c = 95
  · refine ⟨x3 ++ [45], by simp, add _ (Or.inr (Or.inr rfl)), fun k => ?_⟩
    simp only [spec_LangNew.j1]; rw [if_neg h0, if_pos h1, if_pos hl]
  by_cases h5 : c = 45
  · refine ⟨x3 ++ [c], by simp, add _ (Or.inr (Or.inr h5)), fun k => ?_⟩
    simp only [spec_LangNew.j1]; rw [if_neg h0, if_neg h1, if_neg (by omega), if_neg (by omega), if_pos h5, if_pos hl]
  by_cases h2 : c ≥ 97
  · by_cases h3 : c ≤ 122
    · refine ⟨x3 ++ [c], by simp, add _ (Or.inl ⟨h2, h3⟩), fun k => ?_⟩
      simp only [spec_LangNew.j1]; rw [if_neg h0, if_neg h1, if_pos h2, if_pos h3, if_pos hl]
    · refine ⟨x3, by simp, hok, fun k => ?_⟩
      simp only [spec_LangNew.j1]; rw [if_neg h0, if_neg h1, if_pos h2, if_neg h3, if_pos (by omega), if_neg (by omega), if_neg h5]
  · by_cases h3 : c ≥ 48
    · by_cases h4 : c ≤ 57
      · refine ⟨x3 ++ [c], by simp, add _ (Or.inr (Or.inl ⟨h3, h4⟩)), fun k => ?_⟩
        simp only [spec_LangNew.j1]; rw [if_neg h0, if_neg h1, if_neg h2, if_pos h3, if_pos h4, if_pos hl]
      · refine ⟨x3, by simp, hok, fun k => ?_⟩
        simp only [spec_LangNew.j1]; rw [if_neg h0, if_neg h1, if_neg h2, if_pos h3, if_neg h4, if_neg h5]
    · refine ⟨x3, by simp, hok, fun k => ?_⟩
      simp only [spec_LangNew.j1]; rw [if_neg h0, if_neg h1, if_neg h2, if_neg h3, if_neg h5]

theorem new_loop (s : ByteArray) (hs : s.size ≤ 140737488351232) (d : Nat) : ∀ (i : Nat) (x3 : List Int), i + d = s.size → x3.length ≤ i → (∀ y ∈ x3, okc y) →
    ∃ ys : List Int, ys.length ≤ s.size ∧ (∀ y ∈ ys, okc y) ∧ Ev (fun k => spec_LangNew.l0 k s x3 (s.size : Int) (i : Int)) (strOfNums ys) := by
  induction d with
  | zero =>
    intro i x3 hi hl hok
    refine ⟨x3, by omega, hok, Ev.step (f := fun _ => some (strOfNums x3)) (fun k => ?_) (Ev.now _)⟩
    simp only [spec_LangNew.l0]; rw [if_neg (by omega)]
  | succ d ih =>
    intro i x3 hi hl hok
    have hr := bt_range s (i : Int)
    have hw : wrap64 ((i : Int) + 1) = ((i + 1 : Nat) : Int) := by unfold wrap64; omega
    by_cases h : bt s (i : Int) ≥ 65
    · obtain ⟨x3', l', ok', e'⟩ := new_j1 s x3 (bt s (i : Int)) (s.size : Int) (i : Int) (decide (bt s (i : Int) ≤ 90)) (by omega) hok (fun hd => ⟨h, of_decide_eq_true hd⟩)
      obtain ⟨ys, a, b, c⟩ := ih (i + 1) x3' (by omega) (by omega) ok'
      refine ⟨ys, a, b, Ev.step (f := fun k => spec_LangNew.j1 k s x3 (bt s (i : Int)) (s.size : Int) (i : Int) (decide (bt s (i : Int) ≤ 90))) (fun k => ?_) (Ev.step (fun k => ?_) c)⟩
      · simp only [spec_LangNew.l0]; rw [if_pos (by omega), if_pos (by omega), if_pos (by omega), if_pos h]
      · rw [e' k, hw]
    · obtain ⟨x3', l', ok', e'⟩ := new_j1 s x3 (bt s (i : Int)) (s.size : Int) (i : Int) false (by omega) hok (fun hd => by cases hd)
      obtain ⟨ys, a, b, c⟩ := ih (i + 1) x3' (by omega) (by omega) ok'
      refine ⟨ys, a, b, Ev.step (f := fun k => spec_LangNew.j1 k s x3 (bt s (i : Int)) (s.size : Int) (i : Int) false) (fun k => ?_) (Ev.step (fun k => ?_) c)⟩
      · simp only [spec_LangNew.l0]; rw [if_pos (by omega), if_pos (by omega), if_pos (by omega), if_neg h]
      · rw [e' k, hw]

theorem tag_ends (s : ByteArray) (hs : s.size ≤ 140737488351232) : ∃ ys : List Int, ys.length ≤ 100 ∧ (∀ y ∈ ys, okc y) ∧ Ev (fun k => laws_tag.f k s) (strOfNums ys) := by
  obtain ⟨j, hj, hm⟩ : ∃ j : Nat, j ≤ 100 ∧ j ≤ s.size ∧ mn (s.size : Int) 100 = (j : Int) := by
    unfold mn
    by_cases h : (100 : Int) < (s.size : Int)
    · exact ⟨100, by omega, by omega, by rw [if_pos h]; rfl⟩
    · exact ⟨s.size, by omega, by omega, by rw [if_neg h]⟩
  obtain ⟨hm1, hm⟩ := hm
  have hz : (s.extract 0 j).size = j := by simp; omega
  obtain ⟨ys, a, b, c⟩ := new_loop (s.extract 0 j) (by omega) j 0 [] (by omega) (by simp) (by simp)
  refine ⟨ys, by omega, b, Ev.congr (f := fun k => spec_LangNew.f k (s.extract 0 j)) (fun k => ?_) c⟩
  simp only [laws_tag.f, hm]
  rw [if_pos (by omega), if_pos (by omega)]
  simp

/-! ### the primary: what the package does is what the reference does -/
theorem bt_get (s : ByteArray) (i : Nat) (h : i < s.size) : bt s (i : Int) = (s.data.toList[i]'(by simpa using h)).toNat := by
  have := bt_at s (i : Int) (by simpa using h)
  rw [← this]
  simp
  rfl

theorem bt_hyphen (s : ByteArray) (i : Nat) (h : i < s.size) : bt s (i : Int) = 45 ↔ s.data.toList[i]? = some 45 := by
  rw [bt_get s i h, List.getElem?_eq_getElem (by simpa using h)]
  simp only [Option.some.injEq]
  constructor
  · intro e
    apply UInt8.toNat_inj.1
    have : (s.data.toList[i]'(by simpa using h)).toNat = 45 := by omega
    rw [this]; rfl
  · intro e
    rw [e]; rfl

/-- what stands ahead of the first hyphen -/
def prim (s : ByteArray) : ByteArray :=
  if Go.Lib.indexByte s.data.toList 45 = -1 then s else s.extract 0 (Go.Lib.indexByte s.data.toList 45).toNat

theorem primary_is (s : ByteArray) : language_Language_Primary.f s = some (prim s) := by
  have hge := Go.Lib.indexByte_ge s.data.toList 45
  unfold language_Language_Primary.f strings_IndexByte.f prim
  have e45 : (45 : Int).toNat.toUInt8 = 45 := rfl
  simp only [Option.bind_some, e45]
  by_cases h : Go.Lib.indexByte s.data.toList 45 = -1
  · rw [if_pos h, if_pos h]
  · rw [if_neg h, if_neg h, if_pos (by omega)]
    obtain ⟨o, ho⟩ : ∃ o : Nat, Go.Lib.indexByte s.data.toList 45 = o := ⟨(Go.Lib.indexByte s.data.toList 45).toNat, by omega⟩
    have h2 := (Go.Lib.indexByte_some ho).1
    have h3 : o < s.size := by
      have := (List.getElem?_eq_some_iff.1 h2).1
      simpa using this
    rw [if_pos (by omega)]

theorem prim_loop (s : ByteArray) (hs : s.size ≤ 140737488351232) (d : Nat) : ∀ i : Nat, i + d = s.size → (∀ k, k < i → s.data.toList[k]? ≠ some 45) →
    Ev (fun k => spec_LangPrimary.l0 k s (s.size : Int) (i : Int)) (prim s) := by
  induction d with
  | zero =>
    intro i hi hno
    refine Ev.step (f := fun _ => some (prim s)) (fun k => ?_) (Ev.now _)
    simp only [spec_LangPrimary.l0]; rw [if_neg (by omega)]
    have hge := Go.Lib.indexByte_ge s.data.toList 45
    have : Go.Lib.indexByte s.data.toList 45 = -1 := by
      apply Classical.byContradiction
      intro h
      obtain ⟨o, ho⟩ : ∃ o : Nat, Go.Lib.indexByte s.data.toList 45 = o := ⟨(Go.Lib.indexByte s.data.toList 45).toNat, by omega⟩
      have h2 := (Go.Lib.indexByte_some ho).1
      have h3 : o < s.size := by
        have := (List.getElem?_eq_some_iff.1 h2).1
        simpa using this
      exact hno o (by omega) h2
    unfold prim; rw [if_pos this]
  | succ d ih =>
    intro i hi hno
    have hw : wrap64 ((i : Int) + 1) = ((i + 1 : Nat) : Int) := by unfold wrap64; omega
    by_cases h : bt s (i : Int) = 45
    · refine Ev.step (f := fun _ => some (prim s)) (fun k => ?_) (Ev.now _)
      simp only [spec_LangPrimary.l0]; rw [if_pos (by omega), if_pos (by omega), if_pos (by omega), if_pos h, if_pos (by omega)]
      have h45 := (bt_hyphen s i (by omega)).1 h
      have hge := Go.Lib.indexByte_ge s.data.toList 45
      have hne : Go.Lib.indexByte s.data.toList 45 ≠ -1 := fun e => Go.Lib.indexByte_none e i h45
      obtain ⟨o, ho⟩ : ∃ o : Nat, Go.Lib.indexByte s.data.toList 45 = o := ⟨(Go.Lib.indexByte s.data.toList 45).toNat, by omega⟩
      obtain ⟨h2, h3⟩ := Go.Lib.indexByte_some ho
      have : o = i := by
        rcases Nat.lt_trichotomy o i with q | q | q
        · exact absurd h2 (hno o q)
        · exact q
        · exact absurd h45 (h3 i q)
      unfold prim; rw [if_neg hne, ho, this]
    · refine Ev.step (f := fun k => spec_LangPrimary.l0 k s (s.size : Int) ((i + 1 : Nat) : Int)) (fun k => ?_) (ih (i + 1) (by omega) ?_)
      · simp only [spec_LangPrimary.l0]; rw [if_pos (by omega), if_pos (by omega), if_pos (by omega), if_neg h, hw]
      · intro k hk
        rcases Nat.lt_or_ge k i with q | q
        · exact hno k q
        · have : k = i := by omega
          subst this
          exact fun e => h ((bt_hyphen s k (by omega)).2 e)

theorem prim_ends (s : ByteArray) (hs : s.size ≤ 140737488351232) : Ev (fun k => spec_LangPrimary.f k s) (prim s) :=
  prim_loop s hs s.size 0 (by omega) (fun k hk => absurd hk (Nat.not_lt_zero k))

theorem size_nums (ys : List Int) : (strOfNums ys).size = ys.length := by simp [strOfNums, ByteArray.size]

theorem FnLangPrimary : laws_FnLangPrimary.Pure := by
  intro a0 h0
  obtain ⟨ys, l0, _, e0⟩ := tag_ends a0 h0
  have e2 := prim_ends (strOfNums ys) (by rw [size_nums]; omega)
  unfold laws_FnLangPrimary.f
  by_cases h : (a0.size : Int) > 2147483647
  · simp only [if_pos h]; exact ⟨0, trivial⟩
  · simp only [if_neg h]
    refine Ev.rounds (Ev.bind e0 ?_)
    have hd : impl_LangPrimary.f (strOfNums ys) = some (prim (strOfNums ys), (prim (strOfNums ys)).toList == (⟨#[117, 110, 100]⟩ : ByteArray).toList) := by
      unfold impl_LangPrimary.f language_Language_IsUndetermined.f language_Language_IsDerivedFrom.f
      rw [primary_is]; rfl
    have hf : impl_LangDerived.f (⟨#[102, 114, 45, 98, 101]⟩ : ByteArray) (⟨#[102, 114]⟩ : ByteArray) = some true := by decide +kernel
    have hu : (⟨#[117, 110, 100]⟩ : ByteArray).toList = ([117, 110, 100] : List UInt8) := by decide +kernel
    rw [hd, hf, hu]
    simp only [Option.bind_some]
    refine Ev.bind e2 ?_
    simp only [beq_self_eq_true, if_true]
    exact Ev.now _


end Go.Proofs.Ytkfphiccfnfkdaa.Pure
