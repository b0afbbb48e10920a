/- The law FnLangCompare holds for every two texts: Compare tells the same, the same primary (which isn't und), or different. Condition: none (the statement's own bound on sizes lies in the law). -/

import Derived.Lib.IndexLaws
import Derived.Test.YtkfphiccfnfkdaaPFnLangComparex
namespace Go.Proofs.Ytkfphiccfnfkdaa.Pure
open Go.RowKit Go.Proofs.Ytkfphiccfnfkdaa.PFnLangCompare Go.Proofs.YtkfphiccfnfkdaaW.PrintWords Go.Proofs.YtkfphiccfnfkdaaW.PrintLast Go.Proofs.YtkfphiccfnfkdaaW.PrintMore

/-! ### what NewLanguage's reference does: it ends, with small letters, digits and hyphens alone -/
def okc (y : Int) : Prop := (97 ≤ y ∧ y ≤ 122) ∨ (48 ≤ y ∧ y ≤ 57) ∨ y = 45

theorem new_j1 (s : ByteArray) (x3 : List Int) (c n i : Int) (b : Bool) (hl : x3.length < 140737488355328) (hok : ∀ y ∈ x3, okc y) (hb : b = true → 65 ≤ c ∧ c ≤ 90) :
    ∃ x3' : List Int, x3'.length ≤ x3.length + 1 ∧ (∀ y ∈ x3', okc y) ∧ ∀ k, spec_LangNew.j1 (k + 1) s x3 c n i b = spec_LangNew.l0 k s x3' n (wrap64 (i + 1)) := by
  have add : ∀ y, okc y → ∀ z ∈ x3 ++ [y], okc z := by
    intro y hy z hz
    rcases List.mem_append.1 hz with h | h
    · exact hok z h
    · rw [List.mem_singleton.1 h]; exact hy
  by_cases h0 : b = true
  · obtain ⟨h1, h2⟩ := hb h0
    refine ⟨x3 ++ [(c + 32) % 256], by simp, add _ (Or.inl (by omega)), fun k => ?_⟩
    simp only [spec_LangNew.j1]; rw [if_pos h0, if_pos hl]
  by_cases h1 : c = 95
  · refine ⟨x3 ++ [45], by simp, add _ (Or.inr (Or.inr rfl)), fun k => ?_⟩
    simp only [spec_LangNew.j1]; rw [if_neg h0, if_pos h1, if_pos hl]
  by_cases h5 : c = 45
  · refine ⟨x3 ++ [c], by simp, add _ (Or.inr (Or.inr h5)), fun k => ?_⟩
    simp only [spec_LangNew.j1]; rw [if_neg h0, if_neg h1, if_neg (by omega), if_neg (by omega), if_pos h5, if_pos hl]
  by_cases h2 : c ≥ 97
  · by_cases h3 : c ≤ 122
    · refine ⟨x3 ++ [c], by simp, add _ (Or.inl ⟨h2, h3⟩), fun k => ?_⟩
      simp only [spec_LangNew.j1]; rw [if_neg h0, if_neg h1, if_pos h2, if_pos h3, if_pos hl]
    · refine ⟨x3, by simp, hok, fun k => ?_⟩
      simp only [spec_LangNew.j1]; rw [if_neg h0, if_neg h1, if_pos h2, if_neg h3, if_pos (by omega), if_neg (by omega), if_neg h5]
  · by_cases h3 : c ≥ 48
    · by_cases h4 : c ≤ 57
      · refine ⟨x3 ++ [c], by simp, add _ (Or.inr (Or.inl ⟨h3, h4⟩)), fun k => ?_⟩
        simp only [spec_LangNew.j1]; rw [if_neg h0, if_neg h1, if_neg h2, if_pos h3, if_pos h4, if_pos hl]
      · refine ⟨x3, by simp, hok, fun k => ?_⟩
        simp only [spec_LangNew.j1]; rw [if_neg h0, if_neg h1, if_neg h2, if_pos h3, if_neg h4, if_neg h5]
    · refine ⟨x3, by simp, hok, fun k => ?_⟩
      simp only [spec_LangNew.j1]; rw [if_neg h0, if_neg h1, if_neg h2, if_neg h3, if_neg h5]

theorem new_loop (s : ByteArray) (hs : s.size ≤ 140737488351232) (d : Nat) : ∀ (i : Nat) (x3 : List Int), i + d = s.size → x3.length ≤ i → (∀ y ∈ x3, okc y) →
    ∃ ys : List Int, ys.length ≤ s.size ∧ (∀ y ∈ ys, okc y) ∧ Ev (fun k => spec_LangNew.l0 k s x3 (s.size : Int) (i : Int)) (strOfNums ys) := by
  induction d with
  | zero =>
    intro i x3 hi hl hok
    refine ⟨x3, by omega, hok, Ev.step (f := fun _ => some (strOfNums x3)) (fun k => ?_) (Ev.now _)⟩
    simp only [spec_LangNew.l0]; rw [if_neg (by omega)]
  | succ d ih =>
    intro i x3 hi hl hok
    have hr := bt_range s (i : Int)
    have hw : wrap64 ((i : Int) + 1) = ((i + 1 : Nat) : Int) := by unfold wrap64; omega
    by_cases h : bt s (i : Int) ≥ 65
    · obtain ⟨x3', l', ok', e'⟩ := new_j1 s x3 (bt s (i : Int)) (s.size : Int) (i : Int) (decide (bt s (i : Int) ≤ 90)) (by omega) hok (fun hd => ⟨h, of_decide_eq_true hd⟩)
      obtain ⟨ys, a, b, c⟩ := ih (i + 1) x3' (by omega) (by omega) ok'
      refine ⟨ys, a, b, Ev.step (f := fun k => spec_LangNew.j1 k s x3 (bt s (i : Int)) (s.size : Int) (i : Int) (decide (bt s (i : Int) ≤ 90))) (fun k => ?_) (Ev.step (fun k => ?_) c)⟩
      · simp only [spec_LangNew.l0]; rw [if_pos (by omega), if_pos (by omega), if_pos (by omega), if_pos h]
      · rw [e' k, hw]
    · obtain ⟨x3', l', ok', e'⟩ := new_j1 s x3 (bt s (i : Int)) (s.size : Int) (i : Int) false (by omega) hok (fun hd => by cases hd)
      obtain ⟨ys, a, b, c⟩ := ih (i + 1) x3' (by omega) (by omega) ok'
      refine ⟨ys, a, b, Ev.step (f := fun k => spec_LangNew.j1 k s x3 (bt s (i : Int)) (s.size : Int) (i : Int) false) (fun k => ?_) (Ev.step (fun k => ?_) c)⟩
      · simp only [spec_LangNew.l0]; rw [if_pos (by omega), if_pos (by omega), if_pos (by omega), if_neg h]
      · rw [e' k, hw]

theorem tag_ends (s : ByteArray) (hs : s.size ≤ 140737488351232) : ∃ ys : List Int, ys.length ≤ 100 ∧ (∀ y ∈ ys, okc y) ∧ Ev (fun k => laws_tag.f k s) (strOfNums ys) := by
  obtain ⟨j, hj, hm⟩ : ∃ j : Nat, j ≤ 100 ∧ j ≤ s.size ∧ mn (s.size : Int) 100 = (j : Int) := by
    unfold mn
    by_cases h : (100 : Int) < (s.size : Int)
    · exact ⟨100, by omega, by omega, by rw [if_pos h]; rfl⟩
    · exact ⟨s.size, by omega, by omega, by rw [if_neg h]⟩
  obtain ⟨hm1, hm⟩ := hm
  have hz : (s.extract 0 j).size = j := by simp; omega
  obtain ⟨ys, a, b, c⟩ := new_loop (s.extract 0 j) (by omega) j 0 [] (by omega) (by simp) (by simp)
  refine ⟨ys, by omega, b, Ev.congr (f := fun k => spec_LangNew.f k (s.extract 0 j)) (fun k => ?_) c⟩
  simp only [laws_tag.f, hm]
  rw [if_pos (by omega), if_pos (by omega)]
  simp

/-! ### the primary: what the package does is what the reference does -/
theorem bt_get (s : ByteArray) (i : Nat) (h : i < s.size) : bt s (i : Int) = (s.data.toList[i]'(by simpa using h)).toNat := by
  have := bt_at s (i : Int) (by simpa using h)
  rw [← this]
  simp
  rfl

theorem bt_hyphen (s : ByteArray) (i : Nat) (h : i < s.size) : bt s (i : Int) = 45 ↔ s.data.toList[i]? = some 45 := by
  rw [bt_get s i h, List.getElem?_eq_getElem (by simpa using h)]
  simp only [Option.some.injEq]
  constructor
  · intro e
    apply UInt8.toNat_inj.1
    have : (s.data.toList[i]'(by simpa using h)).toNat = 45 := by omega
    rw [this]; rfl
  · intro e
    rw [e]; rfl

/-- what stands ahead of the first hyphen -/
def prim (s : ByteArray) : ByteArray :=
  if Go.Lib.indexByte s.data.toList 45 = -1 then s else s.extract 0 (Go.Lib.indexByte s.data.toList 45).toNat

theorem primary_is (s : ByteArray) : language_Language_Primary.f s = some (prim s) := by
  have hge := Go.Lib.indexByte_ge s.data.toList 45
  unfold language_Language_Primary.f strings_IndexByte.f prim
  have e45 : (45 : Int).toNat.toUInt8 = 45 := rfl
  simp only [Option.bind_some, e45]
  by_cases h : Go.Lib.indexByte s.data.toList 45 = -1
  · rw [if_pos h, if_pos h]
  · rw [if_neg h, if_neg h, if_pos (by omega)]
    obtain ⟨o, ho⟩ : ∃ o : Nat, Go.Lib.indexByte s.data.toList 45 = o := ⟨(Go.Lib.indexByte s.data.toList 45).toNat, by omega⟩
    have h2 := (Go.Lib.indexByte_some ho).1
    have h3 : o < s.size := by
      have := (List.getElem?_eq_some_iff.1 h2).1
      simpa using this
    rw [if_pos (by omega)]

theorem prim_loop (s : ByteArray) (hs : s.size ≤ 140737488351232) (d : Nat) : ∀ i : Nat, i + d = s.size → (∀ k, k < i → s.data.toList[k]? ≠ some 45) →
    Ev (fun k => spec_LangPrimary.l0 k s (s.size : Int) (i : Int)) (prim s) := by
  induction d with
  | zero =>
    intro i hi hno
    refine Ev.step (f := fun _ => some (prim s)) (fun k => ?_) (Ev.now _)
    simp only [spec_LangPrimary.l0]; rw [if_neg (by omega)]
    have hge := Go.Lib.indexByte_ge s.data.toList 45
    have : Go.Lib.indexByte s.data.toList 45 = -1 := by
      apply Classical.byContradiction
      intro h
      obtain ⟨o, ho⟩ : ∃ o : Nat, Go.Lib.indexByte s.data.toList 45 = o := ⟨(Go.Lib.indexByte s.data.toList 45).toNat, by omega⟩
      have h2 := (Go.Lib.indexByte_some ho).1
      have h3 : o < s.size := by
        have := (List.getElem?_eq_some_iff.1 h2).1
        simpa using this
      exact hno o (by omega) h2
    unfold prim; rw [if_pos this]
  | succ d ih =>
    intro i hi hno
    have hw : wrap64 ((i : Int) + 1) = ((i + 1 : Nat) : Int) := by unfold wrap64; omega
    by_cases h : bt s (i : Int) = 45
    · refine Ev.step (f := fun _ => some (prim s)) (fun k => ?_) (Ev.now _)
      simp only [spec_LangPrimary.l0]; rw [if_pos (by omega), if_pos (by omega), if_pos (by omega), if_pos h, if_pos (by omega)]
      have h45 := (bt_hyphen s i (by omega)).1 h
      have hge := Go.Lib.indexByte_ge s.data.toList 45
      have hne : Go.Lib.indexByte s.data.toList 45 ≠ -1 := fun e => Go.Lib.indexByte_none e i h45
      obtain ⟨o, ho⟩ : ∃ o : Nat, Go.Lib.indexByte s.data.toList 45 = o := ⟨(Go.Lib.indexByte s.data.toList 45).toNat, by omega⟩
      obtain ⟨h2, h3⟩ := Go.Lib.indexByte_some ho
      have : o = i := by
        rcases Nat.lt_trichotomy o i with q | q | q
        · exact absurd h2 (hno o q)
        · exact q
        · exact absurd h45 (h3 i q)
      unfold prim; rw [if_neg hne, ho, this]
    · refine Ev.step (f := fun k => spec_LangPrimary.l0 k s (s.size : Int) ((i + 1 : Nat) : Int)) (fun k => ?_) (ih (i + 1) (by omega) ?_)
      · simp only [spec_LangPrimary.l0]; rw [if_pos (by omega), if_pos (by omega), if_pos (by omega), if_neg h, hw]
      · intro k hk
        rcases Nat.lt_or_ge k i with q | q
        · exact hno k q
        · have : k = i := by omega
          subst this
          exact fun e => h ((bt_hyphen s k (by omega)).2 e)

theorem prim_ends (s : ByteArray) (hs : s.size ≤ 140737488351232) : Ev (fun k => spec_LangPrimary.f k s) (prim s) :=
  prim_loop s hs s.size 0 (by omega) (fun k hk => absurd hk (Nat.not_lt_zero k))

theorem size_nums (ys : List Int) : (strOfNums ys).size = ys.length := by simp [strOfNums, ByteArray.size]

/-- 1 the same, 2 the same primary (which isn't und), else 0 -/
def cmpIs (s t : ByteArray) : Int :=
  if s.toList = t.toList then 1 else if (prim s).toList = (prim t).toList then (if (prim s).toList = ([117, 110, 100] : List UInt8) then 0 else 2) else 0

theorem cmpIs_symm (s t : ByteArray) : cmpIs s t = cmpIs t s := by
  unfold cmpIs
  by_cases h : s.toList = t.toList
  · rw [if_pos h, if_pos h.symm]
  · have h' : ¬ t.toList = s.toList := fun e => h e.symm
    rw [if_neg h, if_neg h']
    by_cases g : (prim s).toList = (prim t).toList
    · rw [if_pos g, if_pos g.symm, g]
    · have g' : ¬ (prim t).toList = (prim s).toList := fun e => g e.symm
      rw [if_neg g, if_neg g']

theorem cmpIs_cases (s t : ByteArray) : wrap64 (cmpIs s t) = cmpIs s t := by
  have : cmpIs s t = 0 ∨ cmpIs s t = 1 ∨ cmpIs s t = 2 := by
    unfold cmpIs
    split
    · exact Or.inr (Or.inl rfl)
    · split
      · split
        · exact Or.inl rfl
        · exact Or.inr (Or.inr rfl)
      · exact Or.inl rfl
  unfold wrap64; omega

theorem impl_cmp (s t : ByteArray) : impl_LangCompare.f s t = some (cmpIs s t) := by
  have h0 : language_Language_Compare.f s t = some (cmpIs s t) := by
    unfold language_Language_Compare.f cmpIs
    rw [primary_is, primary_is]
    simp only [Option.bind_some]
    split
    · rfl
    · split
      · split <;> rfl
      · rfl
  unfold impl_LangCompare.f
  rw [h0]; simp only [Option.bind_some]; rw [cmpIs_cases]

theorem spec_cmp (s t : ByteArray) (hs : s.size ≤ 140737488351232) (ht : t.size ≤ 140737488351232) : Ev (fun k => spec_LangCompare.f k s t) (cmpIs s t) := by
  have e1 := prim_ends s hs
  have e2 := prim_ends t ht
  by_cases h : s.toList = t.toList
  · refine Ev.congr (f := fun _ => some (cmpIs s t)) (fun k => ?_) (Ev.now _)
    unfold spec_LangCompare.f cmpIs; rw [if_pos h, if_pos h]
  · refine Ev.congr (f := fun k => (spec_LangPrimary.f k s).bind fun t133 => ((spec_LangPrimary.f k t).bind fun t134 => (if t133.toList = t134.toList then ((spec_LangPrimary.f k s).bind fun t135 => (if t135.toList = ([117, 110, 100] : List UInt8) then (some 0) else (some 2))) else (some 0)))) (fun k => ?_) ?_
    · unfold spec_LangCompare.f; rw [if_neg h]
    · refine Ev.bind e1 (Ev.bind e2 ?_)
      by_cases g : (prim s).toList = (prim t).toList
      · simp only [if_pos g]
        refine Ev.bind e1 (Ev.congr (f := fun _ => some (cmpIs s t)) (fun k => ?_) (Ev.now _))
        unfold cmpIs; rw [if_neg h, if_pos g]
        split <;> rfl
      · refine Ev.congr (f := fun _ => some (cmpIs s t)) (fun k => ?_) (Ev.now _)
        unfold cmpIs; rw [if_neg h, if_neg g, if_neg g]

theorem FnLangCompare : laws_FnLangCompare.Pure := by
  intro a0 a1 h0 h1
  obtain ⟨ys, l0, _, e0⟩ := tag_ends a0 h0
  obtain ⟨zs, l1, _, e1⟩ := tag_ends a1 h1
  have e2 := spec_cmp (strOfNums ys) (strOfNums zs) (by rw [size_nums]; omega) (by rw [size_nums]; omega)
  have hj : ∀ b, Ev (fun k => laws_FnLangCompare.j0 k a0 a1 b) true := by
    intro b
    by_cases hb : b = true
    · exact Ev.step (f := fun _ => some true) (fun k => by simp only [laws_FnLangCompare.j0]; rw [if_pos hb]) (Ev.now _)
    · refine Ev.step (f := fun k => (laws_tag.f k a0).bind fun t136 => ((laws_tag.f k a1).bind fun t137 => ((impl_LangCompare.f t136 t137).bind fun t138 => ((spec_LangCompare.f k t136 t137).bind fun t139 => (if t138 = t139 then ((impl_LangCompare.f t137 t136).bind fun t140 => ((spec_LangCompare.f k t136 t137).bind fun t141 => (if t140 = t141 then ((impl_LangCompare.f t136 t136).bind fun t142 => (some (t142 == 1))) else (some false)))) else (some false)))))) (fun k => by simp only [laws_FnLangCompare.j0]; rw [if_neg hb]) ?_
      refine Ev.bind e0 (Ev.bind e1 ?_)
      simp only [impl_cmp, Option.bind_some]
      refine Ev.bind e2 ?_
      simp only [if_true]
      refine Ev.bind e2 ?_
      have : cmpIs (strOfNums ys) (strOfNums ys) = 1 := by unfold cmpIs; rw [if_pos rfl]
      simp only [cmpIs_symm (strOfNums zs), if_true, this]
      exact Ev.now _
  unfold laws_FnLangCompare.f
  by_cases h : (a0.size : Int) > 2147483647
  · simp only [if_pos h]; exact (hj _).rounds
  · simp only [if_neg h]; exact (hj _).rounds


end Go.Proofs.Ytkfphiccfnfkdaa.Pure
