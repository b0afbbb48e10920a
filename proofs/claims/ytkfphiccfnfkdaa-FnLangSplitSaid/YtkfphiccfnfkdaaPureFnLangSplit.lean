/- The law FnLangSplit holds for every text: SplitExtensionTags tells what stands ahead of the first part of one character, and the private part x (of tags without two hyphens side by side, without one behind the first byte, and none at the end: the law's own guard). Condition: none (the statement's own bound on sizes lies in the law). -/

import Derived.Lib.IndexLaws
import Derived.Test.YtkfphiccfnfkdaaPFnLangSplitx
namespace Go.Proofs.Ytkfphiccfnfkdaa.Pure
open Go.RowKit Go.Proofs.Ytkfphiccfnfkdaa.PFnLangSplit Go.Proofs.YtkfphiccfnfkdaaW.PrintWords Go.Proofs.YtkfphiccfnfkdaaW.PrintLast Go.Proofs.YtkfphiccfnfkdaaW.PrintMore

/-! ### what NewLanguage's reference does: it ends, with small letters, digits and hyphens alone -/
def okc (y : Int) : Prop := (97 ≤ y ∧ y ≤ 122) ∨ (48 ≤ y ∧ y ≤ 57) ∨ y = 45

theorem new_j1 (s : ByteArray) (x3 : List Int) (c n i : Int) (b : Bool) (hl : x3.length < 140737488355328) (hok : ∀ y ∈ x3, okc y) (hb : b = true → 65 ≤ c ∧ c ≤ 90) :
    ∃ x3' : List Int, x3'.length ≤ x3.length + 1 ∧ (∀ y ∈ x3', okc y) ∧ ∀ k, spec_LangNew.j1 (k + 1) s x3 c n i b = spec_LangNew.l0 k s x3' n (wrap64 (i + 1)) := by
  have add : ∀ y, okc y → ∀ z ∈ x3 ++ [y], okc z := by
    intro y hy z hz
    rcases List.mem_append.1 hz with h | h
    · exact hok z h
    · rw [List.mem_singleton.1 h]; exact hy
  by_cases h0 : b = true
  · obtain ⟨h1, h2⟩ := hb h0
    refine ⟨x3 ++ [(c + 32) % 256], by simp, add _ (Or.inl (by omega)), fun k => ?_⟩
    simp only [spec_LangNew.j1]; rw [if_pos h0, if_pos hl]
  by_cases h1 : c = 95
  · refine ⟨x3 ++ [45], by simp, add _ (Or.inr (Or.inr rfl)), fun k => ?_⟩
    simp only [spec_LangNew.j1]; rw [if_neg h0, if_pos h1, if_pos hl]
  by_cases h5 : c = 45
  · refine ⟨x3 ++ [c], by simp, add _ (Or.inr (Or.inr h5)), fun k => ?_⟩
    simp only [spec_LangNew.j1]; rw [if_neg h0, if_neg h1, if_neg (by omega), if_neg (by omega), if_pos h5, if_pos hl]
  by_cases h2 : c ≥ 97
  · by_cases h3 : c ≤ 122
    · refine ⟨x3 ++ [c], by simp, add _ (Or.inl ⟨h2, h3⟩), fun k => ?_⟩
      simp only [spec_LangNew.j1]; rw [if_neg h0, if_neg h1, if_pos h2, if_pos h3, if_pos hl]
    · refine ⟨x3, by simp, hok, fun k => ?_⟩
      simp only [spec_LangNew.j1]; rw [if_neg h0, if_neg h1, if_pos h2, if_neg h3, if_pos (by omega), if_neg (by omega), if_neg h5]
  · by_cases h3 : c ≥ 48
    · by_cases h4 : c ≤ 57
      · refine ⟨x3 ++ [c], by simp, add _ (Or.inr (Or.inl ⟨h3, h4⟩)), fun k => ?_⟩
        simp only [spec_LangNew.j1]; rw [if_neg h0, if_neg h1, if_neg h2, if_pos h3, if_pos h4, if_pos hl]
      · refine ⟨x3, by simp, hok, fun k => ?_⟩
        simp only [spec_LangNew.j1]; rw [if_neg h0, if_neg h1, if_neg h2, if_pos h3, if_neg h4, if_neg h5]
    · refine ⟨x3, by simp, hok, fun k => ?_⟩
      simp only [spec_LangNew.j1]; rw [if_neg h0, if_neg h1, if_neg h2, if_neg h3, if_neg h5]

theorem new_loop (s : ByteArray) (hs : s.size ≤ 140737488351232) (d : Nat) : ∀ (i : Nat) (x3 : List Int), i + d = s.size → x3.length ≤ i → (∀ y ∈ x3, okc y) →
    ∃ ys : List Int, ys.length ≤ s.size ∧ (∀ y ∈ ys, okc y) ∧ Ev (fun k => spec_LangNew.l0 k s x3 (s.size : Int) (i : Int)) (strOfNums ys) := by
  induction d with
  | zero =>
    intro i x3 hi hl hok
    refine ⟨x3, by omega, hok, Ev.step (f := fun _ => some (strOfNums x3)) (fun k => ?_) (Ev.now _)⟩
    simp only [spec_LangNew.l0]; rw [if_neg (by omega)]
  | succ d ih =>
    intro i x3 hi hl hok
    have hr := bt_range s (i : Int)
    have hw : wrap64 ((i : Int) + 1) = ((i + 1 : Nat) : Int) := by unfold wrap64; omega
    by_cases h : bt s (i : Int) ≥ 65
    · obtain ⟨x3', l', ok', e'⟩ := new_j1 s x3 (bt s (i : Int)) (s.size : Int) (i : Int) (decide (bt s (i : Int) ≤ 90)) (by omega) hok (fun hd => ⟨h, of_decide_eq_true hd⟩)
      obtain ⟨ys, a, b, c⟩ := ih (i + 1) x3' (by omega) (by omega) ok'
      refine ⟨ys, a, b, Ev.step (f := fun k => spec_LangNew.j1 k s x3 (bt s (i : Int)) (s.size : Int) (i : Int) (decide (bt s (i : Int) ≤ 90))) (fun k => ?_) (Ev.step (fun k => ?_) c)⟩
      · simp only [spec_LangNew.l0]; rw [if_pos (by omega), if_pos (by omega), if_pos (by omega), if_pos h]
      · rw [e' k, hw]
    · obtain ⟨x3', l', ok', e'⟩ := new_j1 s x3 (bt s (i : Int)) (s.size : Int) (i : Int) false (by omega) hok (fun hd => by cases hd)
      obtain ⟨ys, a, b, c⟩ := ih (i + 1) x3' (by omega) (by omega) ok'
      refine ⟨ys, a, b, Ev.step (f := fun k => spec_LangNew.j1 k s x3 (bt s (i : Int)) (s.size : Int) (i : Int) false) (fun k => ?_) (Ev.step (fun k => ?_) c)⟩
      · simp only [spec_LangNew.l0]; rw [if_pos (by omega), if_pos (by omega), if_pos (by omega), if_neg h]
      · rw [e' k, hw]

theorem tag_ends (s : ByteArray) (hs : s.size ≤ 140737488351232) : ∃ ys : List Int, ys.length ≤ 100 ∧ (∀ y ∈ ys, okc y) ∧ Ev (fun k => laws_tag.f k s) (strOfNums ys) := by
  obtain ⟨j, hj, hm⟩ : ∃ j : Nat, j ≤ 100 ∧ j ≤ s.size ∧ mn (s.size : Int) 100 = (j : Int) := by
    unfold mn
    by_cases h : (100 : Int) < (s.size : Int)
    · exact ⟨100, by omega, by omega, by rw [if_pos h]; rfl⟩
    · exact ⟨s.size, by omega, by omega, by rw [if_neg h]⟩
  obtain ⟨hm1, hm⟩ := hm
  have hz : (s.extract 0 j).size = j := by simp; omega
  obtain ⟨ys, a, b, c⟩ := new_loop (s.extract 0 j) (by omega) j 0 [] (by omega) (by simp) (by simp)
  refine ⟨ys, by omega, b, Ev.congr (f := fun k => spec_LangNew.f k (s.extract 0 j)) (fun k => ?_) c⟩
  simp only [laws_tag.f, hm]
  rw [if_pos (by omega), if_pos (by omega)]
  simp

theorem size_nums (ys : List Int) : (strOfNums ys).size = ys.length := by simp [strOfNums, ByteArray.size]

theorem derived_fr : impl_LangDerived.f (⟨#[102, 114, 45, 98, 101]⟩ : ByteArray) (⟨#[102, 114]⟩ : ByteArray) = some true := by decide +kernel

/-- a part of one character begins at j -/
def ext (s : ByteArray) (j : Nat) : Prop := bt s (j : Int) = 45 ∧ bt s ((j + 2 : Nat) : Int) = 45 ∧ bt s ((j + 1 : Nat) : Int) ≠ 45
instance (s : ByteArray) (j : Nat) : Decidable (ext s j) := by unfold ext; infer_instance

/-- what the parts from j on say: the prefix and the private part -/
def parts (s : ByteArray) : Nat → Nat → ByteArray × ByteArray
  | 0, _ => (s, ⟨#[]⟩)
  | d + 1, j => if ext s j then (s.extract 0 j, if bt s ((j + 1 : Nat) : Int) = 120 then s.extract (j + 1) s.size else (parts s d (j + 1)).2) else parts s d (j + 1)

theorem w1 (i n : Nat) (h : i < n) (hn : n ≤ 140737488351232) : wrap64 ((i : Int) + 1) = ((i + 1 : Nat) : Int) := by unfold wrap64; omega
theorem w2 (i n : Nat) (h : i < n) (hn : n ≤ 140737488351232) : wrap64 ((i : Int) + 2) = ((i + 2 : Nat) : Int) := by unfold wrap64; omega
theorem w3 (i n : Nat) (h : i < n) (hn : n ≤ 140737488351232) : wrap64 ((i : Int) + 3) = ((i + 3 : Nat) : Int) := by unfold wrap64; omega

/-! ### the reference: from the end to the begin -/
theorem ref_round (s : ByteArray) (hs : s.size ≤ 140737488351232) (i : Nat) (hi : i + 3 ≤ s.size) (p : ByteArray × ByteArray) (r : ByteArray × ByteArray)
    (h : Ev (fun k => spec_LangSplit.l0 k s (if ext s i then (s.extract 0 i, if bt s ((i + 1 : Nat) : Int) = 120 then s.extract (i + 1) s.size else p.2) else p).1 (if ext s i then (s.extract 0 i, if bt s ((i + 1 : Nat) : Int) = 120 then s.extract (i + 1) s.size else p.2) else p).2 (wrap64 ((i : Int) - 1))) r) :
    Ev (fun k => spec_LangSplit.l0 k s p.1 p.2 (i : Int)) r := by
  have e1 := w1 i s.size (by omega) hs
  have e2 := w2 i s.size (by omega) hs
  have step : ∀ b : Bool, (b = true ↔ ext s i) → Ev (fun k => spec_LangSplit.j1 k s p.1 p.2 (i : Int) b) r := by
    intro b hb
    by_cases g : b = true
    · have hx := hb.1 g
      rw [if_pos hx] at h
      by_cases gx : bt s ((i + 1 : Nat) : Int) = 120
      · simp only [gx, if_true] at h
        refine Ev.step (fun k => ?_) h
        simp only [spec_LangSplit.j1]
        rw [if_pos g, e1, if_pos (by omega), if_pos (by omega), if_pos (by omega), if_pos (by omega), if_pos gx, if_pos (by omega)]
        rfl
      · simp only [gx, if_false] at h
        refine Ev.step (fun k => ?_) h
        simp only [spec_LangSplit.j1]
        rw [if_pos g, e1, if_pos (by omega), if_pos (by omega), if_pos (by omega), if_pos (by omega), if_neg gx]
        rfl
    · have hx : ¬ ext s i := fun e => g (hb.2 e)
      rw [if_neg hx] at h
      refine Ev.step (fun k => ?_) h
      simp only [spec_LangSplit.j1]
      rw [if_neg g]
  by_cases c1 : bt s (i : Int) = 45
  · by_cases c2 : bt s ((i + 2 : Nat) : Int) = 45
    · refine Ev.step (fun k => ?_) (step (bt s ((i + 1 : Nat) : Int) != 45) ?_)
      · simp only [spec_LangSplit.l0]
        rw [e1, e2, if_pos (by omega), if_pos (by omega), if_pos (by omega), if_pos c1, if_pos (by omega), if_pos (by omega), if_pos c2, if_pos (by omega), if_pos (by omega)]
      · unfold ext
        simp only [bne_iff_ne, ne_eq]
        exact ⟨fun q => ⟨c1, c2, q⟩, fun q => q.2.2⟩
    · refine Ev.step (fun k => ?_) (step false ?_)
      · simp only [spec_LangSplit.l0]
        rw [e2, if_pos (by omega), if_pos (by omega), if_pos (by omega), if_pos c1, if_pos (by omega), if_pos (by omega), if_neg c2]
      · unfold ext
        exact ⟨(fun q => by cases q), fun q => absurd q.2.1 c2⟩
  · refine Ev.step (fun k => ?_) (step false ?_)
    · simp only [spec_LangSplit.l0]
      rw [if_pos (by omega), if_pos (by omega), if_pos (by omega), if_neg c1]
    · unfold ext
      exact ⟨(fun q => by cases q), fun q => absurd q.1 c1⟩

theorem ref_loop (s : ByteArray) (hs : s.size ≤ 140737488351232) (i : Nat) : ∀ d, i + 1 + d = s.size - 2 → i + 3 ≤ s.size →
    Ev (fun k => spec_LangSplit.l0 k s (parts s d (i + 1)).1 (parts s d (i + 1)).2 (i : Int)) (parts s (s.size - 2) 0) := by
  induction i with
  | zero =>
    intro d hd h3
    refine ref_round s hs 0 h3 _ _ ?_
    have hp : (if ext s 0 then (s.extract 0 0, if bt s ((0 + 1 : Nat) : Int) = 120 then s.extract (0 + 1) s.size else (parts s d (0 + 1)).2) else parts s d (0 + 1)) = parts s (d + 1) 0 := rfl
    rw [hp]
    have hn : s.size - 2 = d + 1 := by omega
    rw [hn]
    have e : wrap64 (((0 : Nat) : Int) - 1) = -1 := by decide +kernel
    rw [e]
    exact Ev.step (f := fun _ => some (parts s (d + 1) 0)) (fun k => by simp only [spec_LangSplit.l0]; rw [if_neg (by omega)]) (Ev.now _)
  | succ i ih =>
    intro d hd h3
    refine ref_round s hs (i + 1) h3 _ _ ?_
    have hp : (if ext s (i + 1) then (s.extract 0 (i + 1), if bt s ((i + 1 + 1 : Nat) : Int) = 120 then s.extract (i + 1 + 1) s.size else (parts s d (i + 1 + 1)).2) else parts s d (i + 1 + 1)) = parts s (d + 1) (i + 1) := rfl
    rw [hp]
    have e : wrap64 (((i + 1 : Nat) : Int) - 1) = (i : Int) := by unfold wrap64; omega
    rw [e]
    exact ih (d + 1) (by omega) (by omega)

theorem ref_ends (s : ByteArray) (hs : s.size ≤ 140737488351232) : Ev (fun k => spec_LangSplit.f k s) (parts s (s.size - 2) 0) := by
  by_cases h : 3 ≤ s.size
  · have e : wrap64 ((s.size : Int) - 3) = ((s.size - 3 : Nat) : Int) := by unfold wrap64; omega
    have := ref_loop s hs (s.size - 3) 0 (by omega) (by omega)
    refine Ev.congr (fun k => ?_) this
    simp only [spec_LangSplit.f, e]
    rfl
  · have e : s.size - 2 = 0 := by omega
    rw [e]
    have e' : wrap64 ((s.size : Int) - 3) = (s.size : Int) - 3 := by unfold wrap64; omega
    refine Ev.step (f := fun _ => some (parts s 0 0)) (fun k => ?_) (Ev.now _)
    simp only [spec_LangSplit.f, spec_LangSplit.l0, e']
    rw [if_neg (by omega)]; rfl

/-! ### the package: from the begin to the end -/
/-- the law's guard -/
def tidy (s : ByteArray) (n : Nat) : Prop := ∀ i, 1 ≤ i → i < n → bt s (i : Int) = 45 → i ≠ 1 ∧ bt s ((i - 1 : Nat) : Int) ≠ 45 ∧ i ≠ s.size - 1

theorem ext_of (s : ByteArray) (ht : tidy s s.size) (i : Nat) (hi : i + 3 ≤ s.size) (h1 : bt s (i : Int) = 45) (h2 : bt s ((i + 2 : Nat) : Int) = 45) : ext s i ∧ i + 3 < s.size := by
  have h3 := ht (i + 2) (by omega) (by omega) h2
  have e : i + 2 - 1 = i + 1 := by omega
  rw [e] at h3
  exact ⟨⟨h1, h2, h3.2.1⟩, by omega⟩

theorem pack_round (s : ByteArray) (hs : s.size ≤ 140737488351232) (ht : tidy s s.size) (i : Nat) (hi : i + 3 < s.size) (f : Int) (hf : f = -1 ∨ (0 ≤ f ∧ f ≤ s.size)) (r : ByteArray × ByteArray)
    (h : if ext s i then (if bt s ((i + 1 : Nat) : Int) = 120 then r = (s.extract 0 (if f = -1 then (i : Int) else f).toNat, s.extract (i + 1) s.size) else Ev (fun k => language_Language_SplitExtensionTags.l0 k s (if f = -1 then (i : Int) else f) ((i + 1 : Nat) : Int)) r) else Ev (fun k => language_Language_SplitExtensionTags.l0 k s f ((i + 1 : Nat) : Int)) r) :
    Ev (fun k => language_Language_SplitExtensionTags.l0 k s f (i : Int)) r := by
  have e1 := w1 i s.size (by omega) hs
  have e2 := w2 i s.size (by omega) hs
  have e3 := w3 i s.size (by omega) hs
  have step : ∀ b : Bool, (b = true ↔ ext s i) → Ev (fun k => language_Language_SplitExtensionTags.j2 k s f (i : Int) b) r := by
    intro b hb
    by_cases g : b = true
    · have hx := hb.1 g
      rw [if_pos hx] at h
      by_cases gf : f = -1
      · rw [if_pos gf] at h
        by_cases gx : bt s ((i + 1 : Nat) : Int) = 120
        · rw [if_pos gx] at h
          subst h
          refine Ev.step (f := fun _ => some _) (fun k => ?_) (Ev.now _)
          simp only [language_Language_SplitExtensionTags.j2]
          rw [if_pos g, if_pos gf, e1, if_pos (by omega), if_pos (by omega), if_pos gx, if_pos (by omega), if_pos (by omega), if_pos (by omega)]
          rfl
        · rw [if_neg gx] at h
          refine Ev.step (fun k => ?_) h
          simp only [language_Language_SplitExtensionTags.j2]
          rw [if_pos g, if_pos gf, e1, if_pos (by omega), if_pos (by omega), if_neg gx]
      · have hf2 : 0 ≤ f ∧ f ≤ s.size := by rcases hf with q | q; exact absurd q gf; exact q
        rw [if_neg gf] at h
        by_cases gx : bt s ((i + 1 : Nat) : Int) = 120
        · rw [if_pos gx] at h
          subst h
          refine Ev.step (f := fun _ => some _) (fun k => ?_) (Ev.now _)
          simp only [language_Language_SplitExtensionTags.j2]
          rw [if_pos g, if_neg gf, e1, if_pos (by omega), if_pos (by omega), if_pos gx, if_pos hf2.1, if_pos hf2.2, if_pos (by omega)]
          rfl
        · rw [if_neg gx] at h
          refine Ev.step (fun k => ?_) h
          simp only [language_Language_SplitExtensionTags.j2]
          rw [if_pos g, if_neg gf, e1, if_pos (by omega), if_pos (by omega), if_neg gx]
    · have hx : ¬ ext s i := fun e => g (hb.2 e)
      rw [if_neg hx] at h
      refine Ev.step (fun k => ?_) h
      simp only [language_Language_SplitExtensionTags.j2]
      rw [if_neg g, e1]
  by_cases c1 : bt s (i : Int) = 45
  · refine Ev.step (fun k => ?_) (step (bt s ((i + 2 : Nat) : Int) == 45) ?_)
    · simp only [language_Language_SplitExtensionTags.l0]
      rw [e2, e3, if_pos (by omega), if_pos (by omega), if_pos (by omega), if_pos c1, if_pos (by omega), if_pos (by omega)]
    · rw [beq_iff_eq]
      exact ⟨fun q => (ext_of s ht i (by omega) c1 q).1, fun q => q.2.1⟩
  · refine Ev.step (fun k => ?_) (step false ?_)
    · simp only [language_Language_SplitExtensionTags.l0]
      rw [e3, if_pos (by omega), if_pos (by omega), if_pos (by omega), if_neg c1]
    · exact ⟨(fun q => by cases q), fun q => absurd q.1 c1⟩

theorem pack_loop (s : ByteArray) (hs : s.size ≤ 140737488351232) (ht : tidy s s.size) (d : Nat) : ∀ i, i + d + 3 = s.size →
    Ev (fun k => language_Language_SplitExtensionTags.l0 k s (-1) (i : Int)) (parts s (d + 1) i) ∧
    ∀ f : Nat, f ≤ s.size → Ev (fun k => language_Language_SplitExtensionTags.l0 k s (f : Int) (i : Int)) (s.extract 0 f, (parts s (d + 1) i).2) := by
  induction d with
  | zero =>
    intro i hi
    have e3 := w3 i s.size (by omega) hs
    have hn : ¬ ext s i := fun q => by have := (ext_of s ht i (by omega) q.1 q.2.1).2; omega
    have hp : parts s (0 + 1) i = (s, ⟨#[]⟩) := by simp only [parts]; rw [if_neg hn]
    rw [hp]
    constructor
    · refine Ev.step (f := fun _ => some _) (fun k => ?_) (Ev.now _)
      simp only [language_Language_SplitExtensionTags.l0]
      rw [e3, if_neg (by omega)]; simp only [if_true]
    · intro f hf
      refine Ev.step (f := fun _ => some _) (fun k => ?_) (Ev.now _)
      simp only [language_Language_SplitExtensionTags.l0]
      rw [e3, if_neg (by omega), if_neg (by omega), if_pos (by omega), if_pos (by omega)]
      rfl
  | succ d ih =>
    intro i hi
    obtain ⟨iha, ihb⟩ := ih (i + 1) (by omega)
    have hp : parts s (d + 1 + 1) i = if ext s i then (s.extract 0 i, if bt s ((i + 1 : Nat) : Int) = 120 then s.extract (i + 1) s.size else (parts s (d + 1) (i + 1)).2) else parts s (d + 1) (i + 1) := rfl
    rw [hp]
    constructor
    · refine pack_round s hs ht i (by omega) (-1) (Or.inl rfl) _ ?_
      by_cases g : ext s i
      · rw [if_pos g, if_pos g]
        by_cases gx : bt s ((i + 1 : Nat) : Int) = 120
        · rw [if_pos gx, if_pos gx]; rfl
        · rw [if_neg gx, if_neg gx]
          exact ihb i (by omega)
      · rw [if_neg g, if_neg g]; exact iha
    · intro f hf
      refine pack_round s hs ht i (by omega) (f : Int) (Or.inr ⟨by omega, by omega⟩) _ ?_
      have hne : ¬ ((f : Int) = -1) := by omega
      by_cases g : ext s i
      · rw [if_pos g, if_pos g]
        by_cases gx : bt s ((i + 1 : Nat) : Int) = 120
        · rw [if_pos gx, if_pos gx, if_neg hne]; rfl
        · rw [if_neg gx, if_neg gx, if_neg hne]
          exact ihb f hf
      · rw [if_neg g, if_neg g]; exact ihb f hf

theorem pack_ends (s : ByteArray) (hs : s.size ≤ 140737488351232) (ht : tidy s s.size) : Ev (fun k => impl_LangSplit.f k s) (parts s (s.size - 2) 0) := by
  have loop : Ev (fun k => language_Language_SplitExtensionTags.l0 k s (-1) 0) (parts s (s.size - 2) 0) := by
    by_cases h : 3 ≤ s.size
    · have := (pack_loop s hs ht (s.size - 3) 0 (by omega)).1
      have e : s.size - 2 = s.size - 3 + 1 := by omega
      rw [e]; exact this
    · have e : s.size - 2 = 0 := by omega
      rw [e]
      refine Ev.step (f := fun _ => some _) (fun k => ?_) (Ev.now _)
      simp only [language_Language_SplitExtensionTags.l0]
      have e' : wrap64 ((0 : Int) + 3) = 3 := by decide +kernel
      rw [e', if_neg (by omega)]; simp only [if_true]
      rfl
  have j0 : Ev (fun k => language_Language_SplitExtensionTags.j0 k s false) (parts s (s.size - 2) 0) := by
    refine Ev.step (fun k => ?_) loop
    simp only [language_Language_SplitExtensionTags.j0]
    rfl
  have whole : Ev (fun k => language_Language_SplitExtensionTags.f k s) (parts s (s.size - 2) 0) := by
    refine Ev.congr (fun k => ?_) j0
    unfold language_Language_SplitExtensionTags.f
    by_cases h : (s.size : Int) ≥ 2
    · rw [if_pos h, if_pos (by omega)]
      by_cases hx : bt s 0 = 120
      · rw [if_pos hx, if_pos (by omega)]
        have : (bt s 1 == 45) = false := by
          rw [beq_eq_false_iff_ne]
          intro q
          exact (ht 1 (by omega) (by omega) q).1 rfl
        rw [this]
      · rw [if_neg hx]
    · rw [if_neg h]
  refine Ev.congr (f := fun k => (language_Language_SplitExtensionTags.f k s).bind fun b => some b) (fun k => rfl) ?_
  exact Ev.bind whole (Ev.now _)

theorem law_loop (s : ByteArray) (hs : s.size ≤ 140737488351232) (d : Nat) : ∀ i, 1 ≤ i → i + d = s.size → tidy s i → Ev (fun k => laws_FnLangSplit.l0 k s (i : Int)) true := by
  induction d with
  | zero =>
    intro i h1 hi ht
    have hi' : i = s.size := by omega
    subst hi'
    refine Ev.step (f := fun k => (impl_LangSplit.f k s).bind fun bt138 => ((spec_LangSplit.f k s).bind fun bt140 => (if bt138.1.toList = bt140.1.toList then (if bt138.2.toList = bt140.2.toList then ((impl_LangDerived.f (⟨#[102, 114, 45, 98, 101]⟩ : ByteArray) (⟨#[102, 114]⟩ : ByteArray)).bind fun t142 => (some t142)) else (some false)) else (some false)))) (fun k => ?_) ?_
    · simp only [laws_FnLangSplit.l0]; rw [if_neg (by omega)]
    · refine Ev.bind (pack_ends s hs ht) (Ev.bind (ref_ends s hs) ?_)
      simp only [if_true, derived_fr, Option.bind_some]
      exact Ev.now _
  | succ d ih =>
    intro i h1 hi ht
    have e1 := w1 i s.size (by omega) hs
    have em : wrap64 ((i : Int) - 1) = ((i - 1 : Nat) : Int) := by unfold wrap64; omega
    have en : wrap64 ((s.size : Int) - 1) = ((s.size - 1 : Nat) : Int) := by unfold wrap64; omega
    have out : ∀ g : Nat → Option Bool, (∀ k, g k = some true) → Ev g true := fun g h => Ev.congr (f := fun _ => some true) h (Ev.now _)
    by_cases c : bt s (i : Int) = 45
    · by_cases c1 : i = 1
      · refine Ev.step (f := fun _ => some true) (fun k => ?_) (Ev.now _)
        simp only [laws_FnLangSplit.l0]
        rw [if_pos (by omega), if_pos (by omega), if_pos c, if_pos (by omega), derived_fr]; rfl
      · by_cases c2 : bt s ((i - 1 : Nat) : Int) = 45
        · refine Ev.step (f := fun _ => some true) (fun k => ?_) (Ev.now _)
          simp only [laws_FnLangSplit.l0]
          rw [em, if_pos (by omega), if_pos (by omega), if_pos c, if_neg (by omega), if_pos (by omega), if_pos (by omega), if_pos c2, derived_fr]; rfl
        · by_cases c3 : i = s.size - 1
          · refine Ev.step (f := fun _ => some true) (fun k => ?_) (Ev.now _)
            simp only [laws_FnLangSplit.l0]
            rw [em, en, if_pos (by omega), if_pos (by omega), if_pos c, if_neg (by omega), if_pos (by omega), if_pos (by omega), if_neg c2, if_pos (by omega), derived_fr]; rfl
          · refine Ev.step (fun k => ?_) (ih (i + 1) (by omega) (by omega) ?_)
            · simp only [laws_FnLangSplit.l0]
              rw [em, en, e1, if_pos (by omega), if_pos (by omega), if_pos c, if_neg (by omega), if_pos (by omega), if_pos (by omega), if_neg c2, if_neg (by omega)]
            · intro j hj1 hj2 hj
              by_cases q : j = i
              · subst q; exact ⟨c1, c2, c3⟩
              · exact ht j hj1 (by omega) hj
    · refine Ev.step (fun k => ?_) (ih (i + 1) (by omega) (by omega) ?_)
      · simp only [laws_FnLangSplit.l0]
        rw [e1, if_pos (by omega), if_pos (by omega), if_neg c]
      · intro j hj1 hj2 hj
        by_cases q : j = i
        · subst q; exact absurd hj c
        · exact ht j hj1 (by omega) hj

theorem FnLangSplit : laws_FnLangSplit.Pure := by
  intro a0 h0
  obtain ⟨ys, l0, _, e0⟩ := tag_ends a0 h0
  unfold laws_FnLangSplit.f
  by_cases h : (a0.size : Int) > 2147483647
  · simp only [if_pos h]; exact ⟨0, trivial⟩
  · simp only [if_neg h]
    refine Ev.rounds (Ev.bind e0 ?_)
    have hz : (strOfNums ys).size ≤ 140737488351232 := by rw [size_nums]; omega
    by_cases g : 1 ≤ (strOfNums ys).size
    · exact law_loop (strOfNums ys) hz ((strOfNums ys).size - 1) 1 (by omega) (by omega) (fun i h1 h2 _ => by omega)
    · have ht : tidy (strOfNums ys) (strOfNums ys).size := fun i h1 h2 _ => by omega
      refine Ev.step (f := fun k => (impl_LangSplit.f k (strOfNums ys)).bind fun bt138 => ((spec_LangSplit.f k (strOfNums ys)).bind fun bt140 => (if bt138.1.toList = bt140.1.toList then (if bt138.2.toList = bt140.2.toList then ((impl_LangDerived.f (⟨#[102, 114, 45, 98, 101]⟩ : ByteArray) (⟨#[102, 114]⟩ : ByteArray)).bind fun t142 => (some t142)) else (some false)) else (some false)))) (fun k => ?_) ?_
      · simp only [laws_FnLangSplit.l0]; rw [if_neg (by omega)]
      · refine Ev.bind (pack_ends _ hz ht) (Ev.bind (ref_ends _ hz) ?_)
        simp only [if_true, derived_fr, Option.bind_some]
        exact Ev.now _


end Go.Proofs.Ytkfphiccfnfkdaa.Pure
