/- The law FnLangInherits holds for every text: SimpleInheritance tells the tag, and what is left of it by leaving off the last part again and again, as the reference does. Condition: none (the statement's own bound on sizes lies in the law). -/

import Derived.Lib.IndexLaws
import Derived.Laws.BitsLemmas
import Derived.Test.YtklkpekjnkjcdaaPFnLangInheritsx
namespace Go.Proofs.Ytklkpekjnkjcdaa.Pure
open Go.RowKit Go.Proofs.Ytklkpekjnkjcdaa.PFnLangInherits Go.Proofs.YtklkpekjnkjcdaaW.PrintWords Go.Proofs.YtklkpekjnkjcdaaW.PrintLast Go.Proofs.YtklkpekjnkjcdaaW.PrintMore

/-! ### what NewLanguage's reference does: it ends, with small letters, digits and hyphens alone -/
def okc (y : Int) : Prop := (97 ≤ y ∧ y ≤ 122) ∨ (48 ≤ y ∧ y ≤ 57) ∨ y = 45

theorem new_j2 (s : ByteArray) (x3 : List Int) (c n i : Int) (b : Bool) (hl : x3.length < 140737488355328) (hok : ∀ y ∈ x3, okc y) (hb : b = true → okc c) :
    ∃ x3' : List Int, x3'.length ≤ x3.length + 1 ∧ (∀ y ∈ x3', okc y) ∧ ∀ r, Ev (fun k => spec_LangNew.l0 k s x3' n (wrap64 (i + 1))) r → Ev (fun k => spec_LangNew.j2 k s x3 c n i b) r := by
  by_cases h0 : b = true
  · refine ⟨x3 ++ [c], by simp, ?_, fun r h => Ev.step (fun k => ?_) h⟩
    · intro z hz
      rcases List.mem_append.1 hz with h | h
      · exact hok z h
      · rw [List.mem_singleton.1 h]; exact hb h0
    · simp only [spec_LangNew.j2]; rw [if_pos h0, if_pos hl]
  · exact ⟨x3, by simp, hok, fun r h => Ev.step (fun k => by simp only [spec_LangNew.j2]; rw [if_neg h0]) h⟩

theorem new_j1 (s : ByteArray) (x3 : List Int) (c n i : Int) (b : Bool) (hl : x3.length < 140737488355328) (hok : ∀ y ∈ x3, okc y) (hb : b = true → 65 ≤ c ∧ c ≤ 90) :
    ∃ x3' : List Int, x3'.length ≤ x3.length + 1 ∧ (∀ y ∈ x3', okc y) ∧ ∀ r, Ev (fun k => spec_LangNew.l0 k s x3' n (wrap64 (i + 1))) r → Ev (fun k => spec_LangNew.j1 k s x3 c n i b) r := by
  have add : ∀ y, okc y → ∀ z ∈ x3 ++ [y], okc z := by
    intro y hy z hz
    rcases List.mem_append.1 hz with h | h
    · exact hok z h
    · rw [List.mem_singleton.1 h]; exact hy
  by_cases h0 : b = true
  · obtain ⟨h1, h2⟩ := hb h0
    exact ⟨x3 ++ [(c + 32) % 256], by simp, add _ (Or.inl (by omega)), fun r h => Ev.step (fun k => by simp only [spec_LangNew.j1]; rw [if_pos h0, if_pos hl]) h⟩
  by_cases h1 : c = 95
  · exact ⟨x3 ++ [45], by simp, add _ (Or.inr (Or.inr rfl)), fun r h => Ev.step (fun k => by simp only [spec_LangNew.j1]; rw [if_neg h0, if_pos h1, if_pos hl]) h⟩
  by_cases h2 : c ≥ 97
  · by_cases h3 : c ≤ 122
    · obtain ⟨x, a, b, q⟩ := new_j2 s x3 c n i true hl hok (fun _ => Or.inl ⟨h2, h3⟩)
      exact ⟨x, a, b, fun r h => Ev.step (fun k => by simp only [spec_LangNew.j1]; rw [if_neg h0, if_neg h1, if_pos h2, if_pos h3]) (q r h)⟩
    · obtain ⟨x, a, b, q⟩ := new_j2 s x3 c n i (c == 45) hl hok (fun h => Or.inr (Or.inr (by simpa using h)))
      exact ⟨x, a, b, fun r h => Ev.step (fun k => by simp only [spec_LangNew.j1]; rw [if_neg h0, if_neg h1, if_pos h2, if_neg h3, if_pos (by omega), if_neg (by omega)]) (q r h)⟩
  · by_cases h3 : c ≥ 48
    · by_cases h4 : c ≤ 57
      · obtain ⟨x, a, b, q⟩ := new_j2 s x3 c n i true hl hok (fun _ => Or.inr (Or.inl ⟨h3, h4⟩))
        exact ⟨x, a, b, fun r h => Ev.step (fun k => by simp only [spec_LangNew.j1]; rw [if_neg h0, if_neg h1, if_neg h2, if_pos h3, if_pos h4]) (q r h)⟩
      · obtain ⟨x, a, b, q⟩ := new_j2 s x3 c n i (c == 45) hl hok (fun h => Or.inr (Or.inr (by simpa using h)))
        exact ⟨x, a, b, fun r h => Ev.step (fun k => by simp only [spec_LangNew.j1]; rw [if_neg h0, if_neg h1, if_neg h2, if_pos h3, if_neg h4]) (q r h)⟩
    · obtain ⟨x, a, b, q⟩ := new_j2 s x3 c n i (c == 45) hl hok (fun h => Or.inr (Or.inr (by simpa using h)))
      exact ⟨x, a, b, fun r h => Ev.step (fun k => by simp only [spec_LangNew.j1]; rw [if_neg h0, if_neg h1, if_neg h2, if_neg h3]) (q r h)⟩

theorem new_loop (s : ByteArray) (hs : s.size ≤ 140737488351232) (d : Nat) : ∀ (i : Nat) (x3 : List Int), i + d = s.size → x3.length ≤ i → (∀ y ∈ x3, okc y) →
    ∃ ys : List Int, ys.length ≤ s.size ∧ (∀ y ∈ ys, okc y) ∧ Ev (fun k => spec_LangNew.l0 k s x3 (s.size : Int) (i : Int)) (strOfNums ys) := by
  induction d with
  | zero =>
    intro i x3 hi hl hok
    refine ⟨x3, by omega, hok, Ev.step (f := fun _ => some (strOfNums x3)) (fun k => ?_) (Ev.now _)⟩
    simp only [spec_LangNew.l0]; rw [if_neg (by omega)]
  | succ d ih =>
    intro i x3 hi hl hok
    have hr := bt_range s (i : Int)
    have hw : wrap64 ((i : Int) + 1) = ((i + 1 : Nat) : Int) := by unfold wrap64; omega
    by_cases h : bt s (i : Int) ≥ 65
    · obtain ⟨x3', l', ok', e'⟩ := new_j1 s x3 (bt s (i : Int)) (s.size : Int) (i : Int) (decide (bt s (i : Int) ≤ 90)) (by omega) hok (fun hd => ⟨h, of_decide_eq_true hd⟩)
      obtain ⟨ys, a, b, c⟩ := ih (i + 1) x3' (by omega) (by omega) ok'
      refine ⟨ys, a, b, Ev.step (f := fun k => spec_LangNew.j1 k s x3 (bt s (i : Int)) (s.size : Int) (i : Int) (decide (bt s (i : Int) ≤ 90))) (fun k => ?_) (e' _ (by rw [hw]; exact c))⟩
      · simp only [spec_LangNew.l0]; rw [if_pos (by omega), if_pos (by omega), if_pos (by omega), if_pos h]
    · obtain ⟨x3', l', ok', e'⟩ := new_j1 s x3 (bt s (i : Int)) (s.size : Int) (i : Int) false (by omega) hok (fun hd => by cases hd)
      obtain ⟨ys, a, b, c⟩ := ih (i + 1) x3' (by omega) (by omega) ok'
      refine ⟨ys, a, b, Ev.step (f := fun k => spec_LangNew.j1 k s x3 (bt s (i : Int)) (s.size : Int) (i : Int) false) (fun k => ?_) (e' _ (by rw [hw]; exact c))⟩
      · simp only [spec_LangNew.l0]; rw [if_pos (by omega), if_pos (by omega), if_pos (by omega), if_neg h]

theorem tag_ends (s : ByteArray) (hs : s.size ≤ 140737488351232) : ∃ ys : List Int, ys.length ≤ 100 ∧ (∀ y ∈ ys, okc y) ∧ Ev (fun k => laws_tag.f k s) (strOfNums ys) := by
  obtain ⟨j, hj, hm⟩ : ∃ j : Nat, j ≤ 100 ∧ j ≤ s.size ∧ mn (s.size : Int) 100 = (j : Int) := by
    unfold mn
    by_cases h : (100 : Int) < (s.size : Int)
    · exact ⟨100, by omega, by omega, by rw [if_pos h]; rfl⟩
    · exact ⟨s.size, by omega, by omega, by rw [if_neg h]⟩
  obtain ⟨hm1, hm⟩ := hm
  have hz : (s.extract 0 j).size = j := by simp; omega
  obtain ⟨ys, a, b, c⟩ := new_loop (s.extract 0 j) (by omega) j 0 [] (by omega) (by simp) (by simp)
  refine ⟨ys, by omega, b, Ev.congr (f := fun k => spec_LangNew.f k (s.extract 0 j)) (fun k => ?_) c⟩
  simp only [laws_tag.f, hm]
  rw [if_pos (by omega), if_pos (by omega)]
  simp

/-! ### the plain law of lists: the joins of the first parts are the heads at hyphens, and the whole -/
/-- The parts of a text at hyphens. -/
def partsOf : List UInt8 → List UInt8 × List (List UInt8)
  | [] => ([], [])
  | b :: l => if b = 45 then ([], (partsOf l).1 :: (partsOf l).2) else (b :: (partsOf l).1, (partsOf l).2)
def parts (l : List UInt8) : List (List UInt8) := (partsOf l).1 :: (partsOf l).2
/-- The text ahead of each hyphen. -/
def fh : List UInt8 → List (List UInt8)
  | [] => []
  | b :: l => (if b = 45 then [[]] else []) ++ (fh l).map (b :: ·)
theorem fh_snoc (c : UInt8) : ∀ l : List UInt8, fh (l ++ [c]) = fh l ++ (if c = 45 then [l] else [])
  | [] => by simp only [List.nil_append, fh]; split <;> rfl
  | b :: l => by
    simp only [List.cons_append, fh, fh_snoc c l, List.map_append, List.append_assoc]
    congr 2
    split <;> rfl
/-- The joins of the first 1, 2, .. parts. -/
def jm (ps : List (List UInt8)) (m : Nat) : List (List UInt8) := (List.range m).map fun j => Go.Lib.join (ps.take (j + 1)) [45]
theorem jm_succ (ps : List (List UInt8)) (m : Nat) : jm ps (m + 1) = jm ps m ++ [Go.Lib.join (ps.take (m + 1)) [45]] := by
  simp [jm, List.range_succ]
theorem join_cons (p : List UInt8) (q : List UInt8) (r : List (List UInt8)) : Go.Lib.join (p :: q :: r) [45] = p ++ 45 :: Go.Lib.join (q :: r) [45] := by
  simp [Go.Lib.join, List.intercalate, List.intersperse]
theorem join_front (b : UInt8) (p : List UInt8) (r : List (List UInt8)) : Go.Lib.join ((b :: p) :: r) [45] = b :: Go.Lib.join (p :: r) [45] := by
  cases r with
  | nil => simp [Go.Lib.join, List.intercalate, List.intersperse]
  | cons q r => rw [join_cons, join_cons]; rfl
theorem jm_parts : ∀ l : List UInt8, jm (parts l) (parts l).length = fh l ++ [l]
  | [] => by simp [jm, parts, partsOf, fh, Go.Lib.join, List.intercalate, List.range_succ]
  | b :: l => by
    have ih := jm_parts l
    by_cases h : b = 45
    · subst h
      have e : parts (45 :: l) = [] :: parts l := by simp [parts, partsOf]
      rw [e]
      have : jm ([] :: parts l) ([] :: parts l).length = [] :: (jm (parts l) (parts l).length).map (45 :: ·) := by
        simp only [jm, List.length_cons, List.range_succ_eq_map, List.map_cons, List.map_map]
        refine congrArg (List.cons _) ?_
        apply List.map_congr_left
        intro j hj
        simp only [Function.comp, List.take_succ_cons]
        rw [show (parts l).take (j + 1) = (partsOf l).1 :: (partsOf l).2.take j from rfl, join_cons]
        rfl
      rw [this, ih]
      simp [fh]
    · have e : parts (b :: l) = (b :: (partsOf l).1) :: (partsOf l).2 := by simp [parts, partsOf, h]
      have : jm (parts (b :: l)) (parts (b :: l)).length = (jm (parts l) (parts l).length).map (b :: ·) := by
        rw [e]
        simp only [jm, parts, List.length_cons, List.map_map]
        apply List.map_congr_left
        intro j hj
        simp only [Function.comp, List.take_succ_cons]
        exact join_front _ _ _
      rw [this, ih]
      simp [fh, h]

/-! ### the loops -/
def mkS (l : List UInt8) : ByteArray := ⟨l.toArray⟩
theorem mkS_data (s : ByteArray) : mkS s.data.toList = s := rfl
theorem extract_take (s : ByteArray) (i : Nat) : s.extract 0 i = mkS (s.data.toList.take i) := by
  apply ByteArray.ext
  apply Array.ext'
  simp [mkS, ByteArray.data_extract, Array.toList_extract, List.extract]
theorem bt_list (s : ByteArray) (i : Nat) (h : i < s.size) : bt s (i : Int) = ((s.data.toList[i]'(by simpa using h)).toNat : Int) := by
  rw [← bt_at s (i : Int) (by simpa using h)]
  simp
  rfl

theorem spec_heads (s : ByteArray) (hs : s.size ≤ 1000) : ∀ (i : Nat) (x3 : List ByteArray), i ≤ s.size → x3.length ≤ 1 + s.size - i →
    Ev (fun k => spec_LangInherits.l0 k s x3 ((i : Int) - 1)) (x3 ++ ((fh (s.data.toList.take i)).map mkS).reverse) := by
  intro i
  induction i with
  | zero =>
    intro x3 hi hl
    refine Ev.step (f := fun _ => some x3) (fun k => ?_) ?_
    · simp only [spec_LangInherits.l0]; rw [if_neg (by omega)]
    · simp only [List.take_zero, fh, List.map_nil, List.reverse_nil, List.append_nil]; exact Ev.now _
  | succ i ih =>
    intro x3 hi hl
    have hb := bt_list s i (by omega)
    have hw : wrap64 ((i : Int) - 1) = (i : Int) - 1 := by unfold wrap64; omega
    have hli : i < s.data.toList.length := by
      have q : i < s.size := by omega
      simpa using q
    have ht : s.data.toList.take (i + 1) = s.data.toList.take i ++ [s.data.toList[i]] := by rw [List.take_succ_eq_append_getElem hli]
    have e1 : ((i + 1 : Nat) : Int) - 1 = (i : Int) := by omega
    rw [e1, ht, fh_snoc]
    by_cases h : s.data.toList[i] = 45
    · have h45 : bt s (i : Int) = 45 := by rw [hb, h]; rfl
      refine Ev.step (f := fun k => spec_LangInherits.l0 k s (x3 ++ [s.extract 0 i]) ((i : Int) - 1)) (fun k => ?_) ?_
      · simp only [spec_LangInherits.l0]; rw [if_pos (by omega), if_pos (by omega), if_pos (by omega), if_pos h45, if_pos (by omega), if_pos (by omega), hw]; rfl
      · have q := ih (x3 ++ [s.extract 0 i]) (by omega) (by simp; omega)
        rw [if_pos h, List.map_append, List.reverse_append]
        rw [extract_take] at q ⊢
        simpa [List.append_assoc] using q
    · have h45 : ¬ bt s (i : Int) = 45 := by
        rw [hb]; intro e; apply h; apply UInt8.toNat_inj.1; show _ = 45; omega
      refine Ev.step (f := fun k => spec_LangInherits.l0 k s x3 ((i : Int) - 1)) (fun k => ?_) ?_
      · simp only [spec_LangInherits.l0]; rw [if_pos (by omega), if_pos (by omega), if_pos (by omega), if_neg h45, hw]
      · rw [if_neg h, List.append_nil]; exact ih x3 (by omega) (by omega)

/-! ### the parting at hyphens -/
def hy : ByteArray := ⟨#[45]⟩
theorem parts_char : ∀ l : List UInt8, (45 ∉ (partsOf l).1) ∧ (((partsOf l).2 = [] ∧ l = (partsOf l).1) ∨ ∃ rest, l = (partsOf l).1 ++ 45 :: rest ∧ (partsOf l).2 = parts rest)
  | [] => ⟨by simp [partsOf], Or.inl ⟨rfl, rfl⟩⟩
  | b :: l => by
    obtain ⟨h1, h2⟩ := parts_char l
    by_cases h : b = 45
    · have e : partsOf (b :: l) = ([], (partsOf l).1 :: (partsOf l).2) := by simp [partsOf, h]
      rw [e]
      exact ⟨by simp, Or.inr ⟨l, by rw [h]; rfl, rfl⟩⟩
    · have e : partsOf (b :: l) = (b :: (partsOf l).1, (partsOf l).2) := by simp [partsOf, h]
      rw [e]
      refine ⟨fun q => ?_, ?_⟩
      · rcases List.mem_cons.1 q with q | q
        · exact h q.symm
        · exact h1 q
      · rcases h2 with ⟨h2, h3⟩ | ⟨rest, h2, h3⟩
        · exact Or.inl ⟨h2, congrArg (List.cons b) h3⟩
        · exact Or.inr ⟨rest, congrArg (List.cons b) h2, h3⟩

theorem extract_one (s : ByteArray) (i : Nat) (h : i < s.size) : (s.extract i (i + 1)).toList = [s.data.toList[i]'(by simpa using h)] := by
  rw [ByteArray.toList_eq]
  have hl : i < s.data.toList.length := by simpa using h
  rw [ByteArray.data_extract, Array.toList_extract]
  simp only [List.extract, Nat.add_sub_cancel_left]
  rw [List.drop_eq_getElem_cons hl]
  rfl

theorem index_at (s : ByteArray) (hs : s.size ≤ 1000) (p rest : List UInt8) (hb : s.data.toList = p ++ 45 :: rest) (hp : 45 ∉ p) : ∀ d i : Nat, i + d = p.length → Ev (fun k => language_zzIndex.l0 k s hy (i : Int)) (p.length : Int) := by
  have hsz : s.size = p.length + 1 + rest.length := by
    have : s.data.toList.length = s.size := by simp
    rw [← this, hb]; simp; omega
  have h1 : (hy.size : Int) = 1 := rfl
  have hl : hy.toList = [45] := by rw [ByteArray.toList_eq]; rfl
  intro d
  induction d with
  | zero =>
    intro i hi
    have hw : wrap64 ((i : Int) + (hy.size : Int)) = ((i + 1 : Nat) : Int) := by rw [h1]; unfold wrap64; omega
    have ht : ((i : Int)).toNat = i := by omega
    refine Ev.step (f := fun _ => some (i : Int)) (fun k => ?_) (by rw [show i = p.length by omega]; exact Ev.now _)
    simp only [language_zzIndex.l0]
    rw [hw, if_pos (by omega), if_pos (by omega), if_pos (by omega), if_pos]
    rw [ht, Int.toNat_natCast, extract_one s i (by omega), hl]
    congr 1
    have e : i = p.length := by omega
    subst e
    simp [hb]
  | succ d ih =>
    intro i hi
    have hw : wrap64 ((i : Int) + (hy.size : Int)) = ((i + 1 : Nat) : Int) := by rw [h1]; unfold wrap64; omega
    have hw1 : wrap64 ((i : Int) + 1) = ((i + 1 : Nat) : Int) := by unfold wrap64; omega
    refine Ev.step (fun k => ?_) (ih (i + 1) (by omega))
    simp only [language_zzIndex.l0]
    rw [hw, if_pos (by omega), if_pos (by omega), if_pos (by omega), if_neg, hw1]
    have ht : ((i : Int)).toNat = i := by omega
    rw [ht, Int.toNat_natCast, extract_one s i (by omega), hl]
    intro e
    have e2 : s.data.toList[i]'(by simp; omega) = 45 := by injection e
    apply hp
    have hip : i < p.length := by omega
    have e3 : s.data.toList[i]'(by simp; omega) = p[i] := by simp [hb, List.getElem_append_left hip]
    rw [e3] at e2
    rw [← e2]
    exact List.getElem_mem hip

theorem index_none (s : ByteArray) (hs : s.size ≤ 1000) (hp : 45 ∉ s.data.toList) : ∀ d i : Nat, i + d = s.size → Ev (fun k => language_zzIndex.l0 k s hy (i : Int)) (-1 : Int) := by
  have h1 : (hy.size : Int) = 1 := rfl
  have hl : hy.toList = [45] := by rw [ByteArray.toList_eq]; rfl
  intro d
  induction d with
  | zero =>
    intro i hi
    have hw : wrap64 ((i : Int) + (hy.size : Int)) = ((i + 1 : Nat) : Int) := by rw [h1]; unfold wrap64; omega
    refine Ev.step (f := fun _ => some (-1 : Int)) (fun k => ?_) (Ev.now _)
    simp only [language_zzIndex.l0]
    rw [hw, if_neg (by omega)]
  | succ d ih =>
    intro i hi
    have hw : wrap64 ((i : Int) + (hy.size : Int)) = ((i + 1 : Nat) : Int) := by rw [h1]; unfold wrap64; omega
    have hw1 : wrap64 ((i : Int) + 1) = ((i + 1 : Nat) : Int) := by unfold wrap64; omega
    refine Ev.step (fun k => ?_) (ih (i + 1) (by omega))
    simp only [language_zzIndex.l0]
    rw [hw, if_pos (by omega), if_pos (by omega), if_pos (by omega), if_neg, hw1]
    have ht : ((i : Int)).toNat = i := by omega
    rw [ht, Int.toNat_natCast, extract_one s i (by omega), hl]
    intro e
    have e2 : s.data.toList[i]'(by simp; omega) = 45 := by injection e
    apply hp
    rw [← e2]
    exact List.getElem_mem _

theorem size_nums (ys : List Int) : (strOfNums ys).size = ys.length := by simp [strOfNums, ByteArray.size]
/-! ### the loops put together -/
theorem mkS_list (l : List UInt8) : (mkS l).data.toList = l := by simp [mkS]
theorem mkS_size (l : List UInt8) : (mkS l).size = l.length := by
  have : (mkS l).data.toList.length = (mkS l).size := by simp
  rw [← this, mkS_list]
theorem fr_ends (s : ByteArray) (p rest : List UInt8) (hb : s.data.toList = p ++ 45 :: rest) : (s.extract 0 p.length = mkS p) ∧ (s.extract (p.length + 1) s.size = mkS rest) ∧ s.size = p.length + 1 + rest.length := by
  have hsz : s.size = p.length + 1 + rest.length := by
    have : s.data.toList.length = s.size := by simp
    rw [← this, hb]; simp; omega
  refine ⟨?_, ?_, hsz⟩
  · rw [extract_take, hb]; congr 1; simp
  · apply ByteArray.ext
    apply Array.ext'
    simp only [mkS, ByteArray.data_extract, Array.toList_extract, List.extract, hb]
    rw [hsz]
    rw [show p ++ 45 :: rest = (p ++ [45]) ++ rest by simp, show p.length + 1 = (p ++ [45]).length by simp, List.drop_left]
    apply List.take_of_length_le
    simp

theorem split_parts : ∀ (n : Nat) (s : ByteArray) (out : List ByteArray), s.size ≤ n → s.size ≤ 1000 → out.length + s.size ≤ 2000 →
    Ev (fun k => language_zzSplit.l1 k s hy out) (out ++ (parts s.data.toList).map mkS) := by
  intro n
  induction n with
  | zero =>
    intro s out hn hs ho
    have h0 : s.data.toList = [] := by
      have : s.data.toList.length = s.size := by simp
      exact List.length_eq_zero_iff.1 (by omega)
    have e0 : Ev (fun k => language_zzIndex.f k s hy) (-1) := index_none s hs (by rw [h0]; simp) s.size 0 (by omega)
    refine Ev.step (fun k => rfl) ?_
    simp only [language_zzSplit.l1]
    refine Ev.bind e0 ?_
    have hq : mkS [] = s := by rw [← h0]; rfl
    simp only [if_pos (show (-1 : Int) < 0 by omega), if_pos (show out.length < 8796093022208 by omega), h0, parts, partsOf, List.map_cons, List.map_nil, hq]
    exact Ev.now _
  | succ n ih =>
    intro s out hn hs ho
    obtain ⟨hp, hr⟩ := parts_char s.data.toList
    rcases hr with ⟨h2, h3⟩ | ⟨rest, h2, h3⟩
    · have e0 : Ev (fun k => language_zzIndex.f k s hy) (-1) := index_none s hs (by rw [h3]; exact hp) s.size 0 (by omega)
      refine Ev.step (fun k => rfl) ?_
      simp only [language_zzSplit.l1]
      refine Ev.bind e0 ?_
      have hq : mkS s.data.toList = s := rfl
      simp only [if_pos (show (-1 : Int) < 0 by omega), if_pos (show out.length < 8796093022208 by omega), parts, h2, ← h3, List.map_cons, List.map_nil, hq]
      exact Ev.now _
    · obtain ⟨q1, q2, q3⟩ := fr_ends s _ rest h2
      have e0 : Ev (fun k => language_zzIndex.f k s hy) (((partsOf s.data.toList).1.length : Nat) : Int) := index_at s hs _ rest h2 hp (partsOf s.data.toList).1.length 0 (by omega)
      have hz : (hy.size : Int) = 1 := rfl
      have hw : wrap64 ((((partsOf s.data.toList).1.length : Nat) : Int) + (hy.size : Int)) = (((partsOf s.data.toList).1.length + 1 : Nat) : Int) := by rw [hz]; unfold wrap64; omega
      refine Ev.step (fun k => rfl) ?_
      simp only [language_zzSplit.l1]
      refine Ev.bind e0 ?_
      simp only [hw, if_neg (show ¬ (((partsOf s.data.toList).1.length : Nat) : Int) < 0 by omega), if_pos (show (0 : Int) ≤ (((partsOf s.data.toList).1.length : Nat) : Int) by omega),
        if_pos (show (((partsOf s.data.toList).1.length : Nat) : Int) ≤ (s.size : Int) by omega), if_pos (show out.length < 8796093022208 by omega),
        if_pos (show (0 : Int) ≤ (((partsOf s.data.toList).1.length + 1 : Nat) : Int) by omega), if_pos (show (((partsOf s.data.toList).1.length + 1 : Nat) : Int) ≤ (s.size : Int) by omega), Int.toNat_natCast, q1, q2]
      have q := ih (mkS rest) (out ++ [mkS (partsOf s.data.toList).1]) (by rw [mkS_size]; omega) (by rw [mkS_size]; omega) (by rw [mkS_size, List.length_append, List.length_singleton]; omega)
      rw [mkS_list] at q
      simpa only [parts, h3, List.map_cons, List.append_assoc, List.cons_append, List.nil_append] using q

theorem fh_len : ∀ (l x : List UInt8), x ∈ fh l → x.length ≤ l.length
  | [], x, h => by simp [fh] at h
  | b :: l, x, h => by
    simp only [fh, List.mem_append, List.mem_map] at h
    rcases h with h | ⟨y, hy, rfl⟩
    · split at h
      · simp at h; subst h; simp
      · simp at h
    · have := fh_len l y hy
      simp; omega
theorem parts_len : ∀ l : List UInt8, (parts l).length ≤ l.length + 1
  | [] => by simp [parts, partsOf]
  | b :: l => by
    have := parts_len l
    by_cases h : b = 45
    · simp [parts, partsOf, h] at this ⊢; omega
    · simp [parts, partsOf, h] at this ⊢; omega

theorem simp_jm (ps : List (List UInt8)) (hl : ps.length ≤ 1000) (hj : ∀ x ∈ jm ps ps.length, x.length ≤ 1000) : ∀ (m : Nat) (out : List ByteArray), m ≤ ps.length → out.length + m ≤ 2000 →
    Ev (fun k => language_Language_SimpleInheritance.l0 k ((ps.take m).map mkS) out) (out ++ ((jm ps m).map mkS).reverse) := by
  intro m
  induction m with
  | zero =>
    intro out _ _
    refine Ev.step (fun k => rfl) ?_
    simp only [language_Language_SimpleInheritance.l0, List.take_zero, List.map_nil, List.length_nil, jm, List.range_zero, List.reverse_nil, List.append_nil, if_pos (show ((0 : Nat) : Int) = 0 from rfl)]
    exact Ev.now _
  | succ m ih =>
    intro out hm ho
    have hlen : ((ps.take (m + 1)).map mkS).length = m + 1 := by simp; omega
    have hJ : (Go.Lib.join (ps.take (m + 1)) [45]).length ≤ 1000 := hj _ (List.mem_map.2 ⟨m, List.mem_range.2 (by omega), rfl⟩)
    have hj1 : strings_Join.f ((ps.take (m + 1)).map mkS) (⟨#[45]⟩ : ByteArray) = some (mkS (Go.Lib.join (ps.take (m + 1)) [45])) := by
      have e : ((ps.take (m + 1)).map mkS).map (·.data.toList) = ps.take (m + 1) := by
        rw [List.map_map]
        exact (List.map_congr_left (fun a _ => mkS_list a)).trans (List.map_id _)
      unfold strings_Join.f
      rw [e, hlen]
      rw [if_pos ⟨by omega, Nat.le_trans hJ (by decide)⟩]
      rfl
    have hw : wrap64 (((m + 1 : Nat) : Int) - 1) = (m : Int) := by unfold wrap64; omega
    have ht : ((ps.take (m + 1)).map mkS).take m = (ps.take m).map mkS := by
      rw [← List.map_take, List.take_take, Nat.min_eq_left (by omega)]
    refine Ev.step (fun k => rfl) ?_
    simp only [language_Language_SimpleInheritance.l0, hj1, hlen, Option.bind_some, hw, if_neg (show ¬ ((m + 1 : Nat) : Int) = 0 by omega), if_pos (show out.length < 8796093022208 by omega),
      if_pos (show (0 : Int) ≤ (m : Int) by omega), if_pos (show (m : Int) ≤ ((m + 1 : Nat) : Int) by omega), Int.toNat_natCast, ht]
    have q := ih (out ++ [mkS (Go.Lib.join (ps.take (m + 1)) [45])]) (by omega) (by rw [List.length_append, List.length_singleton]; omega)
    simpa only [jm_succ, List.map_append, List.map_cons, List.map_nil, List.reverse_append, List.reverse_cons, List.reverse_nil, List.nil_append, List.append_assoc, List.cons_append] using q

theorem impl_copy (l : List ByteArray) (hl : l.length ≤ 2000) : ∀ d i : Nat, i + d = l.length → Ev (fun k => impl_LangInherits.l0 k (l.take i) l (l.length : Int) (i : Int)) l := by
  intro d
  induction d with
  | zero =>
    intro i hi
    refine Ev.step (fun k => rfl) ?_
    simp only [impl_LangInherits.l0, if_neg (show ¬ (i : Int) < (l.length : Int) by omega)]
    rw [List.take_of_length_le (by omega)]
    exact Ev.now _
  | succ d ih =>
    intro i hi
    have hli : i < l.length := by omega
    have hw : wrap64 ((i : Int) + 1) = ((i + 1 : Nat) : Int) := by unfold wrap64; omega
    have hr : l.take i ++ [rdOf ByteArray.empty l (i : Int)] = l.take (i + 1) := by
      rw [List.take_succ_eq_append_getElem hli]; simp [rdOf, hli]
    refine Ev.step (fun k => rfl) ?_
    simp only [impl_LangInherits.l0, if_pos (show (i : Int) < (l.length : Int) by omega), if_pos (show (0 : Int) ≤ (i : Int) by omega), if_pos (show (l.take i).length < 8796093022208 by rw [List.length_take]; omega), hw, hr]
    exact ih (i + 1) (by omega)

theorem same_loop (l : List ByteArray) (hl : l.length ≤ 2000) : ∀ d i : Nat, i + d = l.length → Ev (fun k => laws_FnLangInherits.l0 k l l (l.length : Int) (i : Int)) true := by
  intro d
  induction d with
  | zero =>
    intro i hi
    refine Ev.step (fun k => rfl) ?_
    simp only [laws_FnLangInherits.l0, if_neg (show ¬ (i : Int) < (l.length : Int) by omega)]
    exact Ev.now _
  | succ d ih =>
    intro i hi
    have hw : wrap64 ((i : Int) + 1) = ((i + 1 : Nat) : Int) := by unfold wrap64; omega
    refine Ev.step (fun k => rfl) ?_
    simp only [laws_FnLangInherits.l0, if_pos (show (i : Int) < (l.length : Int) by omega), if_pos (show (0 : Int) ≤ (i : Int) by omega), hw, if_true]
    exact ih (i + 1) (by omega)

theorem inh_impl (s : ByteArray) (hs : s.size ≤ 500) : Ev (fun k => impl_LangInherits.f k s) (((fh s.data.toList ++ [s.data.toList]).map mkS).reverse) := by
  have hsz : s.data.toList.length = s.size := by simp
  have e1 := split_parts s.size s [] (Nat.le_refl _) (by omega) (by simp; omega)
  have hp := parts_len s.data.toList
  have hj : ∀ x ∈ jm (parts s.data.toList) (parts s.data.toList).length, x.length ≤ 1000 := by
    intro x hx
    rw [jm_parts] at hx
    rcases List.mem_append.1 hx with hx | hx
    · have := fh_len _ _ hx; omega
    · rw [List.mem_singleton.1 hx]; omega
  have e2 := simp_jm (parts s.data.toList) (by omega) hj _ [] (Nat.le_refl _) (by simp; omega)
  rw [List.take_length, jm_parts, List.nil_append] at e2
  rw [List.nil_append] at e1
  have e3 : Ev (fun k => language_Language_SimpleInheritance.f k s) (((fh s.data.toList ++ [s.data.toList]).map mkS).reverse) := by
    refine Ev.bind (g := fun k => language_zzSplit.f k s (⟨#[45]⟩ : ByteArray)) (f := fun k t118 => (if 0 ≤ (t118.length : Int) then (if ((t118.length : Int) : Int).toNat ≤ 17592186044416 then (language_Language_SimpleInheritance.l0 k t118 (([] : List ByteArray))) else (none)) else (none))) (a := (parts s.data.toList).map mkS) ?_ ?_
    · exact e1
    · have hl : ((parts s.data.toList).map mkS).length ≤ 1000 := by rw [List.length_map]; omega
      simp only [if_pos (show (0 : Int) ≤ (((parts s.data.toList).map mkS).length : Int) by omega), Int.toNat_natCast, if_pos (show ((parts s.data.toList).map mkS).length ≤ 17592186044416 by omega)]
      exact e2
  refine Ev.bind (g := fun k => language_Language_SimpleInheritance.f k s) (f := fun k t131 => impl_LangInherits.l0 k ([] : List ByteArray) t131 (t131.length : Int) 0) e3 ?_
  have hl : (((fh s.data.toList ++ [s.data.toList]).map mkS).reverse).length ≤ 2000 := by
    rw [← jm_parts]
    simp [jm]; omega
  have q := impl_copy _ hl _ 0 (Nat.zero_add _)
  simpa using q

theorem inh_spec (s : ByteArray) (hs : s.size ≤ 500) : Ev (fun k => spec_LangInherits.f k s) (((fh s.data.toList ++ [s.data.toList]).map mkS).reverse) := by
  have q := spec_heads s (by omega) s.size [s] (Nat.le_refl _) (by simp)
  have hw : wrap64 ((s.size : Int) - 1) = (s.size : Int) - 1 := by unfold wrap64; omega
  have ht : s.data.toList.take s.size = s.data.toList := List.take_of_length_le (by simp)
  rw [ht] at q
  simp only [spec_LangInherits.f, hw]
  simpa only [List.map_append, List.map_cons, List.map_nil, List.reverse_append, List.reverse_cons, List.reverse_nil, List.nil_append, mkS_data] using q

theorem inh_len (s : ByteArray) (hs : s.size ≤ 500) : (((fh s.data.toList ++ [s.data.toList]).map mkS).reverse).length ≤ 2000 := by
  have hsz : s.data.toList.length = s.size := by simp
  have hp := parts_len s.data.toList
  rw [← jm_parts]
  simp [jm]; omega

theorem FnLangInherits : laws_FnLangInherits.Pure := by
  intro a0 h0
  apply Ev.rounds
  by_cases hb : (a0.size : Int) > 2147483647
  · simp only [laws_FnLangInherits.f, if_pos hb]
    exact Ev.now _
  · obtain ⟨ys, hy1, hy2, hy3⟩ := tag_ends a0 h0
    have hz : (strOfNums ys).size ≤ 500 := by rw [size_nums]; omega
    simp only [laws_FnLangInherits.f, if_neg hb]
    refine Ev.bind hy3 ?_
    refine Ev.bind (inh_impl _ hz) ?_
    refine Ev.bind (inh_spec _ hz) ?_
    simp only [if_true]
    exact same_loop _ (inh_len _ hz) _ 0 (Nat.zero_add _)


end Go.Proofs.Ytklkpekjnkjcdaa.Pure
