/- The law FnLangNew holds for every input: small letters, digits and hyphens, low lines as hyphens, all else left out (of texts below 128 without @); twice is once. Condition: what the table holds (the card ties it). -/
import Derived.Lib.IndexLaws
import Derived.Test.YtkfphiccfnfkdaaDoorPFnLangNewx2
namespace Go.Proofs.YtkfphiccfnfkdaaDoor.Pure
open Go.RowKit Go.Proofs.YtkfphiccfnfkdaaDoor.PFnLangNew Go.Proofs.YtkfphiccfnfkdaaDoorW.PrintWords Go.Proofs.YtkfphiccfnfkdaaDoorW.PrintLast Go.Proofs.YtkfphiccfnfkdaaDoorW.PrintMore

/-- What the table gives of a byte. -/
def cnl (c : Int) : List Int := if canon.getD c.toNat 0 = 0 then [] else [canon.getD c.toNat 0]
/-- What the reference gives of a byte. -/
def stepC (c : Int) : List Int := if 65 ≤ c ∧ c ≤ 90 then [(c + 32) % 256] else if c = 95 then [45] else if (97 ≤ c ∧ c ≤ 122) ∨ (48 ≤ c ∧ c ≤ 57) ∨ c = 45 then [c] else []
def outs (f : Int → List Int) (s : ByteArray) : Nat → Nat → List Int
  | _, 0 => []
  | i, d + 1 => f (bt s (i : Int)) ++ outs f s (i + 1) d

set_option maxRecDepth 100000 in
theorem table_same : ∀ c : Fin 128, c.val ≠ 64 → cnl (c.val : Int) = stepC (c.val : Int) := by decide +kernel
set_option maxRecDepth 100000 in
theorem table_twice : ∀ c : Fin 128, ∀ y ∈ cnl (c.val : Int), 0 ≤ y ∧ y < 128 ∧ cnl y = [y] := by decide +kernel

theorem cnl_same (c : Int) (h0 : 0 ≤ c) (h : c < 128) (hn : c ≠ 64) : cnl c = stepC c := by
  have q := table_same ⟨c.toNat, by omega⟩ (by simp only; omega)
  have e : ((c.toNat : Nat) : Int) = c := by omega
  simpa only [e] using q
theorem cnl_twice (c : Int) (h0 : 0 ≤ c) (h : c < 128) : ∀ y ∈ cnl c, 0 ≤ y ∧ y < 128 ∧ cnl y = [y] := by
  have q := table_twice ⟨c.toNat, by omega⟩
  have e : ((c.toNat : Nat) : Int) = c := by omega
  simpa only [e] using q
theorem cnl_length (c : Int) : (cnl c).length ≤ 1 := by
  unfold cnl
  split <;> simp

theorem outs_congr {f g : Int → List Int} (s : ByteArray) : ∀ d i : Nat, (∀ j, i ≤ j → j < i + d → f (bt s (j : Int)) = g (bt s (j : Int))) → outs f s i d = outs g s i d
  | 0, _, _ => rfl
  | d + 1, i, h => by
    simp only [outs]
    rw [h i (Nat.le_refl _) (by omega), outs_congr s d (i + 1) (fun j h1 h2 => h j (by omega) (by omega))]

theorem outs_good (s : ByteArray) : ∀ d i : Nat, (∀ j, i ≤ j → j < i + d → bt s (j : Int) < 128) → ∀ y ∈ outs cnl s i d, 0 ≤ y ∧ y < 128 ∧ cnl y = [y]
  | 0, _, _, y, hy => by simp [outs] at hy
  | d + 1, i, h, y, hy => by
    simp only [outs] at hy
    rcases List.mem_append.1 hy with q | q
    · exact cnl_twice _ (bt_range s _).1 (h i (Nat.le_refl _) (by omega)) y q
    · exact outs_good s d (i + 1) (fun j h1 h2 => h j (by omega) (by omega)) y q

theorem size_nums (ys : List Int) : (strOfNums ys).size = ys.length := by simp [strOfNums, ByteArray.size]

theorem bt_nums (ys : List Int) (j : Nat) (hj : j < ys.length) (h : 0 ≤ ys[j] ∧ ys[j] < 128) : bt (strOfNums ys) (j : Int) = ys[j] := by
  have hs : j < (strOfNums ys).size := by rw [size_nums]; exact hj
  rw [← bt_at (strOfNums ys) (j : Int) (by simpa using hs)]
  have e : ((strOfNums ys)[(j : Int).toNat]'(by simpa using hs)) = UInt8.ofNat (ys[j]).toNat := by
    show (strOfNums ys).data[(j : Int).toNat]'_ = _
    simp [strOfNums]
  rw [e]
  simp
  omega

theorem outs_fix (ys : List Int) (h : ∀ y ∈ ys, 0 ≤ y ∧ y < 128 ∧ cnl y = [y]) : ∀ d i : Nat, i + d = ys.length → outs cnl (strOfNums ys) i d = ys.drop i
  | 0, i, hd => by
    simp only [outs]
    rw [List.drop_of_length_le (by omega)]
  | d + 1, i, hd => by
    have hi : i < ys.length := by omega
    have hy := h ys[i] (List.getElem_mem hi)
    simp only [outs]
    rw [bt_nums ys i hi ⟨hy.1, hy.2.1⟩, hy.2.2, outs_fix ys h d (i + 1) (by omega), List.drop_eq_getElem_cons hi]
    rfl

/-! ### NewLanguage -/
theorem nl_loop (s : ByteArray) (hs : s.size ≤ 2147483647) (hall : ∀ j : Nat, j < s.size → bt s (j : Int) < 128) : ∀ (d k pos : Nat) (xs : List Int), pos + d = s.size → xs.length ≤ pos → d < k →
    language_NewLanguage.l0 k s pos xs = some (strOfNums (xs ++ outs cnl s pos d)) := by
  intro d
  induction d with
  | zero =>
    intro k pos xs hd hx hk
    obtain ⟨k, rfl⟩ : ∃ m, k = m + 1 := ⟨k - 1, by omega⟩
    rw [language_NewLanguage.l0, dif_neg (by omega)]
    simp [outs]
  | succ d ih =>
    intro k pos xs hd hx hk
    obtain ⟨k, rfl⟩ : ∃ m, k = m + 1 := ⟨k - 1, by omega⟩
    have hp : pos < s.size := by omega
    have hb : ((s[pos]'hp).toNat : Int) = bt s (pos : Int) := bt_at s (pos : Int) (by simpa using hp)
    have h128 := hall pos hp
    have hc : cnl (bt s (pos : Int)) = if canon.getD (s[pos]'hp).toNat 0 = 0 then [] else [canon.getD (s[pos]'hp).toNat 0] := by
      unfold cnl
      rw [← hb, Int.toNat_natCast]
    rw [language_NewLanguage.l0, dif_pos hp, if_pos (by omega)]
    simp only [outs]
    by_cases h0 : canon.getD (s[pos]'hp).toNat 0 = 0
    · rw [if_pos h0, ih k (pos + 1) xs (by omega) (by omega) (by omega), hc, if_pos h0]
      rfl
    · rw [if_neg h0, if_pos (by omega), ih k (pos + 1) _ (by omega) (by simp; omega) (by omega), hc, if_neg h0, List.append_assoc]

theorem nl_is (s : ByteArray) (hs : s.size ≤ 2147483647) (hall : ∀ j : Nat, j < s.size → bt s (j : Int) < 128) : language_NewLanguage.f s = some (strOfNums (outs cnl s 0 s.size)) := by
  unfold language_NewLanguage.f language_NewLanguage.g
  rw [if_pos hs, nl_loop s hs hall s.size (s.size + 1) 0 [] (by omega) (by simp) (by omega)]
  rfl

/-! ### the two tests of plain text -/
theorem impl_plain (s : ByteArray) (hs : s.size ≤ 2147483647) : ∀ d i : Nat, i + d = s.size → ∃ b : Bool, (b = true ↔ ∀ j : Nat, i ≤ j → j < s.size → bt s (j : Int) < 128) ∧ Ev (fun k => impl_plainText.l0 k s (s.size : Int) (i : Int)) b := by
  intro d
  induction d with
  | zero =>
    intro i hi
    refine ⟨true, ⟨fun _ j h1 h2 => by omega, fun _ => rfl⟩, Ev.step (f := fun _ => some true) (fun k => ?_) (Ev.now _)⟩
    simp only [impl_plainText.l0]; rw [if_neg (by omega)]
  | succ d ih =>
    intro i hi
    have hw : wrap64 ((i : Int) + 1) = ((i + 1 : Nat) : Int) := by unfold wrap64; omega
    by_cases h : bt s (i : Int) ≥ 128
    · refine ⟨false, ⟨fun e => Bool.noConfusion e, fun q => absurd (q i (Nat.le_refl _) (by omega)) (by omega)⟩, Ev.step (f := fun _ => some false) (fun k => ?_) (Ev.now _)⟩
      simp only [impl_plainText.l0]; rw [if_pos (by omega), if_pos (by omega), if_pos (by omega), if_pos h]
    · obtain ⟨b, hb, he⟩ := ih (i + 1) (by omega)
      refine ⟨b, ⟨fun e j h1 h2 => ?_, fun q => hb.2 (fun j h1 h2 => q j (by omega) h2)⟩, Ev.step (fun k => ?_) he⟩
      · rcases Nat.lt_or_ge i j with r | r
        · exact hb.1 e j r h2
        · have : j = i := by omega
          subst this; omega
      · simp only [impl_plainText.l0]; rw [if_pos (by omega), if_pos (by omega), if_pos (by omega), if_neg h, hw]

theorem laws_plain (s : ByteArray) (hs : s.size ≤ 2147483647) : ∀ d i : Nat, i + d = s.size → ∃ b : Bool, (b = true → ∀ j : Nat, i ≤ j → j < s.size → bt s (j : Int) < 128 ∧ bt s (j : Int) ≠ 64) ∧ Ev (fun k => laws_plainText.l0 k s (s.size : Int) (i : Int)) b := by
  intro d
  induction d with
  | zero =>
    intro i hi
    refine ⟨decide ((s.size : Int) ≤ 1000), fun _ j h1 h2 => by omega, Ev.step (f := fun _ => some (decide ((s.size : Int) ≤ 1000))) (fun k => ?_) (Ev.now _)⟩
    simp only [laws_plainText.l0]; rw [if_neg (by omega)]
  | succ d ih =>
    intro i hi
    have hw : wrap64 ((i : Int) + 1) = ((i + 1 : Nat) : Int) := by unfold wrap64; omega
    by_cases h : bt s (i : Int) ≥ 128
    · refine ⟨false, fun e => Bool.noConfusion e, Ev.step (f := fun k => laws_plainText.j1 k s (s.size : Int) (i : Int) true) (fun k => ?_) (Ev.step (f := fun _ => some false) (fun k => ?_) (Ev.now _))⟩
      · simp only [laws_plainText.l0]; rw [if_pos (by omega), if_pos (by omega), if_pos (by omega), if_pos h]
      · rw [laws_plainText.j1, if_pos rfl]
    · by_cases h4 : bt s (i : Int) = 64
      · refine ⟨false, fun e => Bool.noConfusion e, Ev.step (f := fun k => laws_plainText.j1 k s (s.size : Int) (i : Int) true) (fun k => ?_) (Ev.step (f := fun _ => some false) (fun k => ?_) (Ev.now _))⟩
        · simp only [laws_plainText.l0]; rw [if_pos (by omega), if_pos (by omega), if_pos (by omega), if_neg h, h4]; rfl
        · rw [laws_plainText.j1, if_pos rfl]
      · obtain ⟨b, hb, he⟩ := ih (i + 1) (by omega)
        refine ⟨b, fun e j h1 h2 => ?_, Ev.step (f := fun k => laws_plainText.j1 k s (s.size : Int) (i : Int) false) (fun k => ?_) (Ev.step (fun k => ?_) he)⟩
        · rcases Nat.lt_or_ge i j with r | r
          · exact hb e j r h2
          · have : j = i := by omega
            subst this; exact ⟨by omega, h4⟩
        · simp only [laws_plainText.l0]; rw [if_pos (by omega), if_pos (by omega), if_pos (by omega), if_neg h, beq_eq_false_iff_ne.2 h4]
        · rw [laws_plainText.j1, if_neg (by decide), hw]

/-! ### the reference -/
theorem spec_j2 (s : ByteArray) (x3 : List Int) (c n i : Int) (b : Bool) (hl : x3.length < 140737488355328) : ∀ k, spec_LangNew.j2 (k + 1) s x3 c n i b = spec_LangNew.l0 k s (x3 ++ if b = true then [c] else []) n (wrap64 (i + 1)) := by
  intro k
  cases b
  · rw [spec_LangNew.j2, if_neg (by decide), if_neg (by decide), List.append_nil]
  · rw [spec_LangNew.j2, if_pos rfl, if_pos hl, if_pos rfl]

theorem spec_j1 (s : ByteArray) (x3 : List Int) (c n i : Int) (b : Bool) (hl : x3.length < 140737488355328) (hb : b = true ↔ 65 ≤ c ∧ c ≤ 90) :
    ∀ (r : ByteArray), Ev (fun k => spec_LangNew.l0 k s (x3 ++ stepC c) n (wrap64 (i + 1))) r → Ev (fun k => spec_LangNew.j1 k s x3 c n i b) r := by
  intro r h
  unfold stepC at h
  by_cases h0 : b = true
  · rw [if_pos (hb.1 h0)] at h
    refine Ev.step (fun k => ?_) h
    rw [spec_LangNew.j1, if_pos h0, if_pos hl]
  rw [if_neg (fun q => h0 (hb.2 q))] at h
  by_cases h1 : c = 95
  · rw [if_pos h1] at h
    refine Ev.step (fun k => ?_) h
    rw [spec_LangNew.j1, if_neg h0, if_pos h1, if_pos hl]
  rw [if_neg h1] at h
  have j2 : ∀ b2 : Bool, (b2 = true ↔ ((97 ≤ c ∧ c ≤ 122) ∨ (48 ≤ c ∧ c ≤ 57) ∨ c = 45)) → Ev (fun k => spec_LangNew.j2 k s x3 c n i b2) r := by
    intro b2 h2
    refine Ev.step (fun k => spec_j2 s x3 c n i b2 hl k) ?_
    by_cases h3 : b2 = true
    · rw [if_pos (h2.1 h3)] at h
      simpa only [if_pos h3] using h
    · rw [if_neg (fun q => h3 (h2.2 q))] at h
      simpa only [if_neg h3] using h
  have h65 : ¬ (65 ≤ c ∧ c ≤ 90) := fun q => h0 (hb.2 q)
  by_cases a1 : c ≥ 97
  · by_cases a2 : c ≤ 122
    · refine Ev.step (fun k => ?_) (j2 true ⟨fun _ => Or.inl ⟨a1, a2⟩, fun _ => rfl⟩)
      rw [spec_LangNew.j1, if_neg h0, if_neg h1, if_pos a1, if_pos a2]
    · refine Ev.step (fun k => ?_) (j2 (c == 45) ⟨fun q => Or.inr (Or.inr (eq_of_beq q)), fun q => by rcases q with q | q | q <;> first | omega | exact beq_iff_eq.2 q⟩)
      rw [spec_LangNew.j1, if_neg h0, if_neg h1, if_pos a1, if_neg a2, if_pos (by omega), if_neg (by omega)]
  · by_cases a3 : c ≥ 48
    · by_cases a4 : c ≤ 57
      · refine Ev.step (fun k => ?_) (j2 true ⟨fun _ => Or.inr (Or.inl ⟨a3, a4⟩), fun _ => rfl⟩)
        rw [spec_LangNew.j1, if_neg h0, if_neg h1, if_neg a1, if_pos a3, if_pos a4]
      · refine Ev.step (fun k => ?_) (j2 (c == 45) ⟨fun q => Or.inr (Or.inr (eq_of_beq q)), fun q => by rcases q with q | q | q <;> first | omega | exact beq_iff_eq.2 q⟩)
        rw [spec_LangNew.j1, if_neg h0, if_neg h1, if_neg a1, if_pos a3, if_neg a4]
    · refine Ev.step (fun k => ?_) (j2 (c == 45) ⟨fun q => Or.inr (Or.inr (eq_of_beq q)), fun q => by rcases q with q | q | q <;> first | omega | exact beq_iff_eq.2 q⟩)
      rw [spec_LangNew.j1, if_neg h0, if_neg h1, if_neg a1, if_neg a3]

theorem stepC_length (c : Int) : (stepC c).length ≤ 1 := by
  unfold stepC
  split
  · simp
  · split
    · simp
    · split <;> simp

theorem spec_loop (s : ByteArray) (hs : s.size ≤ 2147483647) : ∀ (d i : Nat) (x3 : List Int), i + d = s.size → x3.length ≤ i →
    Ev (fun k => spec_LangNew.l0 k s x3 (s.size : Int) (i : Int)) (strOfNums (x3 ++ outs stepC s i d)) := by
  intro d
  induction d with
  | zero =>
    intro i x3 hi hl
    refine Ev.step (f := fun _ => some (strOfNums x3)) (fun k => ?_) ?_
    · simp only [spec_LangNew.l0]; rw [if_neg (by omega)]
    · simp only [outs, List.append_nil]; exact Ev.now _
  | succ d ih =>
    intro i x3 hi hl
    have hw : wrap64 ((i : Int) + 1) = ((i + 1 : Nat) : Int) := by unfold wrap64; omega
    have hc := stepC_length (bt s (i : Int))
    have q := ih (i + 1) (x3 ++ stepC (bt s (i : Int))) (by omega) (by rw [List.length_append]; omega)
    rw [List.append_assoc] at q
    simp only [outs]
    by_cases h : bt s (i : Int) ≥ 65
    · refine Ev.step (f := fun k => spec_LangNew.j1 k s x3 (bt s (i : Int)) (s.size : Int) (i : Int) (decide (bt s (i : Int) ≤ 90))) (fun k => ?_) (spec_j1 s x3 _ _ _ _ (by omega) ⟨fun e => ⟨h, of_decide_eq_true e⟩, fun e => decide_eq_true e.2⟩ _ (by rw [hw]; exact q))
      simp only [spec_LangNew.l0]; rw [if_pos (by omega), if_pos (by omega), if_pos (by omega), if_pos h]
    · refine Ev.step (f := fun k => spec_LangNew.j1 k s x3 (bt s (i : Int)) (s.size : Int) (i : Int) false) (fun k => ?_) (spec_j1 s x3 _ _ _ _ (by omega) ⟨fun e => Bool.noConfusion e, fun e => absurd e.1 h⟩ _ (by rw [hw]; exact q))
      simp only [spec_LangNew.l0]; rw [if_pos (by omega), if_pos (by omega), if_pos (by omega), if_neg h]

theorem outs_length {f : Int → List Int} (hf : ∀ c, (f c).length ≤ 1) (s : ByteArray) : ∀ d i : Nat, (outs f s i d).length ≤ d
  | 0, _ => Nat.le_refl _
  | d + 1, i => by
    simp only [outs, List.length_append]
    have := hf (bt s (i : Int))
    have := outs_length hf s d (i + 1)
    omega

/-- impl.LangNew: of a text below 128 what the table gives, else nothing; in either way small, and the same again. -/
theorem lang_new (s : ByteArray) (hs : s.size ≤ 2147483647) : ∃ ys : List Int, (∀ y ∈ ys, 0 ≤ y ∧ y < 128 ∧ cnl y = [y]) ∧ ys.length ≤ s.size ∧ Ev (fun k => impl_LangNew.f k s) (strOfNums ys) ∧ ((∀ j : Nat, j < s.size → bt s (j : Int) < 128) → ys = outs cnl s 0 s.size) := by
  obtain ⟨b, hb, he⟩ := impl_plain s hs s.size 0 (by omega)
  cases b with
  | true =>
    have hall : ∀ j : Nat, j < s.size → bt s (j : Int) < 128 := fun j hj => hb.1 rfl j (Nat.zero_le _) hj
    refine ⟨outs cnl s 0 s.size, outs_good s s.size 0 (fun j _ h2 => hall j (by omega)), outs_length cnl_length s _ _, ?_, fun _ => rfl⟩
    refine Ev.bind (f := fun k t101 => if t101 = true then ((language_NewLanguage.f s).bind fun t102 => (some t102)) else (some (⟨#[]⟩ : ByteArray))) he ?_
    refine Ev.congr (f := fun _ => some (strOfNums (outs cnl s 0 s.size))) (fun k => ?_) (Ev.now _)
    rw [if_pos rfl, nl_is s hs hall]
    rfl
  | false =>
    refine ⟨[], fun y hy => by simp at hy, Nat.zero_le _, ?_, fun h => absurd (hb.2 (fun j _ hj => h j hj)) (by decide)⟩
    refine Ev.bind (f := fun k t101 => if t101 = true then ((language_NewLanguage.f s).bind fun t102 => (some t102)) else (some (⟨#[]⟩ : ByteArray))) he ?_
    refine Ev.congr (f := fun _ => some (⟨#[]⟩ : ByteArray)) (fun k => ?_) (Ev.now _)
    rw [if_neg (by decide)]

/-- What came out goes in and comes out the same. -/
theorem lang_new_again (ys : List Int) (h : ∀ y ∈ ys, 0 ≤ y ∧ y < 128 ∧ cnl y = [y]) (hl : ys.length ≤ 2147483647) : Ev (fun k => impl_LangNew.f k (strOfNums ys)) (strOfNums ys) := by
  obtain ⟨zs, _, _, he, hz⟩ := lang_new (strOfNums ys) (by rw [size_nums]; exact hl)
  have e : zs = ys := by
    rw [hz (fun j hj => by
      rw [size_nums] at hj
      have q := h ys[j] (List.getElem_mem hj)
      rw [bt_nums ys j hj ⟨q.1, q.2.1⟩]
      exact q.2.1), size_nums, outs_fix ys h ys.length 0 (by omega)]
    rfl
  rwa [e] at he

def askS : ByteArray := ⟨#[102, 114, 95, 66, 69, 33]⟩
set_option maxRecDepth 100000 in
theorem ask_ascii : ∀ j : Fin 6, bt askS ((j.val : Nat) : Int) < 128 := by decide +kernel
set_option maxRecDepth 100000 in
theorem ask_outs : ((strOfNums (outs cnl askS 0 6)).toList == ([102, 114, 45, 98, 101] : List UInt8)) = true := by decide +kernel

theorem fr_be : ∃ t : ByteArray, Ev (fun k => impl_LangNew.f k (⟨#[102, 114, 95, 66, 69, 33]⟩ : ByteArray)) t ∧ (t.toList == ([102, 114, 45, 98, 101] : List UInt8)) = true := by
  have hsz : askS.size = 6 := rfl
  obtain ⟨ys, _, _, he, hz⟩ := lang_new askS (by rw [hsz]; omega)
  refine ⟨_, he, ?_⟩
  rw [hz (fun j hj => ask_ascii ⟨j, by rw [hsz] at hj; exact hj⟩), hsz]
  exact ask_outs

theorem FnLangNew : laws_FnLangNew.Pure := by
  intro s _
  refine Ev.rounds ?_
  unfold laws_FnLangNew.f
  by_cases hbig : (s.size : Int) > 2147483647
  · refine Ev.congr (f := fun _ => some true) (fun k => ?_) (Ev.now _)
    rw [if_pos hbig]
  have hs : s.size ≤ 2147483647 := by omega
  obtain ⟨ys, hys, hl, he, hz⟩ := lang_new s hs
  obtain ⟨c, hc, hce⟩ := laws_plain s hs s.size 0 (by omega)
  obtain ⟨t, hte, htl⟩ := fr_be
  have hj : Ev (fun k => laws_FnLangNew.j0 k (strOfNums ys) false) true := by
    refine Ev.step (f := fun k => (impl_LangNew.f k (strOfNums ys)).bind fun t115 => (if t115.toList = (strOfNums ys).toList then ((impl_LangNew.f k (⟨#[102, 114, 95, 66, 69, 33]⟩ : ByteArray)).bind fun t116 => (some (t116.toList == ([102, 114, 45, 98, 101] : List UInt8)))) else (some false))) (fun k => ?_) ?_
    · rw [laws_FnLangNew.j0, if_neg (by decide)]
    · refine Ev.bind (f := fun k t115 => (if t115.toList = (strOfNums ys).toList then ((impl_LangNew.f k (⟨#[102, 114, 95, 66, 69, 33]⟩ : ByteArray)).bind fun t116 => (some (t116.toList == ([102, 114, 45, 98, 101] : List UInt8)))) else (some false))) (lang_new_again ys hys (by omega)) ?_
      refine Ev.congr (f := fun k => (impl_LangNew.f k (⟨#[102, 114, 95, 66, 69, 33]⟩ : ByteArray)).bind fun t116 => (some (t116.toList == ([102, 114, 45, 98, 101] : List UInt8)))) (fun k => if_pos rfl) ?_
      refine Ev.bind (f := fun _ t116 => some (t116.toList == ([102, 114, 45, 98, 101] : List UInt8))) hte ?_
      rw [htl]
      exact Ev.now _
  refine Ev.congr (f := fun k => (impl_LangNew.f k s).bind fun t112 => ((laws_plainText.f k s).bind fun t113 => (if t113 = true then ((spec_LangNew.f k s).bind fun t114 => (laws_FnLangNew.j0 k t112 (t112.toList != t114.toList))) else (laws_FnLangNew.j0 k t112 false)))) (fun k => if_neg hbig) ?_
  refine Ev.bind (f := fun k t112 => ((laws_plainText.f k s).bind fun t113 => (if t113 = true then ((spec_LangNew.f k s).bind fun t114 => (laws_FnLangNew.j0 k t112 (t112.toList != t114.toList))) else (laws_FnLangNew.j0 k t112 false)))) he ?_
  refine Ev.bind (f := fun k t113 => (if t113 = true then ((spec_LangNew.f k s).bind fun t114 => (laws_FnLangNew.j0 k (strOfNums ys) ((strOfNums ys).toList != t114.toList))) else (laws_FnLangNew.j0 k (strOfNums ys) false))) hce ?_
  cases c with
  | false => exact Ev.congr (fun k => if_neg (by decide)) hj
  | true =>
    refine Ev.congr (f := fun k => (spec_LangNew.f k s).bind fun t114 => (laws_FnLangNew.j0 k (strOfNums ys) ((strOfNums ys).toList != t114.toList))) (fun k => if_pos rfl) ?_
    have hall := hc rfl
    have e : ys = outs stepC s 0 s.size := by
      rw [hz (fun j hj => (hall j (Nat.zero_le _) hj).1)]
      exact outs_congr s s.size 0 (fun j _ h2 => cnl_same _ (bt_range s _).1 (hall j (Nat.zero_le _) (by omega)).1 (hall j (Nat.zero_le _) (by omega)).2)
    have hsp := spec_loop s hs s.size 0 [] (by omega) (Nat.zero_le _)
    rw [List.nil_append, ← e] at hsp
    refine Ev.bind (f := fun k t114 => laws_FnLangNew.j0 k (strOfNums ys) ((strOfNums ys).toList != t114.toList)) hsp ?_
    rw [bne_self_eq_false]
    exact hj

end Go.Proofs.YtkfphiccfnfkdaaDoor.Pure
