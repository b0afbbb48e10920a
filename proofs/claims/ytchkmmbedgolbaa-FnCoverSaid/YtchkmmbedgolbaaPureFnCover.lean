/- The law FnCover holds for every list of numbers, either form and every glyph: the place of a glyph among covered ones, whether these are written one by one or by ranges, is that which the reference tells, and none has none. Condition: none (the statement's own bound on sizes lies in the law). -/

import Derived.Lib.IndexLaws
import Derived.Laws.BitsLemmas
import Derived.Test.YtchkmmbedgolbaaPFnCoverx
namespace Go.Proofs.Ytchkmmbedgolbaa.Pure
open Go.RowKit Go.Proofs.Ytchkmmbedgolbaa.PFnCover Go.Proofs.YtchkmmbedgolbaaW.PrintWords Go.Proofs.YtchkmmbedgolbaaW.PrintLast Go.Proofs.YtchkmmbedgolbaaW.PrintMore

/-! ### rising numbers -/
theorem u16_fits (n : Int) (h0 : 0 ≤ n) (h1 : n ≤ 65535) : IntKind.u16.wrap n = n := by simp only [IntKind.wrap, IntKind.bits, IntKind.signed]; simp; omega
theorem w64_fits (n : Int) (h0 : -9223372036854775808 ≤ n) (h1 : n ≤ 9223372036854775807) : wrap64 n = n := by unfold wrap64; omega
structure Ris (C : List Int) : Prop where
  pw : C.Pairwise (· < ·)
  rng : ∀ x ∈ C, 0 ≤ x ∧ x ≤ 65535
  len : C.length ≤ 200
theorem Ris.lt {C : List Int} (h : Ris C) {i j : Nat} (hij : i < j) (hj : j < C.length) : C[i]! < C[j]! := by
  rw [getElem!_pos C i (by omega), getElem!_pos C j hj]
  exact List.pairwise_iff_getElem.1 h.pw i j (by omega) hj hij
theorem Ris.b {C : List Int} (h : Ris C) {i : Nat} (hi : i < C.length) : 0 ≤ C[i]! ∧ C[i]! ≤ 65535 := by
  rw [getElem!_pos C i hi]
  exact h.rng _ (List.getElem_mem hi)
theorem rd_at (C : List Int) (i : Nat) : rd C (i : Int) = C[i]! := by
  unfold rd
  rw [Int.toNat_natCast, List.getD_eq_getElem?_getD, List.getElem!_eq_getElem?_getD]
  rfl
/-- A number of places before which all is false and behind which all is true. -/
theorem cnt_split (p : Nat → Bool) : ∀ L : Nat, (∀ a b, a ≤ b → b < L → p a = true → p b = true) →
    (List.range L).countP (fun i => !p i) ≤ L ∧ (∀ j, j < (List.range L).countP (fun i => !p i) → p j = false) ∧ (∀ j, (List.range L).countP (fun i => !p i) ≤ j → j < L → p j = true) := by
  intro L
  induction L with
  | zero => intro _; simp
  | succ L ih =>
    intro hm
    obtain ⟨h1, h2, h3⟩ := ih (fun a b hab hb => hm a b hab (by omega))
    rw [List.range_succ, List.countP_append]
    by_cases hp : p L = true
    · have e : List.countP (fun i => !p i) [L] = 0 := by simp [hp]
      rw [e, Nat.add_zero]
      refine ⟨by omega, h2, fun j hj hjl => ?_⟩
      rcases Nat.lt_or_ge j L with h | h
      · exact h3 j hj h
      · rw [show j = L by omega]; exact hp
    · have hp' : p L = false := by simpa using hp
      have e : List.countP (fun i => !p i) [L] = 1 := by simp [hp']
      have hall : List.countP (fun i => !p i) (List.range L) = L := by
        rcases Nat.lt_or_ge (List.countP (fun i => !p i) (List.range L)) L with h | h
        · have := h3 _ (Nat.le_refl _) h
          have := hm _ L (by omega) (by omega) this
          exact absurd this hp
        · omega
      rw [e, hall]
      refine ⟨Nat.le_refl _, fun j hj => ?_, fun j hj hjl => by omega⟩
      rcases Nat.lt_or_ge j L with h | h
      · exact h2 j (by rw [hall]; exact h)
      · rw [show j = L by omega]; exact hp'
/-! ### the law's own list: sorted, its repetitions left out -/
theorem compact_ris (zs : List Int) (hs : zs.Pairwise (· ≤ ·)) : (Go.Lib.compact zs).Pairwise (· < ·) ∧ ∀ x ∈ Go.Lib.compact zs, x ∈ zs := by
  have mono : ∀ a b, a ≤ b → b < zs.length → zs[a]! ≤ zs[b]! := by
    intro a b hab hb
    rcases Nat.eq_or_lt_of_le hab with rfl | hlt
    · exact Int.le_refl _
    · rw [getElem!_pos zs a (by omega), getElem!_pos zs b hb]
      exact List.pairwise_iff_getElem.1 hs a b (by omega) hb hlt
  have ga : ∀ i, i < zs.length → zs.toArray[i]! = zs[i]! := by
    intro i hi
    rw [getElem!_pos zs.toArray i (by simpa using hi), getElem!_pos zs i hi]
    simp
  unfold Go.Lib.compact Go.Lib.compactUpTo
  constructor
  · rw [List.pairwise_map]
    have hr : ((List.range zs.length).filter (Go.Lib.keeps zs.toArray)).Pairwise (· < ·) := List.Pairwise.filter _ (List.pairwise_lt_range)
    refine hr.imp_of_mem ?_
    intro a b ha hb hab
    rw [List.mem_filter, List.mem_range] at ha hb
    obtain ⟨hb1, hb2⟩ := hb
    have hk : zs.toArray[b]! ≠ zs.toArray[b - 1]! := by
      have := of_decide_eq_true hb2
      rcases this with h | h
      · omega
      · exact h
    rw [ga b hb1, ga (b - 1) (by omega)] at hk
    rw [ga a ha.1, ga b hb1]
    have h1 := mono a (b - 1) (by omega) (by omega)
    have h2 := mono (b - 1) b (by omega) hb1
    omega
  · intro x hx
    rw [List.mem_map] at hx
    obtain ⟨i, hi, rfl⟩ := hx
    rw [List.mem_filter, List.mem_range] at hi
    rw [ga i hi.1, getElem!_pos zs i hi.1]
    exact List.getElem_mem hi.1
theorem rising_end (xs : List Int) (hl : xs.length ≤ 200) (hb : ∀ x ∈ xs, 0 ≤ x ∧ x ≤ 65535) :
    ∃ C, Ris C ∧ ((slices_Sort_int_int.f xs).bind fun t => (slices_Compact_int_int.f t).bind fun t => some t) = some C := by
  have hs : (xs.mergeSort fun x y => decide (x ≤ y)).Pairwise (· ≤ ·) := by
    have := List.pairwise_mergeSort (le := fun x y : Int => decide (x ≤ y)) (fun a b c h1 h2 => decide_eq_true (Int.le_trans (of_decide_eq_true h1) (of_decide_eq_true h2))) (fun a b => by simp; omega) xs
    exact this.imp (fun h => of_decide_eq_true h)
  have hlen : (xs.mergeSort fun x y => decide (x ≤ y)).length = xs.length := List.length_mergeSort xs
  obtain ⟨h1, h2⟩ := compact_ris _ hs
  refine ⟨_, ⟨h1, fun x hx => hb x ((List.mem_mergeSort).1 (h2 x hx)), ?_⟩, ?_⟩
  · have := Go.Lib.compact_length_le (xs.mergeSort fun x y => decide (x ≤ y))
    omega
  · unfold slices_Sort_int_int.f slices_Compact_int_int.f
    rw [if_pos (by omega), Option.bind_some, if_pos (by omega)]
    rfl
theorem rising_loop (l : List Int) (hb : ∀ x ∈ l, 0 ≤ x ∧ x ≤ 65535) (hl : l.length ≤ 140737488355328) : ∀ d i : Nat, i + d = min l.length 200 → ∀ x3 : List Int, x3.length = i → (∀ x ∈ x3, 0 ≤ x ∧ x ≤ 65535) → ∃ C, Ris C ∧ Ev (fun k => laws_rising.l0 k l x3 (i : Int)) C := by
  intro d
  induction d with
  | zero =>
    intro i hi x3 h3 hx
    obtain ⟨C, hC, hE⟩ := rising_end x3 (by omega) hx
    refine ⟨C, hC, ?_⟩
    by_cases h : (i : Int) < (l.length : Int)
    · refine Ev.step (f := fun _ => some C) (fun k => ?_) (Ev.now _)
      simp only [laws_rising.l0]
      rw [if_pos h, if_neg (by omega)]
      exact hE
    · refine Ev.step (f := fun _ => some C) (fun k => ?_) (Ev.now _)
      simp only [laws_rising.l0]
      rw [if_neg h]
      exact hE
  | succ d ih =>
    intro i hi x3 h3 hx
    have hil : i < l.length := by omega
    have hx0 : 0 ≤ l[i]! ∧ l[i]! ≤ 65535 := by rw [getElem!_pos l i hil]; exact hb _ (List.getElem_mem hil)
    obtain ⟨C, hC, hE⟩ := ih (i + 1) (by omega) (x3 ++ [l[i]!]) (by simp; omega) (fun x hm => by
      rcases List.mem_append.1 hm with h | h
      · exact hx x h
      · rw [List.mem_singleton.1 h]; exact hx0)
    refine ⟨C, hC, Ev.step (fun k => ?_) hE⟩
    simp only [laws_rising.l0]
    rw [if_pos (by omega), if_pos (by omega), if_pos (by omega), if_pos (by omega), rd_at, w64_fits _ (by omega) (by omega), w64_fits _ (by omega) (by omega)]
    rfl
theorem rising_ris (l : List Int) (hb : ∀ x ∈ l, 0 ≤ x ∧ x ≤ 65535) (hl : l.length ≤ 140737488355328) : ∃ C, Ris C ∧ Ev (fun k => laws_rising.f k l) C := by
  obtain ⟨C, h1, h2⟩ := rising_loop l hb hl (min l.length 200) 0 (by omega) [] rfl (by simp)
  exact ⟨C, h1, h2⟩
/-! ### impl's look at what rises -/
theorem implr_loop (C : List Int) (h : Ris C) : ∀ d i : Nat, i + d = C.length → Ev (fun k => impl_rising.l0 k C true C (C.length : Int) (i : Int)) true := by
  intro d
  induction d with
  | zero =>
    intro i hi
    refine Ev.step (f := fun _ => some true) (fun k => ?_) (Ev.now _)
    simp only [impl_rising.l0]
    rw [if_neg (by omega)]
  | succ d ih =>
    intro i hi
    have hil : i < C.length := by omega
    have hlen := h.len
    have hb := h.b hil
    refine Ev.step (fun k => ?_) (ih (i + 1) (by omega))
    simp only [impl_rising.l0]
    rw [if_pos (by omega), if_pos (by omega), if_pos (by omega), if_pos trivial, rd_at, if_pos (by omega), if_pos (by omega), w64_fits ((i : Int) + 1) (by omega) (by omega)]
    by_cases h0 : i = 0
    · rw [if_pos (by omega)]
      rfl
    · have hm : (i : Int) - 1 = ((i - 1 : Nat) : Int) := by omega
      rw [if_neg (by omega), w64_fits ((i : Int) - 1) (by omega) (by omega), if_pos (by omega), if_pos (by omega), hm, rd_at]
      have := h.lt (i := i - 1) (j := i) (by omega) hil
      rw [decide_eq_true (by omega)]
      rfl
theorem implr (C : List Int) (h : Ris C) (g : Int) (h0 : 0 ≤ g) (h1 : g ≤ 65535) : Ev (fun k => impl_rising.f k C g) true := by
  have := implr_loop C h C.length 0 (by omega)
  simp only [impl_rising.f, if_pos (show g ≥ 0 from h0), decide_eq_true h1]
  exact this

/-! ### the place of a number -/
def fnd (C : List Int) (g : Int) : Nat → List Int → Int
  | _, [] => -1
  | i, a :: l => if a = g then (i : Int) else fnd C g (i + 1) l
theorem fnd_none (C : List Int) (g : Int) : ∀ (l : List Int) (i : Nat), g ∉ l → fnd C g i l = -1
  | [], _, _ => rfl
  | a :: l, i, h => by
    simp only [fnd]
    rw [if_neg (fun e => h (by simp [e])), fnd_none C g l (i + 1) (fun hm => h (List.mem_cons_of_mem _ hm))]
theorem fnd_at (C : List Int) (g : Int) : ∀ (l : List Int) (i j : Nat) (hj : j < l.length), l[j] = g → (∀ k (hk : k < j), l[k]'(by omega) ≠ g) → fnd C g i l = ((i + j : Nat) : Int)
  | [], _, _, hj, _, _ => absurd hj (by simp)
  | a :: l, i, 0, _, h, _ => by
    simp only [fnd]
    rw [if_pos (by simpa using h)]
    rfl
  | a :: l, i, j + 1, hj, h, hn => by
    simp only [fnd]
    have h0 := hn 0 (by omega)
    rw [if_neg (by simpa using h0), fnd_at C g l (i + 1) j (by simpa using hj) (by simpa using h) (fun k hk => by have := hn (k + 1) (by omega); simpa using this)]
    omega
def plc (C : List Int) (g : Int) : Int := fnd C g 0 C
theorem Ris.plc_at {C : List Int} (h : Ris C) {g : Int} {j : Nat} (hj : j < C.length) (e : C[j]! = g) : plc C g = (j : Int) := by
  unfold plc
  rw [fnd_at C g C 0 j hj (by rw [getElem!_pos C j hj] at e; exact e) (fun k hk => ?_), Nat.zero_add]
  have := h.lt hk hj
  rw [getElem!_pos C k (by omega)] at this
  omega
theorem plc_none {C : List Int} {g : Int} (h : ∀ j, j < C.length → C[j]! ≠ g) : plc C g = -1 := by
  unfold plc
  refine fnd_none C g C 0 (fun hm => ?_)
  obtain ⟨j, hj, e⟩ := List.mem_iff_getElem.1 hm
  exact h j hj (by rw [getElem!_pos C j hj]; exact e)
theorem spec_loop (C : List Int) (g : Int) (hl : C.length ≤ 200) : ∀ d i : Nat, i + d = C.length → Ev (fun k => spec_fontCover.l0 k g C (C.length : Int) (i : Int)) (fnd C g i (C.drop i)) := by
  intro d
  induction d with
  | zero =>
    intro i hi
    rw [List.drop_of_length_le (by omega)]
    refine Ev.step (f := fun _ => some (-1)) (fun k => ?_) (Ev.now _)
    simp only [spec_fontCover.l0]
    rw [if_neg (by omega)]
  | succ d ih =>
    intro i hi
    have hil : i < C.length := by omega
    rw [List.drop_eq_getElem_cons hil]
    simp only [fnd]
    by_cases e : C[i] = g
    · rw [if_pos e]
      refine Ev.step (f := fun _ => some (i : Int)) (fun k => ?_) (Ev.now _)
      simp only [spec_fontCover.l0]
      rw [if_pos (by omega), if_pos (by omega), if_pos (by omega), rd_at, getElem!_pos C i hil, if_pos e]
    · rw [if_neg e]
      refine Ev.step (fun k => ?_) (ih (i + 1) (by omega))
      simp only [spec_fontCover.l0]
      rw [if_pos (by omega), if_pos (by omega), if_pos (by omega), rd_at, getElem!_pos C i hil, if_neg e, w64_fits ((i : Int) + 1) (by omega) (by omega)]
      rfl
theorem spec_plc (C : List Int) (g : Int) (hl : C.length ≤ 200) : Ev (fun k => spec_CoverRef.f k C g) (plc C g) := by
  refine Ev.bind (g := fun k => spec_fontCover.f k C g) (f := fun _ t => some t) (a := plc C g) ?_ (Ev.now _)
  have := spec_loop C g hl C.length 0 (by omega)
  rw [List.drop_zero] at this
  exact this
/-! ### one by one -/
theorem c1_right (C : List Int) (h : Ris C) (g : Int) : ((tables_Coverage1_Index.f 0 C g).bind fun bt => if bt.2 = true then some bt.1 else some (-1)) = some (plc C g) := by
  have hlen := h.len
  have hm : ∀ a b, a ≤ b → b < C.length → decide (g ≤ C[a]!) = true → decide (g ≤ C[b]!) = true := by
    intro a b hab hb ha
    have ha := of_decide_eq_true ha
    rcases Nat.eq_or_lt_of_le hab with rfl | hlt
    · exact decide_eq_true ha
    · have := h.lt hlt hb
      exact decide_eq_true (by omega)
  obtain ⟨q1, q2, q3⟩ := cnt_split (fun i => decide (g ≤ C[i]!)) C.length hm
  unfold tables_Coverage1_Index.f
  rw [if_pos ⟨h.pw.imp (fun h => Int.le_of_lt h), by omega⟩, Option.bind_some]
  have hn : c1_n C g = (List.range C.length).countP (fun i => !decide (g ≤ C[i]!)) := rfl
  rw [← hn] at q1 q2 q3
  by_cases hc : c1_n C g < C.length ∧ C[c1_n C g]! = g
  · rw [if_pos hc]
    simp only [if_true]
    rw [h.plc_at hc.1 hc.2]
  · rw [if_neg hc]
    simp only [Bool.false_eq_true, if_false]
    rw [plc_none]
    intro j hj e
    rcases Nat.lt_trichotomy j (c1_n C g) with hlt | heq | hgt
    · have := of_decide_eq_false (q2 j hlt)
      omega
    · exact hc ⟨by omega, by rw [← heq]; exact e⟩
    · have h1 := h.lt hgt hj
      have h2 := of_decide_eq_true (q3 (c1_n C g) (Nat.le_refl _) (by omega))
      omega
theorem cover1_loop (C : List Int) (h : Ris C) (g : Int) (h0 : 0 ≤ g) (h1 : g ≤ 65535) : ∀ d i : Nat, i + d = C.length → Ev (fun k => impl_Cover.l0 k g C (C.length : Int) (i : Int) 0 (C.take i)) (plc C g) := by
  have hlen := h.len
  intro d
  induction d with
  | zero =>
    intro i hi
    rw [List.take_of_length_le (by omega)]
    refine Ev.step (f := fun _ => some (plc C g)) (fun k => ?_) (Ev.now _)
    simp only [impl_Cover.l0]
    rw [if_neg (by omega), u16_fits g h0 h1]
    exact c1_right C h g
  | succ d ih =>
    intro i hi
    have hil : i < C.length := by omega
    have hb := h.b hil
    refine Ev.step (fun k => ?_) (ih (i + 1) (by omega))
    simp only [impl_Cover.l0]
    rw [if_pos (by omega), if_pos (by omega), if_pos (by omega), if_pos (by rw [List.length_take]; omega), rd_at, u16_fits _ hb.1 hb.2, w64_fits ((i : Int) + 1) (by omega) (by omega), List.take_succ_eq_append_getElem hil, getElem!_pos C i hil]
    rfl
theorem cover1 (C : List Int) (h : Ris C) (g : Int) (h0 : 0 ≤ g) (h1 : g ≤ 65535) : Ev (fun k => impl_Cover.f k 1 C g) (plc C g) := by
  simp only [impl_Cover.f]
  refine Ev.bind (implr C h g h0 h1) ?_
  simp only [if_true]
  exact cover1_loop C h g h0 h1 C.length 0 (by omega)
/-! ### by ranges -/
structure Inv (C : List Int) (i : Nat) (R : List S97) : Prop where
  pw : R.Pairwise (fun a b => a.f1 < b.f0)
  cov : ∀ j, j < i → ∃ q ∈ R, q.f0 ≤ C[j]! ∧ C[j]! ≤ q.f1
  val : ∀ q ∈ R, q.f0 ≤ q.f1 ∧ ∀ v, q.f0 ≤ v → v ≤ q.f1 → ∃ j, j < i ∧ C[j]! = v ∧ (j : Int) = q.f2 + (v - q.f0)
  last : 0 < i → ∃ F q, R = F ++ [q] ∧ q.f1 = C[i - 1]!
  len : R.length ≤ i
theorem rdT_at (R : List S97) (i : Nat) : rd_T97 R (i : Int) = R.getD i z97 := by
  unfold rd_T97; rw [Int.toNat_natCast]
theorem inv_add {C : List Int} (h : Ris C) {i : Nat} (hi : i < C.length) {R : List S97} (I : Inv C i R) : Inv C (i + 1) (R ++ [⟨C[i]!, C[i]!, (i : Int)⟩]) where
  pw := by
    rw [List.pairwise_append]
    refine ⟨I.pw, List.pairwise_singleton _ _, fun a ha b hb => ?_⟩
    rw [List.mem_singleton.1 hb]
    obtain ⟨h1, h2⟩ := I.val a ha
    obtain ⟨j, hj, e, _⟩ := h2 a.f1 h1 (Int.le_refl _)
    show a.f1 < C[i]!
    rw [← e]
    exact h.lt hj hi
  cov := by
    intro j hj
    rcases Nat.lt_or_ge j i with hlt | hge
    · obtain ⟨q, hq, hh⟩ := I.cov j hlt
      exact ⟨q, List.mem_append_left _ hq, hh⟩
    · have e : j = i := by omega
      subst e
      exact ⟨⟨C[j]!, C[j]!, (j : Int)⟩, by simp, Int.le_refl _, Int.le_refl _⟩
  val := by
    intro q hq
    rcases List.mem_append.1 hq with hq | hq
    · obtain ⟨h1, h2⟩ := I.val q hq
      exact ⟨h1, fun v a b => by obtain ⟨j, hj, hh⟩ := h2 v a b; exact ⟨j, by omega, hh⟩⟩
    · rw [List.mem_singleton.1 hq]
      refine ⟨Int.le_refl _, fun v a b => ⟨i, by omega, ?_, ?_⟩⟩
      · exact Int.le_antisymm a b
      · have : C[i]! = v := Int.le_antisymm a b
        show (i : Int) = (i : Int) + (v - C[i]!)
        omega
  last := fun _ => ⟨R, _, rfl, rfl⟩
  len := by have := I.len; simp; omega
theorem inv_grow {C : List Int} (h : Ris C) {i : Nat} (hi : i < C.length) (h0 : 0 < i) {F : List S97} {q : S97} (I : Inv C i (F ++ [q])) (hq : q.f1 = C[i - 1]!) (e : C[i]! = C[i - 1]! + 1) : Inv C (i + 1) (F ++ [⟨q.f0, C[i]!, q.f2⟩]) where
  pw := by
    have := I.pw
    rw [List.pairwise_append] at this ⊢
    refine ⟨this.1, List.pairwise_singleton _ _, fun a ha b hb => ?_⟩
    rw [List.mem_singleton.1 hb]
    exact this.2.2 a ha q (by simp)
  cov := by
    intro j hj
    rcases Nat.lt_or_ge j i with hlt | hge
    · obtain ⟨p, hp, hh⟩ := I.cov j hlt
      rcases List.mem_append.1 hp with hp | hp
      · exact ⟨p, List.mem_append_left _ hp, hh⟩
      · rw [List.mem_singleton.1 hp] at hh
        exact ⟨⟨q.f0, C[i]!, q.f2⟩, by simp, hh.1, by show C[j]! ≤ C[i]!; omega⟩
    · have e1 : j = i := by omega
      subst e1
      have := (I.val q (by simp)).1
      exact ⟨⟨q.f0, C[j]!, q.f2⟩, by simp, by show q.f0 ≤ C[j]!; omega, Int.le_refl _⟩
  val := by
    intro p hp
    rcases List.mem_append.1 hp with hp | hp
    · obtain ⟨h1, h2⟩ := I.val p (List.mem_append_left _ hp)
      exact ⟨h1, fun v a b => by obtain ⟨j, hj, hh⟩ := h2 v a b; exact ⟨j, by omega, hh⟩⟩
    · rw [List.mem_singleton.1 hp]
      obtain ⟨h1, h2⟩ := I.val q (by simp)
      refine ⟨by show q.f0 ≤ C[i]!; omega, fun v a b => ?_⟩
      change q.f0 ≤ v at a
      change v ≤ C[i]! at b
      by_cases hv : v ≤ q.f1
      · obtain ⟨j, hj, hh⟩ := h2 v a hv
        exact ⟨j, by omega, hh⟩
      · have ev : v = C[i]! := by omega
        obtain ⟨j, hj, hj1, hj2⟩ := h2 q.f1 h1 (Int.le_refl _)
        have ej : j = i - 1 := by
          rcases Nat.lt_or_ge j (i - 1) with hlt | hge
          · have := h.lt hlt (by omega : i - 1 < C.length)
            omega
          · omega
        refine ⟨i, by omega, ev.symm, ?_⟩
        show (i : Int) = q.f2 + (v - q.f0)
        omega
  last := fun _ => ⟨F, _, rfl, rfl⟩
  len := by have := I.len; simp at this ⊢; omega
theorem c2_right (C : List Int) (h : Ris C) (R : List S97) (I : Inv C C.length R) (g : Int) : ((tables_Coverage2_Index.f 0 R g).bind fun bt => if bt.2 = true then some bt.1 else some (-1)) = some (plc C g) := by
  have hlen := h.len
  have hRl := I.len
  have hst : R.Pairwise (fun a b => a.f0 < b.f0) := by
    refine I.pw.imp_of_mem ?_
    intro a b ha hb hab
    have := (I.val a ha).1
    omega
  have gm : ∀ j, j < R.length → R.getD j z97 ∈ R := by
    intro j hj
    rw [List.getD_eq_getElem?_getD, List.getElem?_eq_getElem hj]
    exact List.getElem_mem hj
  have hlt : ∀ a b, a < b → b < R.length → (R.getD a z97).f0 < (R.getD b z97).f0 ∧ (R.getD a z97).f1 < (R.getD b z97).f0 := by
    intro a b hab hb
    rw [List.getD_eq_getElem?_getD, List.getElem?_eq_getElem (by omega : a < R.length), List.getD_eq_getElem?_getD, List.getElem?_eq_getElem hb]
    exact ⟨List.pairwise_iff_getElem.1 hst a b (by omega) hb hab, List.pairwise_iff_getElem.1 I.pw a b (by omega) hb hab⟩
  have hm : ∀ a b, a ≤ b → b < R.length → decide (g ≤ (R.getD a z97).f0) = true → decide (g ≤ (R.getD b z97).f0) = true := by
    intro a b hab hb ha
    have ha := of_decide_eq_true ha
    rcases Nat.eq_or_lt_of_le hab with rfl | hl
    · exact decide_eq_true ha
    · have := (hlt a b hl hb).1
      exact decide_eq_true (by omega)
  obtain ⟨q1, q2, q3⟩ := cnt_split (fun i => decide (g ≤ (R.getD i z97).f0)) R.length hm
  have hn : c2_n R g = (List.range R.length).countP (fun i => !decide (g ≤ (R.getD i z97).f0)) := rfl
  rw [← hn] at q1 q2 q3
  unfold tables_Coverage2_Index.f
  rw [if_pos ⟨hst.imp (fun h => Int.le_of_lt h), by omega⟩, Option.bind_some]
  unfold c2_res
  generalize c2_n R g = r at q1 q2 q3
  by_cases hA : r < R.length ∧ g = (R.getD r z97).f0
  · rw [if_pos hA]
    simp only [if_true]
    obtain ⟨v1, v2⟩ := I.val _ (gm r hA.1)
    obtain ⟨j, hj, e1, e2⟩ := v2 g (by omega) (by omega)
    rw [h.plc_at hj e1, w64_fits _ (by omega) (by omega)]
    congr 1
    omega
  · rw [if_neg hA]
    by_cases hB : 0 < r ∧ (R.getD (r - 1) z97).f0 ≤ g ∧ g ≤ (R.getD (r - 1) z97).f1
    · rw [if_pos hB]
      simp only [if_true]
      obtain ⟨v1, v2⟩ := I.val _ (gm (r - 1) (by omega))
      obtain ⟨j, hj, e1, e2⟩ := v2 g hB.2.1 hB.2.2
      obtain ⟨j0, hj0, e3, e4⟩ := v2 (R.getD (r - 1) z97).f0 (Int.le_refl _) v1
      have b1 := h.b hj
      have b2 := h.b hj0
      rw [h.plc_at hj e1, u16_fits _ (by omega) (by omega), w64_fits (R.getD (r - 1) z97).f2 (by omega) (by omega), w64_fits (g - (R.getD (r - 1) z97).f0) (by omega) (by omega), w64_fits _ (by omega) (by omega)]
      congr 1
      omega
    · rw [if_neg hB]
      simp only [Bool.false_eq_true, if_false]
      rw [plc_none]
      intro j hj e
      obtain ⟨q, hq, c1, c2⟩ := I.cov j hj
      rw [e] at c1 c2
      obtain ⟨m, hml, hmq⟩ := List.mem_iff_getElem.1 hq
      have hg : R.getD m z97 = q := by rw [List.getD_eq_getElem?_getD, List.getElem?_eq_getElem hml]; exact hmq
      rcases Nat.lt_trichotomy m r with hmr | hmr | hmr
      · have p1 := of_decide_eq_false (q2 (r - 1) (by omega))
        rcases Nat.lt_or_ge m (r - 1) with hl | hl
        · have := (hlt m (r - 1) hl (by omega)).2
          rw [hg] at this
          omega
        · have em : m = r - 1 := by omega
          subst em
          rw [hg] at hB
          exact hB ⟨by omega, c1, c2⟩
      · subst hmr
        have p1 := of_decide_eq_true (q3 m (Nat.le_refl _) hml)
        rw [hg] at p1 hA
        exact hA ⟨hml, by omega⟩
      · have p1 := of_decide_eq_true (q3 r (Nat.le_refl _) (by omega))
        have := (hlt r m hmr hml).1
        rw [hg] at this
        omega
theorem cover2_loop (C : List Int) (h : Ris C) (g : Int) (h0 : 0 ≤ g) (h1 : g ≤ 65535) : ∀ (d i : Nat) (R : List S97), i + d = C.length → Inv C i R → Ev (fun k => impl_Cover.l1 k C g C (C.length : Int) (i : Int) 0 R) (plc C g) := by
  have hlen := h.len
  intro d
  induction d with
  | zero =>
    intro i R hi I
    have e : i = C.length := by omega
    subst e
    refine Ev.step (f := fun _ => some (plc C g)) (fun k => ?_) (Ev.now _)
    simp only [impl_Cover.l1]
    rw [if_neg (by omega), u16_fits g h0 h1]
    exact c2_right C h R I g
  | succ d ih =>
    intro i R hi I
    have hil : i < C.length := by omega
    have hb := h.b hil
    have hRl := I.len
    have add : ∀ k, impl_Cover.l1 k C g C (C.length : Int) (wrap64 ((i : Int) + 1)) 0 (R ++ [(⟨IntKind.u16.wrap (rd C (i : Int)), IntKind.u16.wrap (rd C (i : Int)), IntKind.u16.wrap (i : Int)⟩ : S97)]) = impl_Cover.l1 k C g C (C.length : Int) ((i + 1 : Nat) : Int) 0 (R ++ [⟨C[i]!, C[i]!, (i : Int)⟩]) := by
      intro k
      rw [rd_at, u16_fits _ hb.1 hb.2, u16_fits (i : Int) (by omega) (by omega), w64_fits ((i : Int) + 1) (by omega) (by omega)]
      rfl
    have eA := ih (i + 1) _ (by omega) (inv_add h hil I)
    by_cases hi0 : i = 0
    · refine Ev.step (fun k => ?_) eA
      rw [← add]
      simp only [impl_Cover.l1]
      rw [if_pos (by omega), if_pos (by omega), if_pos (by omega), if_neg (by omega), if_pos (by omega)]
    · have hm : (i : Int) - 1 = ((i - 1 : Nat) : Int) := by omega
      have hb1 := h.b (i := i - 1) (by omega)
      obtain ⟨F, q, rfl, hq⟩ := I.last (by omega)
      by_cases he : C[i]! = C[i - 1]! + 1
      · have eG := ih (i + 1) _ (by omega) (inv_grow h hil (by omega) I hq he)
        refine Ev.step (fun k => ?_) eG
        simp only [impl_Cover.l1]
        have hl1 : wrap64 (((F ++ [q]).length : Int) - 1) = (F.length : Int) := by
          rw [List.length_append, List.length_singleton]
          unfold wrap64
          rw [List.length_append, List.length_singleton] at hRl
          omega
        have hset : (F ++ [q]).set F.length (⟨q.f0, C[i]!, q.f2⟩ : S97) = F ++ [⟨q.f0, C[i]!, q.f2⟩] := by
          rw [List.set_append_right _ _ (Nat.le_refl _)]; simp
        have hgd : (F ++ [q]).getD F.length z97 = q := by
          rw [List.getD_eq_getElem?_getD]; simp
        rw [if_pos (by omega), if_pos (by omega), if_pos (by omega), if_pos (by omega), w64_fits ((i : Int) - 1) (by omega) (by omega), if_pos (by omega), if_pos (by omega), hm, rd_at, rd_at, w64_fits (C[i - 1]! + 1) (by omega) (by omega), if_pos he, hl1, if_pos (by omega), if_pos (by rw [List.length_append, List.length_singleton]; omega), Int.toNat_natCast, rdT_at, hgd, u16_fits _ hb.1 hb.2, hset, w64_fits ((i : Int) + 1) (by omega) (by omega)]
        rfl
      · refine Ev.step (fun k => ?_) eA
        rw [← add]
        simp only [impl_Cover.l1]
        rw [if_pos (by omega), if_pos (by omega), if_pos (by omega), if_pos (by omega), w64_fits ((i : Int) - 1) (by omega) (by omega), if_pos (by omega), if_pos (by omega), if_neg (by rw [hm, rd_at, rd_at, w64_fits (C[i - 1]! + 1) (by omega) (by omega)]; exact he), if_pos (by omega)]
theorem cover2 (C : List Int) (h : Ris C) (g : Int) (h0 : 0 ≤ g) (h1 : g ≤ 65535) : Ev (fun k => impl_Cover.f k 2 C g) (plc C g) := by
  simp only [impl_Cover.f]
  refine Ev.bind (implr C h g h0 h1) ?_
  simp only [if_true, if_neg (show ¬ (2 : Int) = 1 by omega)]
  exact cover2_loop C h g h0 h1 C.length 0 [] (by omega) ⟨List.Pairwise.nil, fun j hj => absurd hj (by omega), fun q hq => by simp at hq, fun h => absurd h (by omega), by simp⟩
theorem FnCover : laws_FnCover.Pure := by
  intro l0 a1 a2 hl hl2 hx hw
  have hb : ∀ x ∈ l0, 0 ≤ x ∧ x ≤ 65535 := fun x hm => by
    have := hx x hm
    simpa [Lit.wf, IntKind.bits, IntKind.signed, IntKind.min, IntKind.max] using this
  have hg : 0 ≤ a2 ∧ a2 ≤ 65535 := by
    simpa [Lit.wf, IntKind.bits, IntKind.signed, IntKind.min, IntKind.max] using hw
  apply Ev.rounds
  by_cases hbig : (l0.length : Int) > 2147483647
  · simp only [laws_FnCover.f, if_pos hbig]
    exact Ev.now _
  · obtain ⟨C, hC, hE⟩ := rising_ris l0 hb (by omega)
    simp only [laws_FnCover.f, if_neg hbig]
    refine Ev.bind hE ?_
    rw [w64_fits a2 (by omega) (by omega)]
    have h35 : Ris [3, 5] := ⟨by simp, by simp, by simp⟩
    have e35 := cover1 [3, 5] h35 5 (by omega) (by omega)
    have p35 : plc [3, 5] 5 = 1 := by decide
    rw [p35] at e35
    by_cases ha : a1 = true
    · simp only [if_pos ha]
      refine Ev.bind (cover2 C hC a2 hg.1 hg.2) ?_
      refine Ev.bind (spec_plc C a2 hC.len) ?_
      simp only [if_true]
      refine Ev.bind e35 ?_
      exact Ev.now _
    · simp only [if_neg ha]
      refine Ev.bind (cover1 C hC a2 hg.1 hg.2) ?_
      refine Ev.bind (spec_plc C a2 hC.len) ?_
      simp only [if_true]
      refine Ev.bind e35 ?_
      exact Ev.now _


end Go.Proofs.Ytchkmmbedgolbaa.Pure
