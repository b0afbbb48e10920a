/- The law FnClassOf holds for every list of glyphs and classes, either form and every glyph: a glyph's class, whether classes are written one by one or by ranges, is that which the reference tells; where none is told, it has none. Condition: none (the statement's own bounds on sizes lie in the law). -/

import Derived.Lib.IndexLaws
import Derived.Laws.BitsLemmas
import Derived.Test.YtchkmmbedgolbaaPFnClassOfx
namespace Go.Proofs.Ytchkmmbedgolbaa.Pure
open Go.RowKit Go.Proofs.Ytchkmmbedgolbaa.PFnClassOf Go.Proofs.YtchkmmbedgolbaaW.PrintWords Go.Proofs.YtchkmmbedgolbaaW.PrintLast Go.Proofs.YtchkmmbedgolbaaW.PrintMore

/-! ### rising numbers -/
theorem u16_fits (n : Int) (h0 : 0 ≤ n) (h1 : n ≤ 65535) : IntKind.u16.wrap n = n := by simp only [IntKind.wrap, IntKind.bits, IntKind.signed]; simp; omega
theorem w64_fits (n : Int) (h0 : -9223372036854775808 ≤ n) (h1 : n ≤ 9223372036854775807) : wrap64 n = n := by unfold wrap64; omega
structure Ris (C : List Int) : Prop where
  pw : C.Pairwise (· < ·)
  rng : ∀ x ∈ C, 0 ≤ x ∧ x ≤ 65535
  len : C.length ≤ 200
theorem Ris.lt {C : List Int} (h : Ris C) {i j : Nat} (hij : i < j) (hj : j < C.length) : C[i]! < C[j]! := by
  rw [getElem!_pos C i (by omega), getElem!_pos C j hj]
  exact List.pairwise_iff_getElem.1 h.pw i j (by omega) hj hij
theorem Ris.b {C : List Int} (h : Ris C) {i : Nat} (hi : i < C.length) : 0 ≤ C[i]! ∧ C[i]! ≤ 65535 := by
  rw [getElem!_pos C i hi]
  exact h.rng _ (List.getElem_mem hi)
theorem rd_at (C : List Int) (i : Nat) : rd C (i : Int) = C[i]! := by
  unfold rd
  rw [Int.toNat_natCast, List.getD_eq_getElem?_getD, List.getElem!_eq_getElem?_getD]
  rfl
/-- A number of places before which all is false and behind which all is true. -/
theorem cnt_split (p : Nat → Bool) : ∀ L : Nat, (∀ a b, a ≤ b → b < L → p a = true → p b = true) →
    (List.range L).countP (fun i => !p i) ≤ L ∧ (∀ j, j < (List.range L).countP (fun i => !p i) → p j = false) ∧ (∀ j, (List.range L).countP (fun i => !p i) ≤ j → j < L → p j = true) := by
  intro L
  induction L with
  | zero => intro _; simp
  | succ L ih =>
    intro hm
    obtain ⟨h1, h2, h3⟩ := ih (fun a b hab hb => hm a b hab (by omega))
    rw [List.range_succ, List.countP_append]
    by_cases hp : p L = true
    · have e : List.countP (fun i => !p i) [L] = 0 := by simp [hp]
      rw [e, Nat.add_zero]
      refine ⟨by omega, h2, fun j hj hjl => ?_⟩
      rcases Nat.lt_or_ge j L with h | h
      · exact h3 j hj h
      · rw [show j = L by omega]; exact hp
    · have hp' : p L = false := by simpa using hp
      have e : List.countP (fun i => !p i) [L] = 1 := by simp [hp']
      have hall : List.countP (fun i => !p i) (List.range L) = L := by
        rcases Nat.lt_or_ge (List.countP (fun i => !p i) (List.range L)) L with h | h
        · have := h3 _ (Nat.le_refl _) h
          have := hm _ L (by omega) (by omega) this
          exact absurd this hp
        · omega
      rw [e, hall]
      refine ⟨Nat.le_refl _, fun j hj => ?_, fun j hj hjl => by omega⟩
      rcases Nat.lt_or_ge j L with h | h
      · exact h2 j (by rw [hall]; exact h)
      · rw [show j = L by omega]; exact hp'
/-! ### the law's own list: sorted, its repetitions left out -/
theorem compact_ris (zs : List Int) (hs : zs.Pairwise (· ≤ ·)) : (Go.Lib.compact zs).Pairwise (· < ·) ∧ ∀ x ∈ Go.Lib.compact zs, x ∈ zs := by
  have mono : ∀ a b, a ≤ b → b < zs.length → zs[a]! ≤ zs[b]! := by
    intro a b hab hb
    rcases Nat.eq_or_lt_of_le hab with rfl | hlt
    · exact Int.le_refl _
    · rw [getElem!_pos zs a (by omega), getElem!_pos zs b hb]
      exact List.pairwise_iff_getElem.1 hs a b (by omega) hb hlt
  have ga : ∀ i, i < zs.length → zs.toArray[i]! = zs[i]! := by
    intro i hi
    rw [getElem!_pos zs.toArray i (by simpa using hi), getElem!_pos zs i hi]
    simp
  unfold Go.Lib.compact Go.Lib.compactUpTo
  constructor
  · rw [List.pairwise_map]
    have hr : ((List.range zs.length).filter (Go.Lib.keeps zs.toArray)).Pairwise (· < ·) := List.Pairwise.filter _ (List.pairwise_lt_range)
    refine hr.imp_of_mem ?_
    intro a b ha hb hab
    rw [List.mem_filter, List.mem_range] at ha hb
    obtain ⟨hb1, hb2⟩ := hb
    have hk : zs.toArray[b]! ≠ zs.toArray[b - 1]! := by
      have := of_decide_eq_true hb2
      rcases this with h | h
      · omega
      · exact h
    rw [ga b hb1, ga (b - 1) (by omega)] at hk
    rw [ga a ha.1, ga b hb1]
    have h1 := mono a (b - 1) (by omega) (by omega)
    have h2 := mono (b - 1) b (by omega) hb1
    omega
  · intro x hx
    rw [List.mem_map] at hx
    obtain ⟨i, hi, rfl⟩ := hx
    rw [List.mem_filter, List.mem_range] at hi
    rw [ga i hi.1, getElem!_pos zs i hi.1]
    exact List.getElem_mem hi.1
theorem rising_end (xs : List Int) (hl : xs.length ≤ 200) (hb : ∀ x ∈ xs, 0 ≤ x ∧ x ≤ 65535) :
    ∃ C, Ris C ∧ ((slices_Sort_int_int.f xs).bind fun t => (slices_Compact_int_int.f t).bind fun t => some t) = some C := by
  have hs : (xs.mergeSort fun x y => decide (x ≤ y)).Pairwise (· ≤ ·) := by
    have := List.pairwise_mergeSort (le := fun x y : Int => decide (x ≤ y)) (fun a b c h1 h2 => decide_eq_true (Int.le_trans (of_decide_eq_true h1) (of_decide_eq_true h2))) (fun a b => by simp; omega) xs
    exact this.imp (fun h => of_decide_eq_true h)
  have hlen : (xs.mergeSort fun x y => decide (x ≤ y)).length = xs.length := List.length_mergeSort xs
  obtain ⟨h1, h2⟩ := compact_ris _ hs
  refine ⟨_, ⟨h1, fun x hx => hb x ((List.mem_mergeSort).1 (h2 x hx)), ?_⟩, ?_⟩
  · have := Go.Lib.compact_length_le (xs.mergeSort fun x y => decide (x ≤ y))
    omega
  · unfold slices_Sort_int_int.f slices_Compact_int_int.f
    rw [if_pos (by omega), Option.bind_some, if_pos (by omega)]
    rfl
theorem rising_loop (l : List Int) (hb : ∀ x ∈ l, 0 ≤ x ∧ x ≤ 65535) (hl : l.length ≤ 140737488355328) : ∀ d i : Nat, i + d = min l.length 200 → ∀ x3 : List Int, x3.length = i → (∀ x ∈ x3, 0 ≤ x ∧ x ≤ 65535) → ∃ C, Ris C ∧ Ev (fun k => laws_rising.l0 k l x3 (i : Int)) C := by
  intro d
  induction d with
  | zero =>
    intro i hi x3 h3 hx
    obtain ⟨C, hC, hE⟩ := rising_end x3 (by omega) hx
    refine ⟨C, hC, ?_⟩
    by_cases h : (i : Int) < (l.length : Int)
    · refine Ev.step (f := fun _ => some C) (fun k => ?_) (Ev.now _)
      simp only [laws_rising.l0]
      rw [if_pos h, if_neg (by omega)]
      exact hE
    · refine Ev.step (f := fun _ => some C) (fun k => ?_) (Ev.now _)
      simp only [laws_rising.l0]
      rw [if_neg h]
      exact hE
  | succ d ih =>
    intro i hi x3 h3 hx
    have hil : i < l.length := by omega
    have hx0 : 0 ≤ l[i]! ∧ l[i]! ≤ 65535 := by rw [getElem!_pos l i hil]; exact hb _ (List.getElem_mem hil)
    obtain ⟨C, hC, hE⟩ := ih (i + 1) (by omega) (x3 ++ [l[i]!]) (by simp; omega) (fun x hm => by
      rcases List.mem_append.1 hm with h | h
      · exact hx x h
      · rw [List.mem_singleton.1 h]; exact hx0)
    refine ⟨C, hC, Ev.step (fun k => ?_) hE⟩
    simp only [laws_rising.l0]
    rw [if_pos (by omega), if_pos (by omega), if_pos (by omega), if_pos (by omega), rd_at, w64_fits _ (by omega) (by omega), w64_fits _ (by omega) (by omega)]
    rfl
theorem rising_ris (l : List Int) (hb : ∀ x ∈ l, 0 ≤ x ∧ x ≤ 65535) (hl : l.length ≤ 140737488355328) : ∃ C, Ris C ∧ Ev (fun k => laws_rising.f k l) C := by
  obtain ⟨C, h1, h2⟩ := rising_loop l hb hl (min l.length 200) 0 (by omega) [] rfl (by simp)
  exact ⟨C, h1, h2⟩
/-! ### impl's look at what rises -/
theorem implr_loop (C : List Int) (h : Ris C) : ∀ d i : Nat, i + d = C.length → Ev (fun k => impl_rising.l0 k C true C (C.length : Int) (i : Int)) true := by
  intro d
  induction d with
  | zero =>
    intro i hi
    refine Ev.step (f := fun _ => some true) (fun k => ?_) (Ev.now _)
    simp only [impl_rising.l0]
    rw [if_neg (by omega)]
  | succ d ih =>
    intro i hi
    have hil : i < C.length := by omega
    have hlen := h.len
    have hb := h.b hil
    refine Ev.step (fun k => ?_) (ih (i + 1) (by omega))
    simp only [impl_rising.l0]
    rw [if_pos (by omega), if_pos (by omega), if_pos (by omega), if_pos trivial, rd_at, if_pos (by omega), if_pos (by omega), w64_fits ((i : Int) + 1) (by omega) (by omega)]
    by_cases h0 : i = 0
    · rw [if_pos (by omega)]
      rfl
    · have hm : (i : Int) - 1 = ((i - 1 : Nat) : Int) := by omega
      rw [if_neg (by omega), w64_fits ((i : Int) - 1) (by omega) (by omega), if_pos (by omega), if_pos (by omega), hm, rd_at]
      have := h.lt (i := i - 1) (j := i) (by omega) hil
      rw [decide_eq_true (by omega)]
      rfl

/-! ### glyphs and their classes -/
def gl (L : List S27) (j : Nat) : Int := (L.getD j z27).f0
def kl (L : List S27) (j : Nat) : Int := (L.getD j z27).f1
structure Cls (L : List S27) : Prop where
  lt : ∀ i j, i < j → j < L.length → gl L i < gl L j
  rng : ∀ j, j < L.length → 0 ≤ gl L j ∧ gl L j ≤ 65535 ∧ 1 ≤ kl L j ∧ kl L j ≤ 5
  len : L.length ≤ 200
theorem rd27 (L : List S27) (i : Nat) : rd_T27 L (i : Int) = L.getD i z27 := by unfold rd_T27; rw [Int.toNat_natCast]
theorem getD_lt (L : List S27) (i : Nat) (h : i < L.length) : L.getD i z27 = L[i] := by rw [List.getD_eq_getElem?_getD, List.getElem?_eq_getElem h]; rfl
def cls : List S27 → Int → Int
  | [], _ => 0
  | a :: l, g => if a.f0 = g then a.f1 else cls l g
theorem cls_zero : ∀ (L : List S27) (g : Int), (∀ j, j < L.length → gl L j ≠ g) → cls L g = 0
  | [], _, _ => rfl
  | a :: l, g, h => by
    simp only [cls]
    have h0 := h 0 (by simp)
    rw [if_neg (by simpa [gl] using h0), cls_zero l g (fun j hj => by have := h (j + 1) (by simpa using hj); simpa [gl] using this)]
theorem cls_at' : ∀ (L : List S27) (g : Int) (j : Nat), j < L.length → gl L j = g → (∀ k, k < j → gl L k ≠ g) → cls L g = kl L j
  | [], _, _, h, _, _ => absurd h (by simp)
  | a :: l, g, 0, _, e, _ => by
    simp only [cls]
    rw [if_pos (by simpa [gl] using e)]
    simp [kl]
  | a :: l, g, j + 1, h, e, hn => by
    simp only [cls]
    have h0 := hn 0 (by omega)
    rw [if_neg (by simpa [gl] using h0), cls_at' l g j (by simpa using h) (by simpa [gl] using e) (fun k hk => by have := hn (k + 1) (by omega); simpa [gl] using this)]
    simp [kl]
theorem Cls.at {L : List S27} (h : Cls L) {g : Int} {j : Nat} (hj : j < L.length) (e : gl L j = g) : cls L g = kl L j :=
  cls_at' L g j hj e (fun k hk => by have := h.lt k j hk hj; omega)
theorem cspec_loop (L : List S27) (g : Int) (hl : L.length ≤ 200) : ∀ d i : Nat, i + d = L.length → Ev (fun k => spec_fontClass.l0 k g L (L.length : Int) (i : Int)) (cls (L.drop i) g) := by
  intro d
  induction d with
  | zero =>
    intro i hi
    rw [List.drop_of_length_le (by omega)]
    refine Ev.step (f := fun _ => some 0) (fun k => ?_) (Ev.now _)
    simp only [spec_fontClass.l0]
    rw [if_neg (by omega)]
  | succ d ih =>
    intro i hi
    have hil : i < L.length := by omega
    rw [List.drop_eq_getElem_cons hil]
    simp only [cls]
    by_cases e : L[i].f0 = g
    · rw [if_pos e]
      refine Ev.step (f := fun _ => some L[i].f1) (fun k => ?_) (Ev.now _)
      simp only [spec_fontClass.l0]
      rw [if_pos (by omega), if_pos (by omega), if_pos (by omega), rd27, getD_lt L i hil, if_pos e]
    · rw [if_neg e]
      refine Ev.step (fun k => ?_) (ih (i + 1) (by omega))
      simp only [spec_fontClass.l0]
      rw [if_pos (by omega), if_pos (by omega), if_pos (by omega), rd27, getD_lt L i hil, if_neg e, w64_fits ((i : Int) + 1) (by omega) (by omega)]
      rfl
theorem cspec (L : List S27) (g : Int) (hl : L.length ≤ 200) : Ev (fun k => spec_ClassRef.f k L g) (cls L g) := by
  refine Ev.bind (g := fun k => spec_fontClass.f k L g) (f := fun _ t => some t) (a := cls L g) ?_ (Ev.now _)
  have := cspec_loop L g hl L.length 0 (by omega)
  rw [List.drop_zero] at this
  exact this
/-! ### what both forms begin with -/
def gs (L : List S27) : List Int := L.map (·.f0)
theorem gs_at (L : List S27) (j : Nat) (hj : j < L.length) : (gs L)[j]! = gl L j := by
  rw [getElem!_pos (gs L) j (by simpa [gs] using hj)]
  simp [gs, gl, hj]
theorem Cls.ris {L : List S27} (h : Cls L) : Ris (gs L) where
  pw := by
    rw [List.pairwise_iff_getElem]
    intro i j hi hj hij
    have hj' : j < L.length := by simpa [gs] using hj
    have := h.lt i j hij hj'
    rw [← gs_at L i (by omega), ← gs_at L j hj', getElem!_pos (gs L) i hi, getElem!_pos (gs L) j hj] at this
    exact this
  rng := by
    intro x hx
    obtain ⟨j, hj, rfl⟩ := List.mem_iff_getElem.1 hx
    have hj' : j < L.length := by simpa [gs] using hj
    have := h.rng j hj'
    rw [← gs_at L j hj', getElem!_pos (gs L) j hj] at this
    exact ⟨this.1, this.2.1⟩
  len := by have := h.len; simpa [gs] using this
theorem implr' (C : List Int) (h : Ris C) (g : Int) (h0 : 0 ≤ g) (h1 : g ≤ 65535) : Ev (fun k => impl_rising.f k C g) true := by
  have := implr_loop C h C.length 0 (by omega)
  simp only [impl_rising.f, if_pos (show g ≥ 0 from h0), decide_eq_true h1]
  exact Ev.step (fun k => rfl) (by simp only [impl_rising.j0]; exact this)
theorem head_loop {r : Int × Bool} (m : Int) (L : List S27) (h : Cls L) (g : Int) (h0 : 0 ≤ g) (h1 : g ≤ 65535) (hE : Ev (fun k => impl_ClassOf.j1 k m L g false) r) : ∀ d i : Nat, i + d = L.length → Ev (fun k => impl_ClassOf.l0 k m L g ((gs L).take i) true L (L.length : Int) (i : Int)) r := by
  have hlen := h.len
  intro d
  induction d with
  | zero =>
    intro i hi
    have hgl : (gs L).length = L.length := by simp [gs]
    rw [List.take_of_length_le (by omega)]
    refine Ev.step (fun k => rfl) ?_
    simp only [impl_ClassOf.l0, if_neg (show ¬ (i : Int) < (L.length : Int) by omega), if_true]
    refine Ev.bind (implr' (gs L) h.ris g h0 h1) ?_
    exact hE
  | succ d ih =>
    intro i hi
    have hil : i < L.length := by omega
    have hgl : (gs L).length = L.length := by simp [gs]
    obtain ⟨b1, b2, b3, b4⟩ := h.rng i hil
    refine Ev.step (fun k => ?_) (ih (i + 1) (by omega))
    simp only [impl_ClassOf.l0, Option.bind_some]
    have e1 : (L.getD i z27).f1 = kl L i := rfl
    have e0 : (gs L).take (i + 1) = (gs L).take i ++ [(L.getD i z27).f0] := by
      rw [List.take_succ_eq_append_getElem (by omega)]
      congr 2
      simp [gs, hil]
    rw [if_pos (by omega), if_pos (by omega), if_pos (by omega), if_pos (by rw [List.length_take]; omega), if_pos trivial, rd27, e1, if_pos (by omega), decide_eq_true (by omega), w64_fits ((i : Int) + 1) (by omega) (by omega), e0]
    rfl
/-! ### by ranges -/
structure Inv (L : List S27) (i : Nat) (R : List S107) : Prop where
  pw : R.Pairwise (fun a b => a.f1 < b.f0)
  cov : ∀ j, j < i → ∃ q ∈ R, q.f0 ≤ gl L j ∧ gl L j ≤ q.f1
  val : ∀ q ∈ R, q.f0 ≤ q.f1 ∧ ∀ v, q.f0 ≤ v → v ≤ q.f1 → ∃ j, j < i ∧ gl L j = v ∧ kl L j = q.f2
  last : 0 < i → ∃ F q, R = F ++ [q] ∧ q.f1 = gl L (i - 1) ∧ q.f2 = kl L (i - 1)
  len : R.length ≤ i
theorem rd107 (R : List S107) (i : Nat) : rd_T107 R (i : Int) = R.getD i z107 := by unfold rd_T107; rw [Int.toNat_natCast]
theorem inv_add {L : List S27} (h : Cls L) {i : Nat} (hi : i < L.length) {R : List S107} (I : Inv L i R) : Inv L (i + 1) (R ++ [⟨gl L i, gl L i, kl L i⟩]) where
  pw := by
    rw [List.pairwise_append]
    refine ⟨I.pw, List.pairwise_singleton _ _, fun a ha b hb => ?_⟩
    rw [List.mem_singleton.1 hb]
    obtain ⟨h1, h2⟩ := I.val a ha
    obtain ⟨j, hj, e, _⟩ := h2 a.f1 h1 (Int.le_refl _)
    show a.f1 < gl L i
    rw [← e]
    exact h.lt j i hj hi
  cov := by
    intro j hj
    rcases Nat.lt_or_ge j i with hlt | hge
    · obtain ⟨q, hq, hh⟩ := I.cov j hlt
      exact ⟨q, List.mem_append_left _ hq, hh⟩
    · have e : j = i := by omega
      subst e
      exact ⟨⟨gl L j, gl L j, kl L j⟩, by simp, Int.le_refl _, Int.le_refl _⟩
  val := by
    intro q hq
    rcases List.mem_append.1 hq with hq | hq
    · obtain ⟨h1, h2⟩ := I.val q hq
      exact ⟨h1, fun v a b => by obtain ⟨j, hj, hh⟩ := h2 v a b; exact ⟨j, by omega, hh⟩⟩
    · rw [List.mem_singleton.1 hq]
      exact ⟨Int.le_refl _, fun v a b => ⟨i, by omega, Int.le_antisymm a b, rfl⟩⟩
  last := fun _ => ⟨R, _, rfl, rfl, rfl⟩
  len := by have := I.len; simp; omega
theorem inv_grow {L : List S27} (_ : Cls L) {i : Nat} (hi : i < L.length) (h0 : 0 < i) {F : List S107} {q : S107} (I : Inv L i (F ++ [q])) (hq : q.f1 = gl L (i - 1)) (hk : q.f2 = kl L (i - 1)) (e : gl L i = gl L (i - 1) + 1) (ek : kl L i = kl L (i - 1)) : Inv L (i + 1) (F ++ [⟨q.f0, gl L i, q.f2⟩]) where
  pw := by
    have := I.pw
    rw [List.pairwise_append] at this ⊢
    refine ⟨this.1, List.pairwise_singleton _ _, fun a ha b hb => ?_⟩
    rw [List.mem_singleton.1 hb]
    exact this.2.2 a ha q (by simp)
  cov := by
    intro j hj
    rcases Nat.lt_or_ge j i with hlt | hge
    · obtain ⟨p, hp, hh⟩ := I.cov j hlt
      rcases List.mem_append.1 hp with hp | hp
      · exact ⟨p, List.mem_append_left _ hp, hh⟩
      · rw [List.mem_singleton.1 hp] at hh
        exact ⟨⟨q.f0, gl L i, q.f2⟩, by simp, hh.1, by show gl L j ≤ gl L i; omega⟩
    · have e1 : j = i := by omega
      subst e1
      have := (I.val q (by simp)).1
      exact ⟨⟨q.f0, gl L j, q.f2⟩, by simp, by show q.f0 ≤ gl L j; omega, Int.le_refl _⟩
  val := by
    intro p hp
    rcases List.mem_append.1 hp with hp | hp
    · obtain ⟨h1, h2⟩ := I.val p (List.mem_append_left _ hp)
      exact ⟨h1, fun v a b => by obtain ⟨j, hj, hh⟩ := h2 v a b; exact ⟨j, by omega, hh⟩⟩
    · rw [List.mem_singleton.1 hp]
      obtain ⟨h1, h2⟩ := I.val q (by simp)
      refine ⟨by show q.f0 ≤ gl L i; omega, fun v a b => ?_⟩
      change q.f0 ≤ v at a
      change v ≤ gl L i at b
      by_cases hv : v ≤ q.f1
      · obtain ⟨j, hj, hh⟩ := h2 v a hv
        exact ⟨j, by omega, hh⟩
      · exact ⟨i, by omega, by omega, by show kl L i = q.f2; omega⟩
  last := fun _ => ⟨F, _, rfl, rfl, by show q.f2 = kl L i; omega⟩
  len := by have := I.len; simp at this ⊢; omega
theorem d2_right (L : List S27) (h : Cls L) (R : List S107) (I : Inv L L.length R) (g : Int) : ∃ b, (b = true ∨ cls L g = 0) ∧ ((tables_ClassDef2_Class.f 0 R g).bind fun bt => some (wrap64 bt.1, bt.2)) = some (cls L g, b) := by
  have hlen := h.len
  have hRl := I.len
  have hst : R.Pairwise (fun a b => a.f0 < b.f0) := by
    refine I.pw.imp_of_mem ?_
    intro a b ha hb hab
    have := (I.val a ha).1
    omega
  have gm : ∀ j, j < R.length → R.getD j z107 ∈ R := by
    intro j hj
    rw [List.getD_eq_getElem?_getD, List.getElem?_eq_getElem hj]
    exact List.getElem_mem hj
  have hlt : ∀ a b, a < b → b < R.length → (R.getD a z107).f0 < (R.getD b z107).f0 ∧ (R.getD a z107).f1 < (R.getD b z107).f0 := by
    intro a b hab hb
    rw [List.getD_eq_getElem?_getD, List.getElem?_eq_getElem (by omega : a < R.length), List.getD_eq_getElem?_getD, List.getElem?_eq_getElem hb]
    exact ⟨List.pairwise_iff_getElem.1 hst a b (by omega) hb hab, List.pairwise_iff_getElem.1 I.pw a b (by omega) hb hab⟩
  have hm : ∀ a b, a ≤ b → b < R.length → decide (g ≤ (R.getD a z107).f0) = true → decide (g ≤ (R.getD b z107).f0) = true := by
    intro a b hab hb ha
    have ha := of_decide_eq_true ha
    rcases Nat.eq_or_lt_of_le hab with rfl | hl
    · exact decide_eq_true ha
    · have := (hlt a b hl hb).1
      exact decide_eq_true (by omega)
  obtain ⟨q1, q2, q3⟩ := cnt_split (fun i => decide (g ≤ (R.getD i z107).f0)) R.length hm
  have hn : d2_n R g = (List.range R.length).countP (fun i => !decide (g ≤ (R.getD i z107).f0)) := rfl
  rw [← hn] at q1 q2 q3
  unfold tables_ClassDef2_Class.f
  rw [if_pos ⟨hst.imp (fun h => Int.le_of_lt h), by omega⟩, Option.bind_some]
  unfold d2_res
  generalize d2_n R g = r at q1 q2 q3
  by_cases hA : r < R.length ∧ g = (R.getD r z107).f0
  · rw [if_pos hA]
    obtain ⟨v1, v2⟩ := I.val _ (gm r hA.1)
    obtain ⟨j, hj, e1, e2⟩ := v2 g (by omega) (by omega)
    obtain ⟨_, _, b3, b4⟩ := h.rng j hj
    refine ⟨true, .inl rfl, ?_⟩
    rw [h.at hj e1, w64_fits _ (by omega) (by omega), e2]
  · rw [if_neg hA]
    by_cases hB : 0 < r ∧ (R.getD (r - 1) z107).f0 ≤ g ∧ g ≤ (R.getD (r - 1) z107).f1
    · rw [if_pos hB]
      obtain ⟨v1, v2⟩ := I.val _ (gm (r - 1) (by omega))
      obtain ⟨j, hj, e1, e2⟩ := v2 g hB.2.1 hB.2.2
      obtain ⟨_, _, b3, b4⟩ := h.rng j hj
      refine ⟨true, .inl rfl, ?_⟩
      rw [h.at hj e1, w64_fits _ (by omega) (by omega), e2]
    · rw [if_neg hB]
      have hz : cls L g = 0 := by
        refine cls_zero L g (fun j hj e => ?_)
        obtain ⟨q, hq, c1, c2⟩ := I.cov j hj
        rw [e] at c1 c2
        obtain ⟨m, hml, hmq⟩ := List.mem_iff_getElem.1 hq
        have hg : R.getD m z107 = q := by rw [List.getD_eq_getElem?_getD, List.getElem?_eq_getElem hml]; exact hmq
        rcases Nat.lt_trichotomy m r with hmr | hmr | hmr
        · have p1 := of_decide_eq_false (q2 (r - 1) (by omega))
          rcases Nat.lt_or_ge m (r - 1) with hl | hl
          · have := (hlt m (r - 1) hl (by omega)).2
            rw [hg] at this
            omega
          · have em : m = r - 1 := by omega
            subst em
            rw [hg] at hB
            exact hB ⟨by omega, c1, c2⟩
        · subst hmr
          have p1 := of_decide_eq_true (q3 m (Nat.le_refl _) hml)
          rw [hg] at p1 hA
          exact hA ⟨hml, by omega⟩
        · have p1 := of_decide_eq_true (q3 r (Nat.le_refl _) (by omega))
          have := (hlt r m hmr hml).1
          rw [hg] at this
          omega
      exact ⟨false, .inr hz, by rw [hz]; show some (wrap64 0, false) = _; rw [w64_fits 0 (by omega) (by omega)]⟩
theorem class2_loop (L : List S27) (h : Cls L) (g : Int) (h0 : 0 ≤ g) (h1 : g ≤ 65535) : ∀ (d i : Nat) (R : List S107), i + d = L.length → Inv L i R → ∃ b, (b = true ∨ cls L g = 0) ∧ Ev (fun k => impl_ClassOf.l3 k L g L (L.length : Int) (i : Int) 0 R) (cls L g, b) := by
  have hlen := h.len
  intro d
  induction d with
  | zero =>
    intro i R hi I
    have e : i = L.length := by omega
    subst e
    obtain ⟨b, hb, hE⟩ := d2_right L h R I g
    refine ⟨b, hb, Ev.step (f := fun _ => some (cls L g, b)) (fun k => ?_) (Ev.now _)⟩
    simp only [impl_ClassOf.l3]
    rw [if_neg (by omega), u16_fits g h0 h1]
    exact hE
  | succ d ih =>
    intro i R hi I
    have hil : i < L.length := by omega
    obtain ⟨b1, b2, b3, b4⟩ := h.rng i hil
    have hRl := I.len
    have e0 : (L.getD i z27).f0 = gl L i := rfl
    have e1 : (L.getD i z27).f1 = kl L i := rfl
    have add : ∀ k, impl_ClassOf.l3 k L g L (L.length : Int) (wrap64 ((i : Int) + 1)) 0 (R ++ [(⟨IntKind.u16.wrap ((rd_T27 L (i : Int)).f0), IntKind.u16.wrap ((rd_T27 L (i : Int)).f0), IntKind.u16.wrap ((rd_T27 L (i : Int)).f1)⟩ : S107)]) = impl_ClassOf.l3 k L g L (L.length : Int) ((i + 1 : Nat) : Int) 0 (R ++ [⟨gl L i, gl L i, kl L i⟩]) := by
      intro k
      rw [rd27, e0, e1, u16_fits _ b1 b2, u16_fits (kl L i) (by omega) (by omega), w64_fits ((i : Int) + 1) (by omega) (by omega)]
      rfl
    by_cases hi0 : i = 0
    · obtain ⟨b, hb, eA⟩ := ih (i + 1) _ (by omega) (inv_add h hil I)
      refine ⟨b, hb, Ev.step (fun k => ?_) eA⟩
      rw [← add]
      simp only [impl_ClassOf.l3]
      rw [if_pos (by omega), if_pos (by omega), if_pos (by omega), if_neg (by omega), if_pos (by omega)]
    · have hm : (i : Int) - 1 = ((i - 1 : Nat) : Int) := by omega
      obtain ⟨c1, c2, c3, c4⟩ := h.rng (i - 1) (by omega)
      have f0 : (L.getD (i - 1) z27).f0 = gl L (i - 1) := rfl
      have f1 : (L.getD (i - 1) z27).f1 = kl L (i - 1) := rfl
      obtain ⟨F, q, rfl, hq, hk⟩ := I.last (by omega)
      by_cases he : gl L i = gl L (i - 1) + 1
      · by_cases hke : kl L i = kl L (i - 1)
        · obtain ⟨b, hb, eG⟩ := ih (i + 1) _ (by omega) (inv_grow h hil (by omega) I hq hk he hke)
          refine ⟨b, hb, Ev.step (fun k => ?_) eG⟩
          simp only [impl_ClassOf.l3]
          have hl1 : wrap64 (((F ++ [q]).length : Int) - 1) = (F.length : Int) := by
            rw [List.length_append, List.length_singleton]
            unfold wrap64
            rw [List.length_append, List.length_singleton] at hRl
            omega
          have hset : (F ++ [q]).set F.length (⟨q.f0, gl L i, q.f2⟩ : S107) = F ++ [⟨q.f0, gl L i, q.f2⟩] := by
            rw [List.set_append_right _ _ (Nat.le_refl _)]; simp
          have hgd : (F ++ [q]).getD F.length z107 = q := by
            rw [List.getD_eq_getElem?_getD]; simp
          rw [if_pos (by omega), if_pos (by omega), if_pos (by omega), if_pos (by omega), w64_fits ((i : Int) - 1) (by omega) (by omega), if_pos (by omega), if_pos (by omega), hm, rd27, rd27, e0, f0, e1, f1, w64_fits (gl L (i - 1) + 1) (by omega) (by omega), if_pos he, if_pos hke, hl1, if_pos (by omega), if_pos (by rw [List.length_append, List.length_singleton]; omega), Int.toNat_natCast, rd107, hgd, u16_fits _ b1 b2, hset, w64_fits ((i : Int) + 1) (by omega) (by omega)]
          rfl
        · obtain ⟨b, hb, eA⟩ := ih (i + 1) _ (by omega) (inv_add h hil I)
          refine ⟨b, hb, Ev.step (fun k => ?_) eA⟩
          rw [← add]
          simp only [impl_ClassOf.l3]
          rw [if_pos (by omega), if_pos (by omega), if_pos (by omega), if_pos (by omega), w64_fits ((i : Int) - 1) (by omega) (by omega), if_pos (by omega), if_pos (by omega), if_pos (by rw [hm, rd27, rd27, e0, f0, w64_fits (gl L (i - 1) + 1) (by omega) (by omega)]; exact he), if_neg (by rw [hm, rd27, rd27, e1, f1]; exact hke), if_pos (by omega)]
      · obtain ⟨b, hb, eA⟩ := ih (i + 1) _ (by omega) (inv_add h hil I)
        refine ⟨b, hb, Ev.step (fun k => ?_) eA⟩
        rw [← add]
        simp only [impl_ClassOf.l3]
        rw [if_pos (by omega), if_pos (by omega), if_pos (by omega), if_pos (by omega), w64_fits ((i : Int) - 1) (by omega) (by omega), if_pos (by omega), if_pos (by omega), if_neg (by rw [hm, rd27, rd27, e0, f0, w64_fits (gl L (i - 1) + 1) (by omega) (by omega)]; exact he), if_pos (by omega)]
theorem class2 (L : List S27) (h : Cls L) (g : Int) (h0 : 0 ≤ g) (h1 : g ≤ 65535) : ∃ b, (b = true ∨ cls L g = 0) ∧ Ev (fun k => impl_ClassOf.f k 2 L g) (cls L g, b) := by
  obtain ⟨b, hb, hE⟩ := class2_loop L h g h0 h1 L.length 0 [] (by omega) ⟨List.Pairwise.nil, fun j hj => absurd hj (by omega), fun q hq => by simp at hq, fun h => absurd h (by omega), by simp⟩
  refine ⟨b, hb, ?_⟩
  have hj : Ev (fun k => impl_ClassOf.j1 k 2 L g false) (cls L g, b) := by
    refine Ev.step (fun k => rfl) ?_
    simp only [impl_ClassOf.j1, Bool.false_eq_true, if_false, if_neg (show ¬ (2 : Int) = 1 by omega), if_true]
    exact hE
  have := head_loop 2 L h g h0 h1 hj L.length 0 (by omega)
  exact this
/-! ### one by one -/
theorem push_loop {r : Int × Bool} (L : List S27) (h : Cls L) (g st : Int) (i : Nat) (hi : i < L.length) (hst : 0 ≤ st) (hsl : st ≤ gl L i)
    (hgap : ∀ v, v < gl L i → (∀ j, j < L.length → gl L j ≠ v) ∨ ∃ j, j < i ∧ gl L j = v) (lo : Int) (hlo : ∀ j, j < i → gl L j ≤ lo)
    (hE : ∀ arr : List Int, (∀ t : Nat, t < arr.length → arr[t]! = cls L (st + (t : Int))) → (arr.length : Int) = gl L i - st + 1 → Ev (fun k => impl_ClassOf.l1 k g L (L.length : Int) ((i + 1 : Nat) : Int) 0 st arr) r) :
    ∀ (d : Nat) (arr : List Int), (arr.length : Int) + d = gl L i - st → (∀ t : Nat, t < arr.length → arr[t]! = cls L (st + (t : Int))) → lo < st + arr.length →
      Ev (fun k => impl_ClassOf.l2 k g L (L.length : Int) (i : Int) 0 st arr (gl L i) (kl L i)) r := by
  have hlen := h.len
  obtain ⟨b1, b2, b3, b4⟩ := h.rng i hi
  have snoc : ∀ (arr : List Int) (x : Int), (∀ t : Nat, t < arr.length → arr[t]! = cls L (st + (t : Int))) → x = cls L (st + (arr.length : Int)) → ∀ t : Nat, t < (arr ++ [x]).length → (arr ++ [x])[t]! = cls L (st + (t : Int)) := by
    intro arr x ha hx t ht
    rw [getElem!_pos _ t ht]
    rw [List.length_append, List.length_singleton] at ht
    rcases Nat.lt_or_ge t arr.length with hlt | hge
    · rw [List.getElem_append_left hlt, ← getElem!_pos arr t hlt]
      exact ha t hlt
    · have e : t = arr.length := by omega
      subst e
      simp [hx]
  intro d
  induction d with
  | zero =>
    intro arr hd ha hl
    have hx : kl L i = cls L (st + (arr.length : Int)) := (h.at hi (by omega)).symm
    refine Ev.step (fun k => ?_) (hE (arr ++ [kl L i]) (snoc arr _ ha hx) (by rw [List.length_append, List.length_singleton]; omega))
    simp only [impl_ClassOf.l2]
    rw [w64_fits st (by omega) (by omega), w64_fits (gl L i - st) (by omega) (by omega), if_neg (by omega), if_pos (by omega), u16_fits (kl L i) (by omega) (by omega), w64_fits ((i : Int) + 1) (by omega) (by omega)]
    rfl
  | succ d ih =>
    intro arr hd ha hl
    have hx : (0 : Int) = cls L (st + (arr.length : Int)) := by
      refine (cls_zero L _ ?_).symm
      rcases hgap (st + arr.length) (by omega) with hh | ⟨j, hj, e⟩
      · exact hh
      · have := hlo j hj
        omega
    refine Ev.step (fun k => ?_) (ih (arr ++ [0]) (by rw [List.length_append, List.length_singleton]; omega) (snoc arr 0 ha hx) (by rw [List.length_append, List.length_singleton]; omega))
    simp only [impl_ClassOf.l2]
    rw [w64_fits st (by omega) (by omega), w64_fits (gl L i - st) (by omega) (by omega), if_pos (by omega), if_pos (by omega)]
theorem class1_loop (L : List S27) (h : Cls L) (g : Int) (h0 : 0 ≤ g) (h1 : g ≤ 65535) (hs : ∀ j, j < L.length → gl L j < 4000) : ∃ b, (b = true ∨ cls L g = 0) ∧ ∀ (d i : Nat) (st : Int) (arr : List Int), i + d = L.length → (0 < i → st = gl L 0 ∧ (arr.length : Int) = gl L (i - 1) - st + 1) → (i = 0 → st = 0 ∧ arr = []) →
    (∀ t : Nat, t < arr.length → arr[t]! = cls L (st + (t : Int))) → Ev (fun k => impl_ClassOf.l1 k g L (L.length : Int) (i : Int) 0 st arr) (cls L g, b) := by
  have hlen := h.len
  have mono : ∀ a b, a ≤ b → b < L.length → gl L a ≤ gl L b := by
    intro a b hab hb
    rcases Nat.eq_or_lt_of_le hab with rfl | hl
    · exact Int.le_refl _
    · have := h.lt a b hl hb; omega
  let b : Bool := decide (0 < L.length ∧ gl L 0 ≤ g ∧ g ≤ gl L (L.length - 1))
  have hb : b = true ∨ cls L g = 0 := by
    by_cases hc : 0 < L.length ∧ gl L 0 ≤ g ∧ g ≤ gl L (L.length - 1)
    · exact .inl (decide_eq_true hc)
    · refine .inr (cls_zero L g (fun j hj e => hc ⟨by omega, ?_, ?_⟩))
      · have := mono 0 j (by omega) hj; omega
      · have := mono j (L.length - 1) (by omega) (by omega); omega
  refine ⟨b, hb, ?_⟩
  intro d
  induction d with
  | zero =>
    intro i st arr hi hp hz ha
    have e : i = L.length := by omega
    refine Ev.step (f := fun _ => some (cls L g, b)) (fun k => ?_) (Ev.now _)
    simp only [impl_ClassOf.l1]
    rw [if_neg (by omega), u16_fits g h0 h1]
    unfold tables_ClassDef1_Class.f
    by_cases hn : i = 0
    · obtain ⟨e1, e2⟩ := hz hn
      subst e1; subst e2
      have hb0 : b = false := decide_eq_false (fun hc => by omega)
      have hc0 : cls L g = 0 := cls_zero L g (fun j hj => by omega)
      rw [hb0, hc0]
      rw [if_neg (by omega), if_pos (by show g ≥ IntKind.u16.wrap (0 + IntKind.u16.wrap 0); rw [u16_fits 0 (by omega) (by omega), u16_fits _ (by omega) (by omega)]; omega)]
      show some (wrap64 0, false) = _
      rw [w64_fits 0 (by omega) (by omega)]
    · obtain ⟨e1, e2⟩ := hp (by omega)
      subst e1
      have r0 := h.rng 0 (by omega)
      have rl := h.rng (i - 1) (by omega)
      have sl := hs (i - 1) (by omega)
      have ml := mono 0 (i - 1) (by omega) (by omega)
      rw [u16_fits (arr.length : Int) (by omega) (by omega), u16_fits (gl L 0 + (arr.length : Int)) (by omega) (by omega)]
      by_cases hA : g < gl L 0
      · have hb0 : b = false := decide_eq_false (fun hc => by omega)
        have hc0 : cls L g = 0 := by rcases hb with hb | hb
                                     · rw [hb0] at hb; cases hb
                                     · exact hb
        rw [hb0, hc0, if_pos hA]
        show some (wrap64 0, false) = _
        rw [w64_fits 0 (by omega) (by omega)]
      · by_cases hB : g ≥ gl L 0 + (arr.length : Int)
        · have hb0 : b = false := decide_eq_false (fun hc => by have h2 := hc.2.2; rw [← e] at h2; omega)
          have hc0 : cls L g = 0 := by rcases hb with hb | hb
                                       · rw [hb0] at hb; cases hb
                                       · exact hb
          rw [hb0, hc0, if_neg hA, if_pos hB]
          show some (wrap64 0, false) = _
          rw [w64_fits 0 (by omega) (by omega)]
        · have hb1 : b = true := decide_eq_true ⟨by omega, by omega, by rw [← e]; omega⟩
          have ht : ((g - gl L 0).toNat : Int) = g - gl L 0 := by omega
          have hv := ha (g - gl L 0).toNat (by omega)
          rw [ht] at hv
          rw [if_neg hA, if_neg hB, u16_fits (g - gl L 0) (by omega) (by omega), if_pos (by omega), if_pos (by omega), ← ht, rd_at, hv, hb1]
          have e3 : gl L 0 + (g - gl L 0) = g := by omega
          rw [e3]
          simp only [Option.bind_some]
          have hc : 0 ≤ cls L g ∧ cls L g ≤ 5 := by
            by_cases hx : ∃ j, j < L.length ∧ gl L j = g
            · obtain ⟨j, hj, ej⟩ := hx
              have := h.rng j hj
              rw [h.at hj ej]; omega
            · rw [cls_zero L g (fun j hj ej => hx ⟨j, hj, ej⟩)]; omega
          rw [w64_fits _ (by omega) (by omega)]
  | succ d ih =>
    intro i st arr hi hp hz ha
    have hil : i < L.length := by omega
    obtain ⟨b1, b2, b3, b4⟩ := h.rng i hil
    have e0 : (L.getD i z27).f0 = gl L i := rfl
    have e1 : (L.getD i z27).f1 = kl L i := rfl
    have gap : ∀ v, v < gl L i → (∀ j, j < L.length → gl L j ≠ v) ∨ ∃ j, j < i ∧ gl L j = v := by
      intro v hv
      by_cases hx : ∃ j, j < L.length ∧ gl L j = v
      · obtain ⟨j, hj, ej⟩ := hx
        refine .inr ⟨j, ?_, ej⟩
        rcases Nat.lt_or_ge j i with hl | hl
        · exact hl
        · have := mono i j hl hj; omega
      · exact .inl (fun j hj ej => hx ⟨j, hj, ej⟩)
    by_cases hn : i = 0
    · obtain ⟨q1, q2⟩ := hz hn
      subst q1; subst q2; subst hn
      have hP := push_loop (r := (cls L g, b)) L h g (gl L 0) 0 hil b1 (Int.le_refl _) gap (gl L 0 - 1) (fun j hj => absurd hj (by omega))
        (fun arr h1 h2 => ih 1 (gl L 0) arr (by omega) (fun _ => ⟨rfl, by simpa using h2⟩) (fun h => absurd h (by omega)) h1) 0 [] (by simp) (fun t ht => by simp at ht) (by simp; omega)
      refine Ev.step (f := fun k => impl_ClassOf.j3 k g L (L.length : Int) (0 : Int) 0 (gl L 0) ([] : List Int) (gl L 0) (kl L 0)) (fun k => ?_) (Ev.step (fun k => ?_) hP)
      · simp only [impl_ClassOf.l1]
        rw [if_pos (by omega), if_pos (by omega), if_pos (by omega), if_pos (by omega), rd27, e0, e1, u16_fits _ b1 b2]
        rfl
      · simp only [impl_ClassOf.j3]
        rfl
    · obtain ⟨q1, q2⟩ := hp (by omega)
      subst q1
      have r0 := h.rng 0 (by omega)
      have lt1 := h.lt (i - 1) i (by omega) hil
      have ml := mono 0 (i - 1) (by omega) (by omega)
      have hP := push_loop (r := (cls L g, b)) L h g (gl L 0) i hil r0.1 (by omega) gap (gl L (i - 1)) (fun j hj => mono j (i - 1) (by omega) (by omega))
        (fun arr h1 h2 => ih (i + 1) (gl L 0) arr (by omega) (fun _ => ⟨rfl, h2⟩) (fun h => absurd h (by omega)) h1) (gl L i - gl L 0 - (arr.length : Int)).toNat arr (by omega) ha (by omega)
      refine Ev.step (f := fun k => impl_ClassOf.j3 k g L (L.length : Int) (i : Int) 0 (gl L 0) arr (gl L i) (kl L i)) (fun k => ?_) (Ev.step (fun k => ?_) hP)
      · simp only [impl_ClassOf.l1]
        rw [if_pos (by omega), if_pos (by omega), if_pos (by omega), if_neg (by omega), rd27, e0, e1]
      · simp only [impl_ClassOf.j3]
theorem class1 (L : List S27) (h : Cls L) (g : Int) (h0 : 0 ≤ g) (h1 : g ≤ 65535) (hs : ∀ j, j < L.length → gl L j < 4000) : ∃ b, (b = true ∨ cls L g = 0) ∧ Ev (fun k => impl_ClassOf.f k 1 L g) (cls L g, b) := by
  obtain ⟨b, hb, hE⟩ := class1_loop L h g h0 h1 hs
  refine ⟨b, hb, ?_⟩
  have hj : Ev (fun k => impl_ClassOf.j1 k 1 L g false) (cls L g, b) := by
    refine Ev.step (fun k => rfl) ?_
    simp only [impl_ClassOf.j1, Bool.false_eq_true, if_false, if_true]
    exact hE L.length 0 0 [] (by omega) (fun h => absurd h (by omega)) (fun _ => ⟨rfl, rfl⟩) (fun t ht => by simp at ht)
  exact head_loop 1 L h g h0 h1 hj L.length 0 (by omega)
/-! ### the law -/
theorem at_ok (l : List Int) (hl : ∀ x ∈ l, 0 ≤ x ∧ x ≤ 255) (i : Nat) : ∃ y, 0 ≤ y ∧ y ≤ 255 ∧ laws_at.f l (i : Int) = some y := by
  unfold laws_at.f
  by_cases h : (i : Int) < (l.length : Int)
  · have hi : i < l.length := by omega
    rw [if_pos h, if_pos (by omega), rd_at, getElem!_pos l i hi]
    have := hl _ (List.getElem_mem hi)
    exact ⟨_, this.1, this.2, rfl⟩
  · rw [if_neg h]
    exact ⟨0, by omega, by omega, rfl⟩
theorem cls_snoc_ok {C : List Int} (hC : Ris C) {i : Nat} (hi : i < C.length) {L : List S27} (h : Cls L) (hl : L.length ≤ i) (hlt : ∀ j, j < L.length → gl L j < C[i]!) (y : Int) (h1 : 1 ≤ y) (h5 : y ≤ 5) : Cls (L ++ [⟨C[i]!, y⟩]) := by
  have hlen := hC.len
  have ga : ∀ j, j < L.length → gl (L ++ [⟨C[i]!, y⟩]) j = gl L j ∧ kl (L ++ [⟨C[i]!, y⟩]) j = kl L j := by
    intro j hj
    unfold gl kl
    rw [List.getD_eq_getElem?_getD, List.getElem?_append_left hj, ← List.getD_eq_getElem?_getD]
    exact ⟨rfl, rfl⟩
  have gb : gl (L ++ [⟨C[i]!, y⟩]) L.length = C[i]! ∧ kl (L ++ [⟨C[i]!, y⟩]) L.length = y := by
    unfold gl kl
    rw [List.getD_eq_getElem?_getD]
    simp
  refine ⟨fun a b hab hb => ?_, fun j hj => ?_, by rw [List.length_append, List.length_singleton]; omega⟩
  · rw [List.length_append, List.length_singleton] at hb
    rw [(ga a (by omega)).1]
    rcases Nat.lt_or_ge b L.length with hl | hl
    · rw [(ga b hl).1]; exact h.lt a b hab hl
    · have e : b = L.length := by omega
      rw [e, gb.1]
      exact hlt a (by omega)
  · rw [List.length_append, List.length_singleton] at hj
    rcases Nat.lt_or_ge j L.length with hl | hl
    · rw [(ga j hl).1, (ga j hl).2]; exact h.rng j hl
    · have e : j = L.length := by omega
      rw [e, gb.1, gb.2]
      have := hC.b hi
      omega
theorem gl_snoc (L : List S27) (x : S27) (j : Nat) (hj : j < (L ++ [x]).length) : gl (L ++ [x]) j = gl L j ∧ j < L.length ∨ gl (L ++ [x]) j = x.f0 := by
  rw [List.length_append, List.length_singleton] at hj
  unfold gl
  rcases Nat.lt_or_ge j L.length with hl | hl
  · left
    rw [List.getD_eq_getElem?_getD, List.getElem?_append_left hl, ← List.getD_eq_getElem?_getD]
    exact ⟨rfl, hl⟩
  · right
    have e : j = L.length := by omega
    rw [e, List.getD_eq_getElem?_getD]
    simp
theorem one7 : Cls [⟨7, 3⟩] := ⟨fun i j hij hj => by simp at hj; omega, fun j hj => by
  have e : j = 0 := by simpa using hj
  subst e
  simp [gl, kl], by simp⟩
set_option maxHeartbeats 2000000 in
theorem law_loop (cl : List Int) (hcl : ∀ x ∈ cl, 0 ≤ x ∧ x ≤ 255) (fm : Bool) (g : Int) (h0 : 0 ≤ g) (h1 : g ≤ 65535) (C : List Int) (hC : Ris C) : ∀ (d i : Nat) (L : List S27), i + d = C.length → Cls L → L.length ≤ i → (∀ j, j < L.length → ∃ m, m < i ∧ gl L j ≤ C[m]!) → (fm = false → ∀ j, j < L.length → gl L j < 4000) →
    Ev (fun k => laws_FnClassOf.l0 k cl fm g L C (C.length : Int) (i : Int)) true := by
  have hlen := hC.len
  obtain ⟨b7, hb7, e7⟩ := class2 [⟨7, 3⟩] one7 7 (by omega) (by omega)
  have c7 : cls [⟨7, 3⟩] 7 = 3 := by decide
  rw [c7] at hb7 e7
  have hb7 : b7 = true := by rcases hb7 with h | h
                             · exact h
                             · omega
  subst hb7
  intro d
  induction d with
  | zero =>
    intro i L hi h hl hm hf
    refine Ev.step (fun k => rfl) ?_
    simp only [laws_FnClassOf.l0, if_neg (show ¬ (i : Int) < (C.length : Int) by omega), w64_fits g (by omega) (by omega)]
    by_cases hfm : fm = true
    · simp only [if_pos hfm]
      obtain ⟨b, hb, hE⟩ := class2 L h g h0 h1
      refine Ev.bind hE ?_
      refine Ev.bind (cspec L g h.len) ?_
      refine Ev.bind e7 ?_
      simp only [if_true]
      by_cases hbt : b = true
      · simp only [if_pos hbt]; exact Ev.now _
      · have hz : cls L g = 0 := by rcases hb with hb | hb
                                    · exact absurd hb hbt
                                    · exact hb
        simp only [if_neg hbt, if_pos hz]; exact Ev.now _
    · simp only [if_neg hfm]
      obtain ⟨b, hb, hE⟩ := class1 L h g h0 h1 (hf (by simpa using hfm))
      refine Ev.bind hE ?_
      refine Ev.bind (cspec L g h.len) ?_
      refine Ev.bind e7 ?_
      simp only [if_true]
      by_cases hbt : b = true
      · simp only [if_pos hbt]; exact Ev.now _
      · have hz : cls L g = 0 := by rcases hb with hb | hb
                                    · exact absurd hb hbt
                                    · exact hb
        simp only [if_neg hbt, if_pos hz]; exact Ev.now _
  | succ d ih =>
    intro i L hi h hl hm hf
    have hil : i < C.length := by omega
    have hi1 : i + 1 + d = C.length := by omega
    have hl1 : L.length ≤ i + 1 := by omega
    have c1 : (i : Int) < (C.length : Int) := Int.ofNat_lt.2 hil
    have c2 : (0 : Int) ≤ (i : Int) := Int.natCast_nonneg i
    have c3 : L.length < 8796093022208 := Nat.lt_of_le_of_lt hl (Nat.lt_of_lt_of_le hil (Nat.le_trans hlen (by decide)))
    obtain ⟨y, hy0, hy1, hy⟩ := at_ok cl hcl i
    have hlt : ∀ j, j < L.length → gl L j < C[i]! := fun j hj => by
      obtain ⟨m, hm1, hm2⟩ := hm j hj
      have := hC.lt hm1 hil
      omega
    obtain ⟨z, hz, hz0, hz4⟩ : ∃ z, Int.tmod y 5 = z ∧ 0 ≤ z ∧ z ≤ 4 := ⟨_, rfl, by rw [Int.tmod_eq_emod_of_nonneg hy0]; omega⟩
    have hw : wrap64 (1 + wrap64 z) = 1 + z := by
      rw [w64_fits z (by omega) (by omega), w64_fits (1 + z) (by omega) (by omega)]
    have hN := cls_snoc_ok hC hil h hl hlt (1 + z) (by omega) (by omega)
    have hmN : ∀ j, j < (L ++ [(⟨C[i]!, 1 + z⟩ : S27)]).length → ∃ m, m < i + 1 ∧ gl (L ++ [⟨C[i]!, 1 + z⟩]) j ≤ C[m]! := by
      intro j hj
      rcases gl_snoc L _ j hj with ⟨e, hjl⟩ | e
      · obtain ⟨m, hm1, hm2⟩ := hm j hjl
        exact ⟨m, by omega, by rw [e]; exact hm2⟩
      · exact ⟨i, by omega, by rw [e]; exact Int.le_refl _⟩
    have hlN : (L ++ [(⟨C[i]!, 1 + z⟩ : S27)]).length ≤ i + 1 := by rw [List.length_append, List.length_singleton]; omega
    have w1 : wrap64 ((i : Int) + 1) = ((i + 1 : Nat) : Int) := by rw [w64_fits _ (by omega) (by omega)]; rfl
    by_cases hfm : fm = true
    · have e1 := ih (i + 1) _ hi1 hN hlN hmN (fun h => by rw [hfm] at h; cases h)
      refine Ev.step (fun k => ?_) e1
      simp only [laws_FnClassOf.l0, if_pos c1, if_pos c2, if_pos hfm, hy, Option.bind_some, if_pos c3, rd_at, hz, hw, w1]
    · by_cases h4 : C[i]! < 4000
      · have e1 := ih (i + 1) _ hi1 hN hlN hmN (fun h j hj => by
          rcases gl_snoc L _ j hj with ⟨e, hjl⟩ | e
          · rw [e]; exact hf h j hjl
          · rw [e]; exact h4)
        refine Ev.step (fun k => ?_) e1
        simp only [laws_FnClassOf.l0, if_pos c1, if_pos c2, if_neg hfm, rd_at, if_pos h4, hy, Option.bind_some, if_pos c3, hz, hw, w1]
      · have e1 := ih (i + 1) L hi1 h hl1 (fun j hj => by
          obtain ⟨m, hm1, hm2⟩ := hm j hj
          exact ⟨m, Nat.lt_succ_of_lt hm1, hm2⟩) hf
        refine Ev.step (fun k => ?_) e1
        simp only [laws_FnClassOf.l0, if_pos c1, if_pos c2, if_neg hfm, rd_at, if_neg h4, w1]
theorem FnClassOf : laws_FnClassOf.Pure := by
  intro l0 l1 a2 a3 hl hl2 hx hm hm2 hy hw
  have hb : ∀ x ∈ l0, 0 ≤ x ∧ x ≤ 65535 := fun x h => by
    have := hx x h
    simpa [Lit.wf, IntKind.bits, IntKind.signed, IntKind.min, IntKind.max] using this
  have hc : ∀ x ∈ l1, 0 ≤ x ∧ x ≤ 255 := fun x h => by
    have := hy x h
    simpa [Lit.wf, IntKind.bits, IntKind.signed, IntKind.min, IntKind.max] using this
  have hg : 0 ≤ a3 ∧ a3 ≤ 65535 := by
    simpa [Lit.wf, IntKind.bits, IntKind.signed, IntKind.min, IntKind.max] using hw
  have hC : ∀ b : Bool, Ev (fun k => laws_FnClassOf.j0 k l0 l1 a2 a3 b) true := by
    intro b
    refine Ev.step (fun k => rfl) ?_
    simp only [laws_FnClassOf.j0]
    by_cases hbt : b = true
    · simp only [if_pos hbt]; exact Ev.now _
    · simp only [if_neg hbt]
      obtain ⟨C, hC, hE⟩ := rising_ris l0 hb (by omega)
      refine Ev.bind hE ?_
      exact law_loop l1 hc a2 a3 hg.1 hg.2 C hC C.length 0 [] (by omega) ⟨fun i j _ hj => by simp at hj, fun j hj => by simp at hj, by simp⟩ (by simp) (fun j hj => by simp at hj) (fun _ j hj => by simp at hj)
  apply Ev.rounds
  by_cases hbig : (l0.length : Int) > 2147483647
  · simp only [laws_FnClassOf.f, if_pos hbig]
    exact hC _
  · simp only [laws_FnClassOf.f, if_neg hbig]
    exact hC _


end Go.Proofs.Ytchkmmbedgolbaa.Pure
