/- The law FnKernClasses holds for every list of classes, every list of values and every two glyphs: the value of a pair is that whose number is the sum of the two glyphs' classes, 0 behind the values' end. Condition: none (the statement's own bounds on sizes lie in the law). -/
import Derived.Lib.IndexLaws
import Derived.Laws.BitsLemmas
import Derived.Test.YtchkmmbedgolbaaPFnKernClassesx5
namespace Go.Proofs.Ytchkmmbedgolbaa.Pure
open Go.RowKit Go.Proofs.Ytchkmmbedgolbaa.PFnKernClasses Go.Proofs.YtchkmmbedgolbaaW Go.Proofs.YtchkmmbedgolbaaW.PrintWords Go.Proofs.YtchkmmbedgolbaaW.PrintLast Go.Proofs.YtchkmmbedgolbaaW.PrintMore
theorem w64 (n : Int) (h : -9223372036854775808 ≤ n ∧ n ≤ 9223372036854775807) : wrap64 n = n := by unfold wrap64; omega
theorem u16w (n : Int) (h : 0 ≤ n ∧ n ≤ 65535) : IntKind.u16.wrap n = n := by simp only [IntKind.wrap, IntKind.bits, IntKind.signed]; simp; omega
theorem i16w (n : Int) (h : -32768 ≤ n ∧ n ≤ 32767) : IntKind.i16.wrap n = n := by simp only [IntKind.wrap, IntKind.bits, IntKind.signed]; simp; omega
theorem wsucc (i : Nat) (h : i < 10000000) : wrap64 ((i : Int) + 1) = ((i + 1 : Nat) : Int) := by rw [w64 _ (by omega)]; omega
def EvP {α : Type} (g : Nat → Option α) (Q : α → Prop) : Prop := ∃ r, Ev g r ∧ Q r
theorem EvP.now {α : Type} {Q : α → Prop} (r : α) (h : Q r) : EvP (fun _ => some r) Q := ⟨r, Ev.now r, h⟩
theorem EvP.step {α : Type} {g f : Nat → Option α} {Q : α → Prop} (h : ∀ k, g (k + 1) = f k) (k : EvP f Q) : EvP g Q := by
  obtain ⟨r, hr, hq⟩ := k
  exact ⟨r, Ev.step h hr, hq⟩
theorem EvP.congr {α : Type} {g f : Nat → Option α} {Q : α → Prop} (h : ∀ k, g k = f k) (k : EvP f Q) : EvP g Q := by
  obtain ⟨r, hr, hq⟩ := k
  exact ⟨r, Ev.congr h hr, hq⟩
theorem drop_head {α : Type} {l : List α} {i : Nat} {x : α} {t : List α} (h : l.drop i = x :: t) : l[i]? = some x ∧ i < l.length ∧ l.drop (i + 1) = t := by
  have h0 : (l.drop i)[0]? = some x := by rw [h]; rfl
  rw [List.getElem?_drop, Nat.add_zero] at h0
  refine ⟨h0, (List.getElem?_eq_some_iff.1 h0).1, ?_⟩
  rw [← List.tail_drop, h]
  rfl
theorem getD_drop {α : Type} {l : List α} {i : Nat} {x : α} {t : List α} (z : α) (h : l.drop i = x :: t) : l.getD i z = x := by
  rw [List.getD_eq_getElem?_getD, (drop_head h).1]
  rfl
/-! ### the law's classes -/
structure Cok (l : List S27) : Prop where
  lo : ∀ s ∈ l, 0 ≤ s.f0 ∧ s.f0 < 10
  cl : ∀ s ∈ l, 0 ≤ s.f1 ∧ s.f1 < 16
  up : ∀ (a b : Nat) (x y : S27), l[a]? = some x → l[b]? = some y → a < b → x.f0 < y.f0
  len : l.length ≤ 10
theorem list_l0 (x0 : List Int) (hx : ∀ x ∈ x0, 0 ≤ x ∧ x ≤ 255) : ∀ (d i : Nat) (l : List S27) (_ : i + d = 10) (_ : Cok l) (_ : ∀ s ∈ l, s.f0 < (i : Int)) (_ : l.length ≤ i), EvP (fun k => laws_FnKernClasses_1.l0 k x0 l (i : Int)) Cok
  | d, i, l, hi, hc, hf, hl => by
    have done : EvP (fun k => laws_FnKernClasses_1.j1 k x0 l (i : Int) false) Cok :=
      EvP.step (f := fun _ => some l) (fun k => by rw [laws_FnKernClasses_1.j1, if_neg (by simp)]) (EvP.now _ hc)
    by_cases hlt : (i : Int) < (x0.length : Int)
    · cases d with
      | zero =>
        have e : i = 10 := by omega
        subst e
        refine EvP.step (fun k => ?_) done
        rw [laws_FnKernClasses_1.l0, if_pos hlt]
        rfl
      | succ d =>
        have hm : rd x0 (i : Int) ∈ x0 := by
          have : rd x0 (i : Int) = x0.getD i 0 := by unfold rd; rw [Int.toNat_natCast]
          rw [this, List.getD_eq_getElem?_getD, List.getElem?_eq_getElem (by omega)]
          exact List.getElem_mem (by omega)
        have hb := hx _ hm
        have e1 : Int.tmod (rd x0 (i : Int) / 4) 16 = (rd x0 (i : Int) / 4) % 16 := Int.tmod_eq_emod_of_nonneg (by omega)
        refine EvP.step (f := fun k => laws_FnKernClasses_1.j1 k x0 l (i : Int) true) (fun k => ?_) ?_
        · rw [laws_FnKernClasses_1.l0, if_pos hlt, decide_eq_true (by omega)]
        by_cases h4 : Int.tmod (rd x0 (i : Int)) 4 > 0
        · refine EvP.step (fun k => ?_) (list_l0 x0 hx d (i + 1) (l ++ [⟨(i : Int), wrap64 (Int.tmod (rd x0 (i : Int) / 4) 16)⟩]) (by omega) ⟨fun s hs => ?_, fun s hs => ?_, fun a b x y ha hb2 hab => ?_, by rw [List.length_append, List.length_singleton]; omega⟩ (fun s hs => ?_) (by rw [List.length_append, List.length_singleton]; omega))
          · rw [laws_FnKernClasses_1.j1, if_pos rfl, if_pos (by omega), if_pos hlt, if_pos h4, if_pos (by omega), wsucc i (by omega)]
          · rcases List.mem_append.1 hs with hs | hs
            · exact hc.lo s hs
            · rw [List.mem_singleton.1 hs]; exact ⟨by simp, by simp; omega⟩
          · rcases List.mem_append.1 hs with hs | hs
            · exact hc.cl s hs
            · rw [List.mem_singleton.1 hs]
              simp only
              rw [e1, w64 _ (by omega)]
              omega
          · have hbl : b < (l ++ [(⟨(i : Int), wrap64 (Int.tmod (rd x0 (i : Int) / 4) 16)⟩ : S27)]).length := (List.getElem?_eq_some_iff.1 hb2).1
            rw [List.length_append, List.length_singleton] at hbl
            rw [List.getElem?_append_left (by omega)] at ha
            by_cases hbb : b < l.length
            · rw [List.getElem?_append_left hbb] at hb2
              exact hc.up a b x y ha hb2 hab
            · have : b = l.length := by omega
              subst this
              rw [List.getElem?_append_right (Nat.le_refl _), Nat.sub_self] at hb2
              injection hb2 with hb2
              subst hb2
              exact hf x (List.mem_of_getElem? ha)
          · rcases List.mem_append.1 hs with hs | hs
            · have := hf s hs; omega
            · rw [List.mem_singleton.1 hs]; simp only; omega
        · refine EvP.step (fun k => ?_) (list_l0 x0 hx d (i + 1) l (by omega) hc (fun s hs => by have := hf s hs; omega) (by omega))
          rw [laws_FnKernClasses_1.j1, if_pos rfl, if_pos (by omega), if_pos hlt, if_neg h4, wsucc i (by omega)]
    · refine EvP.step (fun k => ?_) done
      rw [laws_FnKernClasses_1.l0, if_neg hlt]
theorem list_is (x0 : List Int) (hx : ∀ x ∈ x0, 0 ≤ x ∧ x ≤ 255) : EvP (fun k => laws_FnKernClasses_1.f k x0) Cok :=
  list_l0 x0 hx 10 0 [] (by omega) ⟨fun s hs => by simp at hs, fun s hs => by simp at hs, fun a b x y h => by simp at h, by simp⟩ (fun s hs => by simp at hs) (by simp)
/-- What the class of a glyph is. -/
def look : List S27 → Int → Int
  | [], _ => 0
  | s :: r, g => if s.f0 = g then s.f1 else look r g
theorem aat_l0 (l : List S27) (g : Int) (hl : l.length < 100000) : ∀ (t : List S27) (i : Nat) (_ : l.drop i = t) (_ : i ≤ l.length), Ev (fun k => spec_AatClass.l0 k g 0 l (l.length : Int) (i : Int)) (look t g)
  | [], i, hd, hi => by
    have : l.length ≤ i := by simpa using hd
    refine Ev.step (f := fun _ => some 0) (fun k => ?_) (Ev.now _)
    rw [spec_AatClass.l0, if_neg (by omega)]
  | s :: t, i, hd, hi => by
    obtain ⟨_, hlt, hd2⟩ := drop_head hd
    have hrd : rd_T27 l (i : Int) = s := getD_drop z27 hd
    by_cases h : s.f0 = g
    · refine Ev.step (f := fun _ => some s.f1) (fun k => ?_) (by simp only [look, if_pos h]; exact Ev.now _)
      rw [spec_AatClass.l0, if_pos (by omega), if_pos (by omega), if_pos (by omega), hrd, if_pos h]
    · refine Ev.step (fun k => ?_) (by simp only [look, if_neg h]; exact aat_l0 l g hl t (i + 1) hd2 (by omega))
      rw [spec_AatClass.l0, if_pos (by omega), if_pos (by omega), if_pos (by omega), hrd, if_neg h, wsucc i (by omega)]
theorem aat_is (l : List S27) (g : Int) (hl : l.length < 100000) : Ev (fun k => spec_AatClass.f k l g 0) (look l g) := aat_l0 l g hl l 0 rfl (by omega)
theorem look_none : ∀ (l : List S27) (g : Int), (∀ s ∈ l, s.f0 ≠ g) → look l g = 0
  | [], _, _ => rfl
  | s :: r, g, h => by
    simp only [look]
    rw [if_neg (h s List.mem_cons_self)]
    exact look_none r g (fun x hx => h x (List.mem_cons_of_mem _ hx))
theorem look_at : ∀ (l : List S27) (g : Int) (h : Nat) (s : S27), l[h]? = some s → s.f0 = g → (∀ (a b : Nat) (x y : S27), l[a]? = some x → l[b]? = some y → a < b → x.f0 < y.f0) → look l g = s.f1
  | [], _, _, _, h, _, _ => by simp at h
  | x :: r, g, 0, s, h, hg, _ => by
    have e : x = s := by simpa using h
    subst e
    simp only [look, if_pos hg]
  | x :: r, g, n + 1, s, h, hg, up => by
    have hlt := up 0 (n + 1) x s rfl h (by omega)
    simp only [look]
    rw [if_neg (by omega)]
    exact look_at r g n s (by simpa using h) hg (fun a b y z ha hb hab => up (a + 1) (b + 1) y z (by simpa using ha) (by simpa using hb) (by omega))
theorem look_bound (l : List S27) (hc : Cok l) (g : Int) : 0 ≤ look l g ∧ look l g < 16 := by
  have key : ∀ (r : List S27), (∀ s ∈ r, 0 ≤ s.f1 ∧ s.f1 < 16) → 0 ≤ look r g ∧ look r g < 16 := by
    intro r hr
    induction r with
    | nil => simp [look]
    | cons x r ih =>
      simp only [look]
      split
      · exact hr x List.mem_cons_self
      · exact ih (fun s hs => hr s (List.mem_cons_of_mem _ hs))
  exact key l hc.cl
/-! ### the package's lookup -/
def cz (s : S27) : S184 := ⟨s.f0, s.f1⟩
theorem zz_l0 (gl vl : List Int) (hlen : gl.length = vl.length) (hs : gl.length < 100000) : ∀ (d i : Nat) (x5 : List S188) (x6 : List S186) (x7 : List S184) (_ : i + d = gl.length) (_ : x5.length ≤ i) (_ : x6.length ≤ i) (_ : ∀ s ∈ x6, s.f2.length ≤ i) (_ : x7.length ≤ i),
    Ev (fun k => tables_ZzLookup.l0 k 6 vl gl (gl.length : Int) (i : Int) 0 0 0 0 0 0 x5 0 0 0 0 0 0 x6 0 0 0 0 0 0 x7) (0, 0, 0, 0, 0, 0, x7 ++ ((List.range d).map fun j => (⟨rd gl ((i + j : Nat) : Int), rd vl ((i + j : Nat) : Int)⟩ : S184)))
  | 0, i, x5, x6, x7, hi, h5, h6, h6b, h7 => by
    refine Ev.step (f := fun _ => some (0, 0, 0, 0, 0, 0, x7)) (fun k => ?_) (by simpa using Ev.now _)
    rw [tables_ZzLookup.l0, if_neg (by omega), if_neg (by decide), if_pos rfl]
  | d + 1, i, x5, x6, x7, hi, h5, h6, h6b, h7 => by
    have hw := wsucc i (by omega)
    have next : ∀ (x5' : List S188) (x6' : List S186), x5'.length ≤ i + 1 → x6'.length ≤ i + 1 → (∀ s ∈ x6', s.f2.length ≤ i + 1) →
        Ev (fun k => tables_ZzLookup.l0 k 6 vl gl (gl.length : Int) (wrap64 ((i : Int) + 1)) 0 0 0 0 0 0 x5' 0 0 0 0 0 0 x6' 0 0 0 0 0 0 (x7 ++ [⟨rd gl (i : Int), rd vl (i : Int)⟩])) (0, 0, 0, 0, 0, 0, x7 ++ ((List.range (d + 1)).map fun j => (⟨rd gl ((i + j : Nat) : Int), rd vl ((i + j : Nat) : Int)⟩ : S184))) := by
      intro x5' x6' a1 a2 a3
      have := zz_l0 gl vl hlen hs d (i + 1) x5' x6' (x7 ++ [⟨rd gl (i : Int), rd vl (i : Int)⟩]) (by omega) a1 a2 a3 (by rw [List.length_append, List.length_singleton]; omega)
      rw [hw, List.range_succ_eq_map, List.map_cons, List.map_map]
      have e : ∀ j : Nat, i + 1 + j = i + (j + 1) := fun j => by omega
      simp only [e] at this
      simpa [Function.comp_def] using this
    have j3 : ∀ (x6' : List S186) (b : Bool), x6'.length ≤ i + 1 → (∀ s ∈ x6', s.f2.length ≤ i + 1) → (b = true → 0 < x5.length) →
        Ev (fun k => tables_ZzLookup.j3 k 6 vl (rd gl (i : Int)) (rd vl (i : Int)) (wrap64 ((x5.length : Int) - 1)) gl (gl.length : Int) (i : Int) b 0 0 0 0 0 0 x5 0 0 0 0 0 0 x6' 0 0 0 0 0 0 (x7 ++ [⟨rd gl (i : Int), rd vl (i : Int)⟩])) (0, 0, 0, 0, 0, 0, x7 ++ ((List.range (d + 1)).map fun j => (⟨rd gl ((i + j : Nat) : Int), rd vl ((i + j : Nat) : Int)⟩ : S184))) := by
      intro x6' b a2 a3 hb
      have h1 : wrap64 ((x5.length : Int) - 1) = (x5.length : Int) - 1 := w64 _ (by omega)
      cases b with
      | true =>
        have h0 := hb rfl
        refine Ev.step (fun k => ?_) (next (x5.set (wrap64 ((x5.length : Int) - 1)).toNat ⟨rd gl (i : Int), (rd_T188 x5 (wrap64 ((x5.length : Int) - 1))).f1, (rd_T188 x5 (wrap64 ((x5.length : Int) - 1))).f2⟩) x6' (by rw [List.length_set]; omega) a2 a3)
        rw [tables_ZzLookup.j3, if_pos rfl, if_pos (by omega), if_pos (by omega)]
      | false =>
        refine Ev.step (fun k => ?_) (next (x5 ++ [⟨rd gl (i : Int), rd gl (i : Int), rd vl (i : Int)⟩]) x6' (by rw [List.length_append, List.length_singleton]; omega) a2 a3)
        rw [tables_ZzLookup.j3, if_neg (by simp), if_pos (by omega)]
    have j2 : ∀ (x6' : List S186), x6'.length ≤ i + 1 → (∀ s ∈ x6', s.f2.length ≤ i + 1) →
        Ev (fun k => tables_ZzLookup.j2 k 6 vl (rd gl (i : Int)) (rd vl (i : Int)) gl (gl.length : Int) (i : Int) 0 0 0 0 0 0 x5 0 0 0 0 0 0 x6' 0 0 0 0 0 0 (x7 ++ [⟨rd gl (i : Int), rd vl (i : Int)⟩])) (0, 0, 0, 0, 0, 0, x7 ++ ((List.range (d + 1)).map fun j => (⟨rd gl ((i + j : Nat) : Int), rd vl ((i + j : Nat) : Int)⟩ : S184))) := by
      intro x6' a2 a3
      have h1 : wrap64 ((x5.length : Int) - 1) = (x5.length : Int) - 1 := w64 _ (by omega)
      by_cases h0 : wrap64 ((x5.length : Int) - 1) ≥ 0
      · by_cases h2 : (IntKind.u16.wrap (((rd_T188 x5 (wrap64 ((x5.length : Int) - 1))).f0) + 1)) = rd gl (i : Int)
        · refine Ev.step (fun k => ?_) (j3 x6' (((rd_T188 x5 (wrap64 ((x5.length : Int) - 1))).f2) == rd vl (i : Int)) a2 a3 (fun _ => by omega))
          rw [tables_ZzLookup.j2, if_pos h0, if_pos (by omega), if_pos (by omega), if_pos h2]
        · refine Ev.step (fun k => ?_) (j3 x6' false a2 a3 (fun h => by cases h))
          rw [tables_ZzLookup.j2, if_pos h0, if_pos (by omega), if_pos (by omega), if_neg h2]
      · refine Ev.step (fun k => ?_) (j3 x6' false a2 a3 (fun h => by cases h))
        rw [tables_ZzLookup.j2, if_neg h0]
    have j1 : ∀ (b : Bool), (b = true → 0 < x6.length) →
        Ev (fun k => tables_ZzLookup.j1 k 6 vl (rd gl (i : Int)) (rd vl (i : Int)) (wrap64 ((x6.length : Int) - 1)) gl (gl.length : Int) (i : Int) b 0 0 0 0 0 0 x5 0 0 0 0 0 0 x6 0 0 0 0 0 0 (x7 ++ [⟨rd gl (i : Int), rd vl (i : Int)⟩])) (0, 0, 0, 0, 0, 0, x7 ++ ((List.range (d + 1)).map fun j => (⟨rd gl ((i + j : Nat) : Int), rd vl ((i + j : Nat) : Int)⟩ : S184))) := by
      intro b hb
      have h1 : wrap64 ((x6.length : Int) - 1) = (x6.length : Int) - 1 := w64 _ (by omega)
      cases b with
      | true =>
        have h0 := hb rfl
        generalize hy : x6.set (wrap64 ((x6.length : Int) - 1)).toNat (⟨rd gl (i : Int), (rd_T186 x6 (wrap64 ((x6.length : Int) - 1))).f1, (rd_T186 x6 (wrap64 ((x6.length : Int) - 1))).f2⟩ : S186) = y
        have hyl : y.length = x6.length := by rw [← hy, List.length_set]
        have hrm : ∀ (z : List S186), (∀ s ∈ z, s.f2.length ≤ i) → ∀ q : Int, (rd_T186 z q).f2.length ≤ i := by
          intro z hz q
          unfold rd_T186
          rw [List.getD_eq_getElem?_getD]
          cases hq : z[q.toNat]? with
          | none => simp [z186]
          | some s => exact hz s (List.mem_of_getElem? hq)
        have hym : ∀ s ∈ y, s.f2.length ≤ i := by
          intro s hs
          rw [← hy] at hs
          rcases List.mem_or_eq_of_mem_set hs with hs | hs
          · exact h6b s hs
          · rw [hs]; exact hrm x6 h6b _
        have hyr := hrm y hym (wrap64 ((x6.length : Int) - 1))
        refine Ev.step (fun k => ?_) (j2 (y.set (wrap64 ((x6.length : Int) - 1)).toNat ⟨(rd_T186 y (wrap64 ((x6.length : Int) - 1))).f0, (rd_T186 y (wrap64 ((x6.length : Int) - 1))).f1, ((rd_T186 y (wrap64 ((x6.length : Int) - 1))).f2) ++ [rd vl (i : Int)]⟩) (by rw [List.length_set]; omega) (fun s hs => ?_))
        · rw [tables_ZzLookup.j1, if_pos rfl, if_pos (by omega), if_pos (by omega), Option.bind_some, hy, if_pos (by omega)]
        · rcases List.mem_or_eq_of_mem_set hs with hs | hs
          · have := hym s hs; omega
          · rw [hs]; simp only [List.length_append, List.length_singleton]; omega
      | false =>
        refine Ev.step (fun k => ?_) (j2 (x6 ++ [⟨rd gl (i : Int), rd gl (i : Int), [rd vl (i : Int)]⟩]) (by rw [List.length_append, List.length_singleton]; omega) (fun s hs => ?_))
        · rw [tables_ZzLookup.j1, if_neg (by simp), if_pos (by omega)]
        · rcases List.mem_append.1 hs with hs | hs
          · have := h6b s hs; omega
          · rw [List.mem_singleton.1 hs]; simp
    have h1 : wrap64 ((x6.length : Int) - 1) = (x6.length : Int) - 1 := w64 _ (by omega)
    by_cases h0 : wrap64 ((x6.length : Int) - 1) ≥ 0
    · refine Ev.step (fun k => ?_) (j1 ((IntKind.u16.wrap (((rd_T186 x6 (wrap64 ((x6.length : Int) - 1))).f0) + 1)) == (rd gl (i : Int))) (fun _ => by omega))
      rw [tables_ZzLookup.l0, if_pos (by omega), if_pos (by omega), if_pos (by omega), if_pos (by omega), if_pos (by omega), Option.bind_some, if_pos h0, if_pos (by omega), if_pos (by omega)]
    · refine Ev.step (fun k => ?_) (j1 false (fun h => by cases h))
      rw [tables_ZzLookup.l0, if_pos (by omega), if_pos (by omega), if_pos (by omega), if_pos (by omega), if_pos (by omega), Option.bind_some, if_neg h0]

theorem must_t (a b : Int) (p : Bool) (h : p = true) : impl_builder_must.f a b false p = some (a, b, false) := by
  rw [impl_builder_must.f, if_neg (by simp), h]; rfl
theorem small_t (a b x : Int) (h : 0 ≤ x ∧ x ≤ 65535) : impl_builder_small.f a b false x = some (x, a, b, false) := by
  rw [impl_builder_small.f, if_pos (by omega), must_t a b _ (by simp; omega), u16w x h]; rfl
theorem signed_t (a b x : Int) (h : -32768 ≤ x ∧ x ≤ 32767) : impl_builder_signed.f a b false x = some (x, a, b, false) := by
  rw [impl_builder_signed.f, if_pos (by omega), must_t a b _ (by simp; omega), i16w x h]; rfl
theorem zz_is (l : List S27) (hl : l.length ≤ 10) : Ev (fun k => tables_ZzLookup.f k 6 (l.map (·.f0)) (l.map (·.f1))) (0, 0, 0, 0, 0, 0, l.map cz) := by
  have h := zz_l0 (l.map (·.f0)) (l.map (·.f1)) (by simp) (by simp; omega) l.length 0 [] [] [] (by simp) (by simp) (by simp) (by simp) (by simp)
  have e : ((List.range l.length).map fun j => (⟨rd (l.map (·.f0)) ((0 + j : Nat) : Int), rd (l.map (·.f1)) ((0 + j : Nat) : Int)⟩ : S184)) = l.map cz := by
    apply List.ext_getElem
    · simp
    · intro n h1 h2
      have hn : n < l.length := by simpa using h2
      simp only [List.getElem_map, List.getElem_range, Nat.zero_add]
      unfold rd cz
      rw [Int.toNat_natCast, List.getD_eq_getElem?_getD, List.getD_eq_getElem?_getD, List.getElem?_map, List.getElem?_map, List.getElem?_eq_getElem hn]
      rfl
  rw [e, List.nil_append] at h
  exact h
theorem lookup_l0 (l : List S27) (hc : Cok l) (a b : Int) : ∀ (t : List S27) (i : Nat) (x7 x8 : List Int) (_ : l.drop i = t) (_ : i ≤ l.length) (_ : x7 = (l.take i).map (·.f0)) (_ : x8 = (l.take i).map (·.f1)),
    Ev (fun k => impl_builder_lookup.l0 k 6 l x7 x8 l (l.length : Int) (i : Int) a b false) (0, 0, 0, 0, 0, 0, l.map cz, a, b, false)
  | [], i, x7, x8, hd, hi, h7, h8 => by
    have e : l.length ≤ i := by simpa using hd
    rw [List.take_of_length_le e] at h7 h8
    subst h7
    subst h8
    refine Ev.step (f := fun k => (tables_ZzLookup.f k 6 (l.map (·.f0)) (l.map (·.f1))).bind fun bt150 => (some (bt150.1, bt150.2.1, bt150.2.2.1, bt150.2.2.2.1, bt150.2.2.2.2.1, bt150.2.2.2.2.2.1, bt150.2.2.2.2.2.2, a, b, false))) (fun k => ?_) (Ev.bind (zz_is l hc.len) (Ev.now _))
    rw [impl_builder_lookup.l0, if_neg (by omega)]
  | s :: t, i, x7, x8, hd, hi, h7, h8 => by
    obtain ⟨hg, hlt, hd2⟩ := drop_head hd
    have hrd : rd_T27 l (i : Int) = s := getD_drop z27 hd
    have hm : s ∈ l := List.mem_of_getElem? hg
    have b0 := hc.lo s hm
    have b1 := hc.cl s hm
    have hlen := hc.len
    have l7 : x7.length ≤ i := by rw [h7]; simp; omega
    have l8 : x8.length ≤ i := by rw [h8]; simp; omega
    have nx := lookup_l0 l hc a b t (i + 1) (x7 ++ [s.f0]) (x8 ++ [s.f1]) hd2 (by omega) (by rw [List.take_add_one, hg, List.map_append, h7]; rfl) (by rw [List.take_add_one, hg, List.map_append, h8]; rfl)
    have j2 : Ev (fun k => impl_builder_lookup.j2 k 6 l x7 x8 l (l.length : Int) (i : Int) a b false s.f0 s.f1) (0, 0, 0, 0, 0, 0, l.map cz, a, b, false) := by
      refine Ev.step (fun k => ?_) nx
      rw [impl_builder_lookup.j2, small_t a b s.f0 (by omega), Option.bind_some, if_pos (by omega)]
      simp only []
      rw [small_t a b s.f1 (by omega), Option.bind_some, if_pos (by omega), wsucc i (by omega)]
    refine Ev.step (fun k => ?_) j2
    rw [impl_builder_lookup.l0, if_pos (by omega), if_pos (by omega), if_pos (by omega), hrd, if_pos (by omega)]
    by_cases h0 : (i : Int) = 0
    · rw [if_pos h0, must_t a b _ rfl]
      rfl
    · have hw : wrap64 ((i : Int) - 1) = ((i - 1 : Nat) : Int) := by rw [w64 _ (by omega)]; omega
      obtain ⟨p, hp⟩ : ∃ p, l[i - 1]? = some p := ⟨_, List.getElem?_eq_getElem (by omega)⟩
      have hrp : rd_T27 l ((i - 1 : Nat) : Int) = p := by unfold rd_T27; rw [Int.toNat_natCast, List.getD_eq_getElem?_getD, hp]; rfl
      have hup := hc.up (i - 1) i p s hp hg (by omega)
      rw [if_neg h0, hw, if_pos (by omega), if_pos (by omega), hrp, must_t a b _ (decide_eq_true (by omega))]
      rfl
theorem lookup_is (l : List S27) (hc : Cok l) (a b : Int) : Ev (fun k => impl_builder_lookup.f k a b false 6 l) (0, 0, 0, 0, 0, 0, l.map cz, a, b, false) := by
  have h0 : Ev (fun k => impl_builder_lookup.j0 k 6 l a b false) (0, 0, 0, 0, 0, 0, l.map cz, a, b, false) := by
    refine Ev.step (fun k => ?_) (lookup_l0 l hc a b l 0 [] [] rfl (by omega) (by simp) (by simp))
    rw [impl_builder_lookup.j0]
    rfl
  refine Ev.congr (fun k => ?_) h0
  rw [impl_builder_lookup.f, if_neg (by decide), if_neg (by decide), must_t a b _ (by decide)]
  rfl
theorem rd_cz (l : List S27) (m : Nat) (s : S27) (h : l[m]? = some s) : rd_T184 (l.map cz) (m : Int) = cz s := by
  unfold rd_T184
  rw [Int.toNat_natCast, List.getD_eq_getElem?_getD, List.getElem?_map, h]
  rfl
theorem cls_l0 (l : List S27) (hc : Cok l) (g q0 q1 q2 q3 q4 q5 : Int) : ∀ (d i j : Nat) (_ : j ≤ i + d) (_ : j ≤ l.length) (_ : i ≤ l.length) (_ : ∀ (a : Nat) (s : S27), l[a]? = some s → a < i → s.f0 < g) (_ : ∀ (a : Nat) (s : S27), l[a]? = some s → j ≤ a → g < s.f0),
    EvP (fun k => tables_AATLoopkup6_Class.l0 k g (i : Int) (j : Int) q0 q1 q2 q3 q4 q5 (l.map cz)) (fun r => r.1 = look l g)
  | d, i, j, hd, hj, hi, ha, hb => by
    have hlen := hc.len
    by_cases hlt : i < j
    · cases d with
      | zero => omega
      | succ d =>
        have hw : wrap64 ((i : Int) + wrap64 (Int.tdiv (wrap64 ((j : Int) - (i : Int))) 2)) = ((i + (j - i) / 2 : Nat) : Int) := by
          rw [w64 ((j : Int) - (i : Int)) (by omega), Int.tdiv_eq_ediv_of_nonneg (by omega), w64 (((j : Int) - (i : Int)) / 2) (by omega), w64 _ (by omega)]
          omega
        generalize hm : i + (j - i) / 2 = m at hw
        have hmj : m < j := by omega
        have him : i ≤ m := by omega
        obtain ⟨s, hs⟩ : ∃ s, l[m]? = some s := ⟨_, List.getElem?_eq_getElem (by omega)⟩
        have hr := rd_cz l m s hs
        by_cases h1 : g < s.f0
        · refine EvP.step (fun k => ?_) (cls_l0 l hc g q0 q1 q2 q3 q4 q5 d i m (by omega) (by omega) hi ha (fun a x hx hax => ?_))
          · rw [tables_AATLoopkup6_Class.l0, if_pos (by omega), hw, if_pos (by omega), if_pos (by rw [List.length_map]; omega), hr, if_pos (by exact h1)]
          · by_cases e : a = m
            · subst e
              rw [hs] at hx
              injection hx with hx
              subst hx
              exact h1
            · have := hc.up m a s x hs hx (by omega)
              omega
        · by_cases h2 : s.f0 < g
          · refine EvP.step (fun k => ?_) (cls_l0 l hc g q0 q1 q2 q3 q4 q5 d (m + 1) j (by omega) hj (by omega) (fun a x hx hax => ?_) hb)
            · rw [tables_AATLoopkup6_Class.l0, if_pos (by omega), hw, if_pos (by omega), if_pos (by rw [List.length_map]; omega), hr, if_neg (by exact h1), if_pos (by exact h2), wsucc m (by omega)]
            · by_cases e : a = m
              · subst e
                rw [hs] at hx
                injection hx with hx
                subst hx
                exact h2
              · have := hc.up a m x s hx hs (by omega)
                omega
          · refine EvP.step (f := fun _ => some (s.f1, true)) (fun k => ?_) (EvP.now _ (look_at l g m s hs (by omega) hc.up).symm)
            rw [tables_AATLoopkup6_Class.l0, if_pos (by omega), hw, if_pos (by omega), if_pos (by rw [List.length_map]; omega), hr, if_neg (by exact h1), if_neg (by exact h2)]
            rfl
    · refine EvP.step (f := fun _ => some (0, false)) (fun k => ?_) (EvP.now _ (look_none l g (fun s hs => ?_)).symm)
      · rw [tables_AATLoopkup6_Class.l0, if_neg (by omega)]
      · obtain ⟨a, ha2⟩ := List.getElem?_of_mem hs
        by_cases h : a < i
        · have := ha a s ha2 h; omega
        · have := hb a s ha2 (by omega); omega
theorem cls_is (l : List S27) (hc : Cok l) (g q0 q1 q2 q3 q4 q5 : Int) : Ev (fun k => tables_AATLoopkup6_ClassUint32.f k q0 q1 q2 q3 q4 q5 (l.map cz) g) (look l g) := by
  obtain ⟨r, hr, hq⟩ := cls_l0 l hc g q0 q1 q2 q3 q4 q5 l.length 0 l.length (by omega) (Nat.le_refl _) (by omega) (fun a s _ h => by omega) (fun a s h1 h2 => by
    have := (List.getElem?_eq_some_iff.1 h1).1; omega)
  have hb := look_bound l hc g
  have e : r.1 % 4294967296 = look l g := by rw [hq]; omega
  have hr2 : Ev (fun k => tables_AATLoopkup6_Class.f k q0 q1 q2 q3 q4 q5 (l.map cz) g) r := by
    refine Ev.congr (fun k => ?_) hr
    rw [tables_AATLoopkup6_Class.f, List.length_map]
    rfl
  rw [← e]
  exact Ev.bind hr2 (Ev.now _)
/-- What the law wants. -/
def wantV (l m : List S27) (v : List Int) (a b : Int) : Int := if look l a + look m b < (v.length : Int) then rd v (look l a + look m b) else 0
theorem pair_is (l m : List S27) (hl : Cok l) (hm : Cok m) (v : List Int) (a b : Int) (ha : 0 ≤ a ∧ a < 12) (hb : 0 ≤ b ∧ b < 12) (q0 q1 q2 q3 q4 q5 q6 q7 q8 q9 q10 q11 q12 r0 r1 r2 r3 r4 r5 : Int) :
    Ev (fun k => font_Kern6_KernPair.f k q0 q1 q2 q3 q4 q5 q6 q7 q8 q9 q10 q11 q12 (l.map cz) r0 r1 r2 r3 r4 r5 (m.map cz) v a b) (wantV l m v a b) := by
  have b1 := look_bound l hl a
  have b2 := look_bound m hm b
  unfold font_Kern6_KernPair.f
  rw [u16w a (by omega), u16w b (by omega)]
  refine Ev.bind (cls_is l hl a _ _ _ _ _ _) (Ev.bind (cls_is m hm b _ _ _ _ _ _) ?_)
  rw [w64 (look l a) (by omega), w64 (look m b) (by omega), w64 (look l a + look m b) (by omega)]
  unfold wantV
  by_cases h : look l a + look m b < (v.length : Int)
  · rw [if_neg (by omega), if_pos (by omega), if_pos h, if_pos h]
    exact Ev.now _
  · rw [if_pos (by omega), if_neg h]
    exact Ev.now _
theorem rd_mem (v : List Int) (i : Nat) (h : i < v.length) : rd v (i : Int) = v[i] ∧ rd v (i : Int) ∈ v := by
  have e : rd v (i : Int) = v[i] := by
    unfold rd
    rw [Int.toNat_natCast, List.getD_eq_getElem?_getD, List.getElem?_eq_getElem h]
    rfl
  exact ⟨e, by rw [e]; exact List.getElem_mem h⟩
theorem want_bound (l m : List S27) (hl : Cok l) (hm : Cok m) (v : List Int) (hv : ∀ x ∈ v, -32768 ≤ x ∧ x ≤ 32767) (a b : Int) : -32768 ≤ wantV l m v a b ∧ wantV l m v a b ≤ 32767 := by
  have b1 := look_bound l hl a
  have b2 := look_bound m hm b
  unfold wantV
  split
  · obtain ⟨n, hn⟩ : ∃ n : Nat, look l a + look m b = (n : Int) := ⟨(look l a + look m b).toNat, by omega⟩
    rw [hn]
    exact hv _ (rd_mem v n (by omega)).2
  · omega
theorem impl_l0 (l m : List S27) (hl : Cok l) (hm : Cok m) (v : List Int) (hv : v.length < 100000) (hb : ∀ x ∈ v, -32768 ≤ x ∧ x ≤ 32767) (a b : Int) (ha : 0 ≤ a ∧ a < 12) (hbb : 0 ≤ b ∧ b < 12) (p0 p1 q0 q1 q2 q3 q4 q5 q6 q7 q8 q9 q10 q11 q12 r0 r1 r2 r3 r4 r5 : Int) :
    ∀ (d i : Nat) (z : List Int) (_ : i + d = v.length) (_ : z = v.take i),
    Ev (fun k => impl_KernClasses.l0 k a b v (v.length : Int) (i : Int) p0 p1 false q0 q1 q2 q3 q4 q5 q6 q7 q8 q9 q10 q11 q12 (l.map cz) r0 r1 r2 r3 r4 r5 (m.map cz) z) (wantV l m v a b)
  | 0, i, z, hi, hz => by
    have wb := want_bound l m hl hm v hb a b
    rw [List.take_of_length_le (by omega)] at hz
    subst hz
    have hp := pair_is l m hl hm z a b ha hbb q0 q1 q2 q3 q4 q5 q6 q7 q8 q9 q10 q11 q12 r0 r1 r2 r3 r4 r5
    refine Ev.step (f := fun k => (font_Kern6_KernPair.f k q0 q1 q2 q3 q4 q5 q6 q7 q8 q9 q10 q11 q12 (l.map cz) r0 r1 r2 r3 r4 r5 (m.map cz) z a b).bind fun t243 => some (wrap64 t243)) (fun k => ?_) (Ev.bind hp (by simp only [w64 (wantV l m z a b) (by omega)]; exact Ev.now _))
    rw [impl_KernClasses.l0, if_neg (by omega), small_t p0 p1 a (by omega), Option.bind_some]
    simp only []
    rw [small_t p0 p1 b (by omega), Option.bind_some, if_neg (by simp), show a % 4294967296 = a by omega, show b % 4294967296 = b by omega]
  | d + 1, i, z, hi, hz => by
    obtain ⟨e1, e2⟩ := rd_mem v i (by omega)
    have zl : z.length ≤ i := by rw [hz]; simp; omega
    have e3 := hb _ e2
    have nx := impl_l0 l m hl hm v hv hb a b ha hbb p0 p1 q0 q1 q2 q3 q4 q5 q6 q7 q8 q9 q10 q11 q12 r0 r1 r2 r3 r4 r5 d (i + 1) (z ++ [rd v (i : Int)]) (by omega) (by rw [List.take_add_one, List.getElem?_eq_getElem (by omega), hz, e1]; rfl)
    refine Ev.step (fun k => ?_) nx
    rw [impl_KernClasses.l0, if_pos (by omega), if_pos (by omega), if_pos (by omega), signed_t p0 p1 _ e3, Option.bind_some, if_pos (by omega), wsucc i (by omega)]
theorem impl_is (l m : List S27) (hl : Cok l) (hm : Cok m) (v : List Int) (hv : v.length < 100000) (hb : ∀ x ∈ v, -32768 ≤ x ∧ x ≤ 32767) (a b : Int) (ha : 0 ≤ a ∧ a < 12) (hbb : 0 ≤ b ∧ b < 12) :
    Ev (fun k => impl_KernClasses.f k l m v a b) (wantV l m v a b) := by
  unfold impl_KernClasses.f
  exact Ev.bind (lookup_is l hl 0 0) (Ev.bind (lookup_is m hm 0 0) (impl_l0 l m hl hm v hv hb a b ha hbb 0 0 0 0 0 0 0 0 0 0 0 0 0 0 0 0 0 0 0 0 0 v.length 0 [] (by omega) (by simp)))
theorem cok_nil : Cok [] := ⟨fun s hs => by simp at hs, fun s hs => by simp at hs, fun a b x y h => by simp at h, by simp⟩
theorem law_j3 (l m : List S27) (hl : Cok l) (hm : Cok m) (v : List Int) (hv : v.length < 100000) (hb : ∀ x ∈ v, -32768 ≤ x ∧ x ≤ 32767) (x y : Int) (hx : 0 ≤ x ∧ x ≤ 255) (hy : 0 ≤ y ∧ y ≤ 255) :
    Ev (fun k => laws_FnKernClasses.j3 k x y l m v (wantV l m v (wrap64 (Int.tmod x 12)) (wrap64 (Int.tmod y 12)))) true := by
  have ex : Int.tmod x 12 = x % 12 := Int.tmod_eq_emod_of_nonneg (by omega)
  have ey : Int.tmod y 12 = y % 12 := Int.tmod_eq_emod_of_nonneg (by omega)
  have main := impl_is l m hl hm v hv hb (wrap64 (Int.tmod x 12)) (wrap64 (Int.tmod y 12)) (by rw [ex, w64 _ (by omega)]; omega) (by rw [ey, w64 _ (by omega)]; omega)
  have seven := impl_is [] [] cok_nil cok_nil [7] (by simp) (by simp) 1 1 (by omega) (by omega)
  refine Ev.step (fun k => by rw [laws_FnKernClasses.j3]) (Ev.bind main ?_)
  refine Ev.congr (fun k => if_pos rfl) ?_
  exact Ev.bind seven (Ev.now _)
theorem law_l0 (l m : List S27) (hl : Cok l) (hm : Cok m) (v : List Int) (hb : ∀ x ∈ v, -32768 ≤ x ∧ x ≤ 32767) (x y : Int) (hx : 0 ≤ x ∧ x ≤ 255) (hy : 0 ≤ y ∧ y ≤ 255) : ∀ (d i : Nat) (z : List Int) (_ : i + d = 40) (_ : z.length ≤ i) (_ : ∀ x ∈ z, -32768 ≤ x ∧ x ≤ 32767),
    Ev (fun k => laws_FnKernClasses.l0 k v x y l m z (i : Int)) true
  | d, i, z, hi, hz, hzb => by
    have done : Ev (fun k => laws_FnKernClasses.j2 k v x y l m z (i : Int) false) true := by
      have ex : Int.tmod x 12 = x % 12 := Int.tmod_eq_emod_of_nonneg (by omega)
      have ey : Int.tmod y 12 = y % 12 := Int.tmod_eq_emod_of_nonneg (by omega)
      have h3 := law_j3 l m hl hm z (by omega) hzb x y hx hy
      have b1 := look_bound l hl (wrap64 (Int.tmod x 12))
      have b2 := look_bound m hm (wrap64 (Int.tmod y 12))
      have ll := hl.len
      have lm := hm.len
      refine Ev.step (fun k => by rw [laws_FnKernClasses.j2, if_neg (by simp)]) (Ev.bind (aat_is l _ (by omega)) (Ev.bind (aat_is m _ (by omega)) ?_))
      rw [w64 (look l (wrap64 (Int.tmod x 12)) + look m (wrap64 (Int.tmod y 12))) (by omega)]
      unfold wantV at h3
      by_cases h : look l (wrap64 (Int.tmod x 12)) + look m (wrap64 (Int.tmod y 12)) < (z.length : Int)
      · rw [if_pos h] at h3
        refine Ev.congr (fun k => ?_) h3
        rw [if_pos h, if_pos (by omega)]
      · rw [if_neg h] at h3
        refine Ev.congr (fun k => ?_) h3
        rw [if_neg h]
    by_cases hlt : (i : Int) < (v.length : Int)
    · cases d with
      | zero =>
        have e : i = 40 := by omega
        subst e
        refine Ev.step (fun k => ?_) done
        rw [laws_FnKernClasses.l0, if_pos hlt]
        rfl
      | succ d =>
        obtain ⟨_, e2⟩ := rd_mem v i (by omega)
        have e3 := hb _ e2
        refine Ev.step (f := fun k => laws_FnKernClasses.j2 k v x y l m z (i : Int) true) (fun k => ?_) ?_
        · rw [laws_FnKernClasses.l0, if_pos hlt, decide_eq_true (by omega)]
        refine Ev.step (fun k => ?_) (law_l0 l m hl hm v hb x y hx hy d (i + 1) (z ++ [rd v (i : Int)]) (by omega) (by rw [List.length_append, List.length_singleton]; omega) (fun q hq => ?_))
        · rw [laws_FnKernClasses.j2, if_pos rfl, if_pos (by omega), if_pos hlt, if_pos (by omega), w64 (rd v (i : Int)) (by omega), wsucc i (by omega)]
        · rcases List.mem_append.1 hq with hq | hq
          · exact hzb q hq
          · rw [List.mem_singleton.1 hq]; exact e3
    · refine Ev.step (fun k => ?_) done
      rw [laws_FnKernClasses.l0, if_neg hlt]
theorem wf_u8 {x : Int} (h : (Lit.int .u8 x).wf = true) : 0 ≤ x ∧ x ≤ 255 := by
  simp only [Lit.wf, Bool.and_eq_true, decide_eq_true_eq] at h; exact h
theorem wf_i16 {x : Int} (h : (Lit.int .i16 x).wf = true) : -32768 ≤ x ∧ x ≤ 32767 := by
  simp only [Lit.wf, Bool.and_eq_true, decide_eq_true_eq] at h; exact h
theorem FnKernClasses : laws_FnKernClasses.Pure := by
  intro l0 l1 l2 a3 a4 _ _ g0 _ _ g1 _ _ g2 g3 g4
  obtain ⟨l, hl, cl⟩ := list_is l0 (fun x hx => wf_u8 (g0 x hx))
  obtain ⟨m, hm, cm⟩ := list_is l1 (fun x hx => wf_u8 (g1 x hx))
  have j0 : ∀ b : Bool, Ev (fun k => laws_FnKernClasses.j0 k l0 l1 l2 a3 a4 b) true := by
    intro b
    cases b with
    | true => exact Ev.step (f := fun _ => some true) (fun k => by rw [laws_FnKernClasses.j0, if_pos rfl]) (Ev.now _)
    | false =>
      refine Ev.step (fun k => by rw [laws_FnKernClasses.j0, if_neg (by simp)]) (Ev.bind hl (Ev.bind hm ?_))
      exact law_l0 l m cl cm l2 (fun x hx => wf_i16 (g2 x hx)) a3 a4 (wf_u8 g3) (wf_u8 g4) 40 0 [] (by omega) (by simp) (by simp)
  have all : Ev (fun k => laws_FnKernClasses.f k l0 l1 l2 a3 a4) true := by
    unfold laws_FnKernClasses.f
    by_cases h0 : (l0.length : Int) > 2147483647
    · simp only [if_pos h0]; exact j0 true
    · simp only [if_neg h0]
      by_cases h1 : (l1.length : Int) > 2147483647
      · simp only [if_pos h1]; exact j0 true
      · simp only [if_neg h1]; exact j0 _
  exact all.rounds

end Go.Proofs.Ytchkmmbedgolbaa.Pure
