/- The law FnGlyphSpots holds for every list of contours, every box and every choice of ways: the bytes that are written are read again as the same points, and the box. Condition: none (the statement's own bounds on sizes lie in the law). -/
import Derived.Lib.IndexLaws
import Derived.Laws.BitsLemmas
import Derived.Test.YtchkmmbedgolbaaPFnGlyphSpotsx0
import Derived.Test.YtchkmmbedgolbaaPFnGlyphSpotsx2
import Derived.Test.YtchkmmbedgolbaaPFnGlyphSpotsx3
import Derived.Test.YtchkmmbedgolbaaPFnGlyphSpotsx4
import Derived.Test.YtchkmmbedgolbaaPFnGlyphSpotsx5
import Derived.Test.YtchkmmbedgolbaaPFnGlyphSpotsx6
import Derived.Test.YtchkmmbedgolbaaPFnGlyphSpotsx7
import Derived.Test.YtchkmmbedgolbaaPFnGlyphSpotsx8
import Derived.Test.YtchkmmbedgolbaaPFnGlyphSpotsx10
namespace Go.Proofs.Ytchkmmbedgolbaa.Pure
open Go.RowKit Go.Proofs.Ytchkmmbedgolbaa.PFnGlyphSpots Go.Proofs.YtchkmmbedgolbaaW Go.Proofs.YtchkmmbedgolbaaW.PrintWords Go.Proofs.YtchkmmbedgolbaaW.PrintLast Go.Proofs.YtchkmmbedgolbaaW.PrintMore
set_option linter.unusedVariables false
set_option linter.unusedSectionVars false
set_option linter.unusedSimpArgs false
/-- It ends, and its answer is as said. -/
def EvP {α : Type} (g : Nat → Option α) (Q : α → Prop) : Prop := ∃ r, Ev g r ∧ Q r
theorem EvP.now {α : Type} {Q : α → Prop} (r : α) (h : Q r) : EvP (fun _ => some r) Q := ⟨r, Ev.now r, h⟩
theorem EvP.step {α : Type} {g f : Nat → Option α} {Q : α → Prop} (h : ∀ k, g (k + 1) = f k) (k : EvP f Q) : EvP g Q := by
  obtain ⟨r, hr, hq⟩ := k
  exact ⟨r, Ev.step h hr, hq⟩
theorem EvP.congr {α : Type} {g f : Nat → Option α} {Q : α → Prop} (h : ∀ k, g k = f k) (k : EvP f Q) : EvP g Q := by
  obtain ⟨r, hr, hq⟩ := k
  exact ⟨r, Ev.congr h hr, hq⟩
theorem EvP.pos {α : Type} {c : Prop} [Decidable c] {g f : Nat → Option α} {Q : α → Prop} (hc : c) (h : EvP g Q) : EvP (fun k => if c then g k else f k) Q := EvP.congr (fun _ => if_pos hc) h
theorem EvP.neg {α : Type} {c : Prop} [Decidable c] {g f : Nat → Option α} {Q : α → Prop} (hc : ¬ c) (h : EvP f Q) : EvP (fun k => if c then g k else f k) Q := EvP.congr (fun _ => if_neg hc) h
theorem EvP.bind {α β : Type} {g : Nat → Option α} {f : Nat → α → Option β} {a : α} {Q : β → Prop} (h : Ev g a) (k : EvP (fun n => f n a) Q) : EvP (fun n => (g n).bind (f n)) Q := by
  obtain ⟨r, hr, hq⟩ := k
  exact ⟨r, Ev.bind h hr, hq⟩
theorem EvP.bindP {α β : Type} {g : Nat → Option α} {f : Nat → α → Option β} {P : α → Prop} {Q : β → Prop} (h : EvP g P) (k : ∀ a, P a → EvP (fun n => f n a) Q) : EvP (fun n => (g n).bind (f n)) Q := by
  obtain ⟨a, ha, hp⟩ := h
  exact EvP.bind ha (k a hp)
theorem EvP.mono {α : Type} {g : Nat → Option α} {P Q : α → Prop} (h : EvP g P) (k : ∀ a, P a → Q a) : EvP g Q := by
  obtain ⟨a, ha, hp⟩ := h
  exact ⟨a, ha, k a hp⟩
theorem Ev.const {α : Type} {a : Option α} {r : α} (h : a = some r) : Ev (fun _ => a) r := ⟨0, fun _ _ => h⟩

/-! ### words -/
theorem w64 (n : Int) (h : -9223372036854775808 ≤ n ∧ n ≤ 9223372036854775807) : wrap64 n = n := by unfold wrap64; omega
theorem wsucc (i : Nat) (h : i < 10000000) : wrap64 ((i : Int) + 1) = ((i + 1 : Nat) : Int) := by rw [w64 _ (by omega)]; omega
theorem i16w (n : Int) (h : -32768 ≤ n ∧ n ≤ 32767) : IntKind.i16.wrap n = n := by simp only [IntKind.wrap, IntKind.bits, IntKind.signed]; simp; omega
theorem drop_head {α : Type} {l : List α} {i : Nat} {x : α} {t : List α} (h : l.drop i = x :: t) : l[i]? = some x ∧ i < l.length ∧ l.drop (i + 1) = t := by
  have h0 : (l.drop i)[0]? = some x := by rw [h]; rfl
  rw [List.getElem?_drop, Nat.add_zero] at h0
  refine ⟨h0, (List.getElem?_eq_some_iff.1 h0).1, ?_⟩
  rw [← List.tail_drop, h]
  rfl
theorem getD_drop {α : Type} {l : List α} {i : Nat} {x : α} {t : List α} (z : α) (h : l.drop i = x :: t) : l.getD i z = x := by
  rw [List.getD_eq_getElem?_getD, (drop_head h).1]
  rfl
structure Ok (c : List S51) : Prop where
  ne : c ≠ []
  one : ∀ s, c = [s] → s.f0 = true
  co : ∀ s ∈ c, s.f1.natAbs ≤ 8192 ∧ s.f2.natAbs ≤ 8192
  len : c.length ≤ 12
/-! ### the law's contours -/
theorem quarter (x : Int) : (wrap64 (Int.tdiv (wrap64 (IntKind.i16.wrap x)) 4)).natAbs ≤ 8192 := by
  have h1 : -32768 ≤ IntKind.i16.wrap x ∧ IntKind.i16.wrap x ≤ 32767 := by simp only [IntKind.wrap, IntKind.bits, IntKind.signed]; simp; omega
  generalize IntKind.i16.wrap x = y at h1
  rw [w64 y (by omega)]
  have h3 : (Int.tdiv y 4).natAbs = y.natAbs / 4 := Int.natAbs_tdiv y 4
  have h2 : -8192 ≤ Int.tdiv y 4 ∧ Int.tdiv y 4 ≤ 8192 := by omega
  rw [w64 _ (by omega)]
  omega
def cs (p : S51) : S51 := ⟨p.f0, wrap64 (Int.tdiv (wrap64 (IntKind.i16.wrap p.f1)) 4), wrap64 (Int.tdiv (wrap64 (IntKind.i16.wrap p.f2)) 4)⟩
def Okm (c : List S51) : Prop := (∀ s ∈ c, s.f1.natAbs ≤ 8192 ∧ s.f2.natAbs ≤ 8192) ∧ c.length ≤ 12
def Post (r : List (List S51)) : Prop := (∀ c ∈ r, Ok c) ∧ r.length ≤ 5
theorem spots_j4 (x0 x2 : List (List S51)) (i : Nat) (c : List S51) (hc : Okm c) (h1 : ∀ s, c = [s] → s.f0 = true) (hx : ∀ c ∈ x2, Ok c) (hl : x2.length ≤ i) (hi : i < 5)
    (h : ∀ x2' : List (List S51), (∀ c ∈ x2', Ok c) → x2'.length ≤ i + 1 → EvP (fun k => laws_someSpots.l0 k x0 x2' ((i + 1 : Nat) : Int)) Post) :
    EvP (fun k => laws_someSpots.j4 k x0 x2 (i : Int) c) Post := by
  by_cases h0 : (c.length : Int) > 0
  · refine EvP.step (fun k => ?_) (h (x2 ++ [c]) (fun z hz => ?_) (by rw [List.length_append, List.length_singleton]; omega))
    · rw [laws_someSpots.j4, if_pos h0, if_pos (by omega), wsucc i (by omega)]
    · rcases List.mem_append.1 hz with hz | hz
      · exact hx z hz
      · rw [List.mem_singleton.1 hz]
        exact ⟨fun e => by rw [e] at h0; simp at h0, h1, hc.1, hc.2⟩
  · refine EvP.step (fun k => ?_) (h x2 hx (by omega))
    rw [laws_someSpots.j4, if_neg h0, wsucc i (by omega)]
theorem spots_out (x0 x2 : List (List S51)) (i : Nat) (c : List S51) (m : Int) (hc : Okm c) (hx : ∀ c ∈ x2, Ok c) (hl : x2.length ≤ i) (hi : i < 5)
    (h : ∀ x2' : List (List S51), (∀ c ∈ x2', Ok c) → x2'.length ≤ i + 1 → EvP (fun k => laws_someSpots.l0 k x0 x2' ((i + 1 : Nat) : Int)) Post) :
    EvP (fun k => laws_someSpots.j3 k x0 x2 (i : Int) c m false) Post := by
  by_cases h1 : (c.length : Int) = 1
  · obtain ⟨s, rfl⟩ : ∃ s, c = [s] := List.length_eq_one_iff.1 (by omega)
    refine EvP.step (fun k => ?_) (spots_j4 x0 x2 i [⟨true, s.f1, s.f2⟩] ⟨fun z hz => ?_, by simp⟩ (fun z hz => by injection hz with h1 h2; rw [← h1]) hx hl hi h)
    · rw [laws_someSpots.j3, if_neg (by simp), if_pos (by simp), if_pos (by simp)]
      rfl
    · rw [List.mem_singleton.1 hz]
      exact hc.1 s List.mem_cons_self
  · refine EvP.step (fun k => ?_) (spots_j4 x0 x2 i c hc (fun s hs => by rw [hs] at h1; simp at h1) hx hl hi h)
    rw [laws_someSpots.j3, if_neg (by simp), if_neg h1]
theorem spots_l1 (x0 x2 : List (List S51)) (i : Nat) (hx : ∀ c ∈ x2, Ok c) (hl : x2.length ≤ i) (hi : i < 5) (hi0 : i < x0.length)
    (h : ∀ x2' : List (List S51), (∀ c ∈ x2', Ok c) → x2'.length ≤ i + 1 → EvP (fun k => laws_someSpots.l0 k x0 x2' ((i + 1 : Nat) : Int)) Post) : ∀ (d j : Nat) (c : List S51) (_ : j + d = 12) (_ : Okm c) (_ : c.length ≤ j),
    EvP (fun k => laws_someSpots.l1 k x0 x2 (i : Int) c (j : Int)) Post
  | d, j, c, hj, hc, hcj => by
    by_cases hlt : (j : Int) < ((rd_L3 x0 (i : Int)).length : Int)
    · cases d with
      | zero =>
        have e : j = 12 := by omega
        subst e
        refine EvP.step (fun k => ?_) (spots_out x0 x2 i c ((12 : Nat) : Int) hc hx hl hi h)
        rw [laws_someSpots.l1, if_pos (by omega), if_pos (by omega), if_pos hlt]
        rfl
      | succ d =>
        have ih := spots_l1 x0 x2 i hx hl hi hi0 h d (j + 1) (c ++ [cs (rd_T51 (rd_L3 x0 (i : Int)) (j : Int))]) (by omega)
          ⟨fun z hz => by
            rcases List.mem_append.1 hz with hz | hz
            · exact hc.1 z hz
            · rw [List.mem_singleton.1 hz]; exact ⟨quarter _, quarter _⟩, by rw [List.length_append, List.length_singleton]; omega⟩ (by rw [List.length_append, List.length_singleton]; omega)
        refine EvP.step (f := fun k => laws_someSpots.j3 k x0 x2 (i : Int) c (j : Int) true) (fun k => ?_) (EvP.step (fun k => ?_) ih)
        · rw [laws_someSpots.l1, if_pos (by omega), if_pos (by omega), if_pos hlt, decide_eq_true (by omega)]
        · rw [laws_someSpots.j3, if_pos rfl, if_pos (by omega), if_pos (by omega), if_pos (by omega), if_pos hlt, if_pos (by omega), wsucc j (by omega)]
          rfl
    · refine EvP.step (fun k => ?_) (spots_out x0 x2 i c (j : Int) hc hx hl hi h)
      rw [laws_someSpots.l1, if_pos (by omega), if_pos (by omega), if_neg hlt]
theorem spots_l0 (x0 : List (List S51)) : ∀ (d i : Nat) (x2 : List (List S51)) (_ : i + d = 5) (_ : ∀ c ∈ x2, Ok c) (_ : x2.length ≤ i), EvP (fun k => laws_someSpots.l0 k x0 x2 (i : Int)) Post
  | d, i, x2, hi, hx, hl => by
    have done : EvP (fun k => laws_someSpots.j1 k x0 x2 (i : Int) false) Post :=
      EvP.step (f := fun _ => some x2) (fun k => by rw [laws_someSpots.j1, if_neg (by simp)]) (EvP.now _ ⟨hx, by omega⟩)
    by_cases hlt : (i : Int) < (x0.length : Int)
    · cases d with
      | zero =>
        have e : i = 5 := by omega
        subst e
        refine EvP.step (fun k => ?_) done
        rw [laws_someSpots.l0, if_pos hlt]
        rfl
      | succ d =>
        have hin := spots_l1 x0 x2 i hx hl (by omega) (by omega) (fun x2' h1 h2 => spots_l0 x0 d (i + 1) x2' (by omega) h1 h2) 12 0 [] (by omega) ⟨fun z hz => by simp at hz, by simp⟩ (by simp)
        refine EvP.step (f := fun k => laws_someSpots.j1 k x0 x2 (i : Int) true) (fun k => ?_) (EvP.step (fun k => ?_) hin)
        · rw [laws_someSpots.l0, if_pos hlt, decide_eq_true (by omega)]
        · rw [laws_someSpots.j1, if_pos rfl]
          rfl
    · refine EvP.step (fun k => ?_) done
      rw [laws_someSpots.l0, if_neg hlt]
theorem fits_l0 (x : List (List S51)) (hl : x.length ≤ 2147483647) : ∀ (t : List (List S51)) (i : Nat) (_ : x.drop i = t) (_ : i ≤ x.length), ∃ b, Ev (fun k => laws_zzFits31.l0 k x (x.length : Int) (i : Int)) b
  | [], i, hd, hi => by
    have : x.length ≤ i := by simpa using hd
    refine ⟨true, Ev.step (f := fun _ => some true) (fun k => ?_) (Ev.now _)⟩
    rw [laws_zzFits31.l0, if_neg (by omega)]
  | c :: t, i, hd, hi => by
    obtain ⟨_, hlt, hd2⟩ := drop_head hd
    obtain ⟨b, hb⟩ := fits_l0 x hl t (i + 1) hd2 (by omega)
    have hw : wrap64 ((i : Int) + 1) = ((i + 1 : Nat) : Int) := by rw [w64 _ (by omega)]; omega
    by_cases h : ((rd_L3 x (i : Int)).length : Int) > 2147483647
    · refine ⟨false, Ev.step (f := fun _ => some false) (fun k => ?_) (Ev.now _)⟩
      rw [laws_zzFits31.l0, if_pos (by omega), if_pos (by omega), if_pos (by omega), if_pos h]
    · refine ⟨b, Ev.step (fun k => ?_) hb⟩
      rw [laws_zzFits31.l0, if_pos (by omega), if_pos (by omega), if_pos (by omega), if_neg h, hw]
theorem fits_is (x : List (List S51)) : ∃ b, Ev (fun k => laws_zzFits31.f k x) b := by
  by_cases h : (x.length : Int) > 2147483647
  · exact ⟨false, Ev.congr (f := fun _ => some false) (fun k => by unfold laws_zzFits31.f; exact if_pos h) (Ev.now _)⟩
  · obtain ⟨b, hb⟩ := fits_l0 x (by omega) x 0 rfl (by omega)
    exact ⟨b, Ev.congr (fun k => by unfold laws_zzFits31.f; exact if_neg h) hb⟩

/-! ### what is written: numbers of two bytes, ways, steps -/
theorem rdI {l : List Int} {i : Nat} {x : Int} {t : List Int} (h : l.drop i = x :: t) : rd l (i : Int) = x := getD_drop 0 h
def be (x : Int) : List Int := [(x / 256) % 256, x % 256]
theorem be_len (l : List Int) : (l.flatMap be).length = 2 * l.length := by
  induction l with
  | nil => rfl
  | cons x t ih => rw [List.flatMap_cons, List.length_append, ih, List.length_cons]; simp [be]; omega
theorem short_l0 (l : List Int) (hl : l.length < 1000) : ∀ (t x0 : List Int) (i : Nat) (_ : l.drop i = t) (_ : i ≤ l.length) (_ : x0.length + 2 * t.length < 100000), Ev (fun k => spec_table_short.l0 k x0 l (l.length : Int) (i : Int)) (x0 ++ t.flatMap be)
  | [], x0, i, hd, hi, hb => by
    have : l.length ≤ i := by simpa using hd
    refine Ev.step (f := fun _ => some x0) (fun k => ?_) (by simpa using Ev.now x0)
    rw [spec_table_short.l0, if_neg (by omega)]
  | x :: t, x0, i, hd, hi, hb => by
    obtain ⟨_, hlt, hd2⟩ := drop_head hd
    have hr := rdI hd
    have hb' : x0.length + 2 * (t.length + 1) < 100000 := hb
    have ih := short_l0 l hl t (x0 ++ be x) (i + 1) hd2 (by omega) (by simp only [List.length_append, be, List.length_cons, List.length_nil]; omega)
    rw [List.append_assoc] at ih
    refine Ev.step (fun k => ?_) ih
    rw [spec_table_short.l0, if_pos (by omega), if_pos (by omega), if_pos (by omega), Option.bind_some, hr, if_pos (by simp only [List.length_cons, List.length_nil]; omega), wsucc i (by omega)]
    rfl
theorem short_is (x0 l : List Int) (hl : l.length < 1000) (hb : x0.length + 2 * l.length < 100000) : Ev (fun k => spec_table_short.f k x0 l) (x0 ++ l.flatMap be) := short_l0 l hl l x0 0 rfl (by omega) hb
def By (l : List Int) : Prop := ∀ x ∈ l, 0 ≤ x ∧ x ≤ 255
theorem By.at_ {l : List Int} (h : By l) (i : Int) : 0 ≤ rd l i ∧ rd l i ≤ 255 := by
  unfold rd
  rw [List.getD_eq_getElem?_getD]
  cases e : l[i.toNat]? with
  | none => simp
  | some x => exact h x (List.mem_of_getElem? e)
theorem By.app {a b : List Int} (ha : By a) (hb : By b) : By (a ++ b) := fun x hx => (List.mem_append.1 hx).elim (ha x) (hb x)
theorem By.be (x : Int) : By (be x) := by
  intro y hy
  simp only [Pure.be, List.mem_cons, List.not_mem_nil, or_false] at hy
  rcases hy with rfl | rfl <;> omega
theorem way_is (W : List Int) (hW : By W) (a : Int) (big : Bool) (n : Int) (hn : 0 < n) (h0 : 0 ≤ a) (h1 : a ≤ 100000) : ∃ c a' : Int, 0 ≤ c ∧ c < n ∧ 0 ≤ a' ∧ a' ≤ a + 1 ∧ spec_writer_way.f W a big n = some (c, a', big) := by
  unfold spec_writer_way.f
  by_cases hl : (W.length : Int) = 0
  · exact ⟨0, a, by omega, hn, h0, by omega, by rw [if_pos hl]⟩
  · have hp : (0 : Int) < (W.length : Int) := by omega
    have t0 : 0 ≤ Int.tmod a (W.length : Int) := Int.tmod_nonneg _ h0
    have t1 : Int.tmod a (W.length : Int) < (W.length : Int) := Int.tmod_lt_of_pos _ hp
    have d0 : 0 ≤ Int.tdiv a (W.length : Int) := Int.tdiv_nonneg h0 (by omega)
    have d1 : Int.tdiv a (W.length : Int) ≤ a := by rw [Int.tdiv_eq_ediv_of_nonneg h0]; exact Int.ediv_le_self _ h0
    have hb := hW.at_ (Int.tmod a (W.length : Int))
    rw [if_neg hl, if_pos t0, if_pos t1, if_neg (by omega), w64 (rd W _) (by omega), w64 (Int.tdiv a _) (by omega), w64 (_ + _) (by omega), w64 (a + 1) (by omega)]
    exact ⟨_, _, Int.tmod_nonneg _ (by omega), Int.tmod_lt_of_pos _ hn, by omega, by omega, rfl⟩
/-- How a difference may be written, and its flag. -/
inductive Stp (d sh sm : Int) : List Int → Int → Prop
  | none : d = 0 → Stp d sh sm [] sm
  | pos : 0 ≤ d → d ≤ 255 → Stp d sh sm [d] (Go.bits .or .u8 sh sm)
  | neg : -255 ≤ d → d < 0 → Stp d sh sm [-d] sh
  | two : Stp d sh sm (be d) 0
theorem Stp.len {d sh sm : Int} {e : List Int} {f : Int} (h : Stp d sh sm e f) : e.length ≤ 2 := by cases h <;> simp [be]
theorem Stp.by_ {d sh sm : Int} {e : List Int} {f : Int} (h : Stp d sh sm e f) : By e := by
  cases h with
  | none => intro x hx; simp at hx
  | pos h1 h2 => intro x hx; rw [List.mem_singleton.1 hx]; exact ⟨h1, h2⟩
  | neg h1 h2 => intro x hx; rw [List.mem_singleton.1 hx]; omega
  | two => exact By.be d
theorem step_j1 (W b : List Int) (d sh sm a : Int) (x big : Bool) (hx : x = true → -255 ≤ d ∧ d ≤ 255) (hb : b.length < 100000) :
    ∃ e f, Stp d sh sm e f ∧ Ev (fun k => spec_writer_step.j1 k b d sh sm x W a big) (b ++ e, f, a, big) := by
  cases x with
  | true =>
    obtain ⟨h1, h2⟩ := hx rfl
    by_cases hd : d < 0
    · refine ⟨[-d], sh, .neg h1 hd, Ev.step (f := fun _ => some (b ++ [-d], sh, a, big)) (fun k => ?_) (Ev.now _)⟩
      rw [spec_writer_step.j1, if_pos rfl, if_pos hd, if_pos (by omega), w64 (-d) (by omega), show -d % 256 = -d by omega]
    · refine ⟨[d], _, .pos (by omega) h2, Ev.step (f := fun _ => some (b ++ [d], Go.bits .or .u8 sh sm, a, big)) (fun k => ?_) (Ev.now _)⟩
      rw [spec_writer_step.j1, if_pos rfl, if_neg hd, if_pos (by omega), show d % 256 = d by omega]
  | false =>
    refine ⟨be d, 0, .two, Ev.step (f := fun _ => some (b ++ be d, 0, a, big)) (fun k => ?_) (Ev.now _)⟩
    rw [spec_writer_step.j1, if_neg (by simp), Option.bind_some, if_pos (by simp only [List.length_cons, List.length_nil]; omega)]
    rfl
theorem step_j0 (W : List Int) (hW : By W) (b : List Int) (d sh sm a : Int) (x big : Bool) (hx : x = true → d = 0) (hb : b.length < 100000) (h0 : 0 ≤ a) (h1 : a ≤ 100000) :
    ∃ e f a', Stp d sh sm e f ∧ 0 ≤ a' ∧ a' ≤ a + 1 ∧ Ev (fun k => spec_writer_step.j0 k b d sh sm x W a big) (b ++ e, f, a', big) := by
  cases x with
  | true =>
    refine ⟨[], sm, a, .none (hx rfl), h0, by omega, Ev.step (f := fun _ => some (b ++ [], sm, a, big)) (fun k => ?_) (Ev.now _)⟩
    rw [spec_writer_step.j0, if_pos rfl, List.append_nil]
  | false =>
    by_cases g1 : d ≥ (-255)
    · by_cases g2 : d ≤ 255
      · obtain ⟨c, a', _, _, q3, q4, q5⟩ := way_is W hW a big 4 (by omega) h0 h1
        obtain ⟨e, f, s, hev⟩ := step_j1 W b d sh sm a' (decide (c > 0)) big (fun _ => ⟨g1, g2⟩) hb
        refine ⟨e, f, a', s, q3, q4, Ev.step (fun k => ?_) hev⟩
        rw [spec_writer_step.j0, if_neg (by simp), if_pos g1, if_pos g2, q5, Option.bind_some]
      · obtain ⟨e, f, s, hev⟩ := step_j1 W b d sh sm a false big (fun h => by cases h) hb
        refine ⟨e, f, a, s, h0, by omega, Ev.step (fun k => ?_) hev⟩
        rw [spec_writer_step.j0, if_neg (by simp), if_pos g1, if_neg g2]
    · obtain ⟨e, f, s, hev⟩ := step_j1 W b d sh sm a false big (fun h => by cases h) hb
      refine ⟨e, f, a, s, h0, by omega, Ev.step (fun k => ?_) hev⟩
      rw [spec_writer_step.j0, if_neg (by simp), if_neg g1]
theorem step_is (W : List Int) (hW : By W) (b : List Int) (d sh sm a : Int) (big : Bool) (hb : b.length < 100000) (h0 : 0 ≤ a) (h1 : a ≤ 90000) :
    ∃ e f a', Stp d sh sm e f ∧ 0 ≤ a' ∧ a' ≤ a + 2 ∧ Ev (fun k => spec_writer_step.f k W a big b d sh sm) (b ++ e, f, a', big) := by
  by_cases hd : d = 0
  · obtain ⟨c, a', _, _, q3, q4, q5⟩ := way_is W hW a big 4 (by omega) h0 (by omega)
    obtain ⟨e, f, a2, s, r1, r2, hev⟩ := step_j0 W hW b d sh sm a' (decide (c > 0)) big (fun _ => hd) hb q3 (by omega)
    refine ⟨e, f, a2, s, r1, by omega, Ev.congr (fun k => ?_) hev⟩
    unfold spec_writer_step.f
    rw [if_pos hd, q5, Option.bind_some]
  · obtain ⟨e, f, a2, s, r1, r2, hev⟩ := step_j0 W hW b d sh sm a false big (fun h => by cases h) hb h0 (by omega)
    refine ⟨e, f, a2, s, r1, by omega, Ev.congr (fun k => ?_) hev⟩
    unfold spec_writer_step.f
    rw [if_neg hd]
/-- The rows that are written of points, from (px, py) on: flags, differences of x, of y. -/
inductive Wr : Int → Int → List S51 → List Int → List Int → List Int → Prop
  | nil {px py} : Wr px py [] [] [] []
  | cons {px py p t ex a ey b fs xs ys} : Stp (p.f1 - px) 2 16 ex a → Stp (p.f2 - py) 4 32 ey b → Wr p.f1 p.f2 t fs xs ys →
      Wr px py (p :: t) (Go.bits .or .u8 (Go.bits .or .u8 (if p.f0 then 1 else 0) a) b :: fs) (ex ++ xs) (ey ++ ys)
theorem Wr.len {px py : Int} {t : List S51} {fs xs ys : List Int} (h : Wr px py t fs xs ys) : fs.length = t.length ∧ xs.length ≤ 2 * t.length ∧ ys.length ≤ 2 * t.length := by
  induction h with
  | nil => simp
  | cons h1 h2 _ ih =>
    have := h1.len
    have := h2.len
    simp only [List.length_cons, List.length_append]
    omega
theorem Wr.by_ {px py : Int} {t : List S51} {fs xs ys : List Int} (h : Wr px py t fs xs ys) : By xs ∧ By ys := by
  induction h with
  | nil => exact ⟨fun x hx => by simp at hx, fun x hx => by simp at hx⟩
  | cons h1 h2 _ ih => exact ⟨h1.by_.app ih.1, h2.by_.app ih.2⟩
theorem rd51 {l : List S51} {i : Nat} {x : S51} {t : List S51} (h : l.drop i = x :: t) : rd_T51 l (i : Int) = x := getD_drop z51 h
theorem rdL3 {l : List (List S51)} {i : Nat} {x : List S51} {t : List (List S51)} (h : l.drop i = x :: t) : rd_L3 l (i : Int) = x := getD_drop [] h

/-! ### the flags, told by runs -/
inductive Enc : List Int → List Int → Prop
  | nil : Enc [] []
  | one {f fs en} : Enc fs en → Enc (f :: fs) (f :: en)
  | rep {f : Int} {fs en} (m : Nat) : 1 ≤ m → m ≤ 199 → Enc fs en → Enc (List.replicate (m + 1) f ++ fs) (Go.bits .or .u8 f 8 :: (m : Int) :: en)
def QL (fs xs ys B : List Int) (i : Nat) (r : List Int) : Prop := ∃ en, Enc (fs.drop i) en ∧ r = B ++ (en ++ (xs ++ ys))
section
variable (W : List Int) (hW : By W) (fs xs ys : List Int) (big : Bool) (u : Unit) (hfs : fs.length ≤ 1000) (hxs : xs.length ≤ 5000 ∧ ys.length ≤ 5000)
/-- What l3 does from i on, told for all greater places. -/
def L3from (i : Nat) : Prop := ∀ (B : List Int) (a : Int), B.length + 2 * (fs.length - i) ≤ 10000 → 0 ≤ a → a + (fs.length - i : Nat) ≤ 50000 → EvP (fun k => spec_SpotBytes.l3 k fs xs ys (i : Int) W a big B u) (QL fs xs ys B i)
include hW hfs
theorem sb_j7 (i j : Nat) (f : Int) (b : Bool) (a : Int) (B : List Int) (hij : i < j) (hj : j ≤ fs.length) (hr : fs.drop i = List.replicate (j - i) f ++ fs.drop j) (h200 : j - i ≤ 200) (hb : b = true → 1 < j - i)
    (ih : ∀ i', i < i' → i' ≤ fs.length → L3from W fs xs ys big u i') (hB : B.length + 2 * (fs.length - i) ≤ 10000) (h0 : 0 ≤ a) (ha : a + (fs.length - i - 1 : Nat) ≤ 50000) :
    EvP (fun k => spec_SpotBytes.j7 k fs xs ys (i : Int) (j : Int) b W a big B u) (QL fs xs ys B i) := by
  have hf : fs.drop i = f :: fs.drop (i + 1) := by
    obtain ⟨d, hd⟩ : ∃ d, j - i = d + 1 := ⟨j - i - 1, by omega⟩
    have h1 : fs.drop i = f :: (List.replicate d f ++ fs.drop j) := by rw [hr, hd, List.replicate_succ, List.cons_append]
    rw [(drop_head h1).2.2, h1]
  have hrd := rdI hf
  cases b with
  | true =>
    have hm := hb rfl
    refine EvP.step (fun k => ?_) (EvP.mono (ih j hij hj (B ++ [Go.bits .or .u8 f 8, ((j - i - 1 : Nat) : Int)]) a (by simp only [List.length_append, List.length_cons, List.length_nil]; omega) h0 (by omega)) ?_)
    · rw [spec_SpotBytes.j7, if_pos rfl, if_pos (by omega), if_pos (by omega), Option.bind_some, if_pos (by simp only [List.length_cons, List.length_nil]; omega), hrd, w64 ((j : Int) - i) (by omega), w64 _ (by omega), show ((j : Int) - i - 1) % 256 = ((j - i - 1 : Nat) : Int) by omega]
    · rintro r ⟨en, he, rfl⟩
      refine ⟨Go.bits .or .u8 f 8 :: ((j - i - 1 : Nat) : Int) :: en, ?_, by rw [List.append_assoc]; rfl⟩
      have := Enc.rep (f := f) (j - i - 1) (by omega) (by omega) he
      rw [show j - i - 1 + 1 = j - i by omega, ← hr] at this
      exact this
  | false =>
    refine EvP.step (fun k => ?_) (EvP.mono (ih (i + 1) (by omega) (by omega) (B ++ [f]) a (by simp only [List.length_append, List.length_cons, List.length_nil]; omega) h0 (by omega)) ?_)
    · rw [spec_SpotBytes.j7, if_neg (by simp), if_pos (by omega), if_pos (by omega), if_pos (by omega), hrd, wsucc i (by omega)]
    · rintro r ⟨en, he, rfl⟩
      exact ⟨f :: en, by rw [hf]; exact Enc.one he, by rw [List.append_assoc]; rfl⟩
theorem sb_out (i j : Nat) (f : Int) (a : Int) (B : List Int) (hij : i < j) (hj : j ≤ fs.length) (hr : fs.drop i = List.replicate (j - i) f ++ fs.drop j) (h200 : j - i ≤ 200)
    (ih : ∀ i', i < i' → i' ≤ fs.length → L3from W fs xs ys big u i') (hB : B.length + 2 * (fs.length - i) ≤ 10000) (h0 : 0 ≤ a) (ha : a + (fs.length - i : Nat) ≤ 50000) :
    EvP (fun k => spec_SpotBytes.j6 k fs xs ys (i : Int) (j : Int) false W a big B u) (QL fs xs ys B i) := by
  by_cases h1 : wrap64 ((j : Int) - i) > 1
  · obtain ⟨c, a', _, _, q3, q4, q5⟩ := way_is W hW a big 3 (by omega) h0 (by omega)
    refine EvP.step (fun k => ?_) (sb_j7 W hW fs xs ys big u hfs i j f (decide (c > 0)) a' B hij hj hr h200 (fun _ => by rw [w64 _ (by omega)] at h1; omega) ih hB q3 (by omega))
    rw [spec_SpotBytes.j6, if_neg (by simp), if_pos h1, q5, Option.bind_some]
  · refine EvP.step (fun k => ?_) (sb_j7 W hW fs xs ys big u hfs i j f false a B hij hj hr h200 (fun h => by cases h) ih hB h0 (by omega))
    rw [spec_SpotBytes.j6, if_neg (by simp), if_neg h1]
theorem sb_l4 (i : Nat) (f : Int) (a : Int) (B : List Int) (ih : ∀ i', i < i' → i' ≤ fs.length → L3from W fs xs ys big u i') (hB : B.length + 2 * (fs.length - i) ≤ 10000) (h0 : 0 ≤ a) (ha : a + (fs.length - i : Nat) ≤ 50000) :
    ∀ (d j : Nat) (_ : j + d = fs.length) (_ : i < j) (_ : fs.drop i = List.replicate (j - i) f ++ fs.drop j) (_ : j - i ≤ 200), EvP (fun k => spec_SpotBytes.l4 k fs xs ys (i : Int) (j : Int) W a big B u) (QL fs xs ys B i)
  | d, j, hd, hij, hr, h200 => by
    have out := sb_out W hW fs xs ys big u hfs i j f a B hij (by omega) hr h200 ih hB h0 ha
    by_cases hlt : (j : Int) < (fs.length : Int)
    · cases d with
      | zero => omega
      | succ d =>
        have hf : rd fs (i : Int) = f := by
          obtain ⟨q, hq⟩ : ∃ q, j - i = q + 1 := ⟨j - i - 1, by omega⟩
          exact rdI (t := List.replicate q f ++ fs.drop j) (by rw [hr, hq, List.replicate_succ, List.cons_append])
        by_cases he : rd fs (j : Int) = rd fs (i : Int)
        · by_cases h2 : j - i < 200
          · have hj : fs.drop j = f :: fs.drop (j + 1) := by
              rw [List.drop_eq_getElem_cons (by omega)]
              congr 1
              rw [← hf, ← he]
              unfold rd
              rw [Int.toNat_natCast, List.getD_eq_getElem?_getD, List.getElem?_eq_getElem (by omega), Option.getD_some]
            have nx := sb_l4 i f a B ih hB h0 ha d (j + 1) (by omega) (by omega) (by rw [hr, hj, show j + 1 - i = (j - i) + 1 by omega, List.replicate_succ', List.append_assoc]; rfl) (by omega)
            refine EvP.step (f := fun k => spec_SpotBytes.j6 k fs xs ys (i : Int) (j : Int) true W a big B u) (fun k => ?_) (EvP.step (fun k => ?_) nx)
            · rw [spec_SpotBytes.l4, if_pos hlt, if_pos (by omega), if_pos (by omega), if_pos (by omega), if_pos he, w64 _ (by omega), decide_eq_true (by omega)]
            · rw [spec_SpotBytes.j6, if_pos rfl, wsucc j (by omega)]
          · refine EvP.step (fun k => ?_) out
            rw [spec_SpotBytes.l4, if_pos hlt, if_pos (by omega), if_pos (by omega), if_pos (by omega), if_pos he, w64 _ (by omega), decide_eq_false (by omega)]
        · refine EvP.step (fun k => ?_) out
          rw [spec_SpotBytes.l4, if_pos hlt, if_pos (by omega), if_pos (by omega), if_pos (by omega), if_neg he]
    · refine EvP.step (fun k => ?_) out
      rw [spec_SpotBytes.l4, if_neg hlt]
include hxs
theorem sb_l3 : ∀ (n i : Nat) (_ : fs.length - i = n) (_ : i ≤ fs.length), L3from W fs xs ys big u i := by
  intro n
  induction n using Nat.strongRecOn with
  | _ n IH =>
    intro i hn hi B a hB h0 ha
    by_cases hlt : (i : Int) < (fs.length : Int)
    · have hih : ∀ i', i < i' → i' ≤ fs.length → L3from W fs xs ys big u i' := fun i' h1 h2 => IH (fs.length - i') (by omega) i' rfl h2
      have hd : fs.drop i = rd fs (i : Int) :: fs.drop (i + 1) := by
        rw [List.drop_eq_getElem_cons (by omega)]
        congr 1
        unfold rd
        rw [Int.toNat_natCast, List.getD_eq_getElem?_getD, List.getElem?_eq_getElem (by omega), Option.getD_some]
      refine EvP.step (fun k => ?_) (sb_l4 W hW fs xs ys big u hfs i (rd fs (i : Int)) a B hih hB h0 ha (fs.length - (i + 1)) (i + 1) (by omega) (by omega) (by rw [show i + 1 - i = 1 by omega]; exact hd) (by omega))
      rw [spec_SpotBytes.l3, if_pos hlt, wsucc i (by omega)]
    · have e : i = fs.length := by omega
      subst e
      refine EvP.step (f := fun _ => some (B ++ xs ++ ys)) (fun k => ?_) (EvP.now _ ⟨[], by rw [List.drop_length]; exact Enc.nil, by rw [List.nil_append, List.append_assoc]⟩)
      rw [spec_SpotBytes.l3, if_neg hlt, if_pos (by omega), Option.bind_some, if_pos (by simp only [List.length_append]; omega)]
end

/-! ### what SpotBytes writes -/
def lx : Int → List S51 → Int
  | p, [] => p
  | _, s :: t => lx s.f1 t
def ly : Int → List S51 → Int
  | p, [] => p
  | _, s :: t => ly s.f2 t
theorem lx_b : ∀ (t : List S51) (p : Int) (_ : p.natAbs ≤ 8192) (_ : ∀ s ∈ t, s.f1.natAbs ≤ 8192 ∧ s.f2.natAbs ≤ 8192), (lx p t).natAbs ≤ 8192
  | [], _, hp, _ => hp
  | s :: t, _, _, h => lx_b t s.f1 (h s List.mem_cons_self).1 (fun s hs => h s (List.mem_cons_of_mem _ hs))
theorem ly_b : ∀ (t : List S51) (p : Int) (_ : p.natAbs ≤ 8192) (_ : ∀ s ∈ t, s.f1.natAbs ≤ 8192 ∧ s.f2.natAbs ≤ 8192), (ly p t).natAbs ≤ 8192
  | [], _, hp, _ => hp
  | s :: t, _, _, h => ly_b t s.f2 (h s List.mem_cons_self).2 (fun s hs => h s (List.mem_cons_of_mem _ hs))
theorem Wr.app {px py : Int} {t : List S51} {fs xs ys : List Int} (h : Wr px py t fs xs ys) {t2 : List S51} {fs2 xs2 ys2 : List Int} : Wr (lx px t) (ly py t) t2 fs2 xs2 ys2 → Wr px py (t ++ t2) (fs ++ fs2) (xs ++ xs2) (ys ++ ys2) := by
  induction h with
  | nil => exact id
  | cons h1 h2 _ ih =>
    intro h3
    have := Wr.cons h1 h2 (ih h3)
    rw [← List.append_assoc, ← List.append_assoc] at this
    exact this
def endsOf : Nat → List (List S51) → List Int
  | _, [] => []
  | n, c :: t => (((n + c.length : Nat) : Int) - 1) :: endsOf (n + c.length) t
section
variable (W : List Int) (hW : By W) (big : Bool) (u : Unit) (all : List (List S51)) (B : List Int)
include hW
theorem sb_l2 (i : Nat) (hi : i < 100) (c : List S51) (hc : c.length ≤ 100) (Q : List Int → Prop) : ∀ (t : List S51) (j : Nat) (fs xs ys : List Int) (px py a : Int) (_ : c.drop j = t) (_ : fs.length + t.length ≤ 1000 ∧ xs.length + 2 * t.length ≤ 1000 ∧ ys.length + 2 * t.length ≤ 1000) (_ : px.natAbs ≤ 8192 ∧ py.natAbs ≤ 8192)
    (_ : ∀ s ∈ t, s.f1.natAbs ≤ 8192 ∧ s.f2.natAbs ≤ 8192) (_ : 0 ≤ a) (_ : a + 4 * t.length ≤ 10000)
    (_ : ∀ (fs' xs' ys' : List Int) (a' : Int), Wr px py t fs' xs' ys' → 0 ≤ a' → a' ≤ a + 4 * t.length → EvP (fun k => spec_SpotBytes.l1 k (fs ++ fs') (xs ++ xs') (ys ++ ys') (lx px t) (ly py t) all (all.length : Int) ((i + 1 : Nat) : Int) W a' big B u) Q),
    EvP (fun k => spec_SpotBytes.l2 k fs xs ys px py all (all.length : Int) (i : Int) c (c.length : Int) (j : Int) W a big B u) Q
  | [], j, fs, xs, ys, px, py, a, hd, hb, hp, hs, h0, ha, h => by
    have hj : c.length ≤ j := by simpa using hd
    have h' := h [] [] [] a Wr.nil h0 (by simp)
    rw [List.append_nil, List.append_nil, List.append_nil] at h'
    refine EvP.step (fun k => ?_) h'
    rw [spec_SpotBytes.l2, if_neg (by omega), wsucc i (by omega)]
    rfl
  | s :: t, j, fs, xs, ys, px, py, a, hd, hb, hp, hs, h0, ha, h => by
    obtain ⟨_, hlt, hd2⟩ := drop_head hd
    have hr := rd51 hd
    have hs0 := hs s List.mem_cons_self
    simp only [List.length_cons] at hb ha
    obtain ⟨e1, f1, a1, s1, p1, p2, ev1⟩ := step_is W hW xs (s.f1 - px) 2 16 a big (by omega) h0 (by omega)
    obtain ⟨e2, f2, a2, s2, p3, p4, ev2⟩ := step_is W hW ys (s.f2 - py) 4 32 a1 big (by omega) p1 (by omega)
    have l1 := s1.len
    have l2 := s2.len
    have ih := sb_l2 i hi c hc Q t (j + 1) (fs ++ [Go.bits .or .u8 (Go.bits .or .u8 (if s.f0 then 1 else 0) f1) f2]) (xs ++ e1) (ys ++ e2) s.f1 s.f2 a2 hd2
      (by simp only [List.length_append, List.length_cons, List.length_nil]; omega) hs0 (fun s hs' => hs s (List.mem_cons_of_mem _ hs')) p3 (by omega)
      (fun fs' xs' ys' a' hw q0 q1 => by
        have := h _ _ _ a' (Wr.cons s1 s2 hw) q0 (by simp only [List.length_cons]; omega)
        rw [List.append_assoc, List.append_assoc, List.append_assoc]
        exact this)
    refine EvP.step (f := fun k => spec_SpotBytes.j3 k fs xs ys px py (if s.f0 then 1 else 0) all (all.length : Int) (i : Int) c (c.length : Int) (j : Int) W a big B u s.f0 s.f1 s.f2) (fun k => ?_) (EvP.step (fun k => by rw [spec_SpotBytes.j3, w64 (s.f1 - px) (by omega), w64 (s.f2 - py) (by omega), wsucc j (by omega)]) ?_)
    · rw [spec_SpotBytes.l2, if_pos (by omega), if_pos (by omega), if_pos (by omega), hr]
      by_cases hf : s.f0 = true
      · rw [if_pos hf, if_pos hf]
      · rw [if_neg hf, if_neg hf]
    · refine EvP.bind ev1 ?_
      exact EvP.bind ev2 (EvP.pos (by omega) ih)
theorem sb_l1 (hB : B.length ≤ 1000) (hall : all.length ≤ 5) : ∀ (t : List (List S51)) (i : Nat) (fs xs ys : List Int) (px py a : Int) (_ : all.drop i = t) (_ : i ≤ all.length) (_ : ∀ c ∈ t, Ok c) (_ : fs.length + 12 * t.length ≤ 60 ∧ xs.length + 24 * t.length ≤ 120 ∧ ys.length + 24 * t.length ≤ 120) (_ : px.natAbs ≤ 8192 ∧ py.natAbs ≤ 8192) (_ : 0 ≤ a) (_ : a + 48 * t.length ≤ 1000),
    EvP (fun k => spec_SpotBytes.l1 k fs xs ys px py all (all.length : Int) (i : Int) W a big B u) (fun r => ∃ fs' xs' ys' en, Wr px py t.flatten fs' xs' ys' ∧ Enc (fs ++ fs') en ∧ r = B ++ (en ++ ((xs ++ xs') ++ (ys ++ ys'))))
  | [], i, fs, xs, ys, px, py, a, hd, hi, hc, hb, hp, h0, ha => by
    have : all.length ≤ i := by simpa using hd
    simp only [List.length_nil] at hb ha
    refine EvP.step (fun k => ?_) (EvP.mono (sb_l3 W hW fs xs ys big u (by omega) (by omega) (fs.length - 0) 0 rfl (by omega) B a (by omega) h0 (by omega)) ?_)
    · rw [spec_SpotBytes.l1, if_neg (by omega)]
      rfl
    · rintro r ⟨en, he, rfl⟩
      rw [List.drop_zero] at he
      exact ⟨[], [], [], en, Wr.nil, by rw [List.append_nil]; exact he, by rw [List.append_nil, List.append_nil]⟩
  | c :: t, i, fs, xs, ys, px, py, a, hd, hi, hc, hb, hp, h0, ha => by
    obtain ⟨_, hlt, hd2⟩ := drop_head hd
    have hr := rdL3 hd
    have ok := hc c List.mem_cons_self
    have hc12 := ok.len
    simp only [List.length_cons] at hb ha
    refine EvP.step (fun k => ?_) (sb_l2 W hW big u all B i (by omega) c (by omega) _ c 0 fs xs ys px py a rfl (by omega) hp ok.co h0 (by omega) (fun fs' xs' ys' a' hw q0 q1 => ?_))
    · rw [spec_SpotBytes.l1, if_pos (by omega), if_pos (by omega), if_pos (by omega), hr]
      rfl
    · have hl := hw.len
      refine EvP.mono (sb_l1 hB hall t (i + 1) (fs ++ fs') (xs ++ xs') (ys ++ ys') _ _ a' hd2 hlt (fun c hc' => hc c (List.mem_cons_of_mem _ hc')) (by simp only [List.length_append]; omega) ⟨lx_b c px hp.1 ok.co, ly_b c py hp.2 ok.co⟩ q0 (by omega)) ?_
      rintro r ⟨fs2, xs2, ys2, en, h1, h2, rfl⟩
      refine ⟨fs' ++ fs2, xs' ++ xs2, ys' ++ ys2, en, ?_, by rw [← List.append_assoc]; exact h2, by rw [List.append_assoc xs, List.append_assoc ys]⟩
      rw [List.flatten_cons]
      exact hw.app h1
theorem sb_l0 (hall : all.length ≤ 5) (hok : ∀ c ∈ all, Ok c) : ∀ (t : List (List S51)) (i n : Nat) (B : List Int) (_ : all.drop i = t) (_ : i ≤ all.length) (_ : n + 12 * t.length ≤ 60) (_ : B.length + 2 * t.length ≤ 100),
    EvP (fun k => spec_SpotBytes.l0 k all (n : Int) all (all.length : Int) (i : Int) W 0 big B u) (fun r => ∃ fs xs ys en, ∃ c : Nat, c < 3 ∧ Wr 0 0 all.flatten fs xs ys ∧ Enc fs en ∧ r = B ++ ((endsOf n t).flatMap be ++ (be (c : Int) ++ (List.replicate c 0 ++ (en ++ (xs ++ ys))))))
  | [], i, n, B, hd, hi, hn, hb => by
    have : all.length ≤ i := by simpa using hd
    simp only [List.length_nil] at hn hb
    obtain ⟨c, a', c0, c3, q3, q4, q5⟩ := way_is W hW 0 big 3 (by omega) (by omega) (by omega)
    have hs := short_is B [c] (by simp) (by simp only [List.length_cons, List.length_nil]; omega)
    have hb2 : (B ++ [c].flatMap be).length = B.length + 2 := by rw [List.length_append, be_len]; rfl
    have hl := sb_l1 W hW big u all ((B ++ [c].flatMap be) ++ List.replicate c.toNat 0) (by rw [List.length_append, hb2, List.length_replicate]; omega) hall all 0 [] [] [] 0 0 a' rfl (by omega) hok (by simp only [List.length_nil]; omega) (by simp) q3 (by omega)
    refine EvP.step (f := fun k => (spec_table_short.f k B [c]).bind fun t245 => (if 0 ≤ c then (if t245.length + c.toNat < 140737488355328 then (spec_SpotBytes.l1 k ([] : List Int) ([] : List Int) ([] : List Int) 0 0 all (all.length : Int) ((0 : Nat) : Int) W a' big (t245 ++ List.replicate c.toNat 0) u) else (none)) else (none))) (fun k => ?_) (EvP.bind hs (EvP.pos c0 (EvP.pos (by rw [hb2]; omega) (EvP.mono hl ?_))))
    · rw [spec_SpotBytes.l0, if_neg (by omega), q5, Option.bind_some]
      rfl
    · rintro r ⟨fs, xs, ys, en, h1, h2, rfl⟩
      refine ⟨fs, xs, ys, en, c.toNat, by omega, h1, h2, ?_⟩
      rw [show ((c.toNat : Nat) : Int) = c by omega]
      simp [endsOf, List.append_assoc]
  | c :: t, i, n, B, hd, hi, hn, hb => by
    obtain ⟨_, hlt, hd2⟩ := drop_head hd
    have hr := rdL3 hd
    have ok := hok c (List.mem_of_mem_drop (by rw [hd]; exact List.mem_cons_self))
    have hc12 := ok.len
    simp only [List.length_cons] at hn hb
    have e1 : wrap64 ((n : Int) + (c.length : Int)) = ((n + c.length : Nat) : Int) := by rw [w64 _ (by omega)]; omega
    have hs := short_is B [((n + c.length : Nat) : Int) - 1] (by simp) (by simp only [List.length_cons, List.length_nil]; omega)
    have hb2 : (B ++ [((n + c.length : Nat) : Int) - 1].flatMap be).length = B.length + 2 := by rw [List.length_append, be_len]; rfl
    have ih := sb_l0 hall hok t (i + 1) (n + c.length) (B ++ [((n + c.length : Nat) : Int) - 1].flatMap be) hd2 hlt (by omega) (by omega)
    refine EvP.step (fun k => by rw [spec_SpotBytes.l0, if_pos (by omega), if_pos (by omega), if_pos (by omega), hr, e1, w64 (((n + c.length : Nat) : Int) - 1) (by omega), wsucc i (by omega)]) ?_
    refine EvP.bind hs ?_
    refine EvP.mono ih ?_
    · rintro r ⟨fs, xs, ys, en, d, hd3, h1, h2, rfl⟩
      refine ⟨fs, xs, ys, en, d, hd3, h1, h2, ?_⟩
      simp [endsOf, List.append_assoc]
theorem sb_is (hall : all.length ≤ 5) (hok : ∀ c ∈ all, Ok c) (b0 b1 b2 b3 : Int) :
    EvP (fun k => spec_SpotBytes.f k all b0 b1 b2 b3 W) (fun r => ∃ fs xs ys en, ∃ c : Nat, c < 3 ∧ Wr 0 0 all.flatten fs xs ys ∧ Enc fs en ∧ r = be (all.length : Int) ++ (be b0 ++ (be b1 ++ (be b2 ++ (be b3 ++ ((endsOf 0 all).flatMap be ++ (be (c : Int) ++ (List.replicate c 0 ++ (en ++ (xs ++ ys)))))))))) := by
  have h1 := short_is [] [(all.length : Int)] (by simp) (by simp)
  have h2 := short_is ([] ++ [(all.length : Int)].flatMap be) [b0, b1, b2, b3] (by simp) (by rw [List.length_append, be_len]; simp)
  have h3 := sb_l0 W hW false () all hall hok all 0 0 (([] ++ [(all.length : Int)].flatMap be) ++ [b0, b1, b2, b3].flatMap be) rfl (by omega) (by omega) (by rw [List.length_append, List.length_append, be_len, be_len]; simp only [List.length_cons, List.length_nil]; omega)
  refine EvP.congr (fun k => by unfold spec_SpotBytes.f; rfl) ?_
  refine EvP.bind h1 ?_
  refine EvP.bind h2 ?_
  refine EvP.mono h3 ?_
  · rintro r ⟨fs, xs, ys, en, d, hd3, q1, q2, rfl⟩
    refine ⟨fs, xs, ys, en, d, hd3, q1, q2, ?_⟩
    simp [List.append_assoc]
end

/-! ### the flags, read -/
def And (g b : Int) : Int := Go.bits .and .u8 g b
def Side (g sh sm d : Int) (e : List Int) : Prop :=
  (Go.bits .and .u8 g sh = 0 ∧ Go.bits .and .u8 g sm = 0 ∧ e = be d) ∨
  (Go.bits .and .u8 g sh = 0 ∧ ¬ Go.bits .and .u8 g sm = 0 ∧ d = 0 ∧ e = []) ∨
  (¬ Go.bits .and .u8 g sh = 0 ∧ Go.bits .and .u8 g sm = 0 ∧ -255 ≤ d ∧ d < 0 ∧ e = [-d]) ∨
  (¬ Go.bits .and .u8 g sh = 0 ∧ ¬ Go.bits .and .u8 g sm = 0 ∧ 0 ≤ d ∧ d ≤ 255 ∧ e = [d])
def F8 (f : Int) : Prop := Go.bits .and .u8 f 8 = 0 ∧ ¬ Go.bits .and .u8 (Go.bits .or .u8 f 8) 8 = 0
theorem flag_is {dx dy a b : Int} {ex ey : List Int} (on : Bool) (h1 : Stp dx 2 16 ex a) (h2 : Stp dy 4 32 ey b) :
    F8 (Go.bits .or .u8 (Go.bits .or .u8 (if on then 1 else 0) a) b) ∧ ∀ g, (g = Go.bits .or .u8 (Go.bits .or .u8 (if on then 1 else 0) a) b ∨ g = Go.bits .or .u8 (Go.bits .or .u8 (Go.bits .or .u8 (if on then 1 else 0) a) b) 8) →
      Side g 2 16 dx ex ∧ Side g 4 32 dy ey ∧ (Go.bits .and .u8 g 1 != 0) = on := by
  cases on <;> cases h1 <;> cases h2 <;> refine ⟨⟨by decide, by decide⟩, ?_⟩ <;> rintro g (rfl | rfl) <;> refine ⟨?_, ?_, by decide⟩ <;> first
    | exact Or.inl ⟨by decide, by decide, rfl⟩
    | exact Or.inr (Or.inl ⟨by decide, by decide, by assumption, rfl⟩)
    | exact Or.inr (Or.inr (Or.inl ⟨by decide, by decide, by assumption, by assumption, rfl⟩))
    | exact Or.inr (Or.inr (Or.inr ⟨by decide, by decide, by assumption, by assumption, rfl⟩))
/-- The same rows, by the flags that are read. -/
inductive RR : Int → Int → List S51 → List Int → List Int → List Int → Prop
  | nil {px py} : RR px py [] [] [] []
  | cons {px py p t g ex ey gs xs ys} : Side g 2 16 (p.f1 - px) ex → Side g 4 32 (p.f2 - py) ey → (Go.bits .and .u8 g 1 != 0) = p.f0 → RR p.f1 p.f2 t gs xs ys → RR px py (p :: t) (g :: gs) (ex ++ xs) (ey ++ ys)
inductive Fr : List Int → List Int → Prop
  | nil : Fr [] []
  | cons {f g fs gs} : g = f ∨ g = Go.bits .or .u8 f 8 → Fr fs gs → Fr (f :: fs) (g :: gs)
theorem Fr.app {a b c d : List Int} (h : Fr a b) (h2 : Fr c d) : Fr (a ++ c) (b ++ d) := by
  induction h with
  | nil => exact h2
  | cons h _ ih => exact .cons h ih
theorem Fr.rep {f g : Int} (h : g = f ∨ g = Go.bits .or .u8 f 8) : ∀ n, Fr (List.replicate n f) (List.replicate n g)
  | 0 => .nil
  | n + 1 => .cons h (Fr.rep h n)
theorem Fr.len {a b : List Int} (h : Fr a b) : b.length = a.length := by
  induction h with
  | nil => rfl
  | cons _ _ ih => simp [ih]
theorem rr_of {px py : Int} {t : List S51} {fs xs ys : List Int} (h : Wr px py t fs xs ys) : ∀ gs, Fr fs gs → RR px py t gs xs ys := by
  induction h with
  | nil => intro gs hg; cases hg; exact .nil
  | cons h1 h2 _ ih =>
    intro gs hg
    cases hg with
    | cons hf hr =>
      obtain ⟨q1, q2, q3⟩ := (flag_is _ h1 h2).2 _ hf
      exact .cons q1 q2 q3 (ih _ hr)
theorem Wr.f8 {px py : Int} {t : List S51} {fs xs ys : List Int} (h : Wr px py t fs xs ys) : ∀ f ∈ fs, F8 f := by
  induction h with
  | nil => intro f hf; simp at hf
  | cons h1 h2 _ ih =>
    intro f hf
    rcases List.mem_cons.1 hf with rfl | hf
    · exact (flag_is _ h1 h2).1
    · exact ih f hf
def lnx (g : Int) : Int := if Go.bits .and .u8 g 2 = 0 then (if Go.bits .and .u8 g 16 = 0 then 2 else 0) else 1
def lny (g : Int) : Int := if Go.bits .and .u8 g 4 = 0 then (if Go.bits .and .u8 g 32 = 0 then 2 else 0) else 1
def sx : List Int → Int
  | [] => 0
  | g :: t => lnx g + sx t
def sy : List Int → Int
  | [] => 0
  | g :: t => lny g + sy t
theorem lnx_b (g : Int) : 0 ≤ lnx g ∧ lnx g ≤ 2 := by
  unfold lnx
  repeat' split
  all_goals omega
theorem lny_b (g : Int) : 0 ≤ lny g ∧ lny g ≤ 2 := by
  unfold lny
  repeat' split
  all_goals omega
theorem sx_rep (g : Int) (t : List Int) : ∀ n : Nat, sx (List.replicate n g ++ t) = n * lnx g + sx t
  | 0 => by simp
  | n + 1 => by
    have := sx_rep g t n
    rw [List.replicate_succ, List.cons_append, sx, this, show ((n + 1 : Nat) : Int) = (n : Int) + 1 by omega, Int.add_mul]
    omega
theorem sy_rep (g : Int) (t : List Int) : ∀ n : Nat, sy (List.replicate n g ++ t) = n * lny g + sy t
  | 0 => by simp
  | n + 1 => by
    have := sy_rep g t n
    rw [List.replicate_succ, List.cons_append, sy, this, show ((n + 1 : Nat) : Int) = (n : Int) + 1 by omega, Int.add_mul]
    omega
theorem Side.lnx {g d : Int} {e : List Int} (h : Side g 2 16 d e) : Pure.lnx g = (e.length : Int) := by
  unfold Pure.lnx
  rcases h with ⟨h1, h2, rfl⟩ | ⟨h1, h2, _, rfl⟩ | ⟨h1, h2, _, _, rfl⟩ | ⟨h1, h2, _, _, rfl⟩
  · rw [if_pos h1, if_pos h2]; rfl
  · rw [if_pos h1, if_neg h2]; rfl
  · rw [if_neg h1]; rfl
  · rw [if_neg h1]; rfl
theorem Side.lny {g d : Int} {e : List Int} (h : Side g 4 32 d e) : Pure.lny g = (e.length : Int) := by
  unfold Pure.lny
  rcases h with ⟨h1, h2, rfl⟩ | ⟨h1, h2, _, rfl⟩ | ⟨h1, h2, _, _, rfl⟩ | ⟨h1, h2, _, _, rfl⟩
  · rw [if_pos h1, if_pos h2]; rfl
  · rw [if_pos h1, if_neg h2]; rfl
  · rw [if_neg h1]; rfl
  · rw [if_neg h1]; rfl
theorem RR.sums {px py : Int} {t : List S51} {gs xs ys : List Int} (h : RR px py t gs xs ys) : sx gs = (xs.length : Int) ∧ sy gs = (ys.length : Int) := by
  induction h with
  | nil => exact ⟨rfl, rfl⟩
  | cons h1 h2 _ _ ih =>
    simp only [sx, sy, List.length_append]
    rw [h1.lnx, h2.lny, ih.1, ih.2]
    omega
theorem drop_app {α : Type} {l a b : List α} {p : Nat} (h : l.drop p = a ++ b) : l.drop (p + a.length) = b := by
  rw [← List.drop_drop, h, List.drop_left]
theorem u16_be (x : Int) (t : List Int) : binary_bigEndian_Uint16.f (be x ++ t) = some (x % 65536) := by
  have e0 : rd (be x ++ t) 0 = (x / 256) % 256 := rfl
  have e1 : rd (be x ++ t) 1 = x % 256 := rfl
  unfold binary_bigEndian_Uint16.f
  rw [e0, e1, if_pos ⟨by rw [List.length_append]; simp [be], by omega, by omega⟩]
  congr 1
  omega
theorem i16m (x : Int) (h : -32768 ≤ x ∧ x ≤ 32767) : IntKind.i16.wrap (x % 65536) = x := by simp only [IntKind.wrap, IntKind.bits, IntKind.signed]; simp; omega
theorem rcp_is {g sh sm d : Int} {e : List Int} (h : Side g sh sm d e) (X rest : List Int) (p : Nat) (hX : X.drop p = e ++ rest) (hp : p ≤ X.length) (hp2 : p ≤ 100000) (hd : -30000 ≤ d ∧ d ≤ 30000) :
    tables_readContourPoint.f g X (p : Int) sh sm = some (((p + e.length : Nat) : Int), d) := by
  unfold tables_readContourPoint.f
  rcases h with ⟨h1, h2, rfl⟩ | ⟨h1, h2, rfl, rfl⟩ | ⟨h1, h2, d0, d1, rfl⟩ | ⟨h1, h2, d0, d1, rfl⟩
  · rw [if_pos h1, if_pos h2, if_pos (by omega), if_pos (by omega), Int.toNat_natCast, hX, u16_be, Option.bind_some, i16m d (by omega), Int.zero_add, i16w d (by omega), w64 _ (by omega)]
    rfl
  · rw [if_pos h1, if_neg h2]
    rfl
  · obtain ⟨_, hlt, _⟩ := drop_head hX
    rw [if_neg h1, if_pos (by omega), if_pos (by omega), if_pos h2, rdI hX, i16w (-d) (by omega), Int.neg_neg, i16w d (by omega), w64 _ (by omega)]
    rfl
  · obtain ⟨_, hlt, _⟩ := drop_head hX
    rw [if_neg h1, if_pos (by omega), if_pos (by omega), if_neg h2, rdI hX, i16w d (by omega), Int.zero_add, i16w d (by omega), w64 _ (by omega)]
    rfl
/-- The points as they are read. -/
inductive Pts : List S51 → List S123 → Prop
  | nil : Pts [] []
  | cons {p q t qs} : (Go.bits .and .u8 q.f0 1 != 0) = p.f0 → q.f1 = p.f1 → q.f2 = p.f2 → Pts t qs → Pts (p :: t) (q :: qs)
theorem Pts.len {t : List S51} {qs : List S123} (h : Pts t qs) : qs.length = t.length := by
  induction h with
  | nil => rfl
  | cons _ _ _ _ ih => simp [ih]
def q0 (g : Int) : S123 := ⟨g, 0, 0⟩
theorem rd123 (a : List S123) (x : S123) (t : List S123) : rd_T123 (a ++ x :: t) (a.length : Int) = x := getD_drop z123 (by rw [Int.toNat_natCast, List.drop_left])
theorem set123 (a : List S123) (x y : S123) (t : List S123) : (a ++ x :: t).set ((a.length : Int)).toNat y = a ++ y :: t := by rw [Int.toNat_natCast, List.set_append_right _ _ (Nat.le_refl _), Nat.sub_self]; rfl
theorem pgc_is (X Y : List Int) (hX : X.length ≤ 10000) (hY : Y.length ≤ 10000) {px py : Int} {t : List S51} {gs xs ys : List Int} (h : RR px py t gs xs ys) : ∀ (A : List S123) (i j n : Nat) (_ : X.drop i = xs) (_ : Y.drop j = ys) (_ : i ≤ X.length) (_ : j ≤ Y.length) (_ : px.natAbs ≤ 8192 ∧ py.natAbs ≤ 8192) (_ : ∀ s ∈ t, s.f1.natAbs ≤ 8192 ∧ s.f2.natAbs ≤ 8192) (_ : n = A.length + gs.length) (_ : n ≤ 1000),
    EvP (fun k => tables_parseGlyphContourPoints.l0 k X Y (A ++ gs.map q0) (i : Int) (j : Int) px py (n : Int) (A.length : Int)) (fun r => ∃ qs, r = A ++ qs ∧ Pts t qs) := by
  induction h with
  | nil =>
    intro A i j n hx hy hi hj hp hs hn hn2
    simp only [List.length_nil] at hn
    refine EvP.step (f := fun _ => some (A ++ ([] : List Int).map q0)) (fun k => ?_) (EvP.now _ ⟨[], rfl, .nil⟩)
    rw [tables_parseGlyphContourPoints.l0, if_neg (by omega)]
  | @cons px py p t g ex ey gs xs ys s1 s2 s3 _ ih =>
    intro A i j n hx hy hi hj hp hs hn hn2
    have hs0 := hs p List.mem_cons_self
    have r1 := rcp_is s1 X xs i hx hi (by omega) (by omega)
    have r2 := rcp_is s2 Y ys j hy hj (by omega) (by omega)
    have hx2 := drop_app hx
    have hy2 := drop_app hy
    have hxl : i + ex.length ≤ X.length := by have := congrArg List.length hx; simp only [List.length_drop, List.length_append] at this; omega
    have hyl : j + ey.length ≤ Y.length := by have := congrArg List.length hy; simp only [List.length_drop, List.length_append] at this; omega
    simp only [List.length_cons] at hn
    have nx := ih (A ++ [⟨g, p.f1, p.f2⟩]) (i + ex.length) (j + ey.length) n hx2 hy2 hxl hyl hs0 (fun s hs' => hs s (List.mem_cons_of_mem _ hs')) (by simp only [List.length_append, List.length_cons, List.length_nil]; omega) hn2
    refine EvP.step (fun k => ?_) (EvP.mono nx ?_)
    · rw [tables_parseGlyphContourPoints.l0, if_pos (by omega), if_pos (by omega), if_pos (by rw [List.length_append, List.length_map, List.length_cons]; omega)]
      rw [List.map_cons, rd123, q0, r1, Option.bind_some, Option.bind_some, r2, Option.bind_some, set123, rd123, set123]
      rw [i16w (px + (p.f1 - px)) (by omega), i16w (py + (p.f2 - py)) (by omega), wsucc A.length (by omega), show px + (p.f1 - px) = p.f1 by omega, show py + (p.f2 - py) = p.f2 by omega, List.append_assoc, List.length_append]
      rfl
    · rintro r ⟨qs, rfl, hq⟩
      exact ⟨⟨g, p.f1, p.f2⟩ :: qs, by rw [List.append_assoc]; rfl, .cons s3 rfl rfl hq⟩

/-! ### the flags, unrolled -/
section
variable (data : List Int) (n : Nat) (hn : n ≤ 1000) (hdl : data.length ≤ 100000)
include hn hdl
theorem pp_j1 (lx ly : Int) (pos i : Nat) (g a : Int) (pts : List S123) (Q : Option Int × List S123 → Prop)
    (h : EvP (fun k => tables_SimpleGlyph_parsePoints.j2 k data (n : Int) lx ly (pos : Int) (data.length : Int) (i : Int) g a (lny g) pts) Q) :
    EvP (fun k => tables_SimpleGlyph_parsePoints.j1 k data (n : Int) lx ly (pos : Int) (data.length : Int) (i : Int) g a 0 pts) Q := by
  refine EvP.step (fun k => ?_) h
  rw [tables_SimpleGlyph_parsePoints.j1]
  unfold lny
  by_cases h1 : Go.bits .and .u8 g 4 = 0
  · rw [if_pos h1, if_pos h1]
    by_cases h2 : Go.bits .and .u8 g 32 = 0
    · rw [if_pos h2, if_pos h2]
    · rw [if_neg h2, if_neg h2]
  · rw [if_neg h1, if_neg h1]
theorem pp_l0 (A : List S123) (r : Nat) (lx ly : Int) (pos : Nat) (g : Int) (rest : List Int) (hp : data.drop pos = g :: rest) (hr : A.length + (r + 1) = n) (Q : Option Int × List S123 → Prop)
    (h : EvP (fun k => tables_SimpleGlyph_parsePoints.j2 k data (n : Int) lx ly ((pos + 1 : Nat) : Int) (data.length : Int) (A.length : Int) g (lnx g) (lny g) (A ++ q0 g :: List.replicate r z123)) Q) :
    EvP (fun k => tables_SimpleGlyph_parsePoints.l0 k data (n : Int) lx ly (pos : Int) (data.length : Int) (A.length : Int) (A ++ List.replicate (r + 1) z123)) Q := by
  obtain ⟨_, hlt, _⟩ := drop_head hp
  refine EvP.step (fun k => ?_) (pp_j1 data n hn hdl lx ly (pos + 1) A.length g (lnx g) _ Q h)
  rw [tables_SimpleGlyph_parsePoints.l0, if_pos (by omega), if_neg (by omega), if_pos (by omega), if_pos (by omega), if_pos (by omega), if_pos (by rw [List.length_append, List.length_replicate]; omega), Option.bind_some, rdI hp, List.replicate_succ, rd123, set123, wsucc pos (by omega)]
  unfold lnx
  by_cases h1 : Go.bits .and .u8 g 2 = 0
  · rw [if_pos h1, if_pos h1]
    by_cases h2 : Go.bits .and .u8 g 16 = 0
    · rw [if_pos h2, if_pos h2]
      rfl
    · rw [if_neg h2, if_neg h2]
      rfl
  · rw [if_neg h1, if_neg h1]
    rfl
theorem pp_l1 (lx ly : Int) (pos i m s : Nat) (g a b : Int) (R : List S123) (him : i + m + 1 ≤ n) (Q : Option Int × List S123 → Prop) : ∀ (d j : Nat) (A : List S123) (_ : j + d = m) (_ : A.length = i + 1 + j)
    (_ : EvP (fun k => tables_SimpleGlyph_parsePoints.l0 k data (n : Int) (wrap64 (lx + wrap64 (a + wrap64 ((m : Int) * a)))) (wrap64 (ly + wrap64 (b + wrap64 ((m : Int) * b)))) (pos : Int) (data.length : Int) ((i + m + 1 : Nat) : Int) (A ++ (List.replicate d (q0 g) ++ R))) Q),
    EvP (fun k => tables_SimpleGlyph_parsePoints.l1 k data (n : Int) lx ly (pos : Int) (data.length : Int) (i : Int) g a b (m : Int) (A ++ (List.replicate d z123 ++ R)) ((i + 1 : Nat) : Int) (m : Int) (j : Int)) Q
  | 0, j, A, hj, hA, h => by
    refine EvP.step (fun k => ?_) h
    rw [tables_SimpleGlyph_parsePoints.l1, if_neg (by omega), w64 ((i : Int) + (m : Int)) (by omega), w64 ((i : Int) + (m : Int) + 1) (by omega)]
    rfl
  | d + 1, j, A, hj, hA, h => by
    have nx := pp_l1 lx ly pos i m s g a b R him Q d (j + 1) (A ++ [q0 g]) (by omega) (by rw [List.length_append]; simp; omega) (by rw [List.append_assoc]; exact h)
    refine EvP.step (fun k => ?_) nx
    have e : wrap64 ((j : Int) + ((i + 1 : Nat) : Int)) = (A.length : Int) := by rw [w64 _ (by omega)]; omega
    rw [tables_SimpleGlyph_parsePoints.l1, if_pos (by omega), e, if_pos (by omega), if_pos (by rw [List.length_append, List.length_append, List.length_replicate]; omega), List.replicate_succ, List.cons_append, rd123, set123, wsucc j (by omega), List.append_assoc]
    rfl
theorem pp_flags (Q : Option Int × List S123 → Prop) {fs en : List Int} (h : Enc fs en) : ∀ (A : List S123) (pos : Nat) (lx ly : Int) (rest : List Int) (_ : ∀ f ∈ fs, F8 f) (_ : data.drop pos = en ++ rest) (_ : A.length + fs.length = n) (_ : 0 ≤ lx ∧ lx + 2 * fs.length ≤ 10000) (_ : 0 ≤ ly ∧ ly + 2 * fs.length ≤ 10000)
    (_ : ∀ gs, Fr fs gs → EvP (fun k => tables_SimpleGlyph_parsePoints.l0 k data (n : Int) (lx + sx gs) (ly + sy gs) ((pos + en.length : Nat) : Int) (data.length : Int) (n : Int) (A ++ gs.map q0)) Q),
    EvP (fun k => tables_SimpleGlyph_parsePoints.l0 k data (n : Int) lx ly (pos : Int) (data.length : Int) (A.length : Int) (A ++ List.replicate fs.length z123)) Q := by
  induction h with
  | nil =>
    intro A pos lx ly rest hF hp hl hx hy k
    have := k [] .nil
    simp only [sx, sy, Int.add_zero, List.length_nil, Nat.add_zero] at this hl ⊢
    rw [hl]
    exact this
  | @one f fs en _ ih =>
    intro A pos lx ly rest hF hp hl hx hy k
    obtain ⟨_, _, hp2⟩ := drop_head hp
    have hf := hF f List.mem_cons_self
    simp only [List.length_cons] at hl hx hy
    have bx := lnx_b f
    have by_ := lny_b f
    have nx := ih (A ++ [q0 f]) (pos + 1) (lx + lnx f) (ly + lny f) rest (fun f hf => hF f (List.mem_cons_of_mem _ hf)) hp2 (by rw [List.length_append]; simp; omega) (by omega) (by omega) (fun gs hg => by
      have := k (f :: gs) (.cons (Or.inl rfl) hg)
      simp only [sx, sy, List.length_cons, List.map_cons] at this
      rw [List.append_assoc, show lx + lnx f + sx gs = lx + (lnx f + sx gs) by omega, show ly + lny f + sy gs = ly + (lny f + sy gs) by omega, show pos + 1 + en.length = pos + (en.length + 1) by omega]
      exact this)
    refine pp_l0 data n hn hdl A fs.length lx ly pos f (en ++ rest) hp (by omega) Q (EvP.step (fun k => ?_) nx)
    rw [tables_SimpleGlyph_parsePoints.j2, if_pos hf.1, w64 (lx + lnx f) (by omega), w64 (ly + lny f) (by omega), wsucc A.length (by omega), List.append_assoc, List.length_append]
    rfl
  | @rep f fs en m m1 m2 _ ih =>
    intro A pos lx ly rest hF hp hl hx hy k
    have hf := hF f (List.mem_append_left _ (by rw [List.replicate_succ]; exact List.mem_cons_self))
    obtain ⟨_, hlt, hp2⟩ := drop_head hp
    obtain ⟨_, hlt2, hp3⟩ := drop_head hp2
    generalize hg : Go.bits .or .u8 f 8 = g at hf hp
    simp only [List.length_append, List.length_replicate] at hl hx hy
    have bx := lnx_b g
    have by_ := lny_b g
    have mx : 0 ≤ (m : Int) * lnx g ∧ (m : Int) * lnx g ≤ m * 2 := ⟨Int.mul_nonneg (by omega) bx.1, Int.mul_le_mul_of_nonneg_left bx.2 (by omega)⟩
    have my : 0 ≤ (m : Int) * lny g ∧ (m : Int) * lny g ≤ m * 2 := ⟨Int.mul_nonneg (by omega) by_.1, Int.mul_le_mul_of_nonneg_left by_.2 (by omega)⟩
    have nx := ih (A ++ List.replicate (m + 1) (q0 g)) (pos + 1 + 1) (lx + (lnx g + m * lnx g)) (ly + (lny g + m * lny g)) rest (fun f hf => hF f (List.mem_append_right _ hf)) hp3 (by rw [List.length_append, List.length_replicate]; omega) (by omega) (by omega) (fun gs hgs => by
      have := k (List.replicate (m + 1) g ++ gs) (Fr.app (Fr.rep (Or.inr hg.symm) _) hgs)
      simp only [sx_rep, sy_rep, List.length_cons, List.map_append, List.map_replicate] at this
      rw [show ((m + 1 : Nat) : Int) = (m : Int) + 1 by omega, Int.add_mul, Int.add_mul, Int.one_mul, Int.one_mul] at this
      rw [List.append_assoc, show lx + (lnx g + m * lnx g) + sx gs = lx + (m * lnx g + lnx g + sx gs) by omega, show ly + (lny g + m * lny g) + sy gs = ly + (m * lny g + lny g + sy gs) by omega, show pos + 1 + 1 + en.length = pos + (en.length + 1 + 1) by omega]
      exact this)
    have hfs : (List.replicate (m + 1) f ++ fs).length = (m + fs.length) + 1 := by rw [List.length_append, List.length_replicate]; omega
    rw [hfs]
    refine pp_l0 data n hn hdl A (m + fs.length) lx ly pos g _ hp (by omega) Q ?_
    have l1 := pp_l1 data n hn hdl lx ly (pos + 1 + 1) A.length m 0 g (lnx g) (lny g) (List.replicate fs.length z123) (by omega) Q m 0 (A ++ [q0 g]) (by omega) (by rw [List.length_append]; rfl)
      (by
        rw [w64 (m * lnx g) (by omega), w64 (m * lny g) (by omega), w64 (lnx g + m * lnx g) (by omega), w64 (lny g + m * lny g) (by omega), w64 (lx + _) (by omega), w64 (ly + _) (by omega)]
        rw [List.append_assoc, List.length_append, List.length_replicate] at nx
        rw [List.append_assoc]
        exact nx)
    refine EvP.step (f := fun k => tables_SimpleGlyph_parsePoints.j3 k data (n : Int) lx ly ((pos + 1 + 1 : Nat) : Int) (data.length : Int) (A.length : Int) g (lnx g) (lny g) (m : Int) (A ++ q0 g :: List.replicate (m + fs.length) z123)) (fun k => ?_) (EvP.step (fun k => ?_) l1)
    · rw [tables_SimpleGlyph_parsePoints.j2, if_neg (by rw [← hg]; exact hf.2), if_neg (by omega), if_pos (by omega), if_pos (by omega), rdI hp2, w64 (m : Int) (by omega), w64 ((A.length : Int) + m) (by omega), w64 ((A.length : Int) + m + 1) (by omega), if_neg (by omega), wsucc (pos + 1) (by omega)]
    · rw [tables_SimpleGlyph_parsePoints.j3, wsucc A.length (by omega), w64 ((A.length : Int) + m) (by omega), w64 ((A.length : Int) + m + 1) (by omega), if_pos (by omega), if_pos (by omega), if_pos (by rw [List.length_append, List.length_cons, List.length_replicate]; omega), w64 _ (by omega), show (A.length : Int) + m + 1 - ((A.length + 1 : Nat) : Int) = (m : Int) by omega, List.append_assoc, ← List.replicate_append_replicate]
      rfl
end

/-! ### the points, the ends, the whole glyph -/
theorem pp_all (data : List Int) (t : List S51) {fs xs ys en : List Int} (hw : Wr 0 0 t fs xs ys) (he : Enc fs en) (hd : data = en ++ (xs ++ ys)) (ht : t.length ≤ 1000) (hdl : data.length ≤ 10000) (hs : ∀ s ∈ t, s.f1.natAbs ≤ 8192 ∧ s.f2.natAbs ≤ 8192) :
    EvP (fun k => tables_SimpleGlyph_parsePoints.l0 k data (t.length : Int) 0 0 0 (data.length : Int) 0 (List.replicate t.length z123)) (fun r => r.1 = none ∧ Pts t r.2) := by
  have hl := hw.len
  have go := pp_flags data t.length ht (by omega) (fun r => r.1 = none ∧ Pts t r.2) he [] 0 0 0 (xs ++ ys) hw.f8 (by rw [List.drop_zero]; exact hd) (by simp only [List.length_nil]; omega) (by omega) (by omega) (fun gs hg => by
    have rr := rr_of hw gs hg
    have hgl := hg.len
    rw [Int.zero_add, Int.zero_add, rr.sums.1, rr.sums.2]
    have hdr : data.drop (0 + en.length) = xs ++ ys := by rw [Nat.zero_add, hd, List.drop_left]
    have hdl2 : (xs ++ ys).length = xs.length + ys.length := List.length_append
    have hdl3 : data.length = en.length + (xs.length + ys.length) := by rw [hd, List.length_append, hdl2]
    have pg := pgc_is xs ys (by omega) (by omega) rr [] 0 0 gs.length rfl rfl (by omega) (by omega) (by simp) hs (by simp) (by omega)
    have et : (xs ++ ys).take (xs.length + ys.length) = xs ++ ys := List.take_of_length_le (by omega)
    refine EvP.step (fun k => ?_) (EvP.bindP pg (f := fun _ r => some (none, r)) (fun a ha => ?_))
    · rw [tables_SimpleGlyph_parsePoints.l0, if_neg (by omega), if_pos (by omega), if_pos (by omega), Int.toNat_natCast, hdr, w64 ((xs.length : Int) + (ys.length : Int)) (by omega), if_neg (by omega), if_pos (by omega), if_pos (by omega), if_pos (by omega), if_pos (by omega)]
      rw [show ((xs.length : Int) + (ys.length : Int)).toNat = xs.length + ys.length by omega, Int.toNat_natCast, et, List.take_left, List.drop_left]
      unfold tables_parseGlyphContourPoints.f
      rw [List.length_append, List.length_map, show (([] : List S123).length : Int) = 0 from rfl, show ((([] : List S123).length + gs.length : Nat) : Int) = (gs.length : Int) by simp]
      rfl
    · obtain ⟨qs, rfl, hq⟩ := ha
      exact EvP.now _ ⟨rfl, hq⟩)
  rw [hl.1] at go
  exact go
theorem pts_is (ends data : List Int) (t : List S51) {fs xs ys en : List Int} (hw : Wr 0 0 t fs xs ys) (he : Enc fs en) (hd : data = en ++ (xs ++ ys)) (ht : t.length ≤ 1000) (hdl : data.length ≤ 10000) (hs : ∀ s ∈ t, s.f1.natAbs ≤ 8192 ∧ s.f2.natAbs ≤ 8192) (a : Int)
    (h0 : 0 < ends.length) (h1 : ends.length ≤ 1000) (hlast : rd ends ((ends.length : Int) - 1) = (t.length : Int) - 1) : EvP (fun k => tables_parsePts.f k ends data a) (fun r => r.1 = none ∧ Pts t r.2) := by
  refine EvP.congr (fun k => ?_) (pp_all data t hw he hd ht hdl hs)
  unfold tables_parsePts.f tables_SimpleGlyph_parsePoints.f
  rw [if_neg (by omega), w64 ((ends.length : Int) - 1) (by omega), if_pos (by omega), if_pos (by omega), hlast, w64 ((t.length : Int) - 1) (by omega), w64 ((t.length : Int) - 1 + 1) (by omega), show (t.length : Int) - 1 + 1 = (t.length : Int) by omega, if_pos (by omega), if_pos (by omega), Int.toNat_natCast]
theorem ends_len : ∀ (t : List (List S51)) (n : Nat), (endsOf n t).length = t.length
  | [], _ => rfl
  | c :: t, n => by rw [endsOf, List.length_cons, List.length_cons, ends_len t]
theorem ends_last : ∀ (t : List (List S51)) (n : Nat) (_ : t ≠ []), ∃ E, endsOf n t = E ++ [((n + t.flatten.length : Nat) : Int) - 1]
  | [], _, h => absurd rfl h
  | [c], n, _ => ⟨[], by simp [endsOf]⟩
  | c :: d :: t, n, _ => by
    obtain ⟨E, hE⟩ := ends_last (d :: t) (n + c.length) (by simp)
    refine ⟨(((n + c.length : Nat) : Int) - 1) :: E, ?_⟩
    rw [endsOf, hE, List.flatten_cons (l := c), List.length_append, Nat.add_assoc]
    rfl
theorem ends_rd (t : List (List S51)) (h : t ≠ []) : rd (endsOf 0 t) (((endsOf 0 t).length : Int) - 1) = (t.flatten.length : Int) - 1 := by
  obtain ⟨E, hE⟩ := ends_last t 0 h
  rw [hE, List.length_append, Nat.zero_add]
  exact getD_drop 0 (t := []) (by rw [show (((E.length + [((t.flatten.length : Nat) : Int) - 1].length : Nat) : Int) - 1).toNat = E.length by simp, List.drop_left])
theorem ends_b : ∀ (t : List (List S51)) (n : Nat) (_ : ∀ c ∈ t, c ≠ []) (_ : n + t.flatten.length ≤ 1000), ∀ x ∈ endsOf n t, 0 ≤ x ∧ x ≤ 1000
  | [], _, _, _ => fun x hx => by simp [endsOf] at hx
  | c :: t, n, hc, hn => fun x hx => by
    rw [List.flatten_cons, List.length_append] at hn
    have : 0 < c.length := List.length_pos_iff.2 (hc c List.mem_cons_self)
    rw [endsOf] at hx
    rcases List.mem_cons.1 hx with rfl | hx
    · omega
    · exact ends_b t (n + c.length) (fun c hc' => hc c (List.mem_cons_of_mem _ hc')) (by omega) x hx
abbrev PG := List Int × Unit × (List S123) × Int × Option Int
theorem psg_ends (data : List Int) (n : Nat) (hn : n ≤ 1000) (Q : PG → Prop) (rest : List Int) : ∀ (t A : List Int) (_ : ∀ x ∈ t, 0 ≤ x ∧ x ≤ 1000) (_ : data.drop (2 * A.length) = t.flatMap be ++ rest) (_ : A.length + t.length = n) (_ : 2 * n ≤ data.length)
    (_ : EvP (fun k => tables_ParseSimpleGlyph.l0 k data (n : Int) 0 (n : Int) (n : Int) (A ++ t) ()) Q), EvP (fun k => tables_ParseSimpleGlyph.l0 k data (n : Int) 0 (n : Int) (A.length : Int) (A ++ List.replicate t.length 0) ()) Q
  | [], A, _, hd, hl, h2, h => by
    simp only [List.length_nil, Nat.add_zero] at hl
    rw [hl]
    exact h
  | x :: t, A, hx, hd, hl, h2, h => by
    have hx0 := hx x List.mem_cons_self
    simp only [List.length_cons] at hl
    have hd2 : data.drop (2 * A.length) = be x ++ (t.flatMap be ++ rest) := by rw [hd, List.flatMap_cons, List.append_assoc]
    have hd3 : data.drop (2 * (A ++ [x]).length) = t.flatMap be ++ rest := by
      have := drop_app hd2
      rw [List.length_append, show 2 * (A.length + [x].length) = 2 * A.length + (be x).length by simp [be]; omega]
      exact this
    have nx := psg_ends data n hn Q rest t (A ++ [x]) (fun x hx' => hx x (List.mem_cons_of_mem _ hx')) hd3 (by rw [List.length_append]; simp; omega) h2 (by rw [List.append_assoc]; exact h)
    have e : wrap64 ((A.length : Int) * 2) = ((2 * A.length : Nat) : Int) := by rw [w64 _ (by omega)]; omega
    refine EvP.step (fun k => ?_) nx
    rw [tables_ParseSimpleGlyph.l0, if_pos (by omega), e, if_pos (by omega), if_pos (by omega), Int.toNat_natCast, hd2, u16_be, Option.bind_some, if_pos (by omega), if_pos (by rw [List.length_append, List.length_replicate, List.length_cons]; omega), show x % 65536 = x by omega, Int.toNat_natCast, List.length_cons, List.replicate_succ, List.set_append_right _ _ (Nat.le_refl _), Nat.sub_self, wsucc A.length (by omega), List.append_assoc, List.length_append]
    rfl
theorem psg_is (data ends : List Int) (n c : Nat) (t : List S51) {fs xs ys en : List Int} (hw : Wr 0 0 t fs xs ys) (he : Enc fs en) (hd : data = ends.flatMap be ++ (be (c : Int) ++ (List.replicate c 0 ++ (en ++ (xs ++ ys))))) (ht : t.length ≤ 1000) (hdl : data.length ≤ 10000) (hs : ∀ s ∈ t, s.f1.natAbs ≤ 8192 ∧ s.f2.natAbs ≤ 8192)
    (hc : c < 3) (h0 : 0 < ends.length) (h1 : ends.length ≤ 1000) (hn : ends.length = n) (hlast : rd ends ((ends.length : Int) - 1) = (t.length : Int) - 1) (hb : ∀ x ∈ ends, 0 ≤ x ∧ x ≤ 1000) :
    EvP (fun k => tables_ParseSimpleGlyph.f k data (n : Int)) (fun r => r.1 = ends ∧ r.2.2.2.2 = none ∧ Pts t r.2.2.1) := by
  have hlen : data.length = 2 * n + (2 + (c + (en ++ (xs ++ ys)).length)) := by
    rw [hd, List.length_append, be_len, hn, List.length_append, List.length_append, List.length_replicate]
    rfl
  have hd2 : data.drop (2 * n) = be (c : Int) ++ (List.replicate c 0 ++ (en ++ (xs ++ ys))) := by
    have := be_len ends
    rw [hn] at this
    rw [hd, ← this, List.drop_left]
  have hd3 := drop_app hd2
  have hd4 := drop_app hd3
  rw [show (be (c : Int)).length = 2 from rfl, List.length_replicate] at hd4
  have pp := pts_is ends (en ++ (xs ++ ys)) t hw he rfl ht (by omega) hs (n : Int) h0 h1 hlast
  have fin : EvP (fun k => tables_ParseSimpleGlyph.l0 k data (n : Int) 0 (n : Int) (n : Int) ends ()) (fun r => r.1 = ends ∧ r.2.2.2.2 = none ∧ Pts t r.2.2.1) := by
    have g1 : ¬ ((n : Int) < (n : Int)) := by omega
    have g2 : ¬ ((data.length : Int) < ((2 * n + 2 : Nat) : Int)) := by omega
    have g3 : (0 : Int) ≤ ((2 * n : Nat) : Int) := by omega
    have g4 : ((2 * n : Nat) : Int) ≤ (data.length : Int) := by omega
    have g5 : ¬ ((data.length : Int) < ((2 * n + 2 + c : Nat) : Int)) := by omega
    have g6 : (0 : Int) ≤ ((2 * n + 2 : Nat) : Int) := by omega
    have g7 : ((2 * n + 2 : Nat) : Int) ≤ ((2 * n + 2 + c : Nat) : Int) := by omega
    have g8 : ((2 * n + 2 + c : Nat) : Int) ≤ (data.length : Int) := by omega
    have g9 : (0 : Int) ≤ ((2 * n + 2 + c : Nat) : Int) := by omega
    have e1 : wrap64 (0 + wrap64 ((n : Int) * 2)) = ((2 * n : Nat) : Int) := by rw [w64 ((n : Int) * 2) (by omega), w64 _ (by omega)]; omega
    have e2 : wrap64 (((2 * n : Nat) : Int) + 2) = ((2 * n + 2 : Nat) : Int) := by rw [w64 _ (by omega)]; omega
    have e3 : wrap64 ((c : Int) % 65536) = (c : Int) := by rw [w64 _ (by omega)]; omega
    have e4 : wrap64 (((2 * n + 2 : Nat) : Int) + (c : Int)) = ((2 * n + 2 + c : Nat) : Int) := by rw [w64 _ (by omega)]; omega
    refine EvP.step (fun k => ?_) (EvP.bindP pp (f := fun _ r => if r.1.isNone = true then (some (ends, (), r.2, ((2 * n + 2 + c : Nat) : Int), none)) else ((errors_New.f (⟨#[114, 101, 97, 100, 105, 110, 103, 32, 83, 105, 109, 112, 108, 101, 71, 108, 121, 112, 104, 58, 32, 37, 115]⟩ : ByteArray)).bind fun t163 => (some (ends, (), r.2, 0, t163)))) (fun r hr => ?_))
    · rw [tables_ParseSimpleGlyph.l0, if_neg g1, e1, e2, if_neg g2, if_pos g3, if_pos g4, Int.toNat_natCast, hd2, u16_be, Option.bind_some, e3, e4, if_neg g5, if_pos g6, if_pos g7, if_pos g8, if_pos g9, Int.toNat_natCast, hd4]
    · obtain ⟨r1, r2⟩ := r
      obtain ⟨h1, h2⟩ := hr
      cases h1
      exact EvP.now _ ⟨rfl, rfl, h2⟩
  have go := psg_ends data n (by omega) _ (be (c : Int) ++ (List.replicate c 0 ++ (en ++ (xs ++ ys)))) ends [] hb (by simpa using hd) (by simpa using hn) (by omega) fin
  rw [hn] at go
  refine EvP.congr (fun k => ?_) go
  unfold tables_ParseSimpleGlyph.f
  rw [w64 ((n : Int) * 2) (by omega), if_neg (by omega), if_pos (by omega), if_pos (by omega), Option.bind_some, Int.toNat_natCast, List.length_replicate]
  rfl

theorem drop_be {l b : List Int} {x : Int} {p : Nat} (h : l.drop p = be x ++ b) : l.drop (p + 2) = b := drop_app h
theorem glyph_is (B : List Int) (n c : Nat) (b0 b1 b2 b3 : Int) (ends : List Int) (t : List S51) {fs xs ys en : List Int} (hw : Wr 0 0 t fs xs ys) (he : Enc fs en) (hd : B = be (n : Int) ++ (be b0 ++ (be b1 ++ (be b2 ++ (be b3 ++ (ends.flatMap be ++ (be (c : Int) ++ (List.replicate c 0 ++ (en ++ (xs ++ ys)))))))))) (ht : t.length ≤ 1000) (hdl : B.length ≤ 10000) (hs : ∀ s ∈ t, s.f1.natAbs ≤ 8192 ∧ s.f2.natAbs ≤ 8192)
    (hc : c < 3) (h0 : 0 < ends.length) (h1 : ends.length ≤ 1000) (hn : ends.length = n) (hlast : rd ends ((ends.length : Int) - 1) = (t.length : Int) - 1) (hb : ∀ x ∈ ends, 0 ≤ x ∧ x ≤ 1000)
    (q0 : -32768 ≤ b0 ∧ b0 ≤ 32767) (q1 : -32768 ≤ b1 ∧ b1 ≤ 32767) (q2 : -32768 ≤ b2 ∧ b2 ≤ 32767) (q3 : -32768 ≤ b3 ∧ b3 ≤ 32767) :
    EvP (fun k => tables_ParseGlyph.f k B) (fun r => ∃ pts, r = ((n : Int), b0, b1, b2, b3, ends, (), pts, 10, none) ∧ Pts t pts) := by
  generalize hR : ends.flatMap be ++ (be (c : Int) ++ (List.replicate c 0 ++ (en ++ (xs ++ ys)))) = R at hd
  have hl : B.length = 10 + R.length := by rw [hd]; simp only [List.length_append, be, List.length_cons, List.length_nil]; omega
  have p := psg_is R ends n c t hw he hR.symm ht (by omega) hs hc h0 h1 hn hlast hb
  have d0 : B.drop 0 = be (n : Int) ++ (be b0 ++ (be b1 ++ (be b2 ++ (be b3 ++ R)))) := by rw [List.drop_zero]; exact hd
  have d2 : B.drop 2 = be b0 ++ (be b1 ++ (be b2 ++ (be b3 ++ R))) := drop_be d0
  have d4 : B.drop 4 = be b1 ++ (be b2 ++ (be b3 ++ R)) := drop_be d2
  have d6 : B.drop 6 = be b2 ++ (be b3 ++ R) := drop_be d4
  have d8 : B.drop 8 = be b3 ++ R := drop_be d6
  have d10 : B.drop 10 = R := drop_be d8
  have hn0 : (0 : Int) ≤ (n : Int) := by omega
  have hg : 10 ≤ B.length := by omega
  have in_ : -32768 ≤ (n : Int) ∧ (n : Int) ≤ 32767 := by omega
  have wn : -9223372036854775808 ≤ (n : Int) ∧ (n : Int) ≤ 9223372036854775807 := by omega
  have pd : EvP (fun k => tables_Glyph_parseData.f k (n : Int) R) (fun b => b.1 = none ∧ b.2.1 = ends ∧ Pts t b.2.2.2) := by
    refine EvP.congr (fun k => ?_) (EvP.bindP p (f := fun _ t => some (t.2.2.2.2, t.1, (), t.2.2.1)) (fun r hr => EvP.now _ ⟨hr.2.1, hr.1, hr.2.2⟩))
    unfold tables_Glyph_parseData.f
    rw [if_pos hn0, w64 (n : Int) wn]
  refine EvP.congr (fun k => ?_) (EvP.bindP pd (f := fun _ b => if b.1.isNone = true then some ((n : Int), b0, b1, b2, b3, b.2.1, (), b.2.2.2, 10, none) else none) (fun b hb => ?_))
  · unfold tables_ParseGlyph.f
    rw [if_pos hg, d0, d2, d4, d6, d8, d10, u16_be, u16_be, u16_be, u16_be, u16_be]
    simp only [Option.bind_some]
    rw [i16m (n : Int) in_, i16m b0 q0, i16m b1 q1, i16m b2 q2, i16m b3 q3]
  · obtain ⟨b1, b2, b3, b4⟩ := b
    obtain ⟨k1, k2, k3⟩ := hb
    cases k1
    cases k2
    exact EvP.now _ ⟨b4, rfl, k3⟩
theorem Pts.split : ∀ (a : List S51) {b : List S51} {qs : List S123}, Pts (a ++ b) qs → ∃ q1 q2, qs = q1 ++ q2 ∧ Pts a q1 ∧ Pts b q2
  | [], _, qs, h => ⟨[], qs, rfl, .nil, h⟩
  | p :: a, b, _, h => by
    cases h with
    | cons h1 h2 h3 hr =>
      obtain ⟨q1, q2, rfl, r1, r2⟩ := Pts.split a hr
      exact ⟨_ :: q1, q2, rfl, .cons h1 h2 h3 r1, r2⟩
abbrev GG := List (List S51) × Int × Int × Int × Int × Bool × Bool
theorem rd123d {l : List S123} {i : Nat} {x : S123} {t : List S123} (h : l.drop i = x :: t) : rd_T123 l (i : Int) = x := getD_drop z123 h
theorem gs_l1 (b0 b1 b2 b3 : Int) (EL : List Int) (m : Int) (i : Int) (pts R : List S123) (hpl : pts.length ≤ 10000) (Q : GG → Prop) (acc : List (List S51)) (hacc : acc.length ≤ 1000) (e : Nat) : ∀ (t : List S51) (qs : List S123) (_ : Pts t qs) (j : Nat) (c' : List S51) (_ : pts.drop j = qs ++ R) (_ : j + t.length = e + 1) (_ : e < 10000) (_ : c'.length ≤ j) (_ : ∀ s ∈ t, s.f1.natAbs ≤ 8192 ∧ s.f2.natAbs ≤ 8192)
    (_ : EvP (fun k => impl_GlyphSpots.l0 k (acc ++ [c' ++ t]) ((e + 1 : Nat) : Int) EL m (wrap64 (i + 1)) b0 b1 b2 b3 EL () pts) Q),
    EvP (fun k => impl_GlyphSpots.l1 k acc (j : Int) (e : Int) c' EL m i b0 b1 b2 b3 EL () pts) Q
  | [], _, .nil, j, c', hd, hj, he, hc, hs, h => by
    have hj2 : e + 1 = j := by simpa using hj.symm
    rw [List.append_nil, hj2] at h
    refine EvP.step (fun k => ?_) h
    rw [impl_GlyphSpots.l1, if_neg (by rw [w64 (e : Int) (by omega)]; omega), if_pos (by omega)]
  | p :: t, q :: qs, .cons h1 h2 h3 hr, j, c', hd, hj, he, hc, hs, h => by
    obtain ⟨_, hlt, hd2⟩ := drop_head hd
    have hrd := rd123d hd
    have hs0 := hs p List.mem_cons_self
    simp only [List.length_cons] at hj
    have nx := gs_l1 b0 b1 b2 b3 EL m i pts R hpl Q acc hacc e t qs hr (j + 1) (c' ++ [p]) hd2 (by omega) he (by rw [List.length_append]; simp; omega) (fun s hs' => hs s (List.mem_cons_of_mem _ hs')) (by rw [List.append_assoc]; exact h)
    refine EvP.step (fun k => ?_) nx
    rw [impl_GlyphSpots.l1, if_pos (by rw [w64 (e : Int) (by omega)]; omega), if_pos (by omega), if_pos (by omega), if_pos (by omega), hrd, h1, h2, h3, w64 p.f1 (by omega), w64 p.f2 (by omega), wsucc j (by omega)]
theorem gs_l0 (b0 b1 b2 b3 : Int) (EL : List Int) (hel : EL.length ≤ 1000) (pts : List S123) (hpl : pts.length ≤ 10000) : ∀ (t : List (List S51)) (i start : Nat) (acc : List (List S51)) (qs : List S123) (_ : ∀ c ∈ t, c ≠ [] ∧ ∀ s ∈ c, s.f1.natAbs ≤ 8192 ∧ s.f2.natAbs ≤ 8192) (_ : EL.drop i = endsOf start t) (_ : i ≤ EL.length) (_ : Pts t.flatten qs) (_ : pts.drop start = qs) (_ : start ≤ pts.length) (_ : acc.length ≤ i),
    EvP (fun k => impl_GlyphSpots.l0 k acc (start : Int) EL (EL.length : Int) (i : Int) b0 b1 b2 b3 EL () pts) (fun r => r = (acc ++ t, b0, b1, b2, b3, true, true))
  | [], i, start, acc, qs, hc, hd, hi, hp, hq, hst, hacc => by
    have : EL.length ≤ i := by simpa [endsOf] using hd
    refine EvP.step (f := fun _ => some (acc, b0, b1, b2, b3, true, true)) (fun k => ?_) (EvP.now _ (by rw [List.append_nil]))
    rw [impl_GlyphSpots.l0, if_neg (by omega)]
  | c :: t, i, start, acc, qs, hc, hd, hi, hp, hq, hst, hacc => by
    obtain ⟨_, hlt, hd2⟩ := drop_head hd
    have hr := rdI hd
    obtain ⟨hne, hs⟩ := hc c List.mem_cons_self
    have hcl : 0 < c.length := List.length_pos_iff.2 hne
    rw [List.flatten_cons] at hp
    obtain ⟨q1, q2, rfl, r1, r2⟩ := hp.split
    have hl1 := r1.len
    have hq2 := drop_app hq
    have hlen : pts.length - start = q1.length + q2.length := by rw [← List.length_drop, hq, List.length_append]
    rw [hl1] at hq2
    have nx := gs_l0 b0 b1 b2 b3 EL hel pts hpl t (i + 1) (start + c.length) (acc ++ [c]) q2 (fun c hc' => hc c (List.mem_cons_of_mem _ hc')) hd2 hlt r2 hq2 (by omega) (by rw [List.length_append]; simp; omega)
    have in1 := gs_l1 b0 b1 b2 b3 EL (EL.length : Int) (i : Int) pts q2 hpl (fun r => r = (acc ++ c :: t, b0, b1, b2, b3, true, true)) acc (by omega) (start + c.length - 1) c q1 r1 start [] hq (by omega) (by omega) (by simp) hs (by
      rw [wsucc i (by omega), show start + c.length - 1 + 1 = start + c.length by omega]
      rw [List.append_assoc] at nx
      exact nx)
    have e1 : ((start + c.length : Nat) : Int) - 1 = ((start + c.length - 1 : Nat) : Int) := by omega
    refine EvP.step (f := fun k => impl_GlyphSpots.j1 k acc (start : Int) ((start + c.length - 1 : Nat) : Int) EL (EL.length : Int) (i : Int) false b0 b1 b2 b3 EL () pts) (fun k => ?_) (EvP.step (fun k => ?_) in1)
    · rw [impl_GlyphSpots.l0, if_pos (by omega), if_pos (by omega), if_pos (by omega), hr, e1, w64 _ (by omega), if_neg (by omega), decide_eq_false (by omega)]
    · rw [impl_GlyphSpots.j1, if_neg (by simp)]
theorem eq_l0 (c : List S51) (hc : c.length ≤ 1000) : ∀ (t : List S51) (i : Nat) (_ : c.drop i = t), Ev (fun k => impl_Spot_23.l0 k c c (c.length : Int) (i : Int)) true
  | [], i, hd => by
    have : c.length ≤ i := by simpa using hd
    refine Ev.step (f := fun _ => some true) (fun k => ?_) (Ev.now _)
    rw [impl_Spot_23.l0, if_neg (by omega)]
  | p :: t, i, hd => by
    obtain ⟨_, hlt, hd2⟩ := drop_head hd
    refine Ev.step (fun k => ?_) (eq_l0 c hc t (i + 1) hd2)
    rw [impl_Spot_23.l0, if_pos (by omega), if_pos (by omega), if_pos (by omega), if_pos (by omega), if_neg (by simp), wsucc i (by omega)]
theorem eq_l1 (x : List (List S51)) (hx : x.length ≤ 1000) (hc : ∀ c ∈ x, c.length ≤ 1000) : ∀ (t : List (List S51)) (i : Nat) (_ : x.drop i = t), Ev (fun k => impl_Spot_21.l0 k x x (x.length : Int) (i : Int)) true
  | [], i, hd => by
    have : x.length ≤ i := by simpa using hd
    refine Ev.step (f := fun _ => some true) (fun k => ?_) (Ev.now _)
    rw [impl_Spot_21.l0, if_neg (by omega)]
  | c :: t, i, hd => by
    obtain ⟨_, hlt, hd2⟩ := drop_head hd
    have hr := rdL3 hd
    have e1 := eq_l0 c (hc c (List.mem_of_mem_drop (by rw [hd]; exact List.mem_cons_self))) c 0 rfl
    have e2 : Ev (fun k => laws_FnGlyphSpots_1.f k c c) true := Ev.congr (fun k => by unfold laws_FnGlyphSpots_1.f impl_Spot_23.f; rw [if_pos rfl]; rfl) (Ev.bind e1 (f := fun _ t => some t) (Ev.now _))
    refine Ev.step (f := fun k => (laws_FnGlyphSpots_1.f k c c).bind fun b => if b = true then impl_Spot_21.l0 k x x (x.length : Int) ((i + 1 : Nat) : Int) else some false) (fun k => ?_) (Ev.bind e2 (Ev.congr (fun _ => if_pos rfl) (eq_l1 x hx hc t (i + 1) hd2)))
    rw [impl_Spot_21.l0, if_pos (by omega), if_pos (by omega), if_pos (by omega), if_pos (by omega), hr, wsucc i (by omega)]
theorem flat_len : ∀ (t : List (List S51)) (_ : ∀ c ∈ t, c.length ≤ 12), t.flatten.length ≤ 12 * t.length
  | [], _ => by simp
  | c :: t, h => by
    have h1 := h c List.mem_cons_self
    have h2 := flat_len t (fun c hc => h c (List.mem_cons_of_mem _ hc))
    rw [List.flatten_cons, List.length_append, List.length_cons]
    omega
theorem Enc.len {fs en : List Int} (h : Enc fs en) : en.length ≤ 2 * fs.length := by
  induction h with
  | nil => simp
  | one _ ih => simp only [List.length_cons]; omega
  | rep m h1 h2 _ ih => simp only [List.length_cons, List.length_append, List.length_replicate]; omega
theorem law_j1 (W : List Int) (hW : By W) (all : List (List S51)) (hne : all ≠ []) (hall : all.length ≤ 5) (hok : ∀ c ∈ all, Ok c) (b0 b1 b2 b3 : Int)
    (q0 : -32768 ≤ b0 ∧ b0 ≤ 32767) (q1 : -32768 ≤ b1 ∧ b1 ≤ 32767) (q2 : -32768 ≤ b2 ∧ b2 ≤ 32767) (q3 : -32768 ≤ b3 ∧ b3 ≤ 32767) : EvP (fun k => laws_FnGlyphSpots.j1 k W all b0 b1 b2 b3) (fun r => r = true) := by
  have hpos : 0 < all.length := List.length_pos_iff.2 hne
  have hfl := flat_len all (fun c hc => (hok c hc).len)
  have hco : ∀ s ∈ all.flatten, s.f1.natAbs ≤ 8192 ∧ s.f2.natAbs ≤ 8192 := fun s hs => by
    obtain ⟨c, hc, hsc⟩ := List.mem_flatten.1 hs
    exact (hok c hc).co s hsc
  have hel := ends_len all 0
  refine EvP.step (fun k => by rw [laws_FnGlyphSpots.j1]) (EvP.bindP (sb_is W hW all hall hok b0 b1 b2 b3) (fun r hr => ?_))
  obtain ⟨fs, xs, ys, en, c, hc, hw, he, rfl⟩ := hr
  have wl := hw.len
  have el := he.len
  have gl := glyph_is _ all.length c b0 b1 b2 b3 (endsOf 0 all) all.flatten hw he rfl (by omega) (by simp only [List.length_append, be_len, List.length_replicate, hel]; simp only [be, List.length_cons, List.length_nil]; omega) hco hc (by omega) (by omega) hel (ends_rd all hne) (ends_b all 0 (fun c hc => (hok c hc).ne) (by omega)) q0 q1 q2 q3
  refine EvP.bindP (P := fun r => r = (all, b0, b1, b2, b3, true, true)) ?_ (fun r hr => ?_)
  · refine EvP.congr (fun k => by unfold impl_GlyphSpots.f; rfl) (EvP.bindP gl (fun r hr => ?_))
    obtain ⟨pts, rfl, hp⟩ := hr
    have hpl := hp.len
    have go := gs_l0 b0 b1 b2 b3 (endsOf 0 all) (by omega) pts (by omega) all 0 0 [] pts (fun c hc => ⟨(hok c hc).ne, (hok c hc).co⟩) rfl (by omega) hp rfl (by omega) (by simp)
    refine EvP.congr (fun k => ?_) go
    simp only [Option.isNone_none, if_true, w64 b0 (by omega), w64 b1 (by omega), w64 b2 (by omega), w64 b3 (by omega)]
    rfl
  · subst hr
    have e := eq_l1 all (by omega) (fun c hc => by have := (hok c hc).len; omega) all 0 rfl
    refine ⟨true, Ev.congr (fun k => ?_) (Ev.bind e (f := fun _ t => some t) (Ev.now _)), rfl⟩
    simp only [if_true]
    unfold impl_Spot_21.f
    rw [if_pos rfl]
    rfl
theorem law_j0 (x0 : List (List S51)) (W : List Int) (hW : By W) (b : Bool) (b0 b1 b2 b3 : Int)
    (q0 : -32768 ≤ b0 ∧ b0 ≤ 32767) (q1 : -32768 ≤ b1 ∧ b1 ≤ 32767) (q2 : -32768 ≤ b2 ∧ b2 ≤ 32767) (q3 : -32768 ≤ b3 ∧ b3 ≤ 32767) : EvP (fun k => laws_FnGlyphSpots.j0 k x0 W b b0 b1 b2 b3) (fun r => r = true) := by
  cases b with
  | true =>
    refine EvP.step (f := fun _ => some true) (fun k => ?_) (EvP.now _ rfl)
    rw [laws_FnGlyphSpots.j0, if_pos rfl]
  | false =>
    refine EvP.step (fun k => by rw [laws_FnGlyphSpots.j0, if_neg (by simp), w64 b0 (by omega), w64 b1 (by omega), w64 b2 (by omega), w64 b3 (by omega)]) (EvP.bindP (P := Post) (g := fun k => laws_someSpots.f k x0) (spots_l0 x0 5 0 [] rfl (fun c hc => by simp at hc) (by simp)) (fun r hr => ?_))
    by_cases h : (r.length : Int) = 0
    · refine EvP.pos h (law_j1 W hW _ (by simp) (by simp) (fun c hc => ?_) b0 b1 b2 b3 q0 q1 q2 q3)
      rw [List.mem_singleton.1 hc]
      exact ⟨by simp, fun s hs => by injection hs with h1 h2; rw [← h1], fun s hs => by rw [List.mem_singleton.1 hs]; exact ⟨by decide, by decide⟩, by simp⟩
    · refine EvP.neg h (law_j1 W hW r (fun e => h (by rw [e]; rfl)) hr.2 hr.1 b0 b1 b2 b3 q0 q1 q2 q3)
theorem wf_u8 {x : Int} (h : (Lit.int .u8 x).wf = true) : 0 ≤ x ∧ x ≤ 255 := by
  simp only [Lit.wf, Bool.and_eq_true, decide_eq_true_eq] at h; exact h
theorem wf_i16 {x : Int} (h : (Lit.int .i16 x).wf = true) : -32768 ≤ x ∧ x ≤ 32767 := by
  simp only [Lit.wf, Bool.and_eq_true, decide_eq_true_eq] at h; exact h
theorem FnGlyphSpots : laws_FnGlyphSpots.Pure := by
  intro l0 b0 b1 b2 b3 W _ _ q0 q1 q2 q3 _ _ hW
  obtain ⟨b, hb⟩ := fits_is l0
  have go : EvP (fun k => laws_FnGlyphSpots.f k l0 b0 b1 b2 b3 W) (fun r => r = true) := by
    refine EvP.congr (fun k => by unfold laws_FnGlyphSpots.f; rfl) ?_
    refine EvP.bind hb ?_
    cases b with
    | true => exact EvP.pos rfl (law_j0 l0 W (fun x hx => wf_u8 (hW x hx)) _ b0 b1 b2 b3 (wf_i16 q0) (wf_i16 q1) (wf_i16 q2) (wf_i16 q3))
    | false => exact EvP.neg (by simp) (law_j0 l0 W (fun x hx => wf_u8 (hW x hx)) true b0 b1 b2 b3 (wf_i16 q0) (wf_i16 q1) (wf_i16 q2) (wf_i16 q3))
  obtain ⟨r, ⟨k, hk⟩, rfl⟩ := go
  exact ⟨k, hk k (Nat.le_refl _)⟩

end Go.Proofs.Ytchkmmbedgolbaa.Pure
