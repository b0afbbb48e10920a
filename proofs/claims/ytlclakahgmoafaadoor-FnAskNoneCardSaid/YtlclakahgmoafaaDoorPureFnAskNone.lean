/- The pure law of FnAskOf / FnAskNone: what the printed functions answer, over lists and numbers. -/
import Derived.Lib.AtoiAllCases

import Derived.Lib.IndexLaws
import Derived.Laws.BitsLemmas
import Derived.Test.YtlclakahgmoafaaDoorPFnAskNonex
namespace Go.Proofs.YtlclakahgmoafaaDoor.Pure
open Go.RowKit Go.Proofs.YtlclakahgmoafaaDoor.PFnAskNone Go.Proofs.YtlclakahgmoafaaDoorW.PrintWords Go.Proofs.YtlclakahgmoafaaDoorW.PrintLast Go.Proofs.YtlclakahgmoafaaDoorW.PrintMore

theorem w64 (n : Int) (h : -9223372036854775808 ≤ n ∧ n ≤ 9223372036854775807) : wrap64 n = n := by unfold wrap64; omega
theorem Ev.pos {α : Type} {c : Prop} [Decidable c] {g f : Nat → Option α} {r : α} (hc : c) (h : Ev g r) : Ev (fun k => if c then g k else f k) r := Ev.congr (fun _ => if_pos hc) h
theorem Ev.neg {α : Type} {c : Prop} [Decidable c] {g f : Nat → Option α} {r : α} (hc : ¬ c) (h : Ev f r) : Ev (fun k => if c then g k else f k) r := Ev.congr (fun _ => if_neg hc) h
/-- What stands from place p on. -/
def At (d : List Int) (p : Nat) (r : List Int) : Prop := ∃ pre : List Int, d = pre ++ r ∧ pre.length = p
theorem At.lt {d : List Int} {p : Nat} {c : Int} {r : List Int} (h : At d p (c :: r)) : (p : Int) < (d.length : Int) := by
  obtain ⟨pre, rfl, rfl⟩ := h
  rw [List.length_append, List.length_cons]
  omega
theorem At.got {d : List Int} {p : Nat} {c : Int} {r : List Int} (h : At d p (c :: r)) : rd d (p : Int) = c := by
  obtain ⟨pre, rfl, rfl⟩ := h
  simp [rd, List.getD_eq_getElem?_getD]
theorem At.next {d : List Int} {p : Nat} {c : Int} {r : List Int} (h : At d p (c :: r)) : At d (p + 1) r := by
  obtain ⟨pre, rfl, rfl⟩ := h
  exact ⟨pre ++ [c], by simp, by simp⟩
theorem At.adv {d : List Int} {p : Nat} {r : List Int} (xs : List Int) (h : At d p (xs ++ r)) : At d (p + xs.length) r := by
  obtain ⟨pre, rfl, rfl⟩ := h
  exact ⟨pre ++ xs, by simp, by simp⟩
theorem At.span {d : List Int} {p : Nat} {r : List Int} (xs : List Int) (h : At d p (xs ++ r)) : (d.take ((p + xs.length : Nat) : Int).toNat).drop (p : Int).toNat = xs := by
  obtain ⟨pre, rfl, rfl⟩ := h
  rw [Int.toNat_natCast, Int.toNat_natCast, ← List.append_assoc, List.take_left' (by simp)]
  simp
theorem At.le {d : List Int} {p : Nat} {r : List Int} (h : At d p r) : p ≤ d.length := by
  obtain ⟨pre, rfl, rfl⟩ := h
  simp
theorem At.nil {d : List Int} {p : Nat} (h : At d p []) : (p : Int) = (d.length : Int) := by
  obtain ⟨pre, rfl, rfl⟩ := h
  simp
abbrev AN (c : Int) : Prop := (97 ≤ c ∧ c ≤ 122) ∨ (65 ≤ c ∧ c ≤ 90) ∨ (48 ≤ c ∧ c ≤ 57)
abbrev Sep (c : Int) : Prop := c = 91 ∨ c = 93 ∨ c = 58 ∨ c = 61
abbrev NS (c : Int) : Prop := 33 ≤ c
def Stop (r : List Int) : Prop := r = [] ∨ ∃ c r', r = c :: r' ∧ Sep c
def Stop2 (r : List Int) : Prop := r = [] ∨ ∃ c r', r = c :: r' ∧ (c = 91 ∨ c = 61)
theorem Stop2.stop {r : List Int} (h : Stop2 r) : Stop r := by
  rcases h with h | ⟨c, r', h, hc⟩
  · exact Or.inl h
  · exact Or.inr ⟨c, r', h, by omega⟩
def Fit (d : List Int) : Prop := d.length ≤ 140737488351232

theorem space_no {c : Int} (h : NS c) : harfbuzz_isSpace.f c = some false := by
  unfold harfbuzz_isSpace.f
  rw [if_neg (by omega), if_neg (by omega), if_neg (by omega), if_neg (by omega), if_neg (by omega)]
  have : (c == 11) = false := by simp; omega
  rw [this]
theorem alpha_is (c : Int) : harfbuzz_isAlpha.f c = some (decide ((97 ≤ c ∧ c ≤ 122) ∨ (65 ≤ c ∧ c ≤ 90))) := by
  unfold harfbuzz_isAlpha.f
  by_cases h1 : c ≥ 97
  · by_cases h2 : c ≤ 122
    · rw [if_pos h1, if_pos h2, decide_eq_true (by omega)]
    · rw [if_pos h1, if_neg h2, if_pos (by omega)]
      congr 1
      exact decide_eq_decide.2 (by omega)
  · rw [if_neg h1]
    by_cases h2 : c ≥ 65
    · rw [if_pos h2]
      congr 1
      exact decide_eq_decide.2 (by omega)
    · rw [if_neg h2, decide_eq_false (by omega)]
theorem alnum_is (c : Int) : harfbuzz_isAlnum.f c = some (decide (AN c)) := by
  unfold harfbuzz_isAlnum.f
  rw [alpha_is, Option.bind_some]
  by_cases h : (97 ≤ c ∧ c ≤ 122) ∨ (65 ≤ c ∧ c ≤ 90)
  · rw [decide_eq_true h, if_pos rfl, decide_eq_true (by unfold AN; omega)]
  · rw [decide_eq_false h, if_neg (by decide)]
    by_cases h2 : c ≥ 48
    · rw [if_pos h2]
      congr 1
      exact decide_eq_decide.2 (by unfold AN; omega)
    · rw [if_neg h2, decide_eq_false (by unfold AN; omega)]

theorem skip_at {d : List Int} {p : Nat} {c : Int} {r : List Int} (h : At d p (c :: r)) (hc : NS c) : Ev (fun k => harfbuzz_parser_skipSpaces.f k d p) (p : Int) := by
  refine ⟨1, fun k hk => ?_⟩
  obtain ⟨k, rfl⟩ : ∃ m, k = m + 1 := ⟨k - 1, by omega⟩
  simp only [harfbuzz_parser_skipSpaces.f, harfbuzz_parser_skipSpaces.l0]
  rw [if_pos h.lt, if_pos (by omega), h.got, space_no hc, Option.bind_some, if_neg (by decide)]
theorem skip_end {d : List Int} {p : Nat} (h : At d p []) : Ev (fun k => harfbuzz_parser_skipSpaces.f k d p) (p : Int) := by
  refine ⟨1, fun k hk => ?_⟩
  obtain ⟨k, rfl⟩ : ∃ m, k = m + 1 := ⟨k - 1, by omega⟩
  simp only [harfbuzz_parser_skipSpaces.f, harfbuzz_parser_skipSpaces.l0]
  rw [if_neg (by have := h.nil; omega)]
theorem char_yes {d : List Int} {p : Nat} {c : Int} {r : List Int} (hd : Fit d) (h : At d p (c :: r)) (hc : NS c) : Ev (fun k => harfbuzz_parser_parseChar.f k d p c) (true, ((p + 1 : Nat) : Int)) := by
  unfold harfbuzz_parser_parseChar.f
  refine Ev.bind (skip_at h hc) ?_
  refine Ev.congr (f := fun _ => some (true, ((p + 1 : Nat) : Int))) (fun k => ?_) (Ev.now _)
  have := h.lt
  unfold Fit at hd
  rw [if_neg (by omega), if_pos (by omega), if_pos h.lt, h.got, if_pos rfl, w64 _ (by omega)]
  rfl
theorem char_no {d : List Int} {p : Nat} {c a : Int} {r : List Int} (h : At d p (c :: r)) (hc : NS c) (ha : c ≠ a) : Ev (fun k => harfbuzz_parser_parseChar.f k d p a) (false, (p : Int)) := by
  unfold harfbuzz_parser_parseChar.f
  refine Ev.bind (skip_at h hc) ?_
  refine Ev.congr (f := fun _ => some (false, (p : Int))) (fun k => ?_) (Ev.now _)
  have := h.lt
  rw [if_neg (by omega), if_pos (by omega), if_pos h.lt, h.got, if_neg ha]
theorem char_end {d : List Int} {p : Nat} (a : Int) (h : At d p []) : Ev (fun k => harfbuzz_parser_parseChar.f k d p a) (false, (p : Int)) := by
  unfold harfbuzz_parser_parseChar.f
  refine Ev.bind (skip_end h) ?_
  refine Ev.congr (f := fun _ => some (false, (p : Int))) (fun k => ?_) (Ev.now _)
  rw [if_pos h.nil]

theorem u32_loop {d : List Int} {r : List Int} (hd : Fit d) (hr : Stop r) : ∀ (xs : List Int) (p : Nat), At d p (xs ++ r) → (∀ c ∈ xs, AN c) → Ev (fun k => harfbuzz_parser_parseUint32.l0 k d p) ((p + xs.length : Nat) : Int)
  | [], p, h, _ => by
    refine ⟨1, fun k hk => ?_⟩
    obtain ⟨k, rfl⟩ : ∃ m, k = m + 1 := ⟨k - 1, by omega⟩
    simp only [harfbuzz_parser_parseUint32.l0]
    rcases hr with rfl | ⟨c, r', rfl, hc⟩
    · rw [if_neg (by have := At.nil h; omega)]
      rfl
    · rw [if_pos (At.lt h), if_pos (by omega), At.got h, alnum_is, Option.bind_some, decide_eq_false (by unfold AN; unfold Sep at hc; omega), if_neg (by decide)]
      rfl
  | c :: xs, p, h, hx => by
    have ih := u32_loop hd hr xs (p + 1) (At.next h) fun c hc => hx c (List.mem_cons_of_mem _ hc)
    have hlt := At.lt h
    unfold Fit at hd
    refine Ev.step (f := fun k => harfbuzz_parser_parseUint32.l0 k d ((p + 1 : Nat) : Int)) (fun k => ?_) (by rw [show p + (c :: xs).length = p + 1 + xs.length by simp; omega]; exact ih)
    simp only [harfbuzz_parser_parseUint32.l0]
    rw [if_pos hlt, if_pos (by omega), At.got h, alnum_is, Option.bind_some, decide_eq_true (hx c (List.mem_cons_self ..)), if_pos rfl, w64 _ (by omega)]
    rfl
/-- A row of letters and digits, read as a number. -/
structure Num (xs : List Int) (v : Int) (b : Bool) : Prop where
  an : ∀ c ∈ xs, AN c
  at_ : ∃ v' e, strconv_Atoi.f (strOfNums xs) = some (v', e) ∧ IntKind.u32.wrap v' = v ∧ e.isNone = b
theorem u32_at {d : List Int} {p : Nat} {xs r : List Int} {v : Int} {b : Bool} (hd : Fit d) (h : At d p (xs ++ r)) (hn : Num xs v b) (hr : Stop r) :
    Ev (fun k => harfbuzz_parser_parseUint32.f k d p) (v, b, ((p + xs.length : Nat) : Int)) := by
  obtain ⟨v', e, ha, rfl, rfl⟩ := hn.at_
  unfold harfbuzz_parser_parseUint32.f
  refine Ev.bind (u32_loop hd hr xs p h hn.an) ?_
  refine Ev.congr (f := fun _ => some _) (fun k => ?_) (Ev.now _)
  have := (h.adv xs).le
  rw [if_pos (by omega), if_pos (by omega), if_pos (by omega), h.span, ha, Option.bind_some]
theorem num_nil : Num [] 0 false := ⟨by simp, 0, some 0, by decide, by decide, rfl⟩

theorem bits_or_comm (a b : Nat) (ha : a < 4294967296) (hb : b < 4294967296) : Go.bits .or .u32 (a : Int) (b : Int) = Go.bits .or .u32 (b : Int) (a : Int) := by
  have f : ∀ n : Int, 0 ≤ n → n < 2 ^ 32 → IntKind.u32.wrap n = n := fun n h0 h1 => by rw [Go.IntKind.wrap_u32]; omega
  rw [(Go.bits_nat .u32 32 (by decide) f a b (by omega) (by omega)).2, (Go.bits_nat .u32 32 (by decide) f b a (by omega) (by omega)).2, Nat.or_comm]
theorem or_low (i : Nat) (x y : Int) (hx0 : 0 ≤ x) (hx : x % 2 ^ i = 0) (hx1 : x < 4294967296) (hy0 : 0 ≤ y) (hy : y < 2 ^ i) (hy1 : y < 4294967296) : Go.bits .or .u32 y x = x + y := by
  have f : ∀ n : Int, 0 ≤ n → n < 2 ^ 32 → IntKind.u32.wrap n = n := fun n h0 h1 => by rw [Go.IntKind.wrap_u32]; omega
  rw [← Go.bits_join .u32 32 (by decide) f i x y hx0 hx (by omega) hy0 hy (by omega)]
  obtain ⟨a, rfl⟩ := Int.eq_ofNat_of_zero_le hx0
  obtain ⟨b, rfl⟩ := Int.eq_ofNat_of_zero_le hy0
  exact bits_or_comm b a (by omega) (by omega)
def tagNum (t0 t1 t2 t3 : Int) : Int := t0 * 16777216 + t1 * 65536 + t2 * 256 + t3
abbrev By (c : Int) : Prop := 0 ≤ c ∧ c < 256
theorem newTag_is {t0 t1 t2 t3 : Int} (h0 : By t0) (h1 : By t1) (h2 : By t2) (h3 : By t3) : opentype_NewTag.f t0 t1 t2 t3 = some (tagNum t0 t1 t2 t3) := by
  unfold opentype_NewTag.f tagNum
  have e0 : t0 % 4294967296 * 16777216 % 4294967296 = t0 * 16777216 := by omega
  have e1 : t1 % 4294967296 * 65536 % 4294967296 = t1 * 65536 := by omega
  have e2 : t2 % 4294967296 * 256 % 4294967296 = t2 * 256 := by omega
  have e3 : t3 % 4294967296 = t3 := by omega
  rw [e0, e1, e2, e3]
  rw [or_low 8 (t2 * 256) t3 (by omega) (by omega) (by omega) (by omega) (by omega) (by omega)]
  rw [or_low 16 (t1 * 65536) (t2 * 256 + t3) (by omega) (by omega) (by omega) (by omega) (by omega) (by omega)]
  rw [or_low 24 (t0 * 16777216) (t1 * 65536 + (t2 * 256 + t3)) (by omega) (by omega) (by omega) (by omega) (by omega) (by omega)]
  congr 1
  omega
theorem bt_strOfNums (xs : List Int) (i : Nat) (c : Int) (h : xs[i]? = some c) (hb : By c) : bt (strOfNums xs) (i : Int) = c := by
  have hl : i < xs.length := by
    rcases Nat.lt_or_ge i xs.length with h' | h'
    · exact h'
    · rw [List.getElem?_eq_none h'] at h; cases h
  have hs : (strOfNums xs).size = xs.length := by simp [strOfNums, ByteArray.size]
  unfold bt
  rw [dif_pos (by omega)]
  have e : (strOfNums xs)[(i : Int).toNat]'(by omega) = UInt8.ofNat c.toNat := by
    have : ((strOfNums xs).data)[i]'(by simpa [strOfNums] using hl) = UInt8.ofNat c.toNat := by
      have h2 : xs[i] = c := by simpa [List.getElem?_eq_getElem hl] using h
      simp [strOfNums, h2]
    exact this
  rw [e]
  have : (UInt8.ofNat c.toNat).toNat = c.toNat := by simp; omega
  rw [this]
  omega
theorem size_strOfNums (xs : List Int) : (strOfNums xs).size = xs.length := by simp [strOfNums, ByteArray.size]
theorem must_is {t0 t1 t2 t3 : Int} (h0 : By t0) (h1 : By t1) (h2 : By t2) (h3 : By t3) : opentype_MustNewTag.f (strOfNums [t0, t1, t2, t3]) = some (tagNum t0 t1 t2 t3) := by
  have hs : ((strOfNums [t0, t1, t2, t3]).size : Int) = 4 := by rw [size_strOfNums]; rfl
  unfold opentype_MustNewTag.f
  rw [if_pos hs, hs, if_pos (by decide), if_pos (by decide), if_pos (by decide), if_pos (by decide)]
  rw [show bt (strOfNums [t0, t1, t2, t3]) 0 = t0 from bt_strOfNums _ 0 _ rfl h0, show bt (strOfNums [t0, t1, t2, t3]) 1 = t1 from bt_strOfNums _ 1 _ rfl h1,
    show bt (strOfNums [t0, t1, t2, t3]) 2 = t2 from bt_strOfNums _ 2 _ rfl h2, show bt (strOfNums [t0, t1, t2, t3]) 3 = t3 from bt_strOfNums _ 3 _ rfl h3, newTag_is h0 h1 h2 h3]
  rfl
theorem tagString_is {t0 t1 t2 t3 : Int} (h0 : By t0) (h1 : By t1) (h2 : By t2) (h3 : By t3) : opentype_Tag_String.f (tagNum t0 t1 t2 t3) = some (strOfNums [t0, t1, t2, t3]) := by
  unfold opentype_Tag_String.f tagNum
  have e0 : (t0 * 16777216 + t1 * 65536 + t2 * 256 + t3) / 16777216 % 256 = t0 := by omega
  have e1 : (t0 * 16777216 + t1 * 65536 + t2 * 256 + t3) / 65536 % 256 = t1 := by omega
  have e2 : (t0 * 16777216 + t1 * 65536 + t2 * 256 + t3) / 256 % 256 = t2 := by omega
  have e3 : (t0 * 16777216 + t1 * 65536 + t2 * 256 + t3) % 256 = t3 := by omega
  rw [e0, e1, e2, e3]

theorem tag_loop {d : List Int} {r : List Int} {x5 : Int} {R : Int × Option Int × Int} (hd : Fit d) (hr : Stop2 r) : ∀ (xs : List Int) (p : Nat), At d p (xs ++ r) → (∀ c ∈ xs, AN c) →
    Ev (fun k => harfbuzz_parser_parseTag.j3 k 0 x5 d ((p + xs.length : Nat) : Int)) R → Ev (fun k => harfbuzz_parser_parseTag.l0 k 0 x5 d (p : Int)) R
  | [], p, h, _, hR => by
    refine Ev.step (f := fun k => harfbuzz_parser_parseTag.j3 k 0 x5 d (p : Int)) (fun k => ?_) hR
    rcases hr with rfl | ⟨c, r', rfl, hc⟩
    · rw [harfbuzz_parser_parseTag.l0, if_neg (by have := At.nil h; omega)]
    · rw [harfbuzz_parser_parseTag.l0, if_pos (At.lt h), if_pos (by omega), At.got h, if_neg (by omega)]
      by_cases e : c = 61
      · rw [if_pos e]
      · rw [if_neg e, if_pos (by omega)]
  | c :: xs, p, h, hx, hR => by
    have ih := tag_loop (R := R) hd hr xs (p + 1) (At.next h) (fun c hc => hx c (List.mem_cons_of_mem _ hc)) (by rw [show p + 1 + xs.length = p + (c :: xs).length by simp; omega]; exact hR)
    have hlt := At.lt h
    have hc : AN c := hx c (List.mem_cons_self ..)
    unfold Fit at hd
    refine Ev.step (f := fun k => harfbuzz_parser_parseTag.l0 k 0 x5 d ((p + 1 : Nat) : Int)) (fun k => ?_) ih
    rw [harfbuzz_parser_parseTag.l0, if_pos hlt, if_pos (by omega), At.got h, if_neg (by unfold AN at hc; omega), if_neg (by unfold AN at hc; omega), if_neg (by unfold AN at hc; omega), if_neg (by unfold AN at hc; omega), w64 _ (by omega)]
    rfl
/-- Up to the loop: no quote. -/
theorem tag_in {d : List Int} {p : Nat} {r : List Int} {R : Int × Option Int × Int} (h : At d p r) (hr : ∀ c r', r = c :: r' → 40 ≤ c)
    (hl : Ev (fun k => harfbuzz_parser_parseTag.l0 k 0 (p : Int) d (p : Int)) R) : Ev (fun k => harfbuzz_parser_parseTag.f k d p) R := by
  have j1 : Ev (fun k => harfbuzz_parser_parseTag.j1 k 0 d (p : Int)) R := Ev.step (fun k => by rw [harfbuzz_parser_parseTag.j1]) hl
  have j0 : Ev (fun k => harfbuzz_parser_parseTag.j0 k 0 false d (p : Int)) R := Ev.step (fun k => by rw [harfbuzz_parser_parseTag.j0, if_neg (by decide)]) j1
  unfold harfbuzz_parser_parseTag.f
  cases r with
  | nil =>
    refine Ev.bind (skip_end h) (Ev.congr (fun k => ?_) j0)
    rw [if_neg (by have := h.nil; omega)]
  | cons c r' =>
    have hc := hr c r' rfl
    refine Ev.bind (skip_at h (by omega)) (Ev.congr (fun k => ?_) j0)
    rw [if_pos h.lt, if_pos (by omega), h.got, if_neg (by omega), show (c == 34) = false by simp; omega]
theorem AN.by {c : Int} (h : AN c) : By c := by unfold AN at h; unfold By; omega
theorem tag_at {d : List Int} {p : Nat} {t0 t1 t2 t3 : Int} {r : List Int} (hd : Fit d) (h : At d p ([t0, t1, t2, t3] ++ r)) (h0 : AN t0) (h1 : AN t1) (h2 : AN t2) (h3 : AN t3) (hr : Stop2 r) :
    Ev (fun k => harfbuzz_parser_parseTag.f k d p) (tagNum t0 t1 t2 t3, none, ((p + 4 : Nat) : Int)) := by
  refine tag_in h (fun c r' e => by have := (List.cons.inj e).1; unfold AN at h0; omega) ?_
  refine tag_loop hd hr [t0, t1, t2, t3] p h (by intro c hc; simp at hc; rcases hc with rfl | rfl | rfl | rfl <;> assumption) ?_
  have hp := (h.adv [t0, t1, t2, t3]).le
  have hsp := h.span [t0, t1, t2, t3]
  simp only [List.length_cons, List.length_nil] at hp hsp ⊢
  unfold Fit at hd
  have j4 : Ev (fun k => harfbuzz_parser_parseTag.j4 k 0 (p : Int) false d ((p + 4 : Nat) : Int)) (tagNum t0 t1 t2 t3, none, ((p + 4 : Nat) : Int)) := by
    refine Ev.step (f := fun _ => some (tagNum t0 t1 t2 t3, none, ((p + 4 : Nat) : Int))) (fun k => ?_) (Ev.now _)
    rw [harfbuzz_parser_parseTag.j4, if_neg (by decide), if_pos rfl, if_pos (by omega), if_pos (by omega), if_pos (by omega), if_pos (by omega), hsp, must_is h0.by h1.by h2.by h3.by]
    rfl
  refine Ev.step (fun k => ?_) j4
  rw [harfbuzz_parser_parseTag.j3, if_neg (by omega), w64 _ (by omega), show decide (((p + 0 + 1 + 1 + 1 + 1 : Nat) : Int) > (p : Int) + 4) = false from decide_eq_false (by omega)]
theorem tag_none {d : List Int} {p : Nat} {r : List Int} (hd : Fit d) (h : At d p r) (hr : Stop2 r) : Ev (fun k => harfbuzz_parser_parseTag.f k d p) (0, some 0, (p : Int)) := by
  refine tag_in h (fun c r' e => by
    rcases hr with rfl | ⟨c', r'', rfl, hc⟩
    · cases e
    · have := (List.cons.inj e).1
      omega) ?_
  refine tag_loop hd hr [] p h (by simp) ?_
  have j4 : Ev (fun k => harfbuzz_parser_parseTag.j4 k 0 (p : Int) true d (p : Int)) (0, some 0, (p : Int)) := by
    refine Ev.step (f := fun _ => some (0, some 0, (p : Int))) (fun k => ?_) (Ev.now _)
    rw [harfbuzz_parser_parseTag.j4, if_pos rfl]
    rfl
  refine Ev.step (fun k => ?_) j4
  rw [harfbuzz_parser_parseTag.j3, if_pos (by simp)]
  rfl

abbrev MX : Int := 9223372036854775807
/-- 'Idx I s e': the index I tells the place from s to e. -/
def Idx (I : List Int) (s e : Int) : Prop := (I = [] ∨ ∃ r, I = 91 :: r) ∧ ∀ (d : List Int) (p : Nat) (r : List Int), Fit d → (r = [] ∨ ∃ r', r = 61 :: r') → At d p (I ++ r) →
  Ev (fun k => harfbuzz_parser_parseFeatureIndices.f k d p) (s, e, none, ((p + I.length : Nat) : Int))
theorem w64u {v : Int} (h : 0 ≤ v ∧ v ≤ 4294967295) : wrap64 v = v := w64 _ (by omega)
theorem idx_nil : Idx [] 0 MX := by
  refine ⟨Or.inl rfl, fun d p r hd hr h => ?_⟩
  unfold harfbuzz_parser_parseFeatureIndices.f
  rcases hr with rfl | ⟨r', rfl⟩
  · refine Ev.bind (skip_end h) (Ev.bind (char_end 91 h) ?_)
    exact Ev.now _
  · refine Ev.bind (skip_at h (by decide)) (Ev.bind (char_no h (by decide) (by decide)) ?_)
    exact Ev.now _
theorem j1_yes {d : List Int} {p : Nat} {r : List Int} (s e : Int) (hd : Fit d) (h : At d p (93 :: r)) : Ev (fun k => harfbuzz_parser_parseFeatureIndices.j1 k s e d (p : Int)) (s, e, none, ((p + 1 : Nat) : Int)) := by
  refine Ev.step (f := fun k => (harfbuzz_parser_parseChar.f k d p 93).bind fun bt138 => (if bt138.1 = true then (some (s, e, none, bt138.2)) else _)) (fun k => by rw [harfbuzz_parser_parseFeatureIndices.j1]) ?_
  exact Ev.bind (char_yes hd h (by decide)) (Ev.now _)
theorem j1_end {d : List Int} {p : Nat} (s e : Int) (h : At d p []) : Ev (fun k => harfbuzz_parser_parseFeatureIndices.j1 k s e d (p : Int)) (0, 0, some 0, (p : Int)) := by
  refine Ev.step (fun k => by rw [harfbuzz_parser_parseFeatureIndices.j1]) ?_
  exact Ev.bind (char_end 93 h) (Ev.now _)
/-- '[' xs ':' ys, and what stands behind it -/
theorem idx_two_in {d : List Int} {p : Nat} {xs ys r : List Int} {v u : Int} {b c : Bool} {R : Int × Int × Option Int × Int} (hd : Fit d) (hx : Num xs v b) (hy : Num ys u c) (hv : 0 ≤ v ∧ v ≤ 4294967295) (hu : 0 ≤ u ∧ u ≤ 4294967295) (hr : Stop r)
    (h : At d p (91 :: (xs ++ (58 :: (ys ++ r))))) (hR : Ev (fun k => harfbuzz_parser_parseFeatureIndices.j1 k v (if c = true then u else MX) d ((p + 1 + xs.length + 1 + ys.length : Nat) : Int)) R) :
    Ev (fun k => harfbuzz_parser_parseFeatureIndices.f k d p) R := by
  unfold harfbuzz_parser_parseFeatureIndices.f
  have hs : Stop (58 :: (ys ++ r)) := Or.inr ⟨58, _, rfl, by decide⟩
  refine Ev.bind (skip_at h (by decide)) (Ev.bind (char_yes hd h (by decide)) ?_)
  have h1 := h.next
  have h2 := h1.adv xs
  have h3 := h2.next
  refine Ev.bind (u32_at hd h1 hx hs) (Ev.bind (char_yes hd h2 (by decide)) ?_)
  refine Ev.step (f := fun k => (harfbuzz_parser_parseUint32.f k d ((p + 1 + xs.length + 1 : Nat) : Int)).bind fun bt135 => (if bt135.2.1 = true then (harfbuzz_parser_parseFeatureIndices.j1 k v (wrap64 (bt135.1)) d bt135.2.2) else (harfbuzz_parser_parseFeatureIndices.j1 k v MX d bt135.2.2))) (fun k => ?_) ?_
  · simp only [if_true]
    rw [harfbuzz_parser_parseFeatureIndices.j0, if_pos rfl, w64u hv]
  · refine Ev.bind (u32_at hd h3 hy hr) ?_
    simp only [w64u hu]
    refine Ev.congr (fun k => ?_) hR
    cases c <;> rfl
theorem idx_one_in {d : List Int} {p : Nat} {xs r : List Int} {v : Int} {b : Bool} {R : Int × Int × Option Int × Int} (hd : Fit d) (hx : Num xs v b) (hv : 0 ≤ v ∧ v ≤ 4294967295) (hr : r = [] ∨ ∃ r', r = 93 :: r')
    (h : At d p (91 :: (xs ++ r))) (hR : Ev (fun k => harfbuzz_parser_parseFeatureIndices.j1 k v (if b = true then v + 1 else MX) d ((p + 1 + xs.length : Nat) : Int)) R) :
    Ev (fun k => harfbuzz_parser_parseFeatureIndices.f k d p) R := by
  unfold harfbuzz_parser_parseFeatureIndices.f
  have hs : Stop r := by
    rcases hr with rfl | ⟨r', rfl⟩
    · exact Or.inl rfl
    · exact Or.inr ⟨93, _, rfl, by decide⟩
  refine Ev.bind (skip_at h (by decide)) (Ev.bind (char_yes hd h (by decide)) ?_)
  have h1 := h.next
  have h2 := h1.adv xs
  refine Ev.bind (u32_at hd h1 hx hs) ?_
  have no : ∀ a : Int, a ≠ 93 → Ev (fun k => harfbuzz_parser_parseChar.f k d ((p + 1 + xs.length : Nat) : Int) a) (false, ((p + 1 + xs.length : Nat) : Int)) := by
    intro a ha
    rcases hr with rfl | ⟨r', rfl⟩
    · exact char_end a h2
    · exact char_no h2 (by decide) (by omega)
  refine Ev.bind (no 58 (by decide)) (Ev.bind (no 59 (by decide)) ?_)
  refine Ev.step (fun k => ?_) hR
  rw [harfbuzz_parser_parseFeatureIndices.j0, if_neg (fun h => by cases h)]
  simp only
  rw [w64u hv, w64 (v + 1) (by omega)]
  cases b <;> rfl
theorem idx_two {xs ys : List Int} {v u : Int} {b c : Bool} (hx : Num xs v b) (hy : Num ys u c) (hv : 0 ≤ v ∧ v ≤ 4294967295) (hu : 0 ≤ u ∧ u ≤ 4294967295) : Idx (91 :: (xs ++ (58 :: (ys ++ [93])))) v (if c = true then u else MX) := by
  refine ⟨Or.inr ⟨_, rfl⟩, fun d p r hd hr h => ?_⟩
  have h' : At d p (91 :: (xs ++ (58 :: (ys ++ (93 :: r))))) := by simpa using h
  refine idx_two_in hd hx hy hv hu (Or.inr ⟨93, _, rfl, by decide⟩) h' ?_
  have q := j1_yes v (if c = true then u else MX) hd (((h'.next.adv xs).next).adv ys)
  rw [show p + (91 :: (xs ++ (58 :: (ys ++ [93])))).length = p + 1 + xs.length + 1 + ys.length + 1 by simp; omega]
  exact q
theorem idx_one {xs : List Int} {v : Int} {b : Bool} (hx : Num xs v b) (hv : 0 ≤ v ∧ v ≤ 4294967295) : Idx (91 :: (xs ++ [93])) v (if b = true then v + 1 else MX) := by
  refine ⟨Or.inr ⟨_, rfl⟩, fun d p r hd hr h => ?_⟩
  have h' : At d p (91 :: (xs ++ (93 :: r))) := by simpa using h
  refine idx_one_in hd hx hv (Or.inr ⟨_, rfl⟩) h' ?_
  have q := j1_yes v (if b = true then v + 1 else MX) hd (h'.next.adv xs)
  rw [show p + (91 :: (xs ++ [93])).length = p + 1 + xs.length + 1 by simp; omega]
  exact q
/-- 'Val V v b': what stands behind the index. -/
def Val (V : List Int) (v : Int) (b : Bool) : Prop := (V = [] ∨ ∃ r', V = 61 :: r') ∧ ∀ (d : List Int) (p : Nat), Fit d → At d p V → Ev (fun k => harfbuzz_parser_parseFeatureValuePostfix.f k d p) (v, b, ((p + V.length : Nat) : Int))
theorem val_nil : Val [] 0 false := by
  refine ⟨Or.inl rfl, fun d p hd h => ?_⟩
  unfold harfbuzz_parser_parseFeatureValuePostfix.f
  refine Ev.bind (char_end 61 h) (Ev.bind (u32_at (r := []) hd (by simpa using h) num_nil (Or.inl rfl)) ?_)
  simp only [List.length_nil, Nat.add_zero]
  have hp := h.nil
  have b0 : Ev (fun k => harfbuzz_parser_parseBool.f k d p) (0, false, (p : Int)) := by
    unfold harfbuzz_parser_parseBool.f
    refine Ev.bind (skip_end h) ?_
    refine Ev.step (f := fun k => harfbuzz_parser_parseBool.j1 k p d p) (fun k => by rw [harfbuzz_parser_parseBool.l0, if_neg (by omega)]) ?_
    refine Ev.step (f := fun _ => some (0, false, (p : Int))) (fun k => ?_) (Ev.now _)
    rw [harfbuzz_parser_parseBool.j1, if_pos (by omega), if_pos (by omega), if_pos (by omega)]
    have e : (d.take (p : Int).toNat).drop (p : Int).toNat = [] := by simp
    have z : (strOfNums []).toList = [] := by unfold strOfNums ByteArray.toList; rw [ByteArray.toList.loop]; rfl
    rw [e, z, if_neg (by decide), if_neg (by decide)]
  exact Ev.bind b0 (Ev.now _)
theorem val_num {xs : List Int} {v : Int} (hx : Num xs v true) : Val (61 :: xs) v true := by
  refine ⟨Or.inr ⟨_, rfl⟩, fun d p hd h => ?_⟩
  unfold harfbuzz_parser_parseFeatureValuePostfix.f
  refine Ev.bind (char_yes hd h (by decide)) (Ev.bind (u32_at (r := []) hd (by simpa using h.next) hx (Or.inl rfl)) ?_)
  rw [show p + (61 :: xs).length = p + 1 + xs.length by simp; omega]
  exact Ev.now _
/-- 'Pre P v': the sign. -/
def Pre (P : List Int) (v : Int) : Prop := ∀ (d : List Int) (p : Nat) (r : List Int), Fit d → (∀ c r', r = c :: r' → 48 ≤ c) → At d p (P ++ r) → Ev (fun k => harfbuzz_parser_parseFeatureValuePrefix.f k d p) (v, ((p + P.length : Nat) : Int))
theorem pre_nil : Pre [] 1 := by
  intro d p r hd hr h
  unfold harfbuzz_parser_parseFeatureValuePrefix.f
  cases r with
  | nil => exact Ev.bind (char_end 45 h) (Ev.bind (char_end 43 h) (Ev.now _))
  | cons c r' =>
    have hc := hr c r' rfl
    exact Ev.bind (char_no h (by unfold NS; omega) (by omega)) (Ev.bind (char_no h (by unfold NS; omega) (by omega)) (Ev.now _))
theorem pre_minus : Pre [45] 0 := by
  intro d p r hd hr h
  unfold harfbuzz_parser_parseFeatureValuePrefix.f
  exact Ev.bind (char_yes hd h (by decide)) (Ev.now _)
theorem pre_plus : Pre [43] 1 := by
  intro d p r hd hr h
  unfold harfbuzz_parser_parseFeatureValuePrefix.f
  exact Ev.bind (char_no h (by decide) (by decide)) (Ev.bind (char_yes hd h (by decide)) (Ev.now _))
structure Tag (t0 t1 t2 t3 : Int) : Prop where
  h0 : AN t0
  h1 : AN t1
  h2 : AN t2
  h3 : AN t3
theorem stop2_of {I V : List Int} (hI : I = [] ∨ ∃ r, I = 91 :: r) (hV : V = [] ∨ ∃ r', V = 61 :: r') : Stop2 (I ++ V) := by
  rcases hI with rfl | ⟨r, rfl⟩
  · rcases hV with rfl | ⟨r', rfl⟩
    · exact Or.inl rfl
    · exact Or.inr ⟨61, r', rfl, Or.inr rfl⟩
  · exact Or.inr ⟨91, r ++ V, rfl, Or.inl rfl⟩
theorem one_ok {d P I V : List Int} {pv t0 t1 t2 t3 s e v : Int} {b : Bool} (hd : Fit d) (hP : Pre P pv) (hT : Tag t0 t1 t2 t3) (hI : Idx I s e) (hV : Val V v b) (h : At d 0 (P ++ ([t0, t1, t2, t3] ++ (I ++ V)))) :
    Ev (fun k => harfbuzz_parser_parseOneFeature.f k d 0) (tagNum t0 t1 t2 t3, if b = true then v else pv, s, e, none, ((P.length + 4 + I.length + V.length : Nat) : Int)) := by
  unfold harfbuzz_parser_parseOneFeature.f
  have q1 := hP d 0 _ hd (fun c r' e => by have := (List.cons.inj e).1; have := hT.h0; unfold AN at this; omega) h
  have h1 := h.adv P
  rw [Nat.zero_add] at h1 q1
  refine Ev.bind q1 (Ev.bind (tag_at hd h1 hT.h0 hT.h1 hT.h2 hT.h3 (stop2_of hI.1 hV.1)) ?_)
  have h2 : At d (P.length + 4) (I ++ V) := h1.adv [t0, t1, t2, t3]
  refine Ev.pos rfl ?_
  refine Ev.bind (hI.2 d _ V hd hV.1 h2) ?_
  have h3 : At d (P.length + 4 + I.length) V := h2.adv I
  refine Ev.pos rfl ?_
  refine Ev.bind (hV.2 d _ hd h3) ?_
  have h4 : At d (P.length + 4 + I.length + V.length) [] := by
    have h3' : At d (P.length + 4 + I.length) (V ++ []) := by simpa using h3
    exact h3'.adv V
  cases b with
  | true => exact Ev.bind (skip_end h4) (Ev.now _)
  | false => exact Ev.bind (skip_end h4) (Ev.now _)
theorem ask_ok {a : ByteArray} {P I V : List Int} {pv t0 t1 t2 t3 s e v : Int} {b : Bool} (hd : a.size ≤ 140737488351232) (hP : Pre P pv) (hT : Tag t0 t1 t2 t3) (hI : Idx I s e) (hV : Val V v b) (h : bytesOf a = P ++ ([t0, t1, t2, t3] ++ (I ++ V))) :
    Ev (fun k => impl_AskOf.f k a) (strOfNums [t0, t1, t2, t3], if b = true then v else pv, s, if e = MX then -1 else e, true) := by
  have q := one_ok (d := bytesOf a) (by unfold Fit; rw [bytesOf_length]; exact hd) hP hT hI hV ⟨[], by rw [h]; rfl, rfl⟩
  unfold impl_AskOf.f harfbuzz_ParseFeature.f
  refine Ev.bind (Ev.pos hd (Ev.bind q (Ev.now _))) ?_
  refine Ev.congr (f := fun _ => some _) (fun k => ?_) (Ev.now _)
  simp only [Option.isNone_none, if_true]
  rw [tagString_is hT.h0.by hT.h1.by hT.h2.by hT.h3.by, Option.bind_some]
  split <;> rfl

def ints (l : List UInt8) : List Int := l.map fun b => (b.toNat : Int)
theorem bytes_app (a b : ByteArray) : bytesOf (a ++ b) = bytesOf a ++ bytesOf b := by
  unfold bytesOf
  rw [show (a ++ b).data = a.data ++ b.data from ByteArray.data_append]
  simp
theorem bytes_mk (l : List UInt8) : bytesOf ⟨l.toArray⟩ = ints l := rfl
theorem str_ints (l : List UInt8) : strOfNums (ints l) = ⟨l.toArray⟩ := by
  unfold strOfNums ints
  congr 2
  rw [List.map_map]
  conv => rhs; rw [← List.map_id l]
  refine List.map_congr_left fun c _ => ?_
  simp
theorem bytes_str {l : List Int} (h : ∀ c ∈ l, By c) : bytesOf (strOfNums l) = l := by
  unfold bytesOf
  rw [strOfNums_data, List.map_map]
  conv => rhs; rw [← List.map_id l]
  refine List.map_congr_left fun c hc => ?_
  have hb := h c hc
  unfold By at hb
  have : (UInt8.ofNat c.toNat).toNat = c.toNat := by simp; omega
  simp only [Function.comp, id]
  rw [this]
  omega
theorem ofNat_toNat {n : Nat} (h : n < 256) : (UInt8.ofNat n).toNat = n := by simp; omega
theorem parse_app : ∀ (l m : List UInt8) (acc v : Nat), Go.Lib.parseUint10 acc l = .ok v → Go.Lib.parseUint10 acc (l ++ m) = Go.Lib.parseUint10 v m
  | [], m, acc, v, h => by
    simp only [Go.Lib.parseUint10] at h
    injection h with h
    rw [h]
    rfl
  | c :: r, m, acc, v, h => by
    rw [List.cons_append, Go.Lib.parseUint10]
    rw [Go.Lib.parseUint10] at h
    split at h
    · rename_i h1
      rw [if_pos h1]
      split at h
      · cases h
      · rename_i h2
        rw [if_neg h2]
        split at h
        · cases h
        · rename_i h3
          rw [if_neg h3]
          exact parse_app r m _ v h
    · cases h
theorem digits_all (u : Nat) : ∀ c ∈ Go.Lib.decDigits u, 48 ≤ c.toNat ∧ c.toNat ≤ 57 := by
  induction u using Nat.strongRecOn with
  | _ u ih =>
    rw [Go.Lib.decDigits]
    split
    · intro c hc
      rw [List.mem_singleton.1 hc, ofNat_toNat (by omega)]
      omega
    · intro c hc
      rcases List.mem_append.1 hc with h | h
      · exact ih (u / 10) (by omega) c h
      · rw [List.mem_singleton.1 h, ofNat_toNat (by omega)]
        omega
theorem digits_parse (u : Nat) : u < 1000000 → Go.Lib.parseUint10 0 (Go.Lib.decDigits u) = .ok u := by
  induction u using Nat.strongRecOn with
  | _ u ih =>
    intro hu
    rw [Go.Lib.decDigits]
    split
    · have e := ofNat_toNat (n := 48 + u) (by omega)
      rw [Go.Lib.parseUint10, e, if_pos (by omega), if_neg (by omega), if_neg (by omega), Go.Lib.parseUint10]
      congr 1
      omega
    · rw [parse_app _ _ _ _ (ih (u / 10) (by omega) (by omega))]
      have e := ofNat_toNat (n := 48 + u % 10) (by omega)
      rw [Go.Lib.parseUint10, e, if_pos (by omega), if_neg (by omega), if_neg (by omega), Go.Lib.parseUint10]
      congr 1
      omega
theorem digits_ne (u : Nat) : Go.Lib.decDigits u ≠ [] := by
  rw [Go.Lib.decDigits]
  split <;> simp
theorem digits_len (u : Nat) : u < 1000000 → (Go.Lib.decDigits u).length ≤ 6 := by
  intro h
  rw [Go.Lib.decDigits_length]
  have : ∀ u, u < 10 → Go.Lib.nDigits u ≤ 1 := fun u h => by rw [Go.Lib.nDigits_small h]; omega
  have s : ∀ n u, (∀ v, v < n → Go.Lib.nDigits v ≤ u) → ∀ v, v < n * 10 → Go.Lib.nDigits v ≤ u + 1 := by
    intro n u h v hv
    by_cases hv' : v < 10
    · rw [Go.Lib.nDigits_small hv']; omega
    · rw [Go.Lib.nDigits_big hv']
      have := h (v / 10) (by omega)
      omega
  exact s _ _ (s _ _ (s _ _ (s _ _ (s 10 1 this)))) u (by omega)
theorem digits_atoi (u : Nat) (h : u < 1000000) : Go.Lib.atoiAll (Go.Lib.decDigits u) = .ok (u : Int) := by
  have hp := digits_parse u h
  have ha := digits_all u
  have hn := digits_ne u
  revert hp ha hn
  generalize Go.Lib.decDigits u = l
  intro hp ha hn
  cases l with
  | nil => exact absurd rfl hn
  | cons c r =>
    have hc := ha c (List.mem_cons_self ..)
    have e : (if c.toNat = 43 ∨ c.toNat = 45 then r else c :: r) = c :: r := if_neg (by omega)
    have m : Go.Lib.parseMag (c :: r) = .ok u := by
      unfold Go.Lib.parseMag
      rw [if_neg hn]
      exact hp
    unfold Go.Lib.atoiAll
    simp only [e, m]
    rw [if_neg (by omega), if_neg (by omega), if_neg (by omega)]
theorem num_digits (u : Nat) (h : u < 1000000) : Num (ints (Go.Lib.decDigits u)) (u : Int) true := by
  refine ⟨fun c hc => ?_, (u : Int), none, ?_, ?_, rfl⟩
  · obtain ⟨b, hb, rfl⟩ := List.mem_map.1 hc
    have := digits_all u b hb
    unfold AN
    omega
  · rw [str_ints]
    unfold strconv_Atoi.f
    have hl := digits_len u h
    rw [if_pos (by simp [ByteArray.size]; omega), digits_atoi u h]
  · rw [Go.IntKind.wrap_u32]
    omega
theorem itoa_is {n : Int} (h : 0 ≤ n ∧ n ≤ 65535) : ∃ u : Nat, n = (u : Int) ∧ u ≤ 65535 ∧ strconv_Itoa.f (wrap64 n) = some ⟨(Go.Lib.decDigits u).toArray⟩ := by
  obtain ⟨u, rfl⟩ := Int.eq_ofNat_of_zero_le h.1
  refine ⟨u, rfl, by omega, ?_⟩
  rw [w64 _ (by omega)]
  unfold strconv_Itoa.f Go.Lib.itoa
  rw [if_pos (by omega), if_neg (by omega), Int.toNat_natCast]

theorem letters (i : Fin 62) : AN (bt (⟨#[97, 98, 99, 100, 101, 102, 103, 104, 105, 106, 107, 108, 109, 110, 111, 112, 113, 114, 115, 116, 117, 118, 119, 120, 121, 122, 65, 66, 67, 68, 69, 70, 71, 72, 73, 74, 75, 76, 77, 78, 79, 80, 81, 82, 83, 84, 85, 86, 87, 88, 89, 90, 48, 49, 50, 51, 52, 53, 54, 55, 56, 57]⟩ : ByteArray) ((i.val : Nat) : Int)) := by
  revert i
  decide +kernel
theorem ask_round (x : Int) (hx : 0 ≤ x) (x3 : List Int) (hl : x3.length < 10) (i : Nat) (hi : i < 4) : ∃ t, AN t ∧ 0 ≤ Int.tdiv x 62 % 4294967296 ∧ ∀ k, laws_askTag.l0 (k + 1) x x3 (i : Int) = laws_askTag.l0 k (Int.tdiv x 62 % 4294967296) (x3 ++ [t]) ((i + 1 : Nat) : Int) := by
  have m0 : 0 ≤ Int.tmod x 62 := Int.tmod_nonneg _ hx
  have m1 : Int.tmod x 62 < 62 := Int.tmod_lt_of_pos _ (by omega)
  obtain ⟨m, hm⟩ := Int.eq_ofNat_of_zero_le m0
  have ht := letters ⟨m, by omega⟩
  refine ⟨_, ht, by omega, fun k => ?_⟩
  rw [laws_askTag.l0, if_pos (by omega), if_pos m0, if_pos m1, if_pos (by omega), hm, w64 _ (by omega)]
  rfl
theorem askTag_is (x : Int) (hx : 0 ≤ x) : ∃ t0 t1 t2 t3, Tag t0 t1 t2 t3 ∧ Ev (fun k => laws_askTag.f k x) (strOfNums [t0, t1, t2, t3]) := by
  obtain ⟨t0, h0, y0, e0⟩ := ask_round x hx [] (by decide) 0 (by decide)
  obtain ⟨t1, h1, y1, e1⟩ := ask_round _ y0 ([] ++ [t0]) (by simp) 1 (by decide)
  obtain ⟨t2, h2, y2, e2⟩ := ask_round _ y1 ([] ++ [t0] ++ [t1]) (by simp) 2 (by decide)
  obtain ⟨t3, h3, y3, e3⟩ := ask_round _ y2 ([] ++ [t0] ++ [t1] ++ [t2]) (by simp) 3 (by decide)
  refine ⟨t0, t1, t2, t3, ⟨h0, h1, h2, h3⟩, ?_⟩
  refine Ev.step e0 (Ev.step e1 (Ev.step e2 (Ev.step e3 (Ev.step (f := fun _ => some (strOfNums [t0, t1, t2, t3])) (fun k => ?_) (Ev.now _)))))
  rw [laws_askTag.l0, if_neg (by decide)]
  rfl
theorem tag_bytes {t0 t1 t2 t3 : Int} (h : Tag t0 t1 t2 t3) : bytesOf (strOfNums [t0, t1, t2, t3]) = [t0, t1, t2, t3] :=
  bytes_str (by
    intro c hc
    simp at hc
    rcases hc with rfl | rfl | rfl | rfl
    · exact h.h0.by
    · exact h.h1.by
    · exact h.h2.by
    · exact h.h3.by)
theorem wf_u16 {a : Int} (h : (Lit.int .u16 a).wf = true) : 0 ≤ a ∧ a ≤ 65535 := by
  have q : IntKind.u16.min = 0 ∧ IntKind.u16.max = 65535 := ⟨rfl, rfl⟩
  simp only [Lit.wf, Bool.and_eq_true, decide_eq_true_eq, q.1, q.2] at h
  omega

theorem one_none {d P r : List Int} {pv : Int} (hd : Fit d) (hP : Pre P pv) (hr : Stop2 r) (h : At d 0 (P ++ r)) : Ev (fun k => harfbuzz_parser_parseOneFeature.f k d 0) (0, pv, 0, 0, some 0, (P.length : Int)) := by
  unfold harfbuzz_parser_parseOneFeature.f
  have q1 := hP d 0 r hd (fun c r' e => by
    rcases hr with rfl | ⟨c', r'', rfl, hc⟩
    · cases e
    · have := (List.cons.inj e).1
      omega) h
  have h1 := h.adv P
  rw [Nat.zero_add] at h1 q1
  refine Ev.bind q1 (Ev.bind (tag_none hd h1 hr) ?_)
  refine Ev.neg (fun h => by cases h) ?_
  exact Ev.now _
theorem ask_no {a : ByteArray} {P r : List Int} {pv : Int} (hd : a.size ≤ 140737488351232) (hP : Pre P pv) (hr : Stop2 r) (h : bytesOf a = P ++ r) : Ev (fun k => impl_AskOf.f k a) ((⟨#[]⟩ : ByteArray), 0, 0, 0, false) := by
  have q := one_none (d := bytesOf a) (by unfold Fit; rw [bytesOf_length]; exact hd) hP hr ⟨[], by rw [h]; rfl, rfl⟩
  unfold impl_AskOf.f harfbuzz_ParseFeature.f
  refine Ev.bind (Ev.pos hd (Ev.bind q (Ev.now _))) ?_
  exact Ev.neg (fun h => by cases h) (Ev.now _)
theorem ask_open {a : ByteArray} {I : List Int} {t0 t1 t2 t3 : Int} (hd : a.size ≤ 140737488351232) (hT : Tag t0 t1 t2 t3) (hI : ∃ r, I = 91 :: r)
    (hno : ∀ (d : List Int) (p : Nat), Fit d → At d p I → ∃ q : Int, Ev (fun k => harfbuzz_parser_parseFeatureIndices.f k d p) (0, 0, some 0, q)) (h : bytesOf a = [t0, t1, t2, t3] ++ I) : Ev (fun k => impl_AskOf.f k a) ((⟨#[]⟩ : ByteArray), 0, 0, 0, false) := by
  have hf : Fit (bytesOf a) := by unfold Fit; rw [bytesOf_length]; exact hd
  have h0 : At (bytesOf a) 0 ([] ++ ([t0, t1, t2, t3] ++ I)) := ⟨[], by rw [h]; rfl, rfl⟩
  have q1 := pre_nil _ 0 _ hf (fun c r' e => by have := (List.cons.inj e).1; have := hT.h0; unfold AN at this; omega) h0
  have h1 : At (bytesOf a) 0 ([t0, t1, t2, t3] ++ I) := h0
  have h2 : At (bytesOf a) 4 I := by have := h1.adv [t0, t1, t2, t3]; simpa using this
  obtain ⟨q, hq⟩ := hno _ 4 hf h2
  have q2 := tag_at hf h1 hT.h0 hT.h1 hT.h2 hT.h3 (by obtain ⟨r, rfl⟩ := hI; exact Or.inr ⟨91, r, rfl, Or.inl rfl⟩)
  have one : Ev (fun k => harfbuzz_parser_parseOneFeature.f k (bytesOf a) 0) (tagNum t0 t1 t2 t3, 1, 0, 0, some 0, q) := by
    unfold harfbuzz_parser_parseOneFeature.f
    refine Ev.bind q1 (Ev.bind q2 ?_)
    refine Ev.pos rfl (Ev.bind hq ?_)
    exact Ev.neg (fun h => by cases h) (Ev.now _)
  unfold impl_AskOf.f harfbuzz_ParseFeature.f
  refine Ev.bind (Ev.pos hd (Ev.bind one (Ev.now _))) ?_
  exact Ev.neg (fun h => by cases h) (Ev.now _)
theorem num_one {n : Nat} (h : n < 10) : Num [48 + (n : Int)] n true := by
  have := num_digits n (by omega)
  rw [Go.Lib.decDigits_one h] at this
  have e : ints [UInt8.ofNat (48 + n)] = [48 + (n : Int)] := by
    simp only [ints, List.map_cons, List.map_nil, ofNat_toNat (n := 48 + n) (by omega)]
    rfl
  rwa [e] at this
theorem kern_ok : Ev (fun k => impl_AskOf.f k (⟨#[107, 101, 114, 110]⟩ : ByteArray)) (strOfNums [107, 101, 114, 110], 1, 0, -1, true) := by
  have q := ask_ok (a := (⟨#[107, 101, 114, 110]⟩ : ByteArray)) (by decide) pre_nil (t0 := 107) (t1 := 101) (t2 := 114) (t3 := 110) ⟨by decide, by decide, by decide, by decide⟩ idx_nil val_nil (by rfl)
  simpa using q
theorem FnAskNone : laws_FnAskNone.Pure := by
  intro a0 a1 a2 w0 w1 w2
  have g0 : 0 ≤ a0 := by simp only [Lit.wf, Bool.and_eq_true, decide_eq_true_eq] at w0; exact w0.1
  have g1 : 0 ≤ a1 := by simp only [Lit.wf, Bool.and_eq_true, decide_eq_true_eq] at w1; exact w1.1
  have g2 : 0 ≤ a2 ∧ a2 ≤ 65535 := wf_u16 w2
  obtain ⟨t0, t1, t2, t3, hT, eT⟩ := askTag_is a0 g0
  obtain ⟨x, rfl, hx, ex⟩ := itoa_is g2
  have tb := tag_bytes hT
  have hlx := digits_len x (by omega)
  have nx := num_digits x (by omega)
  have zt : (strOfNums [t0, t1, t2, t3]).size = 4 := size_strOfNums _
  have zx : (⟨(Go.Lib.decDigits x).toArray⟩ : ByteArray).size ≤ 6 := by simpa [ByteArray.size] using hlx
  have k3 : (⟨#[91]⟩ : ByteArray).size = 1 := rfl
  have k4 : (⟨#[91, 49, 58, 50]⟩ : ByteArray).size = 4 := rfl
  have m0 : 0 ≤ Int.tmod a1 7 := Int.tmod_nonneg _ g1
  have m1 : Int.tmod a1 7 < 7 := Int.tmod_lt_of_pos _ (by omega)
  unfold laws_FnAskNone.f
  refine Ev.rounds (Ev.bind eT ?_)
  rw [ex]
  simp only [Option.bind_some]
  clear ex w0 w1 w2 g0 g1 g2
  generalize hX : (⟨(Go.Lib.decDigits x).toArray⟩ : ByteArray) = X at *
  have bX : bytesOf X = ints (Go.Lib.decDigits x) := by rw [← hX]; rfl
  have two : ∀ i : Nat, i < 7 → Ev (fun k => impl_AskOf.f k (rdOf ByteArray.empty [(⟨#[]⟩ : ByteArray), (⟨#[43]⟩ : ByteArray), (⟨#[45]⟩ : ByteArray), (⟨#[91, 51, 93]⟩ : ByteArray), (⟨#[61, 49]⟩ : ByteArray), (strOfNums [t0, t1, t2, t3] ++ (⟨#[91]⟩ : ByteArray)) ++ X, strOfNums [t0, t1, t2, t3] ++ (⟨#[91, 49, 58, 50]⟩ : ByteArray)] (i : Int))) ((⟨#[]⟩ : ByteArray), 0, 0, 0, false) := by
    intro i hi
    match i, hi with
    | 0, _ => exact ask_no (a := ⟨#[]⟩) (P := []) (r := []) (by decide) pre_nil (Or.inl rfl) rfl
    | 1, _ => exact ask_no (a := ⟨#[43]⟩) (P := [43]) (r := []) (by decide) pre_plus (Or.inl rfl) rfl
    | 2, _ => exact ask_no (a := ⟨#[45]⟩) (P := [45]) (r := []) (by decide) pre_minus (Or.inl rfl) rfl
    | 3, _ => exact ask_no (a := ⟨#[91, 51, 93]⟩) (P := []) (r := [91, 51, 93]) (by decide) pre_nil (Or.inr ⟨91, _, rfl, Or.inl rfl⟩) rfl
    | 4, _ => exact ask_no (a := ⟨#[61, 49]⟩) (P := []) (r := [61, 49]) (by decide) pre_nil (Or.inr ⟨61, _, rfl, Or.inr rfl⟩) rfl
    | 5, _ =>
      refine ask_open (a := (strOfNums [t0, t1, t2, t3] ++ (⟨#[91]⟩ : ByteArray)) ++ X) (I := 91 :: (ints (Go.Lib.decDigits x) ++ [])) (by simp only [ByteArray.size_append]; omega) hT ⟨_, rfl⟩ (fun d p hd h => ?_) (by rw [bytes_app, bytes_app, tb, bX]; simp; rfl)
      exact ⟨_, idx_one_in hd nx (by omega) (Or.inl rfl) h (j1_end _ _ (h.next.adv _))⟩
    | 6, _ =>
      refine ask_open (a := strOfNums [t0, t1, t2, t3] ++ (⟨#[91, 49, 58, 50]⟩ : ByteArray)) (I := 91 :: ([49] ++ (58 :: ([50] ++ [])))) (by simp only [ByteArray.size_append]; omega) hT ⟨_, rfl⟩ (fun d p hd h => ?_) (by rw [bytes_app, tb]; rfl)
      exact ⟨_, idx_two_in hd (num_one (n := 1) (by decide)) (num_one (n := 2) (by decide)) (by decide) (by decide) (Or.inl rfl) h (j1_end _ _ (((h.next.adv _).next).adv _))⟩
  refine Ev.pos (by omega) (Ev.pos (by simp only [ByteArray.size_append]; omega) (Ev.bind eT (Ev.pos (by omega) ?_)))
  obtain ⟨m, hm⟩ := Int.eq_ofNat_of_zero_le m0
  have hm7 : m < 7 := by omega
  refine Ev.pos m0 (Ev.pos (by simpa using m1) ?_)
  rw [hm]
  refine Ev.bind (two m hm7) (Ev.bind kern_ok ?_)
  exact Ev.neg (fun h => by cases h) (Ev.now _)


end Go.Proofs.YtlclakahgmoafaaDoor.Pure
