/- The law FnBearings holds for every input: a glyph's left side bearing is where its box begins, its right one is what is left of its advance behind the box. Condition: none. -/
import Derived.WideShapes4

import Derived.Lib.IndexLaws
import Derived.Laws.BitsLemmas
import Derived.Test.YtkfphiccfnfkdaaPFnBearingsx
namespace Go.Proofs.Ytkfphiccfnfkdaa.Pure
open Go.RowKit Go.Proofs.Ytkfphiccfnfkdaa.PFnBearings Go.Proofs.YtkfphiccfnfkdaaW.PrintWords Go.Proofs.YtkfphiccfnfkdaaW.PrintLast Go.Proofs.YtkfphiccfnfkdaaW.PrintMore

theorem i16_range (n : Int) : -32768 ≤ IntKind.i16.wrap n ∧ IntKind.i16.wrap n ≤ 32767 := by
  have h := (Lit.wf_int_iff .i16 _).1 (wf_wrap .i16 n)
  exact ⟨h.1, h.2⟩

theorem small_f (n : Int) : ∃ m, laws_someOut_1.f n = some m ∧ -32768 ≤ m ∧ m ≤ 32767 := by
  have h := i16_range n
  exact ⟨_, rfl, by unfold wrap64; omega, by unfold wrap64; omega⟩

theorem within_t (n : Int) (h : -1048576 ≤ n ∧ n ≤ 1048576) : impl_within.f n = some true := by
  unfold impl_within.f
  rw [if_pos (by omega), decide_eq_true h.2]

/-- One glyph, written one to three times: the first is as it came. -/
theorem l1_rounds (l : List S36) (hl : l.length = 1) (a1 c0 c1 c2 c3 c4 : Int) (e0 e1 e2 e3 e4 e5 e6 e7 e8 e9 : Int) (m : Int) (hm : 1 ≤ m ∧ m ≤ 3) :
    ∃ rest : List S36, laws_someOut.l1 10 l a1 0 m 0 c0 c1 c2 c3 c4 [] e0 e1 e2 e3 e4 e5 e6 e7 e8 e9 = some (c0, c1, c2, c3, c4, ⟨e0, e1, e2, e3, e4, e5, e6, e7, e8, e9⟩ :: rest) := by
  have w0 : wrap64 ((0 : Int) + 1) = 1 := by unfold wrap64; omega
  have w1 : wrap64 ((1 : Int) + 1) = 2 := by unfold wrap64; omega
  have w2 : wrap64 ((2 : Int) + 1) = 3 := by unfold wrap64; omega
  have fin : ∀ k x, laws_someOut.l0 (k + 2) l a1 1 c0 c1 c2 c3 c4 x = some (c0, c1, c2, c3, c4, x) := by
    intro k x
    rw [laws_someOut.l0, if_neg (by rw [hl]; decide), laws_someOut.j1, if_neg (by decide)]
  rcases (by omega : m = 1 ∨ m = 2 ∨ m = 3) with rfl | rfl | rfl
  · refine ⟨[], ?_⟩
    rw [laws_someOut.l1, if_pos (by decide), if_pos (by simp), w0, laws_someOut.l1, if_neg (by decide), w0, fin]
    rfl
  · refine ⟨[⟨e0, e1, e2, e3, wrap64 (Int.tdiv e0 2), e1, e6, e7, e8, e9⟩], ?_⟩
    rw [laws_someOut.l1, if_pos (by decide), if_pos (by simp), w0, laws_someOut.l1, if_pos (by decide), if_pos (by simp), w1, laws_someOut.l1, if_neg (by decide), w0, fin]
    rfl
  · refine ⟨[⟨e0, e1, e2, e3, wrap64 (Int.tdiv e0 2), e1, e6, e7, e8, e9⟩, ⟨e0, e1, e2, e3, wrap64 (Int.tdiv e0 2), e1, e6, e7, e8, e9⟩], ?_⟩
    rw [laws_someOut.l1, if_pos (by decide), if_pos (by simp), w0, laws_someOut.l1, if_pos (by decide), if_pos (by simp), w1, laws_someOut.l1, if_pos (by decide), if_pos (by simp), w2, laws_someOut.l1, if_neg (by decide), w0, fin]
    rfl

/-- The box's numbers are small: none is refused. -/
theorem glyph_ok (k : Nat) (b0 b1 b2 b3 b4 b5 b6 b7 b8 b9 : Int) (h0 : -32768 ≤ b0 ∧ b0 ≤ 32767) (h1 : -32768 ≤ b1 ∧ b1 ≤ 32767) (h2 : -32768 ≤ b2 ∧ b2 ≤ 32767) (h3 : -32768 ≤ b3 ∧ b3 ≤ 32767) (h4 : -32768 ≤ b4 ∧ b4 ≤ 32767) (h5 : -32768 ≤ b5 ∧ b5 ≤ 32767) (h6 : -32768 ≤ b6 ∧ b6 ≤ 32767) :
    impl_outGlyph.f (k + 8) b0 b1 b2 b3 b4 b5 b6 b7 b8 b9 false = some (wrap32 b0, wrap32 b1, wrap32 b2, wrap32 b3, wrap32 b4, wrap32 b4, 0, wrap32 b5, wrap32 b6, b7, b8, b9, 0, 0, 0, 0, true) := by
  have step : ∀ (k : Nat) (i j : Int) (v : Int), 0 ≤ i → i < 7 → wrap64 (i + 1) = j → rd [b0, b1, b2, b3, b4, b5, b6] i = v → -32768 ≤ v ∧ v ≤ 32767 →
      impl_outGlyph.l0 (k + 1) false true [b0, b1, b2, b3, b4, b5, b6] 7 i b0 b1 b2 b3 b4 b5 b6 b7 b8 b9 = impl_outGlyph.l0 k false true [b0, b1, b2, b3, b4, b5, b6] 7 j b0 b1 b2 b3 b4 b5 b6 b7 b8 b9 := by
    intro k i j v hi hi7 hj hv hr
    rw [impl_outGlyph.l0, if_pos hi7, if_pos hi, if_pos (by simpa using hi7), if_pos rfl, hv, within_t v ⟨by omega, by omega⟩, hj]
    rfl
  have hlen : (([b0, b1, b2, b3, b4, b5, b6] : List Int).length : Int) = 7 := rfl
  unfold impl_outGlyph.f
  show impl_outGlyph.l0 (k + 8) false true [b0, b1, b2, b3, b4, b5, b6] (([b0, b1, b2, b3, b4, b5, b6] : List Int).length : Int) 0 b0 b1 b2 b3 b4 b5 b6 b7 b8 b9 = _
  rw [hlen, step (k + 7) 0 1 b0 (by omega) (by omega) (by unfold wrap64; omega) rfl h0, step (k + 6) 1 2 b1 (by omega) (by omega) (by unfold wrap64; omega) rfl h1, step (k + 5) 2 3 b2 (by omega) (by omega) (by unfold wrap64; omega) rfl h2,
    step (k + 4) 3 4 b3 (by omega) (by omega) (by unfold wrap64; omega) rfl h3, step (k + 3) 4 5 b4 (by omega) (by omega) (by unfold wrap64; omega) rfl h4, step (k + 2) 5 6 b5 (by omega) (by omega) (by unfold wrap64; omega) rfl h5, step (k + 1) 6 7 b6 (by omega) (by omega) (by unfold wrap64; omega) rfl h6,
    impl_outGlyph.l0, if_neg (by omega), if_neg (by decide)]

theorem FnBearings : laws_FnBearings.Pure := by
  intro a0 a1 a2 a3 a4 a5 a6 a7 a8 a9 _ _ _ _ _ _ _ _ _ _
  obtain ⟨e0, f0, g0⟩ := small_f a0
  obtain ⟨e1, f1, g1⟩ := small_f a1
  obtain ⟨e2, f2, g2⟩ := small_f a2
  obtain ⟨e3, f3, g3⟩ := small_f a3
  obtain ⟨e4, f4, g4⟩ := small_f a4
  obtain ⟨e5, f5, g5⟩ := small_f a5
  obtain ⟨e6, f6, g6⟩ := small_f a6
  obtain ⟨rest, hr⟩ := l1_rounds [⟨a0, a1, a2, a3, a4, a5, a6, a7, a8, a9⟩] rfl 1 (wrap64 (Int.tmod 0 4)) 7 8 9 10 e0 e1 e2 e3 e4 e5 e6 (Int.tmod (wrap64 (IntKind.u16.wrap a7)) 1) (1 + a8 % 2) (1 + a9 % 256 % 3) (1 + a9 % 256 % 3) (by omega)
  have hs : laws_someOut.f 12 [⟨a0, a1, a2, a3, a4, a5, a6, a7, a8, a9⟩] 0 1 = some (wrap64 (Int.tmod 0 4), 7, 8, 9, 10, ⟨e0, e1, e2, e3, e4, e5, e6, Int.tmod (wrap64 (IntKind.u16.wrap a7)) 1, 1 + a8 % 2, 1 + a9 % 256 % 3⟩ :: rest) := by
    have hrd : rd_T36 [⟨a0, a1, a2, a3, a4, a5, a6, a7, a8, a9⟩] 0 = ⟨a0, a1, a2, a3, a4, a5, a6, a7, a8, a9⟩ := rfl
    unfold laws_someOut.f
    have h1 : (0 : Int) < (([⟨a0, a1, a2, a3, a4, a5, a6, a7, a8, a9⟩] : List S36).length : Int) := Int.zero_lt_one
    rw [laws_someOut.l0, if_pos h1, laws_someOut.j1, if_pos (by decide), if_pos (by decide), if_pos h1, hrd]
    simp only [f0, f1, f2, f3, f4, f5, f6, Option.bind_some]
    rw [if_neg (by decide)]
    exact hr
  refine ⟨12, ?_⟩
  unfold laws_FnBearings.f
  rw [hs]
  show (if 0 < ((_ :: rest : List S36).length : Int) then _ else none) = _
  rw [if_pos (by simp)]
  show (impl_SideBearings.f 12 e0 e1 e2 e3 e4 e5 e6 (Int.tmod (wrap64 (IntKind.u16.wrap a7)) 1) (1 + a8 % 2) (1 + a9 % 256 % 3)).bind _ = _
  have hb : ∀ n : Int, -32768 ≤ n ∧ n ≤ 32767 → wrap32 n = n := by
    intro n h; unfold wrap32; omega
  have hsb : impl_SideBearings.f 12 e0 e1 e2 e3 e4 e5 e6 (Int.tmod (wrap64 (IntKind.u16.wrap a7)) 1) (1 + a8 % 2) (1 + a9 % 256 % 3) = some (e2, e4 - e0 - e2) := by
    unfold impl_SideBearings.f
    rw [glyph_ok 4 e0 e1 e2 e3 e4 e5 e6 _ _ _ g0 g1 g2 g3 g4 g5 g6]
    show some (wrap64 (wrap32 e2), wrap64 (wrap32 (wrap32 (wrap32 e4 - wrap32 e0) - wrap32 e2))) = _
    have q2 : wrap32 e2 = e2 := hb _ g2
    have q4 : wrap32 e4 = e4 := hb _ g4
    have q0 : wrap32 e0 = e0 := hb _ g0
    rw [q2, q4, q0]
    have r1 : wrap32 (e4 - e0) = e4 - e0 := by unfold wrap32; omega
    rw [r1]
    have r2 : wrap32 (e4 - e0 - e2) = e4 - e0 - e2 := by unfold wrap32; omega
    rw [r2]
    have r3 : wrap64 e2 = e2 := by unfold wrap64; omega
    have r4 : wrap64 (e4 - e0 - e2) = e4 - e0 - e2 := by unfold wrap64; omega
    rw [r3, r4]
  rw [hsb]
  show (if e2 = e2 then some (wrap64 (wrap64 (e2 + e0) + (e4 - e0 - e2)) == e4) else some false) = _
  rw [if_pos rfl]
  have r5 : wrap64 (e2 + e0) = e2 + e0 := by unfold wrap64; omega
  have r6 : wrap64 (e2 + e0 + (e4 - e0 - e2)) = e4 := by unfold wrap64; omega
  rw [r5, r6, beq_self_eq_true]


end Go.Proofs.Ytkfphiccfnfkdaa.Pure
