/- The law FnScriptTells holds for every number: the text of a script's number is read as that number again; Common and Inherited are not strong, all others are. Condition: none. -/

import Derived.Lib.IndexLaws
import Derived.Laws.BitsLemmas
import Derived.Test.YtkfphiccfnfkdaaPFnScriptTellsx
namespace Go.Proofs.Ytkfphiccfnfkdaa.Pure
open Go.RowKit Go.Proofs.Ytkfphiccfnfkdaa.PFnScriptTells Go.Proofs.YtkfphiccfnfkdaaW.PrintWords Go.Proofs.YtkfphiccfnfkdaaW.PrintLast Go.Proofs.YtkfphiccfnfkdaaW.PrintMore

theorem size_nums (ys : List Int) : (strOfNums ys).size = ys.length := by simp [strOfNums, ByteArray.size]

/-! ### four letters out of a number -/
theorem four_loop (d : Nat) : ∀ (i : Nat) (x0 : Int) (ys : List Int), i + d = 4 → ys.length = 4 → (∀ y ∈ ys, 0 ≤ y ∧ y ≤ 255) →
    ∃ zs : List Int, zs.length = 4 ∧ (∀ y ∈ zs, 0 ≤ y ∧ y ≤ 255) ∧ Ev (fun k => laws_four.l0 k x0 ys 4 (i : Int)) (strOfNums zs) := by
  induction d with
  | zero =>
    intro i x0 ys hi hl hb
    refine ⟨ys, hl, hb, Ev.step (f := fun _ => some (strOfNums ys)) (fun k => ?_) (Ev.now _)⟩
    simp only [laws_four.l0]; rw [if_neg (by omega)]
  | succ d ih =>
    intro i x0 ys hi hl hb
    have hw : wrap64 ((i : Int) + 1) = ((i + 1 : Nat) : Int) := by unfold wrap64; omega
    have hset : ∀ (l : List Int) (v : Int), (∀ y ∈ l, 0 ≤ y ∧ y ≤ 255) → (0 ≤ v ∧ v ≤ 255) → ∀ y ∈ l.set i v, 0 ≤ y ∧ y ≤ 255 := by
      intro l v h hv y hy
      rcases List.mem_or_eq_of_mem_set hy with q | q
      · exact h y q
      · rw [q]; exact hv
    obtain ⟨y1, hy1⟩ : ∃ y1, y1 = ys.set i (((97 + (Int.tmod x0 26)) % 4294967296) % 256) := ⟨_, rfl⟩
    have hb1 : ∀ y ∈ y1, 0 ≤ y ∧ y ≤ 255 := by rw [hy1]; exact hset ys _ hb (by omega)
    have hl1 : y1.length = 4 := by rw [hy1]; simpa using hl
    have unf : ∀ k, laws_four.l0 (k + 1) x0 ys 4 (i : Int) = if (((Int.tdiv x0 26) % 4294967296) % 2) = 1 then (laws_four.l0 k ((Int.tdiv x0 52) % 4294967296) (y1.set i (((rd y1 (i : Int)) - 32) % 256)) 4 (wrap64 ((i : Int) + 1))) else (laws_four.l0 k ((Int.tdiv x0 52) % 4294967296) y1 4 (wrap64 ((i : Int) + 1))) := by
      intro k
      simp only [laws_four.l0]
      rw [if_pos (by omega), if_pos (by omega), if_pos (by omega)]
      simp only [Option.bind_some, Int.toNat_natCast, ← hy1]
    by_cases c : (((Int.tdiv x0 26) % 4294967296) % 2) = 1
    · obtain ⟨zs, a, b, e⟩ := ih (i + 1) ((Int.tdiv x0 52) % 4294967296) (y1.set i (((rd y1 (i : Int)) - 32) % 256)) (by omega) (by simpa using hl1) (hset y1 _ hb1 (by omega))
      exact ⟨zs, a, b, Ev.step (fun k => by rw [unf k, if_pos c, hw]) e⟩
    · obtain ⟨zs, a, b, e⟩ := ih (i + 1) ((Int.tdiv x0 52) % 4294967296) y1 (by omega) hl1 hb1
      exact ⟨zs, a, b, Ev.step (fun k => by rw [unf k, if_neg c, hw]) e⟩

theorem four_ends (n : Int) : ∃ y0 y1 y2 y3 : Nat, (y0 < 256 ∧ y1 < 256 ∧ y2 < 256 ∧ y3 < 256) ∧ Ev (fun k => laws_four.f k n) (strOfNums [(y0 : Int), (y1 : Int), (y2 : Int), (y3 : Int)]) := by
  obtain ⟨zs, hl, hb, e⟩ := four_loop 4 0 n [0, 0, 0, 0] (by omega) rfl (by simp)
  match zs, hl, hb, e with
  | [a, b, c, d], _, hb, e =>
    have h0 := hb a (by simp)
    have h1 := hb b (by simp)
    have h2 := hb c (by simp)
    have h3 := hb d (by simp)
    refine ⟨a.toNat, b.toNat, c.toNat, d.toNat, ⟨by omega, by omega, by omega, by omega⟩, ?_⟩
    have e0 : ((a.toNat : Nat) : Int) = a := by omega
    have e1 : ((b.toNat : Nat) : Int) = b := by omega
    have e2 : ((c.toNat : Nat) : Int) = c := by omega
    have e3 : ((d.toNat : Nat) : Int) = d := by omega
    rw [e0, e1, e2, e3]
    refine Ev.congr (fun k => ?_) e
    simp only [laws_four.f]
    rw [if_pos (by omega)]
    rfl

/-! ### bits -/
theorem and_split (i a b c d : Nat) (hb : b < 2 ^ i) (hd : d < 2 ^ i) : (2 ^ i * a + b) &&& (2 ^ i * c + d) = 2 ^ i * (a &&& c) + (b &&& d) := by
  have hbd : b &&& d < 2 ^ i := Nat.and_lt_two_pow _ hd
  apply Nat.eq_of_testBit_eq
  intro j
  rw [Nat.testBit_and, Nat.testBit_two_pow_mul_add _ hb, Nat.testBit_two_pow_mul_add _ hd, Nat.testBit_two_pow_mul_add _ hbd]
  by_cases h : j < i
  · simp [h]
  · simp [h]

theorem or_split (i a b c d : Nat) (hb : b < 2 ^ i) (hd : d < 2 ^ i) : (2 ^ i * a + b) ||| (2 ^ i * c + d) = 2 ^ i * (a ||| c) + (b ||| d) := by
  have hbd : b ||| d < 2 ^ i := Nat.or_lt_two_pow hb hd
  apply Nat.eq_of_testBit_eq
  intro j
  rw [Nat.testBit_or, Nat.testBit_two_pow_mul_add _ hb, Nat.testBit_two_pow_mul_add _ hd, Nat.testBit_two_pow_mul_add _ hbd]
  by_cases h : j < i
  · simp [h]
  · simp [h]

theorem small_and : ∀ y : Fin 256, y.val &&& 223 < 256 ∧ (y.val &&& 223) &&& 223 = y.val &&& 223 := by decide +kernel
theorem small_or : ∀ y : Fin 256, y.val ||| 32 < 256 ∧ (y.val ||| 32) ||| 32 = y.val ||| 32 := by decide +kernel
theorem and_lt {y : Nat} (h : y < 256) : y &&& 223 < 256 := (small_and ⟨y, h⟩).1
theorem or_lt {y : Nat} (h : y < 256) : y ||| 32 < 256 := (small_or ⟨y, h⟩).1

theorem nat_tag (y0 y1 y2 y3 : Nat) (h0 : y0 < 256) (h1 : y1 < 256) (h2 : y2 < 256) (h3 : y3 < 256) :
    ((y0 * 16777216 + y1 * 65536 + y2 * 256 + y3) &&& 3758096383) ||| 2105376 = (y0 &&& 223) * 16777216 + (y1 ||| 32) * 65536 + (y2 ||| 32) * 256 + (y3 ||| 32) := by
  have a0 := and_lt h0
  have e1 : y0 * 16777216 + y1 * 65536 + y2 * 256 + y3 = 2 ^ 24 * y0 + (y1 * 65536 + y2 * 256 + y3) := by omega
  have e2 : (3758096383 : Nat) = 2 ^ 24 * 223 + 16777215 := by omega
  rw [e1, e2, and_split 24 _ _ _ _ (by omega) (by omega)]
  have e3 : (y1 * 65536 + y2 * 256 + y3) &&& 16777215 = y1 * 65536 + y2 * 256 + y3 := by
    have := Nat.and_two_pow_sub_one_of_lt_two_pow (n := 24) (x := y1 * 65536 + y2 * 256 + y3) (by omega)
    simpa using this
  rw [e3]
  clear e1 e2 e3
  have e5 : y1 * 65536 + y2 * 256 + y3 = 2 ^ 16 * y1 + (2 ^ 8 * y2 + y3) := by omega
  have e4 : (2105376 : Nat) = 2 ^ 24 * 0 + (2 ^ 16 * 32 + (2 ^ 8 * 32 + 32)) := by decide +kernel
  rw [e4, e5, or_split 24 _ _ _ _ (by omega) (by omega), or_split 16 _ _ _ _ (by omega) (by omega), or_split 8 _ _ _ _ (by omega) (by omega)]
  have e6 : (y0 &&& 223) ||| 0 = y0 &&& 223 := Nat.or_zero _
  rw [e6]
  omega

theorem u32_fits (n : Int) (h0 : 0 ≤ n) (h1 : n < 2 ^ 32) : IntKind.u32.wrap n = n := by rw [Go.IntKind.wrap_u32]; omega

/-- what ParseScript makes of four bytes -/
def code (y0 y1 y2 y3 : Nat) : Nat := (y0 &&& 223) * 16777216 + (y1 ||| 32) * 65536 + (y2 ||| 32) * 256 + (y3 ||| 32)

theorem code_lt (y0 y1 y2 y3 : Nat) (h0 : y0 < 256) (h1 : y1 < 256) (h2 : y2 < 256) (h3 : y3 < 256) : code y0 y1 y2 y3 < 4294967296 := by
  have := and_lt h0
  have := or_lt h1
  have := or_lt h2
  have := or_lt h3
  unfold code; omega

theorem tag_is (s : ByteArray) (y0 y1 y2 y3 : Nat) (h0 : y0 < 256) (h1 : y1 < 256) (h2 : y2 < 256) (h3 : y3 < 256) (b0 : bt s 0 = y0) (b1 : bt s 1 = y1) (b2 : bt s 2 = y2) (b3 : bt s 3 = y3) :
    impl_ScriptParse.tag s = (code y0 y1 y2 y3 : Nat) := by
  unfold impl_ScriptParse.tag
  rw [b0, b1, b2, b3]
  have e : (y0 : Int) * 16777216 + (y1 : Int) * 65536 + (y2 : Int) * 256 + (y3 : Int) = ((y0 * 16777216 + y1 * 65536 + y2 * 256 + y3 : Nat) : Int) := by omega
  have hx : y0 * 16777216 + y1 * 65536 + y2 * 256 + y3 < 2 ^ 32 := by omega
  have m : (3758096383 : Int) = ((3758096383 : Nat) : Int) := rfl
  have m2 : (2105376 : Int) = ((2105376 : Nat) : Int) := rfl
  rw [e, m, m2, (Go.bits_nat .u32 32 (by decide) u32_fits _ _ hx (by omega)).1]
  rw [(Go.bits_nat .u32 32 (by decide) u32_fits _ _ (Nat.and_lt_two_pow _ (by omega)) (by omega)).2, nat_tag y0 y1 y2 y3 h0 h1 h2 h3]
  rfl

theorem parse_long (s : ByteArray) (h : 4 ≤ s.size) (y0 y1 y2 y3 : Nat) (h0 : y0 < 256) (h1 : y1 < 256) (h2 : y2 < 256) (h3 : y3 < 256) (b0 : bt s 0 = y0) (b1 : bt s 1 = y1) (b2 : bt s 2 = y2) (b3 : bt s 3 = y3) :
    impl_ScriptParse.f s = some (((code y0 y1 y2 y3 : Nat) : Int), true) := by
  unfold impl_ScriptParse.f
  rw [if_neg (by omega), tag_is s y0 y1 y2 y3 h0 h1 h2 h3 b0 b1 b2 b3]

theorem bt_nums (y0 y1 y2 y3 : Nat) (h0 : y0 < 256) (h1 : y1 < 256) (h2 : y2 < 256) (h3 : y3 < 256) (s : ByteArray) (hs : ∃ t : ByteArray, s = strOfNums [(y0 : Int), (y1 : Int), (y2 : Int), (y3 : Int)] ++ t) :
    bt s 0 = y0 ∧ bt s 1 = y1 ∧ bt s 2 = y2 ∧ bt s 3 = y3 := by
  obtain ⟨t, rfl⟩ := hs
  have hz : (strOfNums [(y0 : Int), (y1 : Int), (y2 : Int), (y3 : Int)]).size = 4 := by rw [size_nums]; rfl
  have key : ∀ (j : Nat) (h : j < 4), bt (strOfNums [(y0 : Int), (y1 : Int), (y2 : Int), (y3 : Int)] ++ t) (j : Int) = ([(y0 : Int), (y1 : Int), (y2 : Int), (y3 : Int)][j]'h) := by
    intro j hj
    have hlt : (j : Int).toNat < (strOfNums [(y0 : Int), (y1 : Int), (y2 : Int), (y3 : Int)] ++ t).size := by rw [ByteArray.size_append]; simp; omega
    rw [← bt_at _ (j : Int) hlt]
    have hl : j < (strOfNums [(y0 : Int), (y1 : Int), (y2 : Int), (y3 : Int)]).size := by omega
    have e : (strOfNums [(y0 : Int), (y1 : Int), (y2 : Int), (y3 : Int)] ++ t)[(j : Int).toNat]'hlt = (strOfNums [(y0 : Int), (y1 : Int), (y2 : Int), (y3 : Int)])[j]'hl := by
      simp only [Int.toNat_natCast]
      exact ByteArray.getElem_append_left hl
    rw [e]
    obtain rfl | rfl | rfl | rfl : j = 0 ∨ j = 1 ∨ j = 2 ∨ j = 3 := by omega
    all_goals
      show ((UInt8.ofNat _).toNat : Int) = _
      simp [UInt8.toNat_ofNat']
      omega
  exact ⟨key 0 (by omega), key 1 (by omega), key 2 (by omega), key 3 (by omega)⟩

theorem nums_of (y0 y1 y2 y3 : Nat) (h1 : y1 < 256) (h2 : y2 < 256) (h3 : y3 < 256) (h0 : y0 < 256) : language_Script_String.nums (y0 * 16777216 + y1 * 65536 + y2 * 256 + y3) = [(y0 : Int), (y1 : Int), (y2 : Int), (y3 : Int)] := by
  unfold language_Script_String.nums
  have e0 : (y0 * 16777216 + y1 * 65536 + y2 * 256 + y3) / 16777216 % 256 = y0 := by omega
  have e1 : (y0 * 16777216 + y1 * 65536 + y2 * 256 + y3) / 65536 % 256 = y1 := by omega
  have e2 : (y0 * 16777216 + y1 * 65536 + y2 * 256 + y3) / 256 % 256 = y2 := by omega
  have e3 : (y0 * 16777216 + y1 * 65536 + y2 * 256 + y3) % 256 = y3 := by omega
  rw [e0, e1, e2, e3]

theorem zy_is : impl_ScriptParse.f (⟨#[90, 121, 121, 121]⟩ : ByteArray) = some (1517910393, true) := by decide +kernel
theorem zi_is : impl_ScriptParse.f (⟨#[90, 105, 110, 104]⟩ : ByteArray) = some (1516858984, true) := by decide +kernel
theorem tell_of (c : Int) (s : ByteArray) (h : language_Script_String.f c = some s) : impl_ScriptTells.f c = some (s, if c = 1517910393 then false else (c != 1516858984)) := by
  unfold impl_ScriptTells.f language_Script_Strong.f
  rw [h]
  simp only [Option.bind_some]
  by_cases q : c = 1517910393
  · rw [if_pos q, if_pos q]; rfl
  · rw [if_neg q, if_neg q]; rfl
theorem ty_is : ∃ s, impl_ScriptTells.f 1517910393 = some (s, false) := by
  refine ⟨strOfNums (language_Script_String.nums (1517910393 : Int).toNat), ?_⟩
  rw [tell_of 1517910393 _ (by unfold language_Script_String.f; rw [if_pos (by omega)]), if_pos rfl]
theorem ti_is : ∃ s, impl_ScriptTells.f 1516858984 = some (s, false) := by
  refine ⟨strOfNums (language_Script_String.nums (1516858984 : Int).toNat), ?_⟩
  rw [tell_of 1516858984 _ (by unfold language_Script_String.f; rw [if_pos (by omega)]), if_neg (by omega)]
  simp

theorem FnScriptTells : laws_FnScriptTells.Pure := by
  intro n wn
  obtain ⟨y0, y1, y2, y3, ⟨h0, h1, h2, h3⟩, e⟩ := four_ends n
  unfold laws_FnScriptTells.f
  refine Ev.rounds (Ev.bind e ?_)
  obtain ⟨d0, d1, d2, d3⟩ := bt_nums y0 y1 y2 y3 h0 h1 h2 h3 (strOfNums [(y0 : Int), (y1 : Int), (y2 : Int), (y3 : Int)]) ⟨ByteArray.empty, by simp⟩
  have hz : (strOfNums [(y0 : Int), (y1 : Int), (y2 : Int), (y3 : Int)]).size = 4 := by rw [size_nums]; rfl
  have hp := parse_long (strOfNums [(y0 : Int), (y1 : Int), (y2 : Int), (y3 : Int)]) (by omega) y0 y1 y2 y3 h0 h1 h2 h3 d0 d1 d2 d3
  have a0 := and_lt h0
  have a1 := or_lt h1
  have a2 := or_lt h2
  have a3 := or_lt h3
  have hlt := code_lt y0 y1 y2 y3 h0 h1 h2 h3
  -- the text, and what it is read as
  have ht : language_Script_String.f ((code y0 y1 y2 y3 : Nat) : Int) = some (strOfNums [((y0 &&& 223 : Nat) : Int), ((y1 ||| 32 : Nat) : Int), ((y2 ||| 32 : Nat) : Int), ((y3 ||| 32 : Nat) : Int)]) := by
    unfold language_Script_String.f
    rw [if_pos ⟨by omega, by omega⟩, Int.toNat_natCast]
    unfold code
    rw [nums_of _ _ _ _ a1 a2 a3 a0]
  obtain ⟨g0, g1, g2, g3⟩ := bt_nums _ _ _ _ a0 a1 a2 a3 (strOfNums [((y0 &&& 223 : Nat) : Int), ((y1 ||| 32 : Nat) : Int), ((y2 ||| 32 : Nat) : Int), ((y3 ||| 32 : Nat) : Int)]) ⟨ByteArray.empty, by simp⟩
  have hz2 : (strOfNums [((y0 &&& 223 : Nat) : Int), ((y1 ||| 32 : Nat) : Int), ((y2 ||| 32 : Nat) : Int), ((y3 ||| 32 : Nat) : Int)]).size = 4 := by rw [size_nums]; rfl
  have hp2 := parse_long (strOfNums [((y0 &&& 223 : Nat) : Int), ((y1 ||| 32 : Nat) : Int), ((y2 ||| 32 : Nat) : Int), ((y3 ||| 32 : Nat) : Int)]) (by omega) _ _ _ _ a0 a1 a2 a3 g0 g1 g2 g3
  have hcc : code (y0 &&& 223) (y1 ||| 32) (y2 ||| 32) (y3 ||| 32) = code y0 y1 y2 y3 := by
    unfold code
    rw [show (y0 &&& 223) &&& 223 = y0 &&& 223 from (small_and ⟨y0, h0⟩).2, show (y1 ||| 32) ||| 32 = y1 ||| 32 from (small_or ⟨y1, h1⟩).2, show (y2 ||| 32) ||| 32 = y2 ||| 32 from (small_or ⟨y2, h2⟩).2, show (y3 ||| 32) ||| 32 = y3 ||| 32 from (small_or ⟨y3, h3⟩).2]
  rw [hcc] at hp2
  obtain ⟨sy, ty⟩ := ty_is
  obtain ⟨si, ti⟩ := ti_is
  have hs := tell_of _ _ ht
  have zy := zy_is
  have zi := zi_is
  clear ht hcc d0 d1 d2 d3 g0 g1 g2 g3
  generalize ((code y0 y1 y2 y3 : Nat) : Int) = c at *
  generalize strOfNums [((y0 &&& 223 : Nat) : Int), ((y1 ||| 32 : Nat) : Int), ((y2 ||| 32 : Nat) : Int), ((y3 ||| 32 : Nat) : Int)] = tt at *
  generalize strOfNums [(y0 : Int), (y1 : Int), (y2 : Int), (y3 : Int)] = uu at *
  refine Ev.congr (f := fun _ => some true) (fun k => ?_) (Ev.now _)
  rw [hp, Option.bind_some, hs, Option.bind_some, hp2, Option.bind_some, zy, Option.bind_some, zi, Option.bind_some, ty, Option.bind_some, ti, Option.bind_some]
  rw [if_pos rfl, if_pos rfl, if_pos rfl, if_pos (show ((tt.size : Nat) : Int) = 4 by omega)]
  by_cases q : c = 1517910393
  · rw [if_pos q, if_pos q]; rfl
  · rw [if_neg q, if_neg q]
    rw [if_pos (by rw [beq_self_eq_true])]
    rfl


end Go.Proofs.Ytkfphiccfnfkdaa.Pure
